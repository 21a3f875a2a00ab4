import PyProof.Rows.All
import Wide.All
import OpenK.AllK
import Wide.FinOn
import Lean
import PySem.Challenge.RW_jd0011_02
set_option Elab.async false
set_option linter.all false
set_option maxRecDepth 100000
set_option genSizeOf false
set_option genInjectivity false
open And renaming intro->sC
open Array renaming toList->bG,size->jj,length_toList->lZ,getElem?_modify->Gl,getElem?_toList->Gm,find?_toList->Wd,getElem?_extract->Wf,getElem_push_lt->Wg,size_modify->Wh
open Bool renaming false->bp,true->bz,and_eq_true->bC,or_eq_false_iff->nw,or_eq_true->ny,false_ne_true->pd,false_and->sD,false_eq_true->sE,not_eq_true'->sF,and_false->Gn,false_or->Wk,not_true->Wl
open Decidable renaming decide->bA
open Eq renaming trans->Gw
open ForIn renaming forIn->lc
open ForInStep renaming yield->GI
open Inhabited renaming default->lb
open Int renaming toNat->aj,fdiv->aC,fmod->aJ,le_antisymm->dM,le_of_eq->dR,natCast_nonneg->ee,mul_nonneg->gU,eq_ofNat_of_zero_le->ij,one_mul->ik,add_zero->iM,emod_lt_of_pos->jP,emod_nonneg->jQ,toNat_of_nonneg->l4,add_mul->nC,le_of_lt->nD,le_trans->pj,lt_of_le_of_lt->pk,mul_le_mul_of_nonneg_right->pn,fmod_eq_emod_of_nonneg->sM,le_add_of_nonneg_right->sN,le_refl->sO,toNat_natCast->sP,add_le_add_left->yp,emod_one->yq,fdiv_eq_ediv_of_nonneg->yr,lt_trans->yt,max_eq_right->yu,add_nonneg->GL,mul_le_mul_of_nonneg_left->GN,add_comm->Wy,ediv_lt_of_lt_mul->Wz,le_toNat->WA,min_eq_left->WB,mul_comm->WC,mul_zero->WD,ne_of_gt->WF,zero_add->WH
open Int.ofNat renaming inj->GO
open LawfulBEq renaming eq_of_beq->cE
open List renaming length->ae,length_append->bB,lookup->bN,size_toArray->cb,lookup_cons->cr,mem_cons_self->cM,mem_cons->cT,mem_cons_of_mem->cU,toArray->c7,drop->dc,flatMap->dg,all_eq_true->du,append_assoc->dS,length_map->dT,map_cons->ey,getElem?_eq_getElem->eH,length_cons->ft,not_mem_nil->fu,replicate->fH,take->gi,map->gC,range->gV,append_nil->im,getElem?_map->io,length_take->ip,rec->iN,all->jk,length_drop->jR,flatMap_cons->nE,forIn_cons->nF,length_replicate->nG,length_set->pp,mem_map_of_mem->pq,mem_of_getElem?->pr,all_cons->sQ,filterMap_cons->sR,getElem?_append_left->sS,getElem?_append_right->sT,getElem?_eq_none->sU,getElem?_set->sV,length_range->sW,nil_append->sX,nodup_cons->sY,sum_cons->sZ,any_eq_true->yw,any_map->yx,cons_append->yy,ext_getElem?->yz,filter_cons->yA,getElem?_drop->yB,getElem?_take->yC,getElem?_toArray->yD,getElem_mem->yE,map_map->yF,range'->yG,foldl_cons->GQ,isEmpty_iff->GR,length_reverse->GS,map_nil->GU,map_take->GV,mem_append_left->GW,mem_append_right->GX,mem_filter->GY,mem_range->GZ,nodup_nil->G4,range'_succ->G5,reverse_cons->G6,drop_zero->WP,find?_cons->WQ,flatten->WR,isEmpty->WS,length_nil->WT,length_zipIdx->WU,map_append->WV,mem_filterMap->WW,replicate_succ->WX,take_length->WY,take_of_length_le->WZ,zipIdx->W6,zipIdx_cons->W7,zip_cons_cons->W9
open List.cons renaming inj->WO
open Max renaming max->G7
open Nat renaming beq->a7,le_trans->bT,eq_of_beq_eq_true->ce,le_refl->c8,le_of_ble_eq_true->dv,ble->dN,le_add_right->fw,ne_of_lt->fJ,le_of_eq->iq,lt_irrefl->iP,zero_le->iQ,le_succ->jm,lt_of_lt_of_le->jS,lt_succ_self->jT,lt_of_le_of_lt->k7,lt_succ_of_le->nH,zero_add->nI,min_eq_left->pz,lt_succ_of_lt->s8,mod_eq_of_lt->s9,le_of_lt->yI,add_le_add_left->G8,add_sub_cancel_left->G9,beq_refl->Ha,blt->Hb,sub_le->Hc,sub_lt_sub_left->Hd,succ_le_succ->He,add_le_add->Xb,min_le_right->Xc,ne_of_gt->Xd,sub_self->Xe,sub_zero->Xf
open Nat.succ renaming inj->Xg
open Ne renaming symm->fh
open Option renaming some->aa,none->tb,isNone_iff_eq_none->yJ,or->Hg,or_eq_some_iff->Hh,rec->Hi,any_eq_true->Xi,getD_none->Xj,isSome_iff_ne_none->Xk
open Option.some renaming inj->ac
open Prod renaming fst->gj,ext->jn
open Prod.mk renaming injEq->pB
open Pure renaming pure->gD
open PyProof.Rows renaming args_cons->l5,seen->ma,args_nil->nM,subscriptTail->pN,markedEach_of_false->XG
open PySem renaming wpAny_bind->af,wpAny->am,model->aH,wpAny_pure->aN,Around->aS,wpAny_mono->aT,Params->bq,World->bD,call->bO,Builtin->bV,Sem->cy,backToKw->cG,keywordEach->cH,starEach->cN,backTo->cV,wpAny_specialOf->dC,argsOk->dW,wpAny_of_eq->dY,builtinLookup_eq_fast->eA,typeLookup_type->eB,typeLookup->fa,IsPart->fg,Tok->fj,execs->fy,Str->fK,wpAny_load->gk,isSubtype_type->gE,table->gF,wpAny_field->gY,wpAny_standAt->gZ,Keyword->il,entryFor->ir,pyIter->iw,wpAny_call_entry->iS,wpAny_holding->iT,checkBuiltinCall->jq,getItem->jr,spliced->jt,OsState->jU,Slot->jV,bm_if_false->jW,evalEach->jX,getMethod->jZ,pyNext->j0,Comprehension->kW,Flow->kY,NameKind->k0,Operator->k8,assign->k9,codeAny->la,intKind->lf,isSubtype->lg,sizeLine->lh,step->li,wpAny_rule->lj,entryFor_of_tree->l7,evalAll->l8,wpAny_isInstance->md,CmpOp->nA,builtinsNs->nN,callEnv->nO,getAttr->nP,methodCall->nR,numAt->nS,plainId_quiet->nT,setItem->nU,treeTable->nV,typeOf->nX,wpAny_call->nY,wpAny_newObj_type->nZ,holding->pC,assignEach->pD,attributeBase->pE,callSpecial?->pF,callerA->pG,codeAny_mono->pH,compareOp->pI,letOwnedTupleGo->pJ,rawPart->pK,recursionLimit->pL,sliceBounds->pM,swapsWith->pO,typeIs_int->pP,callWith->te,binaryOp->tj,bootBuiltins->tm,relabel->tv,seqIndex?->tw,shortFactorBits->tx,sizeLine_eq->ty,wpAny_evalAll_nil->tz,wpAny_execs_nil->tA,wpAny_typeOf->tB,cStatics->yQ,callAny->yR,cellsFrom->yS,checkTypeCall->yT,interactive->yW,isInstance->yX,setAttr->y0,sysModules->y4,updateBytearray->y5,wpAny_letGo->y6,wpAny_mkInt->y7,wpAny_mkStr->y8,wpAny_point->y9,wpAny_truthy_bool->za,builtinKind->Hw,closureFor->Hy,codeAny_builtin->Hz,codeAny_of_tree->HA,compareChain->HB,importedModules->HG,leftWithCleanup->HJ,opaqueClassAbove->HM,sliceIndices_raw->HN,testChain->HP,typeIs_str->HQ,wpAny_Name->HR,wpAny_Slice->HU,wpAny_assign_Name->HV,wpAny_attempt->HW,wpAny_callSpecial?_slot->HX,wpAny_listPart->HY,wpAny_loadName_local->HZ,wpAny_release->H5,wpAny_seqItems->H6,evalArgs->Xq,runOwn->Xr,standAt->Xs,builtinType_eq_fast->XA,foldedSetIterable->XC,getMethod_builtin->XD,sliceBounds_plain->XI,slot_list_setitem->XJ,wpAny_comprehension_free->XM,wpAny_getItem_slot->XQ,wpAny_letTemporaryGo->XR,wpAny_loadName_free->XS,wpAny_lookBehind->XT,wpAny_newFunctionEnv->XU,wpAny_pyIter_enum->XV,wpAny_pyIter_slot->XW,wpAny_pyIter_zip->XX,wpAny_sequenceKey->XY
open PySem.Around renaming under_plainId->pc
open PySem.Bind renaming checkArgs->Wi,madeBy->Wj
open PySem.Builtin renaming bitAnd->nz,bitNot->pf,bitOr->yh
open PySem.Builtin.Bytes renaming sameRef->pe,buffer?->sG,checkResize->sH,fitsIndex->sI,utf8At->sJ,write->sK,exportsOf->yi,ownRelease->yj,payload->yk,slotIsOwn->yl,subscript?->ym,byteValue->Gq,payload?->Gr,bindOptional->Wn,sliceParts->Wo,takeBufferQuiet?->Wq,tooLong->Wr,exported->XZ
open PySem.Builtin.Bytes.Piece renaming char->Gp
open PySem.Builtin.Int renaming intBits->iL
open PySem.Builtin.List renaming listItems->yg,listExtendWith->Go,listSubscript?->Wm
open PySem.Builtin.Range renaming rangeSize->X0
open PySem.Calls renaming loadGlobal_builtin->XE,loadGlobal_global->XF
open PySem.Challenge renaming rw_jd0011_02->yK,pw_jd0011_02->X2
open PySem.CmpOp renaming casesOn->Gs
open PySem.Code renaming builtin->nB,quiet_builtin->Ws
open PySem.Comprehension renaming mk->X1
open PySem.Data renaming seq->yo
open PySem.Data.dict renaming elim->Gt
open PySem.Data.func renaming elim->Gu
open PySem.Data.seq renaming elim->Gv
open PySem.Expr.Attribute renaming elim->Gx
open PySem.Expr.BoolOp renaming elim->Gy
open PySem.Expr.Call renaming elim->Gz
open PySem.Expr.Dict renaming elim->GA
open PySem.Expr.ListComp renaming elim->GB
open PySem.Expr.Name renaming elim->GC
open PySem.Expr.Slice renaming elim->GD
open PySem.Expr.Subscript renaming elim->GF
open PySem.Expr.Tuple renaming elim->GG
open PySem.F renaming bm_called->GH,slot_bool_ge_refl->Wt,slot_bool_lt->Wu,plainAttrs_str->Xl,slot_dict_get->Xm,slot_list_append->Xn,slot_list_delitem->Xo,slot_str_encode->Xp
open PySem.FuncBody.stmts renaming elim->GJ
open PySem.Heap renaming lt_size->bM,get?_push_of_some->cD,get?_push_size->d9,size_push->gB,SameBut->ii,get?_update_self->pi,update->sL,get?->tc,ExtBut->Wx
open PySem.Heap.IsSliceOf renaming new->GK
open PySem.Heap.SameBut renaming update->pg
open PySem.Keeper renaming boundFrame->WL,frame->WM,machine->WN
open PySem.Manifest renaming find?->Xa
open PySem.NameKind renaming free->jl,casesOn->s7
open PySem.Obj renaming mapSeq->ta,mapBytearray->Hf,data_mapFields->Xh
open PySem.Operator renaming casesOn->pA
open PySem.Sem renaming wp_mono->nJ,wp->yL
open PySem.SeqAt renaming RcNeAt->Xu
open PySem.Shared.TypeIs renaming not_mainsLoader->X3
open PySem.Str renaming utf8Of->bd,cps->bs,mk->cR,ofString->dU,isSurrogate->Hj
open PySem.Txt renaming contains->nK,join->Hm
open PySem.Value renaming ref->dw,type->fL,casesOn->th,isInt->yM,none->yN,int->Ho,isStr->Hq,bool->Xw,builtin->Xx
open PySem.Value.builtin renaming elim->Hn
open PySem.Value.int renaming elim->Hp
open PySem.Value.ref renaming elim->Hr,inj->Xy
open PySem.Value.str renaming elim->Hs
open PySem.Value.type renaming elim->Ht
open PySem.W renaming instObj->cW,handedIn->fY,emptyDict->gW,fnIn->gX,piecesOf->iu,typeIs_bytes->ix,Looks->iO,nsIn->iR,boot_heap->jp,findIn->jY,clsIn->l6,piece_app->l9,keepIn->nQ,typeIn->nW,kms_lo->tp,plainGet_of->tu,boot_drawn->yO,boot_toks->yP,codeRec_of->yU,findCls->yV,ks_superIn->yY,plainGet->yZ,behindTheImports->Hv,callWith_of->Hx,hasDictIn->HF,kms_bounds->HI,looks_findIn->HK,specialIn->HO
open PySem.W.CFound renaming casesOn->yn
open PySem.W.FB renaming slot_bytes_decode->Wv,slot_bytes_getitem->Ww
open PySem.W.KFB renaming bound->kZ,if_not->po,if_so->GP
open PySem.W.KTBy renaming little->WI
open PySem.W.KTurns renaming ofWalks->yv,ofWalksU->WJ
open PySem.W.Looks renaming of_pure->pt,ld->yH
open PySem.W.WData renaming weightAll->Hu,layableAll->Xz
open PySem.callAny renaming viaDunder->XB
open Std.Legacy renaming Range->tg
open Std.Legacy.Range renaming forIn_eq_forIn_range'->Hk,size->Hl
open UInt8 renaming toNat->jo,toNat_ofNat'->Xv
noncomputable section
namespace Mine
theorem ax{P0 P1:Prop}{G:Prop}(h:P0/\P1)(k:P0->P1->G):G:=k h.1 h.2
theorem cP{P0 P1 P2:Prop}{G:Prop}(h:P0/\P1/\P2)(k:P0->P1->P2->G):G:=k h.1 h.2.1 h.2.2
theorem bl{P0 P1 P2:Prop}(h0:P0)(h1:P1)(h2:P2):P0/\P1/\P2:=⟨h0,h1,h2⟩
theorem fM{P0 P1 P2 P3:Prop}{G:Prop}(h:P0/\P1/\P2/\P3)(k:P0->P1->P2->P3->G):G:=k h.1 h.2.1 h.2.2.1 h.2.2.2
theorem eC{P0 P1 P2 P3:Prop}(h0:P0)(h1:P1)(h2:P2)(h3:P3):P0/\P1/\P2/\P3:=⟨h0,h1,h2,h3⟩
theorem fN{P0 P1 P2 P3 P4:Prop}{G:Prop}(h:P0/\P1/\P2/\P3/\P4)(k:P0->P1->P2->P3->P4->G):G:=k h.1 h.2.1 h.2.2.1 h.2.2.2.1 h.2.2.2.2
theorem g0{P0 P1 P2 P3 P4:Prop}(h0:P0)(h1:P1)(h2:P2)(h3:P3)(h4:P4):P0/\P1/\P2/\P3/\P4:=⟨h0,h1,h2,h3,h4⟩
theorem zb{P0 P1 P2 P3 P4 P5:Prop}{G:Prop}(h:P0/\P1/\P2/\P3/\P4/\P5)(k:P0->P1->P2->P3->P4->P5->G):G:=k h.1 h.2.1 h.2.2.1 h.2.2.2.1 h.2.2.2.2.1 h.2.2.2.2.2
theorem ju{P0 P1 P2 P3 P4 P5 P6:Prop}{G:Prop}(h:P0/\P1/\P2/\P3/\P4/\P5/\P6)(k:P0->P1->P2->P3->P4->P5->P6->G):G:=k h.1 h.2.1 h.2.2.1 h.2.2.2.1 h.2.2.2.2.1 h.2.2.2.2.2.1 h.2.2.2.2.2.2
theorem pQ{P0 P1 P2 P3 P4 P5 P6:Prop}(h0:P0)(h1:P1)(h2:P2)(h3:P3)(h4:P4)(h5:P5)(h6:P6):P0/\P1/\P2/\P3/\P4/\P5/\P6:=⟨h0,h1,h2,h3,h4,h5,h6⟩
theorem mf{P0 P1 P2 P3 P4 P5 P6 P7 P8:Prop}{G:Prop}(h:P0/\P1/\P2/\P3/\P4/\P5/\P6/\P7/\P8)(k:P0->P1->P2->P3->P4->P5->P6->P7->P8->G):G:=k h.1 h.2.1 h.2.2.1 h.2.2.2.1 h.2.2.2.2.1 h.2.2.2.2.2.1 h.2.2.2.2.2.2.1 h.2.2.2.2.2.2.2.1 h.2.2.2.2.2.2.2.2
theorem n0{P0 P1 P2 P3 P4 P5 P6 P7 P8:Prop}(h0:P0)(h1:P1)(h2:P2)(h3:P3)(h4:P4)(h5:P5)(h6:P6)(h7:P7)(h8:P8):P0/\P1/\P2/\P3/\P4/\P5/\P6/\P7/\P8:=⟨h0,h1,h2,h3,h4,h5,h6,h7,h8⟩
theorem H7{P0 P1 P2 P3 P4 P5 P6 P7 P8 P9:Prop}{G:Prop}(h:P0/\P1/\P2/\P3/\P4/\P5/\P6/\P7/\P8/\P9)(k:P0->P1->P2->P3->P4->P5->P6->P7->P8->P9->G):G:=k h.1 h.2.1 h.2.2.1 h.2.2.2.1 h.2.2.2.2.1 h.2.2.2.2.2.1 h.2.2.2.2.2.2.1 h.2.2.2.2.2.2.2.1 h.2.2.2.2.2.2.2.2.1 h.2.2.2.2.2.2.2.2.2
theorem zc{P0 P1 P2 P3 P4 P5 P6 P7 P8 P9:Prop}(h0:P0)(h1:P1)(h2:P2)(h3:P3)(h4:P4)(h5:P5)(h6:P6)(h7:P7)(h8:P8)(h9:P9):P0/\P1/\P2/\P3/\P4/\P5/\P6/\P7/\P8/\P9:=⟨h0,h1,h2,h3,h4,h5,h6,h7,h8,h9⟩
theorem e11.{u0}{α0:Sort u0}{P0:α0->Prop}{G:Prop}(h:∃a0,P0 a0)(k:∀a0,P0 a0->G):G:=h.elim fun a0 w0=>k a0 w0
theorem i11.{u0}{α0:Sort u0}{P0:α0->Prop}(a0:α0)(h0:P0 a0):∃a0,P0 a0:=⟨a0,h0⟩
theorem e12.{u0}{α0:Sort u0}{P0 P1:α0->Prop}{G:Prop}(h:∃a0,P0 a0/\P1 a0)(k:∀a0,P0 a0->P1 a0->G):G:=h.elim fun a0 w0=>k a0 w0.1 w0.2
theorem i12.{u0}{α0:Sort u0}{P0 P1:α0->Prop}(a0:α0)(h0:P0 a0)(h1:P1 a0):∃a0,P0 a0/\P1 a0:=⟨a0,h0,h1⟩
theorem e13.{u0}{α0:Sort u0}{P0 P1 P2:α0->Prop}{G:Prop}(h:∃a0,P0 a0/\P1 a0/\P2 a0)(k:∀a0,P0 a0->P1 a0->P2 a0->G):G:=h.elim fun a0 w0=>k a0 w0.1 w0.2.1 w0.2.2
theorem i13.{u0}{α0:Sort u0}{P0 P1 P2:α0->Prop}(a0:α0)(h0:P0 a0)(h1:P1 a0)(h2:P2 a0):∃a0,P0 a0/\P1 a0/\P2 a0:=⟨a0,h0,h1,h2⟩
theorem e14.{u0}{α0:Sort u0}{P0 P1 P2 P3:α0->Prop}{G:Prop}(h:∃a0,P0 a0/\P1 a0/\P2 a0/\P3 a0)(k:∀a0,P0 a0->P1 a0->P2 a0->P3 a0->G):G:=h.elim fun a0 w0=>k a0 w0.1 w0.2.1 w0.2.2.1 w0.2.2.2
theorem i14.{u0}{α0:Sort u0}{P0 P1 P2 P3:α0->Prop}(a0:α0)(h0:P0 a0)(h1:P1 a0)(h2:P2 a0)(h3:P3 a0):∃a0,P0 a0/\P1 a0/\P2 a0/\P3 a0:=⟨a0,h0,h1,h2,h3⟩
theorem e15.{u0}{α0:Sort u0}{P0 P1 P2 P3 P4:α0->Prop}{G:Prop}(h:∃a0,P0 a0/\P1 a0/\P2 a0/\P3 a0/\P4 a0)(k:∀a0,P0 a0->P1 a0->P2 a0->P3 a0->P4 a0->G):G:=h.elim fun a0 w0=>k a0 w0.1 w0.2.1 w0.2.2.1 w0.2.2.2.1 w0.2.2.2.2
theorem i15.{u0}{α0:Sort u0}{P0 P1 P2 P3 P4:α0->Prop}(a0:α0)(h0:P0 a0)(h1:P1 a0)(h2:P2 a0)(h3:P3 a0)(h4:P4 a0):∃a0,P0 a0/\P1 a0/\P2 a0/\P3 a0/\P4 a0:=⟨a0,h0,h1,h2,h3,h4⟩
theorem e16.{u0}{α0:Sort u0}{P0 P1 P2 P3 P4 P5:α0->Prop}{G:Prop}(h:∃a0,P0 a0/\P1 a0/\P2 a0/\P3 a0/\P4 a0/\P5 a0)(k:∀a0,P0 a0->P1 a0->P2 a0->P3 a0->P4 a0->P5 a0->G):G:=h.elim fun a0 w0=>k a0 w0.1 w0.2.1 w0.2.2.1 w0.2.2.2.1 w0.2.2.2.2.1 w0.2.2.2.2.2
theorem i16.{u0}{α0:Sort u0}{P0 P1 P2 P3 P4 P5:α0->Prop}(a0:α0)(h0:P0 a0)(h1:P1 a0)(h2:P2 a0)(h3:P3 a0)(h4:P4 a0)(h5:P5 a0):∃a0,P0 a0/\P1 a0/\P2 a0/\P3 a0/\P4 a0/\P5 a0:=⟨a0,h0,h1,h2,h3,h4,h5⟩
theorem e21.{u0,u1}{α0:Sort u0}{α1:Sort u1}{P0:α0->α1->Prop}{G:Prop}(h:∃a0,∃a1,P0 a0 a1)(k:∀a0 a1,P0 a0 a1->G):G:=h.elim fun a0 w0=>w0.elim fun a1 w1=>k a0 a1 w1
theorem i21.{u0,u1}{α0:Sort u0}{α1:Sort u1}{P0:α0->α1->Prop}(a0:α0)(a1:α1)(h0:P0 a0 a1):∃a0,∃a1,P0 a0 a1:=⟨a0,a1,h0⟩
theorem e22.{u0,u1}{α0:Sort u0}{α1:Sort u1}{P0 P1:α0->α1->Prop}{G:Prop}(h:∃a0,∃a1,P0 a0 a1/\P1 a0 a1)(k:∀a0 a1,P0 a0 a1->P1 a0 a1->G):G:=h.elim fun a0 w0=>w0.elim fun a1 w1=>k a0 a1 w1.1 w1.2
theorem i22.{u0,u1}{α0:Sort u0}{α1:Sort u1}{P0 P1:α0->α1->Prop}(a0:α0)(a1:α1)(h0:P0 a0 a1)(h1:P1 a0 a1):∃a0,∃a1,P0 a0 a1/\P1 a0 a1:=⟨a0,a1,h0,h1⟩
theorem e23.{u0,u1}{α0:Sort u0}{α1:Sort u1}{P0 P1 P2:α0->α1->Prop}{G:Prop}(h:∃a0,∃a1,P0 a0 a1/\P1 a0 a1/\P2 a0 a1)(k:∀a0 a1,P0 a0 a1->P1 a0 a1->P2 a0 a1->G):G:=h.elim fun a0 w0=>w0.elim fun a1 w1=>k a0 a1 w1.1 w1.2.1 w1.2.2
theorem i23.{u0,u1}{α0:Sort u0}{α1:Sort u1}{P0 P1 P2:α0->α1->Prop}(a0:α0)(a1:α1)(h0:P0 a0 a1)(h1:P1 a0 a1)(h2:P2 a0 a1):∃a0,∃a1,P0 a0 a1/\P1 a0 a1/\P2 a0 a1:=⟨a0,a1,h0,h1,h2⟩
theorem e24.{u0,u1}{α0:Sort u0}{α1:Sort u1}{P0 P1 P2 P3:α0->α1->Prop}{G:Prop}(h:∃a0,∃a1,P0 a0 a1/\P1 a0 a1/\P2 a0 a1/\P3 a0 a1)(k:∀a0 a1,P0 a0 a1->P1 a0 a1->P2 a0 a1->P3 a0 a1->G):G:=h.elim fun a0 w0=>w0.elim fun a1 w1=>k a0 a1 w1.1 w1.2.1 w1.2.2.1 w1.2.2.2
theorem i24.{u0,u1}{α0:Sort u0}{α1:Sort u1}{P0 P1 P2 P3:α0->α1->Prop}(a0:α0)(a1:α1)(h0:P0 a0 a1)(h1:P1 a0 a1)(h2:P2 a0 a1)(h3:P3 a0 a1):∃a0,∃a1,P0 a0 a1/\P1 a0 a1/\P2 a0 a1/\P3 a0 a1:=⟨a0,a1,h0,h1,h2,h3⟩
theorem e25.{u0,u1}{α0:Sort u0}{α1:Sort u1}{P0 P1 P2 P3 P4:α0->α1->Prop}{G:Prop}(h:∃a0,∃a1,P0 a0 a1/\P1 a0 a1/\P2 a0 a1/\P3 a0 a1/\P4 a0 a1)(k:∀a0 a1,P0 a0 a1->P1 a0 a1->P2 a0 a1->P3 a0 a1->P4 a0 a1->G):G:=h.elim fun a0 w0=>w0.elim fun a1 w1=>k a0 a1 w1.1 w1.2.1 w1.2.2.1 w1.2.2.2.1 w1.2.2.2.2
theorem i25.{u0,u1}{α0:Sort u0}{α1:Sort u1}{P0 P1 P2 P3 P4:α0->α1->Prop}(a0:α0)(a1:α1)(h0:P0 a0 a1)(h1:P1 a0 a1)(h2:P2 a0 a1)(h3:P3 a0 a1)(h4:P4 a0 a1):∃a0,∃a1,P0 a0 a1/\P1 a0 a1/\P2 a0 a1/\P3 a0 a1/\P4 a0 a1:=⟨a0,a1,h0,h1,h2,h3,h4⟩
theorem e31.{u0,u1,u2}{α0:Sort u0}{α1:Sort u1}{α2:Sort u2}{P0:α0->α1->α2->Prop}{G:Prop}(h:∃a0,∃a1,∃a2,P0 a0 a1 a2)(k:∀a0 a1 a2,P0 a0 a1 a2->G):G:=h.elim fun a0 w0=>w0.elim fun a1 w1=>w1.elim fun a2 w2=>k a0 a1 a2 w2
theorem i31.{u0,u1,u2}{α0:Sort u0}{α1:Sort u1}{α2:Sort u2}{P0:α0->α1->α2->Prop}(a0:α0)(a1:α1)(a2:α2)(h0:P0 a0 a1 a2):∃a0,∃a1,∃a2,P0 a0 a1 a2:=⟨a0,a1,a2,h0⟩
theorem e32.{u0,u1,u2}{α0:Sort u0}{α1:Sort u1}{α2:Sort u2}{P0 P1:α0->α1->α2->Prop}{G:Prop}(h:∃a0,∃a1,∃a2,P0 a0 a1 a2/\P1 a0 a1 a2)(k:∀a0 a1 a2,P0 a0 a1 a2->P1 a0 a1 a2->G):G:=h.elim fun a0 w0=>w0.elim fun a1 w1=>w1.elim fun a2 w2=>k a0 a1 a2 w2.1 w2.2
theorem i32.{u0,u1,u2}{α0:Sort u0}{α1:Sort u1}{α2:Sort u2}{P0 P1:α0->α1->α2->Prop}(a0:α0)(a1:α1)(a2:α2)(h0:P0 a0 a1 a2)(h1:P1 a0 a1 a2):∃a0,∃a1,∃a2,P0 a0 a1 a2/\P1 a0 a1 a2:=⟨a0,a1,a2,h0,h1⟩
theorem e33.{u0,u1,u2}{α0:Sort u0}{α1:Sort u1}{α2:Sort u2}{P0 P1 P2:α0->α1->α2->Prop}{G:Prop}(h:∃a0,∃a1,∃a2,P0 a0 a1 a2/\P1 a0 a1 a2/\P2 a0 a1 a2)(k:∀a0 a1 a2,P0 a0 a1 a2->P1 a0 a1 a2->P2 a0 a1 a2->G):G:=h.elim fun a0 w0=>w0.elim fun a1 w1=>w1.elim fun a2 w2=>k a0 a1 a2 w2.1 w2.2.1 w2.2.2
theorem i33.{u0,u1,u2}{α0:Sort u0}{α1:Sort u1}{α2:Sort u2}{P0 P1 P2:α0->α1->α2->Prop}(a0:α0)(a1:α1)(a2:α2)(h0:P0 a0 a1 a2)(h1:P1 a0 a1 a2)(h2:P2 a0 a1 a2):∃a0,∃a1,∃a2,P0 a0 a1 a2/\P1 a0 a1 a2/\P2 a0 a1 a2:=⟨a0,a1,a2,h0,h1,h2⟩
theorem e34.{u0,u1,u2}{α0:Sort u0}{α1:Sort u1}{α2:Sort u2}{P0 P1 P2 P3:α0->α1->α2->Prop}{G:Prop}(h:∃a0,∃a1,∃a2,P0 a0 a1 a2/\P1 a0 a1 a2/\P2 a0 a1 a2/\P3 a0 a1 a2)(k:∀a0 a1 a2,P0 a0 a1 a2->P1 a0 a1 a2->P2 a0 a1 a2->P3 a0 a1 a2->G):G:=h.elim fun a0 w0=>w0.elim fun a1 w1=>w1.elim fun a2 w2=>k a0 a1 a2 w2.1 w2.2.1 w2.2.2.1 w2.2.2.2
theorem i34.{u0,u1,u2}{α0:Sort u0}{α1:Sort u1}{α2:Sort u2}{P0 P1 P2 P3:α0->α1->α2->Prop}(a0:α0)(a1:α1)(a2:α2)(h0:P0 a0 a1 a2)(h1:P1 a0 a1 a2)(h2:P2 a0 a1 a2)(h3:P3 a0 a1 a2):∃a0,∃a1,∃a2,P0 a0 a1 a2/\P1 a0 a1 a2/\P2 a0 a1 a2/\P3 a0 a1 a2:=⟨a0,a1,a2,h0,h1,h2,h3⟩
theorem i35.{u0,u1,u2}{α0:Sort u0}{α1:Sort u1}{α2:Sort u2}{P0 P1 P2 P3 P4:α0->α1->α2->Prop}(a0:α0)(a1:α1)(a2:α2)(h0:P0 a0 a1 a2)(h1:P1 a0 a1 a2)(h2:P2 a0 a1 a2)(h3:P3 a0 a1 a2)(h4:P4 a0 a1 a2):∃a0,∃a1,∃a2,P0 a0 a1 a2/\P1 a0 a1 a2/\P2 a0 a1 a2/\P3 a0 a1 a2/\P4 a0 a1 a2:=⟨a0,a1,a2,h0,h1,h2,h3,h4⟩
theorem e36.{u0,u1,u2}{α0:Sort u0}{α1:Sort u1}{α2:Sort u2}{P0 P1 P2 P3 P4 P5:α0->α1->α2->Prop}{G:Prop}(h:∃a0,∃a1,∃a2,P0 a0 a1 a2/\P1 a0 a1 a2/\P2 a0 a1 a2/\P3 a0 a1 a2/\P4 a0 a1 a2/\P5 a0 a1 a2)(k:∀a0 a1 a2,P0 a0 a1 a2->P1 a0 a1 a2->P2 a0 a1 a2->P3 a0 a1 a2->P4 a0 a1 a2->P5 a0 a1 a2->G):G:=h.elim fun a0 w0=>w0.elim fun a1 w1=>w1.elim fun a2 w2=>k a0 a1 a2 w2.1 w2.2.1 w2.2.2.1 w2.2.2.2.1 w2.2.2.2.2.1 w2.2.2.2.2.2
theorem i36.{u0,u1,u2}{α0:Sort u0}{α1:Sort u1}{α2:Sort u2}{P0 P1 P2 P3 P4 P5:α0->α1->α2->Prop}(a0:α0)(a1:α1)(a2:α2)(h0:P0 a0 a1 a2)(h1:P1 a0 a1 a2)(h2:P2 a0 a1 a2)(h3:P3 a0 a1 a2)(h4:P4 a0 a1 a2)(h5:P5 a0 a1 a2):∃a0,∃a1,∃a2,P0 a0 a1 a2/\P1 a0 a1 a2/\P2 a0 a1 a2/\P3 a0 a1 a2/\P4 a0 a1 a2/\P5 a0 a1 a2:=⟨a0,a1,a2,h0,h1,h2,h3,h4,h5⟩
theorem e37.{u0,u1,u2}{α0:Sort u0}{α1:Sort u1}{α2:Sort u2}{P0 P1 P2 P3 P4 P5 P6:α0->α1->α2->Prop}{G:Prop}(h:∃a0,∃a1,∃a2,P0 a0 a1 a2/\P1 a0 a1 a2/\P2 a0 a1 a2/\P3 a0 a1 a2/\P4 a0 a1 a2/\P5 a0 a1 a2/\P6 a0 a1 a2)(k:∀a0 a1 a2,P0 a0 a1 a2->P1 a0 a1 a2->P2 a0 a1 a2->P3 a0 a1 a2->P4 a0 a1 a2->P5 a0 a1 a2->P6 a0 a1 a2->G):G:=h.elim fun a0 w0=>w0.elim fun a1 w1=>w1.elim fun a2 w2=>k a0 a1 a2 w2.1 w2.2.1 w2.2.2.1 w2.2.2.2.1 w2.2.2.2.2.1 w2.2.2.2.2.2.1 w2.2.2.2.2.2.2
theorem i37.{u0,u1,u2}{α0:Sort u0}{α1:Sort u1}{α2:Sort u2}{P0 P1 P2 P3 P4 P5 P6:α0->α1->α2->Prop}(a0:α0)(a1:α1)(a2:α2)(h0:P0 a0 a1 a2)(h1:P1 a0 a1 a2)(h2:P2 a0 a1 a2)(h3:P3 a0 a1 a2)(h4:P4 a0 a1 a2)(h5:P5 a0 a1 a2)(h6:P6 a0 a1 a2):∃a0,∃a1,∃a2,P0 a0 a1 a2/\P1 a0 a1 a2/\P2 a0 a1 a2/\P3 a0 a1 a2/\P4 a0 a1 a2/\P5 a0 a1 a2/\P6 a0 a1 a2:=⟨a0,a1,a2,h0,h1,h2,h3,h4,h5,h6⟩
theorem e38.{u0,u1,u2}{α0:Sort u0}{α1:Sort u1}{α2:Sort u2}{P0 P1 P2 P3 P4 P5 P6 P7:α0->α1->α2->Prop}{G:Prop}(h:∃a0,∃a1,∃a2,P0 a0 a1 a2/\P1 a0 a1 a2/\P2 a0 a1 a2/\P3 a0 a1 a2/\P4 a0 a1 a2/\P5 a0 a1 a2/\P6 a0 a1 a2/\P7 a0 a1 a2)(k:∀a0 a1 a2,P0 a0 a1 a2->P1 a0 a1 a2->P2 a0 a1 a2->P3 a0 a1 a2->P4 a0 a1 a2->P5 a0 a1 a2->P6 a0 a1 a2->P7 a0 a1 a2->G):G:=h.elim fun a0 w0=>w0.elim fun a1 w1=>w1.elim fun a2 w2=>k a0 a1 a2 w2.1 w2.2.1 w2.2.2.1 w2.2.2.2.1 w2.2.2.2.2.1 w2.2.2.2.2.2.1 w2.2.2.2.2.2.2.1 w2.2.2.2.2.2.2.2
theorem i38.{u0,u1,u2}{α0:Sort u0}{α1:Sort u1}{α2:Sort u2}{P0 P1 P2 P3 P4 P5 P6 P7:α0->α1->α2->Prop}(a0:α0)(a1:α1)(a2:α2)(h0:P0 a0 a1 a2)(h1:P1 a0 a1 a2)(h2:P2 a0 a1 a2)(h3:P3 a0 a1 a2)(h4:P4 a0 a1 a2)(h5:P5 a0 a1 a2)(h6:P6 a0 a1 a2)(h7:P7 a0 a1 a2):∃a0,∃a1,∃a2,P0 a0 a1 a2/\P1 a0 a1 a2/\P2 a0 a1 a2/\P3 a0 a1 a2/\P4 a0 a1 a2/\P5 a0 a1 a2/\P6 a0 a1 a2/\P7 a0 a1 a2:=⟨a0,a1,a2,h0,h1,h2,h3,h4,h5,h6,h7⟩
theorem i41.{u0,u1,u2,u3}{α0:Sort u0}{α1:Sort u1}{α2:Sort u2}{α3:Sort u3}{P0:α0->α1->α2->α3->Prop}(a0:α0)(a1:α1)(a2:α2)(a3:α3)(h0:P0 a0 a1 a2 a3):∃a0,∃a1,∃a2,∃a3,P0 a0 a1 a2 a3:=⟨a0,a1,a2,a3,h0⟩
theorem e42.{u0,u1,u2,u3}{α0:Sort u0}{α1:Sort u1}{α2:Sort u2}{α3:Sort u3}{P0 P1:α0->α1->α2->α3->Prop}{G:Prop}(h:∃a0,∃a1,∃a2,∃a3,P0 a0 a1 a2 a3/\P1 a0 a1 a2 a3)(k:∀a0 a1 a2 a3,P0 a0 a1 a2 a3->P1 a0 a1 a2 a3->G):G:=h.elim fun a0 w0=>w0.elim fun a1 w1=>w1.elim fun a2 w2=>w2.elim fun a3 w3=>k a0 a1 a2 a3 w3.1 w3.2
theorem e44.{u0,u1,u2,u3}{α0:Sort u0}{α1:Sort u1}{α2:Sort u2}{α3:Sort u3}{P0 P1 P2 P3:α0->α1->α2->α3->Prop}{G:Prop}(h:∃a0,∃a1,∃a2,∃a3,P0 a0 a1 a2 a3/\P1 a0 a1 a2 a3/\P2 a0 a1 a2 a3/\P3 a0 a1 a2 a3)(k:∀a0 a1 a2 a3,P0 a0 a1 a2 a3->P1 a0 a1 a2 a3->P2 a0 a1 a2 a3->P3 a0 a1 a2 a3->G):G:=h.elim fun a0 w0=>w0.elim fun a1 w1=>w1.elim fun a2 w2=>w2.elim fun a3 w3=>k a0 a1 a2 a3 w3.1 w3.2.1 w3.2.2.1 w3.2.2.2
theorem i44.{u0,u1,u2,u3}{α0:Sort u0}{α1:Sort u1}{α2:Sort u2}{α3:Sort u3}{P0 P1 P2 P3:α0->α1->α2->α3->Prop}(a0:α0)(a1:α1)(a2:α2)(a3:α3)(h0:P0 a0 a1 a2 a3)(h1:P1 a0 a1 a2 a3)(h2:P2 a0 a1 a2 a3)(h3:P3 a0 a1 a2 a3):∃a0,∃a1,∃a2,∃a3,P0 a0 a1 a2 a3/\P1 a0 a1 a2 a3/\P2 a0 a1 a2 a3/\P3 a0 a1 a2 a3:=⟨a0,a1,a2,a3,h0,h1,h2,h3⟩
theorem i45.{u0,u1,u2,u3}{α0:Sort u0}{α1:Sort u1}{α2:Sort u2}{α3:Sort u3}{P0 P1 P2 P3 P4:α0->α1->α2->α3->Prop}(a0:α0)(a1:α1)(a2:α2)(a3:α3)(h0:P0 a0 a1 a2 a3)(h1:P1 a0 a1 a2 a3)(h2:P2 a0 a1 a2 a3)(h3:P3 a0 a1 a2 a3)(h4:P4 a0 a1 a2 a3):∃a0,∃a1,∃a2,∃a3,P0 a0 a1 a2 a3/\P1 a0 a1 a2 a3/\P2 a0 a1 a2 a3/\P3 a0 a1 a2 a3/\P4 a0 a1 a2 a3:=⟨a0,a1,a2,a3,h0,h1,h2,h3,h4⟩
theorem e46.{u0,u1,u2,u3}{α0:Sort u0}{α1:Sort u1}{α2:Sort u2}{α3:Sort u3}{P0 P1 P2 P3 P4 P5:α0->α1->α2->α3->Prop}{G:Prop}(h:∃a0,∃a1,∃a2,∃a3,P0 a0 a1 a2 a3/\P1 a0 a1 a2 a3/\P2 a0 a1 a2 a3/\P3 a0 a1 a2 a3/\P4 a0 a1 a2 a3/\P5 a0 a1 a2 a3)(k:∀a0 a1 a2 a3,P0 a0 a1 a2 a3->P1 a0 a1 a2 a3->P2 a0 a1 a2 a3->P3 a0 a1 a2 a3->P4 a0 a1 a2 a3->P5 a0 a1 a2 a3->G):G:=h.elim fun a0 w0=>w0.elim fun a1 w1=>w1.elim fun a2 w2=>w2.elim fun a3 w3=>k a0 a1 a2 a3 w3.1 w3.2.1 w3.2.2.1 w3.2.2.2.1 w3.2.2.2.2.1 w3.2.2.2.2.2
theorem e52.{u0,u1,u2,u3,u4}{α0:Sort u0}{α1:Sort u1}{α2:Sort u2}{α3:Sort u3}{α4:Sort u4}{P0 P1:α0->α1->α2->α3->α4->Prop}{G:Prop}(h:∃a0,∃a1,∃a2,∃a3,∃a4,P0 a0 a1 a2 a3 a4/\P1 a0 a1 a2 a3 a4)(k:∀a0 a1 a2 a3 a4,P0 a0 a1 a2 a3 a4->P1 a0 a1 a2 a3 a4->G):G:=h.elim fun a0 w0=>w0.elim fun a1 w1=>w1.elim fun a2 w2=>w2.elim fun a3 w3=>w3.elim fun a4 w4=>k a0 a1 a2 a3 a4 w4.1 w4.2
theorem i52.{u0,u1,u2,u3,u4}{α0:Sort u0}{α1:Sort u1}{α2:Sort u2}{α3:Sort u3}{α4:Sort u4}{P0 P1:α0->α1->α2->α3->α4->Prop}(a0:α0)(a1:α1)(a2:α2)(a3:α3)(a4:α4)(h0:P0 a0 a1 a2 a3 a4)(h1:P1 a0 a1 a2 a3 a4):∃a0,∃a1,∃a2,∃a3,∃a4,P0 a0 a1 a2 a3 a4/\P1 a0 a1 a2 a3 a4:=⟨a0,a1,a2,a3,a4,h0,h1⟩
theorem e55.{u0,u1,u2,u3,u4}{α0:Sort u0}{α1:Sort u1}{α2:Sort u2}{α3:Sort u3}{α4:Sort u4}{P0 P1 P2 P3 P4:α0->α1->α2->α3->α4->Prop}{G:Prop}(h:∃a0,∃a1,∃a2,∃a3,∃a4,P0 a0 a1 a2 a3 a4/\P1 a0 a1 a2 a3 a4/\P2 a0 a1 a2 a3 a4/\P3 a0 a1 a2 a3 a4/\P4 a0 a1 a2 a3 a4)(k:∀a0 a1 a2 a3 a4,P0 a0 a1 a2 a3 a4->P1 a0 a1 a2 a3 a4->P2 a0 a1 a2 a3 a4->P3 a0 a1 a2 a3 a4->P4 a0 a1 a2 a3 a4->G):G:=h.elim fun a0 w0=>w0.elim fun a1 w1=>w1.elim fun a2 w2=>w2.elim fun a3 w3=>w3.elim fun a4 w4=>k a0 a1 a2 a3 a4 w4.1 w4.2.1 w4.2.2.1 w4.2.2.2.1 w4.2.2.2.2
theorem i55.{u0,u1,u2,u3,u4}{α0:Sort u0}{α1:Sort u1}{α2:Sort u2}{α3:Sort u3}{α4:Sort u4}{P0 P1 P2 P3 P4:α0->α1->α2->α3->α4->Prop}(a0:α0)(a1:α1)(a2:α2)(a3:α3)(a4:α4)(h0:P0 a0 a1 a2 a3 a4)(h1:P1 a0 a1 a2 a3 a4)(h2:P2 a0 a1 a2 a3 a4)(h3:P3 a0 a1 a2 a3 a4)(h4:P4 a0 a1 a2 a3 a4):∃a0,∃a1,∃a2,∃a3,∃a4,P0 a0 a1 a2 a3 a4/\P1 a0 a1 a2 a3 a4/\P2 a0 a1 a2 a3 a4/\P3 a0 a1 a2 a3 a4/\P4 a0 a1 a2 a3 a4:=⟨a0,a1,a2,a3,a4,h0,h1,h2,h3,h4⟩
theorem i510.{u0,u1,u2,u3,u4}{α0:Sort u0}{α1:Sort u1}{α2:Sort u2}{α3:Sort u3}{α4:Sort u4}{P0 P1 P2 P3 P4 P5 P6 P7 P8 P9:α0->α1->α2->α3->α4->Prop}(a0:α0)(a1:α1)(a2:α2)(a3:α3)(a4:α4)(h0:P0 a0 a1 a2 a3 a4)(h1:P1 a0 a1 a2 a3 a4)(h2:P2 a0 a1 a2 a3 a4)(h3:P3 a0 a1 a2 a3 a4)(h4:P4 a0 a1 a2 a3 a4)(h5:P5 a0 a1 a2 a3 a4)(h6:P6 a0 a1 a2 a3 a4)(h7:P7 a0 a1 a2 a3 a4)(h8:P8 a0 a1 a2 a3 a4)(h9:P9 a0 a1 a2 a3 a4):∃a0,∃a1,∃a2,∃a3,∃a4,P0 a0 a1 a2 a3 a4/\P1 a0 a1 a2 a3 a4/\P2 a0 a1 a2 a3 a4/\P3 a0 a1 a2 a3 a4/\P4 a0 a1 a2 a3 a4/\P5 a0 a1 a2 a3 a4/\P6 a0 a1 a2 a3 a4/\P7 a0 a1 a2 a3 a4/\P8 a0 a1 a2 a3 a4/\P9 a0 a1 a2 a3 a4:=⟨a0,a1,a2,a3,a4,h0,h1,h2,h3,h4,h5,h6,h7,h8,h9⟩
theorem e75.{u0,u1,u2,u3,u4,u5,u6}{α0:Sort u0}{α1:Sort u1}{α2:Sort u2}{α3:Sort u3}{α4:Sort u4}{α5:Sort u5}{α6:Sort u6}{P0 P1 P2 P3 P4:α0->α1->α2->α3->α4->α5->α6->Prop}{G:Prop}(h:∃a0,∃a1,∃a2,∃a3,∃a4,∃a5,∃a6,P0 a0 a1 a2 a3 a4 a5 a6/\P1 a0 a1 a2 a3 a4 a5 a6/\P2 a0 a1 a2 a3 a4 a5 a6/\P3 a0 a1 a2 a3 a4 a5 a6/\P4 a0 a1 a2 a3 a4 a5 a6)(k:∀a0 a1 a2 a3 a4 a5 a6,P0 a0 a1 a2 a3 a4 a5 a6->P1 a0 a1 a2 a3 a4 a5 a6->P2 a0 a1 a2 a3 a4 a5 a6->P3 a0 a1 a2 a3 a4 a5 a6->P4 a0 a1 a2 a3 a4 a5 a6->G):G:=h.elim fun a0 w0=>w0.elim fun a1 w1=>w1.elim fun a2 w2=>w2.elim fun a3 w3=>w3.elim fun a4 w4=>w4.elim fun a5 w5=>w5.elim fun a6 w6=>k a0 a1 a2 a3 a4 a5 a6 w6.1 w6.2.1 w6.2.2.1 w6.2.2.2.1 w6.2.2.2.2
theorem b2{c0 c1:Bool}(h:(c0&&c1)=true):(c0=true/\c1=true):=(Bool.and_eq_true_iff.mp h)
theorem b3{c0 c1 c2:Bool}(h:((c0&&c1)&&c2)=true):((c0=true/\c1=true)/\c2=true):=⟨b2 (Bool.and_eq_true_iff.mp h).1,(Bool.and_eq_true_iff.mp h).2⟩
theorem b4{c0 c1 c2 c3:Bool}(h:(((c0&&c1)&&c2)&&c3)=true):(((c0=true/\c1=true)/\c2=true)/\c3=true):=⟨b3 (Bool.and_eq_true_iff.mp h).1,(Bool.and_eq_true_iff.mp h).2⟩
theorem b5{c0 c1 c2 c3 c4:Bool}(h:((((c0&&c1)&&c2)&&c3)&&c4)=true):((((c0=true/\c1=true)/\c2=true)/\c3=true)/\c4=true):=⟨b4 (Bool.and_eq_true_iff.mp h).1,(Bool.and_eq_true_iff.mp h).2⟩
theorem b6{c0 c1 c2 c3 c4 c5:Bool}(h:(((((c0&&c1)&&c2)&&c3)&&c4)&&c5)=true):(((((c0=true/\c1=true)/\c2=true)/\c3=true)/\c4=true)/\c5=true):=⟨b5 (Bool.and_eq_true_iff.mp h).1,(Bool.and_eq_true_iff.mp h).2⟩
theorem b7{c0 c1 c2 c3 c4 c5 c6:Bool}(h:((((((c0&&c1)&&c2)&&c3)&&c4)&&c5)&&c6)=true):((((((c0=true/\c1=true)/\c2=true)/\c3=true)/\c4=true)/\c5=true)/\c6=true):=⟨b6 (Bool.and_eq_true_iff.mp h).1,(Bool.and_eq_true_iff.mp h).2⟩
@[elab_as_elim] theorem eqL.{u}{α:Sort u}{a b:α}{M:α->Prop}(h:a=b)(m:M a):M b:=h▸m
@[elab_as_elim] theorem eqR.{u}{α:Sort u}{a b:α}{M:α->Prop}(h:a=b)(m:M b):M a:=h▸m
theorem zd{α β:Type}{o:Option α}{k:α->Option β}{r:β}{G:Prop}(h:(match o with |some a=>k a |none=>none)=aa r)(f:∀a,o=aa a->k a=aa r->G):G:=by
 cases o with
 |some a=>exact f a rfl h
 |none=>exact nomatch h
theorem n3{β:Type}{b:Bool}{q:Option β}{r:β}{G:Prop}(h:(match b with |true=>q |false=>none)=aa r)(f:b=true->q=aa r->G):G:=by
 cases b with
 |true=>exact f rfl h
 |false=>exact nomatch h
inductive T where
 |a (i:Nat)
 |n (k:Int)
 |p (x y:T)
 |m (x y:T)
 |g (x:T)
 |s (k:Int) (x:T)
 |t (x:T) (k:Int)
noncomputable def pR(r:List Int):Nat->Int:=r.rec (λ_=>0) fun x _ f n=>n.rec x fun k _=>f k
noncomputable def T.v(r:List Int)(t:T):Int:=t.rec (λi=>pR r i) (λk=>k) (λ_ _ x y=>x+y) (λ_ _ x y=>x-y) (λ_ x=> -x) (λk _ x=>k*x) (λ_ k x=>x*k)
noncomputable def j3(x:List Int):List Int->List Int:=x.rec id fun c r f y=>y.rec (c::r) fun d s _=>(c+d)::f s
noncomputable def gG(k:Int)(x:List Int):List Int:=x.rec [] fun c _ f=>k*c::f
noncomputable def pS(n:Nat):List Int:=n.rec [1] fun _ f=>0::f
noncomputable def T.l(t:T):List Int:=t.rec (λi=>0::pS i) (λk=>[k]) (λ_ _ x y=>j3 x y) (λ_ _ x y=>j3 x (gG (-1) y)) (λ_ x=>gG (-1) x) (λk _ x=>gG k x) (λ_ k x=>gG k x)
noncomputable def eJ(x:List Int):List Int->Int:=x.rec (λ_=>0) fun c _ f r=>r.rec 0 fun a s _=>c*a+f s
theorem n4:∀(x y r:List Int),eJ (j3 x y) r=eJ x r+eJ y r:=by
 intro x
 induction x with
 |nil=>intro y r;exact(WH _).symm
 |cons c x ih=>
  intro y r
  cases y with
  |nil=>exact(iM _).symm
  |cons d y=>
   cases r with
   |nil=>rfl
   |cons a r=>
    show(c+d)*a+eJ (j3 x y) r=(c*a+eJ x r)+(d*a+eJ y r)
    rw[ih,nC]
    omega
theorem jv(k:Int):∀(x r:List Int),eJ (gG k x) r=k*eJ x r:=by
 intro x
 induction x with
 |nil=>intro r;exact(WD k).symm
 |cons c x ih=>
  intro r
  cases r with
  |nil=>exact(WD k).symm
  |cons a r=>
   show k*c*a+eJ (gG k x) r=k*(c*a+eJ x r)
   rw[ih,Int.mul_add,Int.mul_assoc]
theorem H8:∀(n:Nat) (r:List Int),eJ (pS n) r=pR r n:=by
 intro n
 induction n with
 |zero=>
  intro r
  cases r with
  |nil=>rfl
  |cons a r=>show 1*a+0=a;omega
 |succ n ih=>
  intro r
  cases r with
  |nil=>rfl
  |cons a r=>show 0*a+eJ (pS n) r=pR r n;rw[ih];omega
theorem ze(r:List Int)(t:T):eJ t.l (1::r)=t.v r:=by
 induction t with
 |a i=>show 0*1+eJ (pS i) r=pR r i;rw[H8];omega
 |n k=>show k*1+0=k;omega
 |p x y h1 h2=>exact(n4 x.l y.l _).trans (by rw[h1,h2];rfl)
 |m x y h1 h2=>exact(n4 x.l (gG (-1) y.l) _).trans (by rw[jv,h1,h2];show x.v r+ -1*y.v r=x.v r-y.v r;omega)
 |g x h=>exact(jv _ x.l _).trans (by rw[h];show -1*x.v r= -x.v r;omega)
 |s k x h=>exact(jv _ x.l _).trans (by rw[h];rfl)
 |t x k h=>exact(jv _ x.l _).trans (by rw[h,WC];rfl)
def df(x y:T):List Int:=j3 y.l (gG (-1) x.l)
theorem zf(r:List Int)(x y:T):eJ (df x y) (1::r)=y.v r-x.v r:=(n4 ..).trans (by rw[jv,ze,ze];omega)
noncomputable def pT(l:List (Nat×T×T)):List Int:=l.rec [] fun h _ f=>j3 (gG h.1 (df h.2.1 h.2.2)) f
noncomputable def HT(r:List Int)(l:List (Nat×T×T))(G:Prop):Prop:=l.rec G fun h _ f=>h.2.1.v r<=h.2.2.v r->f
noncomputable def zg(l:List Int):Bool:=l.rec true fun c _ f=>c == 0&&f
noncomputable def tC(d:Int)(l:List Int):Bool:=l.rec (decide (0<d)) fun c r _=>decide (0<c+d)&&zg r
theorem H9:∀{l:List Int} (r:List Int),zg l=true->eJ l r=0:=by
 intro l
 induction l with
 |nil=>intro _ _;rfl
 |cons c l ih=>
  intro r h
  cases r with
  |nil=>rfl
  |cons a r=>
   have h:=Bool.and_eq_true_iff.mp h
   show c*a+eJ l r=0
   rw[ih r h.2,cE h.1];omega
theorem zh(r:List Int)(h:tC d l=true):0<eJ l (1::r)+d:=by
 cases l with
 |nil=>have :=of_decide_eq_true h;show 0<0+d;omega
 |cons c l=>
  have h:=Bool.and_eq_true_iff.mp h
  have :=of_decide_eq_true h.1
  show 0<c*1+eJ l r+d
  rw[H9 r h.2];omega
theorem zi(r:List Int):∀(l:List (Nat×T×T)),(0<=eJ (pT l) (1::r)->G)->HT r l G:=by
 intro l
 induction l generalizing G with
 |nil=>intro k;exact k (sO 0)
 |cons h l ih=>
  intro k e
  refine ih fun q=>k ?_
  show 0<=eJ (j3 (gG h.1 (df h.2.1 h.2.2)) (pT l)) (1::r)
  rw[n4,jv,zf]
  exact GL (gU (ee _) (by omega)) q
def eF(d:Nat)(l:List (Nat×T×T))(x y:T):Bool:=Hb 0 d&&tC d (j3 (gG d (df x y)) (gG (-1) (pT l)))
theorem fk(h:eF d l x y=true)(r:List Int):HT r l (x.v r<=y.v r):=zi r l fun q=>by
 have h:=Bool.and_eq_true_iff.mp h
 have k:=zh r h.2
 rw[n4,jv,jv,zf] at k
 have hd:(1:Int)<=d:=Int.ofNat_le.mpr (dv h.1)
 refine Int.not_lt.mp fun c=>?_
 have :=GN (show y.v r-x.v r<= -1 by omega) (show 0<=(d:Int) by omega)
 omega
def iy(l:List (Nat×T×T)):Bool:=tC 0 (gG (-1) (pT l))
theorem fF(h:iy l=true)(r:List Int):HT r l False:=zi r l fun q=>by
 have k:=zh r h
 rw[jv] at k
 omega
noncomputable abbrev v0:T:=.a 0
noncomputable abbrev v1:T:=.a 1
noncomputable abbrev v2:T:=.a 2
noncomputable abbrev v3:T:=.a 3
noncomputable abbrev v4:T:=.a 4
noncomputable abbrev v5:T:=.a 5
noncomputable abbrev v6:T:=.a 6
noncomputable abbrev v7:T:=.a 7
theorem f1(D:Nat)(L:List (Nat×T×T))(x y:T)(H:eF D L x y=true):HT [a] L (x.v [a]<=y.v [a]):=fk H _
theorem g1(L:List (Nat×T×T))(H:iy L=true):HT [a] L False:=fF H _
theorem f2(D:Nat)(L:List (Nat×T×T))(x y:T)(H:eF D L x y=true):HT [a,b] L (x.v [a,b]<=y.v [a,b]):=fk H _
theorem g2(L:List (Nat×T×T))(H:iy L=true):HT [a,b] L False:=fF H _
theorem f3(D:Nat)(L:List (Nat×T×T))(x y:T)(H:eF D L x y=true):HT [a,b,c] L (x.v [a,b,c]<=y.v [a,b,c]):=fk H _
theorem g3(L:List (Nat×T×T))(H:iy L=true):HT [a,b,c] L False:=fF H _
theorem f4(D:Nat)(L:List (Nat×T×T))(x y:T)(H:eF D L x y=true):HT [a,b,c,d] L (x.v [a,b,c,d]<=y.v [a,b,c,d]):=fk H _
theorem g4(L:List (Nat×T×T))(H:iy L=true):HT [a,b,c,d] L False:=fF H _
theorem f5(D:Nat)(L:List (Nat×T×T))(x y:T)(H:eF D L x y=true):HT [a,b,c,d,e] L (x.v [a,b,c,d,e]<=y.v [a,b,c,d,e]):=fk H _
theorem g5(L:List (Nat×T×T))(H:iy L=true):HT [a,b,c,d,e] L False:=fF H _
theorem f6(D:Nat)(L:List (Nat×T×T))(x y:T)(H:eF D L x y=true):HT [a,b,c,d,e,f] L (x.v [a,b,c,d,e,f]<=y.v [a,b,c,d,e,f]):=fk H _
theorem g6(L:List (Nat×T×T))(H:iy L=true):HT [a,b,c,d,e,f] L False:=fF H _
theorem f7(D:Nat)(L:List (Nat×T×T))(x y:T)(H:eF D L x y=true):HT [a,b,c,d,e,f,g] L (x.v [a,b,c,d,e,f,g]<=y.v [a,b,c,d,e,f,g]):=fk H _
theorem g7(L:List (Nat×T×T))(H:iy L=true):HT [a,b,c,d,e,f,g] L False:=fF H _
theorem f8(D:Nat)(L:List (Nat×T×T))(x y:T)(H:eF D L x y=true):HT [a,b,c,d,e,f,g,h] L (x.v [a,b,c,d,e,f,g,h]<=y.v [a,b,c,d,e,f,g,h]):=fk H _
theorem g8(L:List (Nat×T×T))(H:iy L=true):HT [a,b,c,d,e,f,g,h] L False:=fF H _
theorem f9(D:Nat)(L:List (Nat×T×T))(x y:T)(H:eF D L x y=true):HT [a,b,c,d,e,f,g,h,i] L (x.v [a,b,c,d,e,f,g,h,i]<=y.v [a,b,c,d,e,f,g,h,i]):=fk H _
theorem g9(L:List (Nat×T×T))(H:iy L=true):HT [a,b,c,d,e,f,g,h,i] L False:=fF H _
theorem f10(D:Nat)(L:List (Nat×T×T))(x y:T)(H:eF D L x y=true):HT [a,b,c,d,e,f,g,h,i,j] L (x.v [a,b,c,d,e,f,g,h,i,j]<=y.v [a,b,c,d,e,f,g,h,i,j]):=fk H _
theorem zj(L:List (Nat×T×T))(H:iy L=true):HT [a,b,c,d,e,f,g,h,i,j] L False:=fF H _
theorem f11(D:Nat)(L:List (Nat×T×T))(x y:T)(H:eF D L x y=true):HT [a,b,c,d,e,f,g,h,i,j,k] L (x.v [a,b,c,d,e,f,g,h,i,j,k]<=y.v [a,b,c,d,e,f,g,h,i,j,k]):=fk H _
theorem f12(D:Nat)(L:List (Nat×T×T))(x y:T)(H:eF D L x y=true):HT [a,b,c,d,e,f,g,h,i,j,k,l] L (x.v [a,b,c,d,e,f,g,h,i,j,k,l]<=y.v [a,b,c,d,e,f,g,h,i,j,k,l]):=fk H _
theorem aF{m n:Nat}(h:m<=n):(m:Int)<=n:=Int.ofNat_le.mpr h
theorem dD{m n:Nat}(h:m<n):(m:Int)+1<=n:=Int.ofNat_lt.mpr h
theorem eO{m n:Nat}(h:m=n):(m:Int)<=n:=Int.ofNat_le.mpr (iq h)
theorem fZ{m n:Nat}(h:m=n):(n:Int)<=m:=Int.ofNat_le.mpr (iq h.symm)
theorem cz{m n:Int}(h:m=n):n<=m:=dR h.symm
theorem jw{m n:Nat}(h:¬m<n):(n:Int)<=m:=Int.ofNat_le.mpr (Nat.not_lt.mp h)
theorem zk{m n:Nat}(h:¬m<=n):(n:Int)+1<=m:=Int.ofNat_lt.mpr (Nat.not_le.mp h)
theorem aY{n:Nat}:(0:Int)<=n:=ee n
theorem dO(h:0<=z):(z.toNat:Int)<=z:=dR (l4 h)
theorem iU:z<=(z.toNat:Int):=Int.self_le_toNat z
theorem gl(h:n<=m):((m-n:Nat):Int)<=(m:Int)-n:=dR (Int.ofNat_sub h)
theorem jx{m n:Nat}:(m:Int)-n<=((m-n:Nat):Int):=by omega
theorem aO{m n:Nat}(h:(m:Int)<=n):m<=n:=Int.ofNat_le.mp h
theorem dx{m n:Nat}(h:(m:Int)+1<=n):m<n:=Int.ofNat_lt.mp h
theorem iz{m n:Nat}(h:(m:Int)<=n)(k:(n:Int)<=m):m=n:=Int.ofNat_inj.mp (dM h k)
end Mine
end
noncomputable section
open PySem PySem.W PySem.Calls PyProof.Rows
namespace Mine
noncomputable abbrev hsz(s:Shared):Nat:=s.heap.objs.size
theorem iV(h:Heap)(o:Obj):h.objs.size<=(h.push o).objs.size:=by rw[gB];exact jm _
theorem zl(h:Heap)(a:Addr)(f:Obj->Obj):(h.update a f).objs.size=h.objs.size:=by unfold sL;exact Wh
theorem tD(h:Runs M Γ p t fs s e s'):hsz s<=hsz s':=by
 induction h <;> (try simp only[Shared.setGen,hsz,gB,zl] at *) <;> omega
theorem Ia(h:Returns M Γ p s r s'):hsz s<=hsz s':=tD h
theorem Ib(h:Wakes M Γ p g r s res s'):hsz s<=hsz s':=by
 unfold Wakes at h
 split at h
 ·exact h.elim
 ·split at h
  ·obtain⟨e₁,s₁,hr,_,_,rfl⟩:=h;exact(tD hr:hsz (s.setGen g .running)<=hsz s₁)
  ·rw[h.2];exact c8 _
  ·rw[h.2];exact c8 _
 ·obtain⟨e₁,s₁,hr,_,_,rfl⟩:=h;exact(tD hr:hsz (s.setGen g .running)<=hsz s₁)
 ·rw[h.2];exact c8 _
 ·rw[h.2];exact c8 _
theorem zm(M:Model)(Γ:Ctx)(n:Nat)(t:cy α):∀(Q:α->Pos->Shared->Prop) (E:Value->Pos->Shared->Prop) (p:Pos) (s:Shared),n<=hsz s->yL M Γ t Q E p s->
  yL M Γ t (λa p' s'=>n<=hsz s'/\Q a p' s') (λe p' s'=>n<=hsz s'/\E e p' s') p s:=by
 induction t with
 |pure a=>exact fun Q E p s hn h=>⟨hn,h⟩
 |raise e=>exact fun Q E p s hn h=>⟨hn,h⟩
 |unsupported _=>exact fun Q E p s _ h=>h
 |finish _=>exact fun Q E p s _ h=>h
 |rule _ k ih=>exact fun Q E p s hn h=>ih () Q E p s hn h
 | «at» p' k ih=>exact fun Q E p s hn h=>ih () Q E p' s hn h
 |load a _ k ih=>exact fun Q E p s hn h=>let⟨o,ho,h⟩:=h;⟨o,ho,ih o Q E p s hn h⟩
 |update a _ f k ih=>exact fun Q E p s hn h=>⟨h.1,ih () Q E p _ (bT hn (iq (zl _ _ _).symm)) h.2⟩
 |loadIfAlive a k ih=>exact fun Q E p s hn h=>ih _ Q E p s hn h
 |point _ k ih=>exact fun Q E p s hn h=>ih () Q E p s hn h
 |register _ _=>exact fun Q E p s _ h=>h
 |alloc o k ih=>exact fun Q E p s hn h=>ih _ Q E p _ (bT hn (iV _ _)) h
 |fresh k ih=>exact fun Q E p s hn h=>ih _ Q E p _ hn h
 |ask k ih=>exact fun Q E p s hn h=>ih _ Q E p s hn h
 |choose src m k ih=>exact fun Q E p s hn h=>⟨h.1,ih _ Q E p _ hn h.2⟩
 |os q _ k ih=>exact fun Q E p s hn h=>ih _ Q E p _ hn h
 |call c hd _ _ k ih=>exact fun Q E p s hn h=>let⟨r,s',hr,h⟩:=h;⟨r,s',hr,ih r Q E p s' (bT hn (Ia hr)) h⟩
 |handled own k ih=>exact fun Q E p s hn h=>ih _ Q E p s hn h
 |genState g k ih=>exact fun Q E p s hn h=>let⟨st,hs,h⟩:=h;⟨st,hs,ih _ Q E p s hn h⟩
 |newGen c k ih=>exact fun Q E p s hn h=>ih _ Q E p _ hn h
 |resume g r _ k ih=>exact fun Q E p s hn h=>let⟨res,s',hw,h⟩:=h;⟨res,s',hw,ih res Q E p s' (bT hn (Ib hw)) h⟩
 |yield _ _ _ _=>exact fun Q E p s _ h=>h
 |stack k ih=>exact fun Q E p s hn h=>ih _ Q E p s hn h
 |fork _ _=>exact fun Q E p s _ h=>h
 |thread k ih=>exact fun Q E p s hn h=>ih _ Q E p s hn h
 |await _ _ _ _ _=>exact fun Q E p s _ h=>h
theorem iW(h:am M A t Q E s):
  am M A t (λa s'=>hsz s<=hsz s'/\Q a s') E s:=by
 have h':am M A t (λa s'=>hsz s<=hsz s'/\Q a s') (λe s'=>hsz s<=hsz s'/\E e s') s:=
  fun Γ p hΓ=>zm M Γ (hsz s) t _ _ p s (c8 _) (h Γ p hΓ)
 exact aT h' (λ_ _ h=>h) fun _ _ h=>h.2
abbrev aK:Value->Shared->Prop:=λ_ _=>False
theorem bn{C:Prop}(h:false=true):C:=nomatch h
theorem aD{C:Prop}(h:none=aa a):C:=nomatch h
theorem bb{E:Value->Shared->Prop}:∀(e:Value) (s:Shared),E e s->E e s:=λ_ _ z=>z
def cB(b:Bool)(t f:Prop):Prop:=match b with
 |true=>t
 |false=>f
def gd(b:Bool)(Q:Prop):Prop:=match b with
 |true=>Q
 |false=>False
theorem b9(h:gd b Q):b=true/\Q:=by
 cases b
 ·exact h.elim
 ·exact⟨rfl,h⟩
def ag{α:Type}(o:Option α)(k:α->Prop):Prop:=match o with
 |some a=>k a
 |none=>False
theorem bH{Q G:Prop}(h:gd b Q)(f:b=true->Q->G):G:=f (b9 h).1 (b9 h).2
theorem aq{G:Prop}(h:ag o k)(f:∀a,o=aa a->k a->G):G:=by
 cases o with
 |some a=>exact f a rfl h
 |none=>exact h.elim
theorem hE{α:Type}{o:Option α}{k:α->Prop}(h:ag o k):∃a,o=aa a/\k a:=aq h fun a e h=>⟨a,e,h⟩
abbrev cu{α:Type}(o:Option α)(k:α->Prop)(z:Prop):Prop:=match o with
 |some a=>k a
 |none=>z
theorem cQ{z G:Prop}(h:cu o k z)(f:∀a,o=aa a->k a->G)(g:o=none->z->G):G:=by
 cases o with
 |some a=>exact f a rfl h
 |none=>exact g rfl h
def aE(A B:Prop):Prop:=A->B
theorem imp(h:B=A):aE A B:=h.mpr
noncomputable abbrev aA{α β:Type}(o:Option α)(k:α->Option β):Option β:=match o with
 |some a=>k a
 |none=>none
noncomputable abbrev bW{β:Type}(b:Bool)(o:Option β):Option β:=match b with
 |true=>o
 |false=>none
noncomputable abbrev dP{α β:Type}(o:Option α)(k:α->Option β)(z:Option β):Option β:=match o with
 |some a=>k a
 |none=>z
theorem ay{G:Prop}(h:aA o k=aa b)(f:∀a,o=aa a->k a=aa b->G):G:=by
 cases o with
 |some a=>exact f a rfl h
 |none=>exact aD h
theorem bU{G:Prop}(h:bW c o=aa b)(f:c=true->o=aa b->G):G:=by
 cases c with
 |true=>exact f rfl h
 |false=>exact aD h
theorem dE{G:Prop}(h:dP o k z=aa b)(f:∀a,o=aa a->k a=aa b->G)(g:o=none->z=aa b->G):G:=by
 cases o with
 |some a=>exact f a rfl h
 |none=>exact g rfl h
noncomputable def dZ{α:Type}(o:Option α)(k:α->Bool):Bool:=match o with
 |some a=>k a
 |none=>false
theorem fO{G:Prop}(h:dZ o k=true)(f:∀a,o=aa a->k a=true->G):G:=by
 cases o with
 |some a=>exact f a rfl h
 |none=>exact bn h
noncomputable def cq{α:Type}{n k:Nat}(f:n=k->Option α):Option α:=match Nat.decEq n k with
 | .isTrue h=>f h
 | .isFalse _=>none
theorem cF{α:Type}{n k:Nat}{f:n=k->Option α}{a:α}{G:Prop}(h:cq f=aa a)(g:∀i,f i=aa a->G):G:=by
 unfold cq at h
 cases q:Nat.decEq n k with
 |isTrue i=>exact g i (by rw[q] at h;exact h)
 |isFalse i=>rw[q] at h;exact aD h
inductive PV where
 |none
 |bool (b:Bool)
 |int (i:Int)
 |str (s:Str)
 |bytes (b:List UInt8)
 |barr (b:List UInt8)
 |const (v:Value)
 |tuple (l:List PV)
 |list (l:List PV)
 |obj (C:Addr) (fs:List (Str×PV))
inductive AV where
 |pv (p:PV)
 |loc (k:Nat)
 |obj (C:Addr) (fs:List (Str×AV))
inductive AObj where
 |list (l:List PV)
 |ba (b:List UInt8)
 |inst (C:Addr) (kd:Nat)
 |attrs (fs:List (Str×AV))
def bX(p:PV):Option (Int):=cq fun h=>PV.int.elim p h aa
theorem j4{p:PV}{u:Int}(h:bX p=aa u):p=.int u:=cF h fun i h=>PV.int.elim (motive_1:=λp=>∀i,PV.int.elim p i aa=aa u->p=.int u) p i (λ_ _ h=>ac h▸rfl) i h
def iX(p:PV):Option (Bool):=cq fun h=>PV.bool.elim p h aa
theorem tE{p:PV}{u:Bool}(h:iX p=aa u):p=.bool u:=cF h fun i h=>PV.bool.elim (motive_1:=λp=>∀i,PV.bool.elim p i aa=aa u->p=.bool u) p i (λ_ _ h=>ac h▸rfl) i h
def eP(p:PV):Option (Str):=cq fun h=>PV.str.elim p h aa
theorem tF{p:PV}{u:Str}(h:eP p=aa u):p=.str u:=cF h fun i h=>PV.str.elim (motive_1:=λp=>∀i,PV.str.elim p i aa=aa u->p=.str u) p i (λ_ _ h=>ac h▸rfl) i h
def iY(p:PV):Option (List UInt8):=cq fun h=>PV.bytes.elim p h aa
theorem pU{p:PV}{u:List UInt8}(h:iY p=aa u):p=.bytes u:=cF h fun i h=>PV.bytes.elim (motive_1:=λp=>∀i,PV.bytes.elim p i aa=aa u->p=.bytes u) p i (λ_ _ h=>ac h▸rfl) i h
def mh(p:PV):Option (List UInt8):=cq fun h=>PV.barr.elim p h aa
theorem tG{p:PV}{u:List UInt8}(h:mh p=aa u):p=.barr u:=cF h fun i h=>PV.barr.elim (motive_1:=λp=>∀i,PV.barr.elim p i aa=aa u->p=.barr u) p i (λ_ _ h=>ac h▸rfl) i h
def gH(p:PV):Option (Value):=cq fun h=>PV.const.elim p h aa
theorem n5{p:PV}{u:Value}(h:gH p=aa u):p=.const u:=cF h fun i h=>PV.const.elim (motive_1:=λp=>∀i,PV.const.elim p i aa=aa u->p=.const u) p i (λ_ _ h=>ac h▸rfl) i h
def j5(p:PV):Option (List PV):=cq fun h=>PV.tuple.elim p h aa
theorem Ic{p:PV}{u:List PV}(h:j5 p=aa u):p=.tuple u:=cF h fun i h=>PV.tuple.elim (motive_1:=λp=>∀i,PV.tuple.elim p i aa=aa u->p=.tuple u) p i (λ_ _ h=>ac h▸rfl) i h
def gm(p:PV):Option (List PV):=cq fun h=>PV.list.elim p h aa
theorem lk{p:PV}{u:List PV}(h:gm p=aa u):p=.list u:=cF h fun i h=>PV.list.elim (motive_1:=λp=>∀i,PV.list.elim p i aa=aa u->p=.list u) p i (λ_ _ h=>ac h▸rfl) i h
def pV(p:PV):Option (Addr×List (Str×PV)):=cq fun h=>PV.obj.elim p h fun C fs=>aa (C,fs)
theorem zn{p:PV}{q:Addr×List (Str×PV)}(h:pV p=aa q):p=.obj q.1 q.2:=cF h fun i h=>PV.obj.elim (motive_1:=λp=>∀i,(PV.obj.elim p i fun C fs=>aa (C,fs))=aa q->p=.obj q.1 q.2) p i (λ_ _ _ h=>ac h▸rfl) i h
def eQ(v:AV):Option PV:=cq fun h=>AV.pv.elim v h aa
theorem jy{v:AV}{p:PV}(h:eQ v=aa p):v=.pv p:=cF h fun i h=>AV.pv.elim (motive_1:=λv=>∀i,AV.pv.elim v i aa=aa p->v=.pv p) v i (λ_ _ h=>ac h▸rfl) i h
def eR(v:AV):Option Nat:=cq fun h=>AV.loc.elim v h aa
theorem pW{v:AV}{p:Nat}(h:eR v=aa p):v=.loc p:=cF h fun i h=>AV.loc.elim (motive_1:=λv=>∀i,AV.loc.elim v i aa=aa p->v=.loc p) v i (λ_ _ h=>ac h▸rfl) i h
def pX(v:AV):Option (Addr×List (Str×AV)):=cq fun h=>AV.obj.elim v h fun C fs=>aa (C,fs)
theorem zo{v:AV}{q:Addr×List (Str×AV)}(h:pX v=aa q):v=.obj q.1 q.2:=cF h fun i h=>AV.obj.elim (motive_1:=λv=>∀i,(AV.obj.elim v i fun C fs=>aa (C,fs))=aa q->v=.obj q.1 q.2) v i (λ_ _ _ h=>ac h▸rfl) i h
def zp(o:AObj):Option (List PV):=cq fun h=>AObj.list.elim o h aa
theorem Ie{o:AObj}{l:List PV}(h:zp o=aa l):o=.list l:=cF h fun i h=>AObj.list.elim (motive:=λo=>∀i,AObj.list.elim o i aa=aa l->o=.list l) o i (λ_ _ h=>ac h▸rfl) i h
def pY(o:AObj):Option (List UInt8):=cq fun h=>AObj.ba.elim o h aa
theorem tH{o:AObj}{l:List UInt8}(h:pY o=aa l):o=.ba l:=cF h fun i h=>AObj.ba.elim (motive:=λo=>∀i,AObj.ba.elim o i aa=aa l->o=.ba l) o i (λ_ _ h=>ac h▸rfl) i h
def n6(o:AObj):Option (Addr×Nat):=cq fun h=>AObj.inst.elim o h fun C k=>aa (C,k)
theorem pZ{o:AObj}{q:Addr×Nat}(h:n6 o=aa q):o=.inst q.1 q.2:=cF h fun i h=>AObj.inst.elim (motive:=λo=>∀i,(AObj.inst.elim o i fun C k=>aa (C,k))=aa q->o=.inst q.1 q.2) o i (λ_ _ _ h=>ac h▸rfl) i h
def n7(o:AObj):Option (List (Str×AV)):=cq fun h=>AObj.attrs.elim o h aa
theorem p5{o:AObj}{l:List (Str×AV)}(h:n7 o=aa l):o=.attrs l:=cF h fun i h=>AObj.attrs.elim (motive:=λo=>∀i,AObj.attrs.elim o i aa=aa l->o=.attrs l) o i (λ_ _ h=>ac h▸rfl) i h
def bP{α:Type}(g:PV->Option α)(v:AV):Option α:=aA (eQ v) g
theorem jz{G:Prop}(h:bP g v=aa a)(f:∀p,v=.pv p->g p=aa a->G):G:=ay h fun p e h=>f p (jy e) h
theorem Ig{v:AV}{i:Int}(h:bP bX v=aa i):v=.pv (.int i):=jz h fun _ e q=>j4 q▸e
theorem Ih{v:AV}{i:Str}(h:bP eP v=aa i):v=.pv (.str i):=jz h fun _ e q=>tF q▸e
theorem tI{v:AV}{i:Value}(h:bP gH v=aa i):v=.pv (.const i):=jz h fun _ e q=>n5 q▸e
theorem zq{v:AV}{i:List PV}(h:bP gm v=aa i):v=.pv (.list i):=jz h fun _ e q=>lk q▸e
theorem Ii{v:AV}{i:List UInt8}(h:bP iY v=aa i):v=.pv (.bytes i):=jz h fun _ e q=>pU q▸e
theorem Ij{v:AV}{i:Bool}(h:bP iX v=aa i):v=.pv (.bool i):=jz h fun _ e q=>tE q▸e
def jA(v:Value):Option Addr:=cq fun h=>Hr v h aa
theorem j6{v:Value}{a:Addr}(h:jA v=aa a):v=.ref a:=cF h fun i h=>Hr (motive:=λv=>∀i,Hr v i aa=aa a->v=.ref a) v i (λ_ _ h=>ac h▸rfl) i h
def p6(v:Value):Option String:=cq fun h=>Hn v h aa
theorem p7{v:Value}{a:String}(h:p6 v=aa a):v=.builtin a:=cF h fun i h=>Hn (motive:=λv=>∀i,Hn v i aa=aa a->v=.builtin a) v i (λ_ _ h=>ac h▸rfl) i h
def mi(v:Value):Option String:=cq fun h=>Ht v h aa
theorem ll{v:Value}{a:String}(h:mi v=aa a):v=.type a:=cF h fun i h=>Ht (motive:=λv=>∀i,Ht v i aa=aa a->v=.type a) v i (λ_ _ h=>ac h▸rfl) i h
def j7(p:PV):Option Addr:=aA (gH p) jA
theorem Ik{p:PV}{u:Addr}(h:j7 p=aa u):p=.const (.ref u):=ay h fun v e h=>j6 h▸n5 e
theorem zr{v:AV}{i:Addr}(h:bP j7 v=aa i):v=.pv (.const (.ref i)):=jz h fun _ e q=>Ik q▸e
noncomputable def tJ(p:PV):Option Unit:=PV.casesOn (motive_1:=λ_=>Option Unit) p (aa ()) (λ_=>none) (λ_=>none) (λ_=>none) (λ_=>none) (λ_=>none) (λ_=>none) (λ_=>none) (λ_=>none) (λ_ _=>none)
theorem Il{p:PV}{u:Unit}(h:tJ p=aa u):p=.none:=PV.casesOn (motive_1:=λp=>tJ p=aa u->p=.none) p (λ_=>rfl) (λ_=>aD) (λ_=>aD) (λ_=>aD) (λ_=>aD) (λ_=>aD) (λ_=>aD) (λ_=>aD) (λ_=>aD) (λ_ _=>aD) h
def mj(v:AV):Option Unit:=bP tJ v
theorem Io{v:AV}{u:Unit}(h:mj v=aa u):v=.pv .none:=jz h fun _ e q=>Il q▸e
def dy(v:AV):Option Int:=bP bX v
theorem iZ(h:dy v=aa i):v=.pv (.int i):=Ig h
abbrev Im:=Addr->Option Obj
abbrev ml:=Nat->Option Addr
noncomputable abbrev j8(vs:List Value):Obj:={cls:=.type "tuple",data:=.seq vs.toArray}
noncomputable abbrev bQ(vs:List Value)(n:Nat):Obj:={cls:=.type "list",data:=.seq vs.toArray n}
noncomputable abbrev eS(es:List DictEntry)(n:Nat):Obj:={cls:=.type "dict",data:=.dict es.toArray n}
noncomputable abbrev aU(b:List UInt8):Obj:={cls:=.type "bytearray",data:=.bytearray b.toArray}
noncomputable abbrev aW:Nat:=16777216
def All2{α β:Type}(R:α->β->Prop)(l:List α)(m:List β):Prop:=l.length=m.length/\∀(i:Nat) (a:α) (b:β),l[i]? =aa a->m[i]? =aa b->R a b
theorem All2.mono(h:All2 R l m)(k:∀a b,R a b->S a b):All2 S l m:=⟨h.1,λi a b x y=>k a b (h.2 i a b x y)⟩
theorem All2.nil:All2 R [] []:=⟨rfl,λ_ _ _ x=>nomatch x⟩
theorem All2.cons(h:R a b)(t:All2 R l m):All2 R (a::l) (b::m):=
 ⟨congrArg (· +1) t.1,λi x y e f=>match i,e,f with
  |0,e,f=>by have z0:=ac e;refine eqL z0 ?_;have z1:=ac f;refine eqL z1 ?_;exact h
  |i+1,e,f=>t.2 i x y e f⟩
theorem All2.head(h:All2 R (a::l) (b::m)):R a b:=h.2 0 a b rfl rfl
theorem All2.tail(h:All2 R (a::l) (b::m)):All2 R l m:=⟨Xg h.1,λi x y e f=>h.2 (i+1) x y e f⟩
theorem All2.nil_inv(h:All2 R [] m):m=[]:=List.length_eq_zero_iff.mp h.1.symm
theorem All2.cons_inv(h:All2 R (a::l) m):∃b m',m=b::m'/\R a b/\All2 R l m':=by
 cases m with
 |nil=>exact nomatch h.1
 |cons b m=>exact(i23 b m rfl h.head h.tail)
@[elab_as_elim] theorem All2.nil_el{α β:Type}{R:α->β->Prop}{m:List β}{M:List β->Prop}(h:All2 R [] m)(f:M []):M m:=h.nil_inv▸f
@[elab_as_elim] theorem All2.cons_el{α β:Type}{R:α->β->Prop}{a:α}{l:List α}{m:List β}{M:List β->Prop}(h:All2 R (a::l) m)(f:∀b m',R a b->All2 R l m'->M (b::m')):M m:=by
 cases m with
 |nil=>exact nomatch h.1
 |cons b m=>exact f b m h.head h.tail
theorem All2.append(r:All2 R l m)(r':All2 R l' m'):All2 R (l++l') (m++m'):=by
 refine⟨by simp only[bB,bB,r.1,r'.1],λi a b e f=>?_⟩
 rw[List.getElem?_append] at e f
 by_cases q:i<l.length
 ·rw[if_pos q] at e;rw[if_pos (r.1▸q)] at f;exact r.2 _ _ _ e f
 ·rw[if_neg q] at e;rw[if_neg (r.1▸q),<-r.1] at f;exact r'.2 _ _ _ e f
inductive RepP(P:bq)(I:Im):PV->Value->Prop
 |none:RepP P I .none .none
 |bool {b}:RepP P I (.bool b) (.bool b)
 |int {i t}:RepP P I (.int i) (.int i t)
 |str {s t}:RepP P I (.str s) (.str s t)
 |bytes {b t}:b.length<=aW->RepP P I (.bytes b) (.bytes b.toArray t)
 |barr {b a}:I a=aa (aU b)->b.length<=aW->RepP P I (.barr b) (.ref a)
 |const {v}:fY v=true->RepP P I (.const v) v
 |tuple {l vs a}:I a=aa (j8 vs)->l.length<=aW->l.length=vs.length->(∀(i:Nat) p v,l[i]? =aa p->vs[i]? =aa v->RepP P I p v)->RepP P I (.tuple l) (.ref a)
 |list {l vs a n}:I a=aa (bQ vs n)->l.length<=aW->l.length=vs.length->(∀(i:Nat) p v,l[i]? =aa p->vs[i]? =aa v->RepP P I p v)->RepP P I (.list l) (.ref a)
 |obj {C fs a d es n}:I a=aa (cW C d)->I d=aa (eS es n)->fs.length=es.length->(∀(i:Nat) x p e,fs[i]? =aa (x,p)->es[i]? =aa e->∃t,e.key=.str x t)->
   (∀(i:Nat) x p e,fs[i]? =aa (x,p)->es[i]? =aa e->RepP P I p e.val)->RepP P I (.obj C fs) (.ref a)
theorem RepP.mono(h:∀a o,I a=aa o->J a=aa o)(r:RepP P I p v):RepP P J p v:=by
 induction r with
 |none=>exact .none
 |bool=>exact .bool
 |int=>exact .int
 |str=>exact .str
 |bytes z=>exact .bytes z
 |barr e z=>exact .barr (h _ _ e) z
 |const h=>exact .const h
 |tuple e z l _ r=>exact .tuple (h _ _ e) z l r
 |list e z l _ r=>exact .list (h _ _ e) z l r
 |obj e f l k _ r=>exact .obj (h _ _ e) (h _ _ f) l k r
abbrev RepL(P:bq)(I:Im):List PV->List Value->Prop:=All2 (RepP P I)
inductive RepA(P:bq)(I:Im)(ρ:ml):AV->Value->Prop
 |pv {p v}:RepP P I p v->RepA P I ρ (.pv p) v
 |loc {k a}:ρ k=aa a->RepA P I ρ (.loc k) (.ref a)
 |obj {C fs a d es n}:I a=aa (cW C d)->I d=aa (eS es n)->fs.length=es.length->(∀(i:Nat) x p e,fs[i]? =aa (x,p)->es[i]? =aa e->∃t,e.key=.str x t)->
   (∀(i:Nat) x p e,fs[i]? =aa (x,p)->es[i]? =aa e->RepA P I ρ p e.val)->RepA P I ρ (.obj C fs) (.ref a)
theorem RepA.mono(h:∀a o,I a=aa o->J a=aa o)(g:∀k a,ρ k=aa a->τ k=aa a)(r:RepA P I ρ p v):RepA P J τ p v:=by
 induction r with
 |pv r=>exact .pv (r.mono h)
 |loc e=>exact .loc (g _ _ e)
 |obj e f l k _ r=>exact .obj (h _ _ e) (h _ _ f) l k r
abbrev RepAF(P:bq)(I:Im)(ρ:ml):List (Str×AV)->List DictEntry->Prop:=All2 fun f e=>(∃t,e.key=.str f.1 t)/\RepA P I ρ f.2 e.val
section
variable{P:bq}{I:Im}{ρ:ml}{v:Value}
def zs(P:bq)(I:Im)(v:Value)(p:PV):Prop:=PV.casesOn (motive_1:=λ_=>Prop) p (v=.none) (λb=>v=.bool b) (λi=>∃t,v=.int i t) (λx=>∃t,v=.str x t) (λb=>∃t,v=.bytes b.toArray t/\b.length<=aW)
 (λb=>∃a,v=.ref a/\I a=aa (aU b)/\b.length<=aW) (λu=>v=u/\fY u=true) (λl=>∃a vs,v=.ref a/\I a=aa (j8 vs)/\l.length<=aW/\RepL P I l vs)
 (λl=>∃a vs n,v=.ref a/\I a=aa (bQ vs n)/\l.length<=aW/\RepL P I l vs)
 (λC fs=>∃a d es n,v=.ref a/\I a=aa (cW C d)/\I d=aa (eS es n)/\All2 (λf e=>(∃t,e.key=.str f.1 t)/\RepP P I f.2 e.val) fs es)
theorem RepP.view(r:RepP P I p v):zs P I v p:=
 RepP.casesOn (motive:=λp v _=>zs P I v p) r rfl rfl ⟨_,rfl⟩ ⟨_,rfl⟩ (λz=>⟨_,rfl,z⟩) (λi z=>⟨_,rfl,i,z⟩) (λh=>⟨rfl,h⟩) (λi z l r=>⟨_,_,rfl,i,z,l,r⟩) (λi z l r=>⟨_,_,_,rfl,i,z,l,r⟩)
  (λi j l k r=>⟨_,_,_,_,rfl,i,j,l,λn f e x y=>⟨k n f.1 f.2 e x y,r n f.1 f.2 e x y⟩⟩)
def zt(P:bq)(I:Im)(ρ:ml)(v:Value)(a:AV):Prop:=AV.casesOn (motive_1:=λ_=>Prop) a (λp=>RepP P I p v) (λk=>∃a,v=.ref a/\ρ k=aa a)
 (λC fs=>∃a d es n,v=.ref a/\I a=aa (cW C d)/\I d=aa (eS es n)/\RepAF P I ρ fs es)
theorem RepA.view(r:RepA P I ρ a v):zt P I ρ v a:=
 RepA.casesOn (motive:=λa v _=>zt P I ρ v a) r (λr=>r) (λe=>⟨_,rfl,e⟩) (λi j l k r=>⟨_,_,_,_,rfl,i,j,l,λn f e x y=>⟨k n f.1 f.2 e x y,r n f.1 f.2 e x y⟩⟩)
theorem RepP.int_inv(r:RepP P I (.int i) v):∃t,v=.int i t:=r.view
theorem RepP.bool_inv(r:RepP P I (.bool b) v):v=.bool b:=r.view
theorem RepP.none_inv(r:RepP P I .none v):v=.none:=r.view
theorem RepP.str_inv(r:RepP P I (.str x) v):∃t,v=.str x t:=r.view
theorem RepP.bytes_inv(r:RepP P I (.bytes b) v):∃t,v=.bytes b.toArray t/\b.length<=aW:=r.view
theorem RepP.barr_inv(r:RepP P I (.barr b) v):∃a,v=.ref a/\I a=aa (aU b)/\b.length<=aW:=r.view
theorem RepP.const_inv(r:RepP P I (.const u) v):v=u/\fY u=true:=r.view
theorem RepP.tuple_inv(r:RepP P I (.tuple l) v):∃a vs,v=.ref a/\I a=aa (j8 vs)/\l.length<=aW/\RepL P I l vs:=r.view
theorem RepP.list_inv(r:RepP P I (.list l) v):∃a vs n,v=.ref a/\I a=aa (bQ vs n)/\l.length<=aW/\RepL P I l vs:=r.view
theorem RepA.pv_inv(r:RepA P I ρ (.pv p) v):RepP P I p v:=r.view
theorem RepA.loc_inv(r:RepA P I ρ (.loc k) v):∃a,v=.ref a/\ρ k=aa a:=r.view
variable{M:Value->Prop}
@[elab_as_elim] theorem RepP.int_el(r:RepP P I (.int i) v)(f:∀t,M (.int i t)):M v:=r.int_inv.elim fun t e=>e▸f t
@[elab_as_elim] theorem RepP.bool_el(r:RepP P I (.bool b) v)(f:M (.bool b)):M v:=r.bool_inv▸f
@[elab_as_elim] theorem RepP.none_el(r:RepP P I .none v)(f:M .none):M v:=r.none_inv▸f
@[elab_as_elim] theorem RepP.str_el(r:RepP P I (.str x) v)(f:∀t,M (.str x t)):M v:=r.str_inv.elim fun t e=>e▸f t
@[elab_as_elim] theorem RepP.const_el(r:RepP P I (.const u) v)(f:fY u=true->M u):M v:=r.const_inv.1▸f r.const_inv.2
@[elab_as_elim] theorem RepA.loc_el(r:RepA P I ρ (.loc k) v)(f:∀a,ρ k=aa a->M (.ref a)):M v:=r.loc_inv.elim fun a e=>e.1▸f a e.2
theorem RepA.pvx(r:RepA P I ρ a v)(e:eQ a=aa p):RepP P I p v:=(jy e▸r:RepA P I ρ (.pv p) v).view
@[elab_as_elim] theorem RepP.int_at(r:RepP P I p v)(e:bX p=aa i)(f:∀t,M (.int i t)):M v:=(j4 e▸r:RepP P I (.int i) v).int_el f
@[elab_as_elim] theorem RepP.boo_at(r:RepP P I p v)(e:iX p=aa b)(f:M (.bool b)):M v:=(tE e▸r:RepP P I (.bool b) v).bool_el f
@[elab_as_elim] theorem RepP.str_at(r:RepP P I p v)(e:eP p=aa x)(f:∀t,M (.str x t)):M v:=(tF e▸r:RepP P I (.str x) v).str_el f
@[elab_as_elim] theorem RepP.byt_at(r:RepP P I p v)(e:iY p=aa b)(f:∀t,b.length<=aW->M (.bytes b.toArray t)):M v:=(pU e▸r:RepP P I (.bytes b) v).bytes_inv.elim fun t e=>e.1▸f t e.2
@[elab_as_elim] theorem RepP.bar_at(r:RepP P I p v)(e:mh p=aa b)(f:∀a,I a=aa (aU b)->b.length<=aW->M (.ref a)):M v:=(tG e▸r:RepP P I (.barr b) v).barr_inv.elim fun t e=>e.1▸f t e.2.1 e.2.2
@[elab_as_elim] theorem RepP.cst_at(r:RepP P I p v)(e:gH p=aa u)(f:fY u=true->M u):M v:=(n5 e▸r:RepP P I (.const u) v).const_el f
@[elab_as_elim] theorem RepP.lst_at(r:RepP P I p v)(e:gm p=aa l)(f:∀a vs n,I a=aa (bQ vs n)->l.length<=aW->RepL P I l vs->M (.ref a)):M v:=(lk e▸r:RepP P I (.list l) v).list_inv.elim fun a e=>e.elim fun vs e=>e.elim fun n e=>e.1▸f a vs n e.2.1 e.2.2.1 e.2.2.2
@[elab_as_elim] theorem RepP.tup_at(r:RepP P I p v)(e:j5 p=aa l)(f:∀a vs,I a=aa (j8 vs)->l.length<=aW->RepL P I l vs->M (.ref a)):M v:=(Ic e▸r:RepP P I (.tuple l) v).tuple_inv.elim fun a e=>e.elim fun vs e=>e.1▸f a vs e.2.1 e.2.2.1 e.2.2.2
@[elab_as_elim] theorem RepA.int_at(r:RepA P I ρ a v)(e:dy a=aa i)(f:∀t,M (.int i t)):M v:=(iZ e▸r:RepA P I ρ (.pv (.int i)) v).pv_inv.int_el f
@[elab_as_elim] theorem RepA.str_at(r:RepA P I ρ a v)(e:bP eP a=aa i)(f:∀t,M (.str i t)):M v:=(Ih e▸r:RepA P I ρ (.pv (.str i)) v).pv_inv.str_el f
@[elab_as_elim] theorem RepA.boo_at(r:RepA P I ρ a v)(e:bP iX a=aa i)(f:M (.bool i)):M v:=(Ij e▸r:RepA P I ρ (.pv (.bool i)) v).pv_inv.bool_el f
@[elab_as_elim] theorem RepA.byt_at(r:RepA P I ρ a v)(e:bP iY a=aa b)(f:∀t,b.length<=aW->M (.bytes b.toArray t)):M v:=(Ii e▸r:RepA P I ρ (.pv (.bytes b)) v).pv_inv.bytes_inv.elim fun t e=>e.1▸f t e.2
@[elab_as_elim] theorem RepA.cst_at(r:RepA P I ρ a v)(e:bP gH a=aa u)(f:fY u=true->M u):M v:=(tI e▸r:RepA P I ρ (.pv (.const u)) v).pv_inv.const_el f
@[elab_as_elim] theorem RepA.ref_at(r:RepA P I ρ a v)(e:bP j7 a=aa u)(f:fY (.ref u)=true->M (.ref u)):M v:=(zr e▸r:RepA P I ρ (.pv (.const (.ref u))) v).pv_inv.const_el f
@[elab_as_elim] theorem RepA.non_at(r:RepA P I ρ a v)(e:mj a=aa u)(f:M .none):M v:=(Io e▸r:RepA P I ρ (.pv .none) v).pv_inv.none_el f
@[elab_as_elim] theorem RepA.loc_at(r:RepA P I ρ a v)(e:eR a=aa k)(f:∀a,ρ k=aa a->M (.ref a)):M v:=(pW e▸r:RepA P I ρ (.loc k) v).loc_el f
@[elab_as_elim] theorem RepP.obj_at(r:RepP P I p v)(e:pV p=aa q)(f:∀a d es n,I a=aa (cW q.1 d)->I d=aa (eS es n)->All2 (λf e=>(∃t,e.key=.str f.1 t)/\RepP P I f.2 e.val) q.2 es->M (.ref a)):M v:=
 (zn e▸r:RepP P I (.obj q.1 q.2) v).view.elim fun a h=>h.elim fun d h=>h.elim fun es h=>h.elim fun n h=>h.1▸f a d es n h.2.1 h.2.2.1 h.2.2.2
@[elab_as_elim] theorem RepA.obj_at(r:RepA P I ρ p v)(e:pX p=aa q)(f:∀a d es n,I a=aa (cW q.1 d)->I d=aa (eS es n)->RepAF P I ρ q.2 es->M (.ref a)):M v:=
 (zo e▸r:RepA P I ρ (.obj q.1 q.2) v).view.elim fun a h=>h.elim fun d h=>h.elim fun es h=>h.elim fun n h=>h.1▸f a d es n h.2.1 h.2.2.1 h.2.2.2
theorem RepA.onv{G:Prop}(r:RepA P I ρ a v)(e:bP g a=aa x)(f:∀p,RepP P I p v->g p=aa x->G):G:=ay e fun p e h=>f p (r.pvx e) h
end
abbrev St:=List (Nat×AObj)
abbrev aw:=List (Str×AV)
inductive Fl where
 |next |cont
 |ret (v:AV)
structure Spec where
 need:Nat
 run:List AV->List (Str×AV)->St->(AV->St->Prop)->Prop
structure aI where
 glob:List (Str×PV)
 cattr:List (Addr×List (Str×PV))
 cmeth:List (Addr×List (Str×Addr))
 cprop:List (Addr×List (Str×Addr))
 cfld:List (Addr×List Str)
 bmeth:List (Nat×List (Str×String))
 idict:List (Addr×List (Int×Str))
 fns:List (Addr×Spec)
 bls:List (String×Spec)
 tys:List (String×Spec)
 sites:List (Nat×Nat)
 bud:Nat
structure FCtx where
 scope:Scope
 cells:List (Str×AV)
noncomputable def Ip(p:Pos):Nat:=((p.line*1000+p.col)*10000+p.endLine)*1000+p.endCol
noncomputable def zu:Const->Option PV
 | .none=>aa .none
 | .bool b=>aa (.bool b)
 | .int i=>aa (.int i)
 | .str s=>aa (.str s)
 | .bytes b=>match dN b.length 1000 with
  |true=>aa (.bytes b)
  |false=>none
 |_=>none
def mm(T:aI)(C:FCtx)(env:aw)(x:Str):Option AV:=aA (C.scope.names.lookup x) fun k=>s7 (motive:=λ_=>Option AV) k (env.lookup x) (C.cells.lookup x) (C.cells.lookup x) none (aA (T.glob.lookup x) fun p=>aa (.pv p))
noncomputable def aX(σ:St)(k:Nat):Option AObj:=σ.lookup k
noncomputable def eT(σ:St)(k:Nat)(o:AObj):St:=σ.map fun p=>match a7 p.1 k with
 |true=>(k,o)
 |false=>p
noncomputable def bF(σ:St):List Nat:=σ.map (·.1)
noncomputable def has(ks:List Nat)(k:Nat):Bool:=ks.any (a7 k)
noncomputable def hJ(ks:List Nat):Nat->AV->Bool
 |0,_=>false
 |n+1,v=>match v with
  | .pv _=>true
  | .loc k=>has ks k
  | .obj _ fs=>fs.all fun f=>hJ ks n f.2
def n8(ks:List Nat):AObj->Bool
 | .list _=>true
 | .ba _=>true
 | .inst _ kd=>has ks kd
 | .attrs fs=>fs.all fun f=>hJ ks 9 f.2
noncomputable def p8:Nat->AV->List Nat
 |0,_=>[]
 |n+1,v=>match v with
  | .pv _=>[]
  | .loc k=>[k]
  | .obj _ fs=>fs.flatMap fun f=>p8 n f.2
def Iq:AObj->List Nat
 | .list _=>[]
 | .ba _=>[]
 | .inst _ kd=>[kd]
 | .attrs fs=>fs.flatMap fun f=>p8 9 f.2
noncomputable def p9(σ:St):Nat->List Nat->List Nat->List Nat
 |0,_,ma=>ma
 |n+1,todo,ma=>match todo with
  | []=>ma
  |k::r=>match has ma k with
   |true=>p9 σ n r ma
   |false=>match aX σ k with
    |some o=>p9 σ n (Iq o++r) (k::ma)
    |none=>p9 σ n r (k::ma)
def part(σ:St)(ks:List Nat):St:=σ.filter fun p=>has ks p.1
def n9(σ σf:St):St:=σ.map (λp=>match aX σf p.1 with |some o=>(p.1,o)|none=>p)++σf.filter fun p=>!has (bF σ) p.1
def oa(σ:St)(vs:List AV)(kw:List (Str×AV)):Bool:=
 vs.all (hJ (bF σ) 9)&&kw.all (λf=>hJ (bF σ) 9 f.2)&&σ.all fun p=>n8 (bF σ) p.2
def tK(σ σf:St)(Q:AV->St->Prop)(r:AV)(σf':St):Prop:=gd ((σf'.all fun p=>has (bF σf) p.1||!has (bF σ) p.1)&&(bF σf).all (has (bF σf'))) (Q r (n9 σ σf'))
def Spec.callIn(S:Spec)(vs:List AV)(kw:List (Str×AV))(σ σf:St)(Q:AV->St->Prop):Prop:=gd (oa σf vs kw) (S.run vs kw σf (tK σ σf Q))
def Spec.call(S:Spec)(bud:Nat)(vs:List AV)(kw:List (Str×AV))(σ:St)(Q:AV->St->Prop):Prop:=
 gd (dN (S.need+8) bud) (S.callIn vs kw σ (part σ (p9 σ 60 (vs.flatMap (p8 9)++kw.flatMap fun f=>p8 9 f.2) [])) Q)
def qa(T:aI)(f:Value):Option Spec:=dP (jA f) (λa=>T.fns.lookup a) (dP (p6 f) (λn=>T.bls.lookup n) (aA (mi f) fun n=>T.tys.lookup n))
def eK(T:aI)(f:Value)(vs:List AV)(kw:List (Str×AV))(σ:St)(Q:AV->St->Prop):Prop:=ag (qa T f) fun S=>S.call T.bud vs kw σ Q
noncomputable def zv(p:PV):Option Nat:=PV.casesOn (motive_1:=λ_=>Option Nat) p none (λ_=>none) (λ_=>aa 5) (λ_=>aa 0) (λ_=>aa 1) (λ_=>aa 2) (λ_=>none) (λ_=>none) (λ_=>aa 3) (λ_ _=>none)
noncomputable def Ir(o:AObj):Option Nat:=AObj.casesOn (motive:=λ_=>Option Nat) o (λ_=>aa 3) (λ_=>aa 2) (λ_ _=>none) (λ_=>none)
def lm(σ:St)(k:Nat):Option (List PV):=aA (aX σ k) zp
def jB(σ:St)(k:Nat):Option (List UInt8):=aA (aX σ k) pY
def qb(σ:St)(k:Nat):Option (Addr×Nat):=aA (aX σ k) n6
def qe(σ:St)(k:Nat):Option (List (Str×AV)):=aA (aX σ k) n7
theorem j9(h:lm σ k=aa l):aX σ k=aa (.list l):=ay h fun _ e h=>Ie h▸e
theorem mn(h:jB σ k=aa l):aX σ k=aa (.ba l):=ay h fun _ e h=>tH h▸e
theorem tL(h:qb σ k=aa p):aX σ k=aa (.inst p.1 p.2):=ay h fun _ e h=>pZ h▸e
theorem tM(h:qe σ k=aa l):aX σ k=aa (.attrs l):=ay h fun _ e h=>p5 h▸e
def zw(σ:St)(v:AV):Option Nat:=dP (eQ v) zv (aA (eR v) fun k=>aA (aX σ k) Ir)
def qf(σ:St)(v:AV):Option (Addr×(Str->Option AV)):=dP (bP pV v) (λq=>aa (q.1,λx=>(q.2.lookup x).map .pv))
 (dP (pX v) (λq=>aa (q.1,λx=>q.2.lookup x)) (aA (eR v) fun k=>aA (qb σ k) fun i=>aA (qe σ i.2) fun fs=>aa (i.1,λx=>fs.lookup x)))
def kb(σ:St)(v:AV):Option Addr:=aA (qf σ v) fun i=>aa i.1
noncomputable def mo(l:List Str)(x:Str):Bool:=l.any (·== x)
def qg(T:aI)(C:Addr)(x:Str):Bool:=dZ (T.cfld.lookup C) fun l=>mo l x
noncomputable def fo{β:Type}(t:List (Nat×List (Str×β)))(a:Nat)(x:Str):Option β:=(t.lookup a).bind (·.lookup x)
def tN(T:aI)(σ:St)(o:AV)(m:Str):Option (Value×List AV):=dP (bP j7 o) (λC=>aA (fo T.cattr C m) fun p=>aA (gH p) fun f=>aa (f,[]))
 (dP (qf σ o) (λi=>bW (i.2 m).isNone (aA (fo T.cmeth i.1 m) fun f=>aa (.ref f,[o]))) (aA (zw σ o) fun k=>aA (fo T.bmeth k m) fun id=>aa (.builtin id,[o])))
def zx(T:aI)(o:AV)(x:Str)(σ:St)(Q:AV->St->Prop):Prop:=cu (bP j7 o) (λC=>ag (fo T.cattr C x) fun p=>Q (.pv p) σ)
 (ag (qf σ o) fun i=>cu (fo T.cprop i.1 x) (λg=>eK T (.ref g) [o] [] σ Q) (gd (qg T i.1 x) (ag (i.2 x) fun v=>Q v σ)))
noncomputable def kg:List AV->Option (List PV)
 | []=>aa []
 |v::r=>aA (eQ v) fun p=>aA (kg r) fun l=>aa (p::l)
def i4(T:aI)(p:Pos)(l:List PV)(σ:St)(Q:AV->St->Prop):Prop:=cu (T.sites.lookup (Ip p)) (λk=>cB (has (bF σ) k) False (Q (.loc k) (σ++[(k,.list l)]))) (Q (.pv (.list l)) σ)
noncomputable def fz(a b:Int):Bool:= !(decide (iL a>tx)&&decide (iL b>tx)&&bV.Int.intTooBig (iL a+iL b))
theorem zy(h:fz a b=true):IntMulOk a b:=by
 unfold fz at h
 unfold IntMulOk
 simp only[sF] at h
 rw[h];exact pd
noncomputable def nn:Int->Bool
 | .ofNat _=>true
 | .negSucc _=>false
theorem qh(h:nn y=true):0<=y:=by
 cases y with
 |ofNat n=>exact ee n
 |negSucc n=>exact bn h
noncomputable def mq(y:Int):Bool:=(match y with | .ofNat 0=>false |_=>true)&&dN (y.natAbs.log2+1) 9000
theorem tO(h:mq y=true):y≠0/\y.natAbs.log2<9000:=by
 unfold mq at h
 replace h:=b2 h
 exact⟨λe=>by subst e;exact absurd h.1 (by decide),dv h.2⟩
def cf(x y:Int):Bool:=nn y&&dN (iL x+y.toNat) 134217728
theorem zz(h:cf x y=true):0<=y/\(iL x:Int)+y<=2^27:=by
 unfold cf at h
 simp only[bC] at h
 have h1:=qh h.1
 have h2:=dv h.2
 exact⟨h1,by
        have :(2:Int)^27=134217728:=by decide
        simp only[this];exact f3 1 [(1,.p v1 v2,.n 134217728),(1,v0,v2)] (.p v1 v0) (.n 134217728) rfl (a:=y) (b:=↑(iL x)) (c:=↑y.toNat) (aF h2) iU⟩
def tP(x y:Int):Bool:=nn y&&dN (iL x*y.toNat) 134217728
theorem zA(h:tP x y=true):0<=y/\(iL x:Int)*y<=2^27:=by
 unfold tP at h
 simp only[bC] at h
 have h1:=qh h.1
 have h2:=dv h.2
 refine⟨h1,?_⟩
 have e:y=(y.toNat:Int):=(l4 h1).symm
 rw[e,show(2:Int)^27=((134217728:Nat):Int) from by decide,<-Int.natCast_mul]
 exact Int.ofNat_le.mpr h2
def oe(x:List UInt8)(y:Int):Bool:= !x.isEmpty&&nn y&&dN y.toNat 1048576&&dN x.length 16
theorem mr(h:oe x y=true):x≠[]/\ -1048576<=y/\y<=1048576/\x.length<=16:=by
 unfold oe at h
 simp only[bC,bC,bC] at h
 have h1:=qh h.1.1.2
 have h2:=dv h.1.2
 exact(eC (λe=>by subst e;exact absurd h.1.1.1 (by decide)) (f1 1 [(1,.n 0,v0)] (.g (.n 1048576)) v0 rfl h1) (f2 1 [(1,v1,.n 1048576),(1,v0,v1)] v0 (.n 1048576) rfl (aF h2) iU) (dv h.2))
theorem nt(h:(!b)=true):b=false:=by
 cases b with
 |true=>exact bn h
 |false=>rfl
noncomputable def tQ(op:k8):Option Unit:=pA (motive:=λ_=>Option Unit) op (aa ()) none none none none none none none none none none none none
theorem It(h:tQ op=aa u):op=.Add:=pA (motive:=λop=>tQ op=aa u->op=.Add) op (λ_=>rfl) aD aD aD aD aD aD aD aD aD aD aD aD h
def zB(op:k8)(a b:AV):Option (List PV×List PV):=aA (tQ op) fun _=>aA (bP gm a) fun x=>aA (bP gm b) fun y=>aa (x,y)
theorem Iu(h:zB op a b=aa q):op=.Add/\a=.pv (.list q.1)/\b=.pv (.list q.2):=
 ay h fun u e0 h=>ay h fun x e1 h=>ay h fun y e2 h=>bl (It e0) (ac h▸zq e1) (ac h▸zq e2)
def kh(e:Expr):Option (Expr×Str×Pos):=cq fun h=>Gx e h fun o m ap=>aa (o,m,ap)
theorem og(h:kh e=aa q):e=.Attribute q.1 q.2.1 q.2.2:=cF h fun i h=>Gx (motive_1:=λe=>∀i,(Gx e i fun o m ap=>aa (o,m,ap))=aa q->e=.Attribute q.1 q.2.1 q.2.2) e i (λ_ _ _ _ h=>ac h▸rfl) i h
def ln(e:Expr):Option (Option Expr×Option Expr×Option Expr×Pos):=cq fun h=>GD e h fun a b c p=>aa (a,b,c,p)
theorem qi(h:ln e=aa q):e=.Slice q.1 q.2.1 q.2.2.1 q.2.2.2:=cF h fun i h=>GD (motive_1:=λe=>∀i,(GD e i fun a b c p=>aa (a,b,c,p))=aa q->e=.Slice q.1 q.2.1 q.2.2.1 q.2.2.2) e i (λ_ _ _ _ _ h=>ac h▸rfl) i h
def jC(e:Expr):Option (Str×Pos):=cq fun h=>GC e h fun x p=>aa (x,p)
theorem lp(h:jC e=aa q):e=.Name q.1 q.2:=cF h fun i h=>GC (motive_1:=λe=>∀i,(GC e i fun x p=>aa (x,p))=aa q->e=.Name q.1 q.2) e i (λ_ _ _ h=>ac h▸rfl) i h
def lq(e:Expr):Option (Expr×List Expr×List il×Pos):=cq fun h=>Gz e h fun f as ks p=>aa (f,as,ks,p)
theorem mu(h:lq e=aa q):e=.Call q.1 q.2.1 q.2.2.1 q.2.2.2:=cF h fun i h=>Gz (motive_1:=λe=>∀i,(Gz e i fun f as ks p=>aa (f,as,ks,p))=aa q->e=.Call q.1 q.2.1 q.2.2.1 q.2.2.2) e i (λ_ _ _ _ _ h=>ac h▸rfl) i h
def qj(e:Expr):Option (Expr×Expr×Pos):=cq fun h=>GF e h fun o i p=>aa (o,i,p)
theorem zC(h:qj e=aa q):e=.Subscript q.1 q.2.1 q.2.2:=cF h fun i h=>GF (motive_1:=λe=>∀i,(GF e i fun o i p=>aa (o,i,p))=aa q->e=.Subscript q.1 q.2.1 q.2.2) e i (λ_ _ _ _ h=>ac h▸rfl) i h
def tR(e:Expr):Option (Expr×List kW×Scope×Pos):=cq fun h=>GB e h fun e g s p=>aa (e,g,s,p)
theorem Iv(h:tR e=aa q):e=.ListComp q.1 q.2.1 q.2.2.1 q.2.2.2:=cF h fun i h=>GB (motive_1:=λe=>∀i,(GB e i fun e g s p=>aa (e,g,s,p))=aa q->e=.ListComp q.1 q.2.1 q.2.2.1 q.2.2.2) e i (λ_ _ _ _ _ h=>ac h▸rfl) i h
def lr(e:Expr):Option (List Expr×Nat×Pos):=cq fun h=>GG e h fun es k p=>aa (es,k,p)
theorem tS(h:lr e=aa q):e=.Tuple q.1 q.2.1 q.2.2:=cF h fun i h=>GG (motive_1:=λe=>∀i,(GG e i fun es k p=>aa (es,k,p))=aa q->e=.Tuple q.1 q.2.1 q.2.2) e i (λ_ _ _ _ h=>ac h▸rfl) i h
def zD(e:Expr):Option (BoolOp×List Expr×Pos):=cq fun h=>Gy e h fun op es p=>aa (op,es,p)
theorem Iw(h:zD e=aa q):e=.BoolOp q.1 q.2.1 q.2.2:=cF h fun i h=>Gy (motive_1:=λe=>∀i,(Gy e i fun op es p=>aa (op,es,p))=aa q->e=.BoolOp q.1 q.2.1 q.2.2) e i (λ_ _ _ _ h=>ac h▸rfl) i h
def zE(e:Expr):Option (List (Option Expr)×List Expr×Pos):=cq fun h=>GA e h fun ks vs p=>aa (ks,vs,p)
theorem Ix(h:zE e=aa q):e=.Dict q.1 q.2.1 q.2.2:=cF h fun i h=>GA (motive_1:=λe=>∀i,(GA e i fun ks vs p=>aa (ks,vs,p))=aa q->e=.Dict q.1 q.2.1 q.2.2) e i (λ_ _ _ _ h=>ac h▸rfl) i h
def kj(e:Expr):Option Str:=aA (jC e) fun q=>aa q.1
theorem oh(h:kj e=aa x):∃p,e=.Name x p:=ay h fun q e h=>⟨q.2,ac h▸lp e⟩
noncomputable def dF{α:Type}:List α->Option (α×List α):=iN none fun a r _=>aa (a,r)
theorem eU(h:dF l=aa q):l=q.1::q.2:=iN (motive:=λl=>dF l=aa q->l=q.1::q.2) aD (λ_ _ _ h=>ac h▸rfl) l h
noncomputable def cm{α:Type}:List α->Bool:=iN true fun _ _ _=>false
theorem cX(h:cm l=true):l=[]:=iN (motive:=λl=>cm l=true->l=[]) (λ_=>rfl) (λ_ _ _ h=>bn h) l h
noncomputable def iA{α:Type}:Option α->Bool:=Hi true fun _=>false
theorem ls(h:iA l=true):l=none:=Hi (motive:=λl=>iA l=true->l=none) (λ_=>rfl) (λ_ h=>bn h) l h
def fA{α:Type}(l:List α):Option α:=aA (dF l) fun q=>bW (cm q.2) (aa q.1)
theorem gn(h:fA l=aa e):l=[e]:=ay h fun q e h=>bU h fun g h=>ac h▸cX g▸eU e
def mv{α:Type}(l:List α):Option (α×α):=aA (dF l) fun q=>aA (fA q.2) fun b=>aa (q.1,b)
theorem qk(h:mv l=aa q):l=[q.1,q.2]:=ay h fun p e h=>ay h fun b g h=>ac h▸gn g▸eU e
def zF(e:Expr):Option (Option Expr×Option Expr):=aA (ln e) fun q=>bW (iA q.2.2.1) (aa (q.1,q.2.1))
theorem Iy(h:zF e=aa q):∃p,e=.Slice q.1 q.2 none p:=ay h fun q e h=>bU h fun g h=>⟨q.2.2.2,ac h▸ls g▸qi e⟩
def zG(op:k8)(x y:Int)(Q:PV->Prop):Prop:=pA (motive:=λ_=>Prop) op
 (Q (.int (x+y))) (Q (.int (x-y))) (gd (fz x y) (Q (.int (x*y)))) False False (gd (mq y) (Q (.int (x.fmod y)))) (gd (tP x y) (Q (.int (x^y.toNat)))) (gd (cf x y) (Q (.int (x*2^y.toNat)))) (gd (nn y) (Q (.int (x.fdiv (2^y.toNat)))))
 (Q (.int (yh x y))) False (Q (.int (nz x y))) (gd (mq y) (Q (.int (x.fdiv y))))
noncomputable def tT(op:k8):Option Unit:=pA (motive:=λ_=>Option Unit) op none none (aa ()) none none none none none none none none none none
theorem Iz(h:tT op=aa u):op=.Mult:=pA (motive:=λop=>tT op=aa u->op=.Mult) op aD aD (λ_=>rfl) aD aD aD aD aD aD aD aD aD aD h
def zH(op:k8)(a b:AV)(σ:St)(Q:AV->St->Prop):Prop:=ag (dy b) fun y=>cu (dy a) (λx=>zG op x y fun p=>Q (.pv p) σ) (ag (bP iY a) fun x=>ag (tT op) fun _=>gd (oe x y) (Q (.pv (.bytes ((fH y.toNat x).flatten))) σ))
def tU(op:k8)(a b:AV)(σ:St)(Q:AV->St->Prop):Prop:=ag (dy a) fun x=>ag (dy b) fun y=>pA (motive:=λ_=>Prop) op False (Q (.pv (.int (x-y))) σ) (gd (fz x y) (Q (.pv (.int (x*y))) σ)) False False False False False False False False False False
def zJ(op:UnaryOp)(a:AV)(σ:St)(Q:AV->St->Prop):Prop:=ag (dy a) fun x=>UnaryOp.casesOn (motive:=λ_=>Prop) op (Q (.pv (.int (pf x))) σ) False False (Q (.pv (.int (-x))) σ)
def tV(p q:PV):Option Bool:=dP (bX p) (λx=>aA (bX q) fun y=>aa (x == y)) (dP (iX p) (λx=>aA (iX q) fun y=>aa (x == y)) (aA (eP p) fun x=>aA (eP q) fun y=>aa (x == y)))
noncomputable def tW(x:Int):List PV->Option Bool:=iN (aa false) fun b _ ih=>aA (bX b) fun y=>aA ih fun z=>aa (y == x||z)
def fP(p:PV):Option Int:=dP (bX p) aa (aA (iX p) fun b=>aa (cond b 1 0))
noncomputable def isNone:AV->Option Bool
 | .pv p=>PV.casesOn (motive_1:=λ_=>Option Bool) p (aa true) (λ_=>aa false) (λ_=>aa false) (λ_=>aa false) (λ_=>aa false) (λ_=>aa false) (λ_=>none) (λ_=>aa false) (λ_=>aa false) (λ_ _=>aa false)
 |_=>aa false
def IA(p q:PV)(Q:List Int->List Int->Prop):Prop:=ag (gm p) fun l=>ag (gm q) fun m=>∃xs ys:List Int,l=xs.map .int/\m=ys.map .int/\Q xs ys
def zK(op:nA)(p q:PV)(Q:Bool->Prop):Prop:=Gs (motive:=λ_=>Prop) op
 (ag (tV p q) Q) (cu (tV p q) (λr=>Q (!r)) (IA p q fun xs ys=>Q (!decide (xs=ys)))) (ag (fP p) fun x=>ag (bX q) fun y=>Q (decide (x<y))) (ag (bX p) fun x=>ag (fP q) fun y=>Q (decide (x<=y)))
 False (ag (bX p) fun x=>ag (bX q) fun y=>Q (decide (x>=y))) False False (cu (eP q) (λy=>ag (eP p) fun x=>Q (nK y x)) (ag (j5 q) fun l=>ag (bX p) fun x=>ag (tW x l) Q)) False
noncomputable def tX(op:nA):Option Bool:=Gs (motive:=λ_=>Option Bool) op none none none none none none (aa false) (aa true) none none
theorem IB:tX op=aa n->op=cond n .IsNot .Is:=Gs (motive:=λop=>tX op=aa n->op=cond n .IsNot .Is) op aD aD aD aD aD aD (λh=>ac h▸rfl) (λh=>ac h▸rfl) aD aD
def qm(op:nA)(a b:AV)(Q:Bool->Prop):Prop:=cu (tX op) (λn=>ag (mj b) fun _=>ag (isNone a) fun r=>Q (cond n (!r) r)) (ag (eQ a) fun p=>ag (eQ b) fun q=>zK op p q Q)
def kk(a:AV)(Q:Bool->Prop):Prop:=cu (mj a) (λ_=>Q false) (ag (bP iX a) Q)
noncomputable def cI{α:Type}(l:List α)(i:Int):Option α:=match decide (0<=i) with
 |true=>l[i.toNat]?
 |false=>match decide (-(l.length:Int)<=i) with
  |true=>l[((l.length:Int)+i).toNat]?
  |false=>none
noncomputable def mw(n:Nat)(v:Option Int)(d:Nat):Nat:=match v with
 |none=>d
 |some i=>cond (decide (i<0)) ((n:Int)+i).toNat (min i.toNat n)
def slice{α:Type}(lo hi:Option Int)(l:List α):List α:=(l.take (mw l.length hi l.length)).drop (mw l.length lo 0)
def km(σ:St)(o:AV):Option (List UInt8):=dP (eQ o) (λp=>dP (iY p) aa (mh p)) (aA (eR o) (jB σ))
def qn(σ:St)(o:AV):Option (List PV):=dP (eQ o) gm (aA (eR o) (lm σ))
theorem IC(h:km σ o=aa l):o=.pv (.bytes l)\/o=.pv (.barr l)\/∃k,o=.loc k/\aX σ k=aa (.ba l):=
 dE h (λp e h=>dE h (λx e1 h=>.inl (ac h▸pU e1▸jy e)) fun _ h=>.inr (.inl (tG h▸jy e))) fun _ h=>ay h fun k e h=>.inr (.inr (i12 k (pW e) (mn h)))
def zM(T:aI)(o:AV)(i:Int)(σ:St)(Q:AV->St->Prop):Prop:=cu (qn σ o) (λl=>ag (cI l i) fun p=>Q (.pv p) σ)
 (cu (km σ o) (λb=>ag (cI b i) fun u=>Q (.pv (.int (u.toNat:Int))) σ) (ag (bP j7 o) fun a=>ag (T.idict.lookup a) fun d=>ag (d.lookup i) fun s=>Q (.pv (.str s)) σ))
def zN(T:aI)(o i:AV)(σ:St)(Q:AV->St->Prop):Prop:=cu (kb σ o) (λC=>ag (fo T.cmeth C "__getitem__") fun g=>eK T (.ref g) [o,i] [] σ Q) (ag (dy i) fun i=>zM T o i σ Q)
def tY(v:AV):Option (Option Int):=dP (mj v) (λ_=>aa none) (aA (dy v) fun i=>aa (aa i))
def zO(T:aI)(p:Pos)(o lo hi:AV)(σ:St)(Q:AV->St->Prop):Prop:=ag (tY lo) fun l=>ag (tY hi) fun h=>
 cu (qn σ o) (λxs=>i4 T p (slice l h xs) σ Q) (ag (eR o) fun k=>ag (jB σ k) fun b=>Q (.pv (.barr (slice l h b))) σ)
def mx(o:Option String)(x:String):Bool:=dZ o fun y=>y == x
theorem oi(h:mx o x=true):o=aa x:=fO h fun _ e h=>(beq_iff_eq.mp h)▸e
def zP(f:Value):Bool:=mx (p6 f) "len"
def isStr(f:Value):Bool:=mx (mi f) "str"
theorem ID(h:zP f=true):f=.builtin "len":=p7 (oi h)
theorem IE(h:isStr f=true):f=.type "str":=ll (oi h)
def tZ(b:Bool)(vs:List AV)(kw:List (Str×AV))(σ:St):Option (AV×Addr):=bW (b&&cm kw) (aA (fA vs) fun v=>aA (kb σ v) fun C=>aa (v,C))
theorem zQ(h:tZ b vs kw σ=aa q):b=true/\vs=[q.1]/\kw=[]/\kb σ q.1=aa q.2:=
 bU h fun g h=>ay h fun v e h=>ay h fun C e1 h=>ac h▸eC (b2 g).1 (gn e) (cX (b2 g).2) e1
def zR(T:aI)(f:Value)(vs:List AV)(kw:List (Str×AV))(σ:St)(Q:AV->St->Prop):Prop:=cu (tZ (zP f) vs kw σ) (λq=>ag (fo T.cmeth q.2 "__len__") fun g=>eK T (.ref g) [q.1] [] σ fun r σ'=>ag (bP bX r) fun i=>(0<=i/\i<2^63)/\Q (.pv (.int i)) σ')
 (cu (tZ (isStr f) vs kw σ) (λq=>ag (fo T.cmeth q.2 "__str__") fun g=>eK T (.ref g) [q.1] [] σ fun r σ'=>ag (bP eP r) fun x=>Q (.pv (.str x)) σ') (eK T f vs kw σ Q))
def mz(e:Expr):Bool:= !(dZ (lq e) fun q=>dZ (jC q.1) fun _=>cm q.2.1&&cm q.2.2.1)
def IF(e:Expr):Bool:=dZ (cq fun h=>Expr.Starred.elim e h fun _ _=>aa ()) fun _=>true
def cJ:List Expr->Bool:=λl=>l.all fun e=>!IF e
noncomputable def fB:List il->Bool
 | []=>true
 |⟨aa _,_,_⟩::r=>fB r
 |_=>false
noncomputable def i5:List il->List Str
 | []=>[]
 |⟨aa x,_,_⟩::r=>x::i5 r
 |_::r=>i5 r
def t8(v:AV):Bool:=dZ (bP gH v) fun f=>mx (mi f) "int"
noncomputable def aP(l:List UInt8):Int:=l.foldr (λb a=>a*256+(b.toNat:Int)) 0
noncomputable def dH(env:aw)(x:Str)(v:AV):aw:=match env with
 | []=>[(x,v)]
 |(y,u)::r=>match y == x with
  |true=>(x,v)::r
  |false=>(y,u)::dH r x v
noncomputable def t9:List Expr->List PV->aw->Option aw:=iN (λvs env=>bW (cm vs) (aa env)) fun e _ ih vs env=>aA (dF vs) fun v=>aA (kj e) fun x=>ih v.2 (dH env x (.pv v.1))
def gI(env:aw)(t:Expr)(v:AV):Option aw:=dP (kj t) (λx=>aa (dH env x v)) (aA (lr t) fun q=>aA (bP j5 v) fun l=>t9 q.1 l env)
def gp(C:FCtx)(x:Str):Bool:=dZ (C.scope.names.lookup x) fun k=>s7 (motive:=λ_=>Bool) k true false false false false
theorem lu(h:gp C x=true):C.scope.names.lookup x=aa .local:=fO h fun k e h=>e.trans (congrArg aa (s7 (motive:=λk=>s7 (motive:=λ_=>Bool) k true false false false false=true->k=.local) k (λ_=>rfl) bn bn bn bn h))
def mA(C:FCtx)(e:Expr):Bool:=dZ (kj e) (gp C)
theorem IG(h:mA C e=true):∃x p,e=.Name x p/\gp C x=true:=fO h fun x q h=>e11 (oh q) fun p e=>i22 x p e h
noncomputable abbrev kn{α:Type}(o:Option α)(k:α->Bool)(z:Bool):Bool:=match o with
 |some a=>k a
 |none=>z
theorem qo{G:Prop}(h:kn o k z=true)(f:∀a,o=aa a->k a=true->G)(g:o=none->z=true->G):G:=by
 cases o with
 |some a=>exact f a rfl h
 |none=>exact g rfl h
def hN(C:FCtx)(t:Expr):Bool:=kn (kj t) (gp C) (dZ (lr t) fun q=>q.1.all (mA C))
noncomputable def gJ{α:Type}(l:List α)(i:Int)(a:α):Option (List α):=match decide (0<=i)&&decide (i<l.length) with
 |true=>aa (l.set i.toNat a)
 |false=>none
noncomputable def aZ(b v:List UInt8)(lo hi:Nat):List UInt8:=b.take lo++v++b.drop hi
noncomputable def dQ(σ:St):List (Nat×List PV)->Prop
 | []=>True
 |(k,l)::r=>aX σ k=aa (.list l)/\dQ σ r
def cutE(ns:List Str)(env:aw):aw:=env.filter fun p=>mo ns p.1
def zS(src:List (Nat×List PV))(ns:List Str)(next:aw->St->Prop)(Q:Fl->aw->St->Prop)(f:Fl)(env:aw)(σ:St):Prop:=Fl.casesOn (motive:=λ_=>Prop) f (dQ σ src/\next env σ) (dQ σ src/\next env σ) fun v=>Q (.ret v) env σ
def mB(next:aw->St->Prop)(Q:Fl->aw->St->Prop)(f:Fl)(env:aw)(σ:St):Prop:=Fl.casesOn (motive:=λ_=>Prop) f (next env σ) (Q .cont env σ) fun v=>Q (.ret v) env σ
noncomputable def c9(body:aw->St->(Fl->aw->St->Prop)->Prop)(t:Expr)(src:List (Nat×List PV))(ns:List Str):List PV->aw->St->(Fl->aw->St->Prop)->Prop
 | [],env,σ,Q=>Q .next (cutE ns env) σ
 |x::r,env,σ,Q=>ag (gI (cutE ns env) t (.pv x)) fun env=>body env σ (zS src ns (λenv σ=>c9 body t src ns r env σ Q) Q)
def kp(e:Expr):Bool:=dZ (lr e) fun _=>true
def kq(σ:St)(v:AV):Option (List PV×List (Nat×List PV)):=dP (bP gm v) (λl=>aa (l,[])) (aA (eR v) fun k=>aA (lm σ k) fun l=>aa (l,[(k,l)]))
def kr(C:FCtx)(T:aI)(env:aw)(g:String)(e:Expr):Option (List Expr):=aA (lq e) fun q=>aA (jC q.1) fun x=>aA (mm T C env x.1) fun v=>aA (bP gH v) fun f=>bW (cm q.2.2.1&&mx (mi f) g&&cJ q.2.1) (aa q.2.1)
theorem II{T:aI}(h:kr C T env g e=aa as):∃f fp pos,e=.Call (.Name f fp) as [] pos/\mm T C env f=aa (.pv (.const (.type g)))/\cJ as=true:=
 ay h fun q e h=>ay h fun x e1 h=>ay h fun v e2 h=>ay h fun f e3 h=>bU h fun g h=>ac h▸i33 x.1 x.2 q.2.2.2 (cX (b3 g).1.1▸lp e1▸mu e) (ll (oi (b3 g).1.2)▸tI e3▸e2) (b3 g).2
noncomputable def ga(E:FCtx->Expr->aw->St->(AV->St->Prop)->Prop)(Cc:FCtx)(el t:Expr)(src:List (Nat×List PV)):List PV->aw->List PV->St->(List PV->St->Prop)->Prop
 | [],_,acc,σ,Q=>Q acc.reverse σ
 |x::r,env,acc,σ,Q=>ag (gI env t (.pv x)) fun env=>E Cc el env σ fun v σ=>ag (eQ v) fun p=>dQ σ src/\ga E Cc el t src r env (p::acc) σ Q
noncomputable def uc(scope outer:Scope):Scope:=
 {scope with names:=scope.names.map fun(n,k)=>if(k == .free&&outer.kind == .function&&outer.names.lookup n == aa .cell) then(n,.cell) else(n,k)}
def dz(C:FCtx)(scope:Scope):FCtx:={scope:=uc scope C.scope,cells:=C.cells.filter fun p=>scope.names.lookup p.1 == aa .free}
noncomputable def zT(C:FCtx)(scope:Scope)(x:Str)(k:k0):Bool:=s7 (motive:=λ_=>Bool) k (scope.names.lookup x == aa .local) false ((C.cells.lookup x).isSome&&scope.names.lookup x == aa .free&&(C.scope.names.lookup x == aa .cell||C.scope.names.lookup x == aa .free)) true true
def lv(C:FCtx)(scope:Scope)(t:Expr):Bool:=hN (dz C scope) t&&scope.kind == .function&&(scope.names.all fun p=>zT C scope p.1 p.2)&&(scope.names.lookup ("__debug__" :Str)).isNone
def ud(T:aI)(E:FCtx->Expr->aw->St->(AV->St->Prop)->Prop)(Cc:FCtx)(el t:Expr)(pos:Pos)(Q:AV->St->Prop)(items:List PV)(src:List (Nat×List PV))(σ:St):Prop:=items.length<=16777216/\ga E Cc el t src items [] [] σ fun l σ'=>σ'=σ/\i4 T pos l σ Q
def zV(g:kW):Option (Expr×Expr):=bW (cm g.ifs&&g.is_async == 0) (aa (g.target,g.iter))
theorem IJ(h:zV g=aa q):g=⟨q.1,q.2,[],0⟩:=by
 cases g with
 |mk a b c d=>exact bU h fun e h=>ac h▸congr (congrArg (X1 a b) (cX (b2 e).1)) (beq_iff_eq.mp (b2 e).2)
def iB(e:Expr):Bool:=dZ (tR e) fun _=>true
def zW(C:FCtx)(t e:Expr):Bool:=kn (lr t) (λq=>!kp e&&q.1.all (mA C)) (kn (kj t) (gp C) (kn (kh t) (λ_=>true) (dZ (qj t) fun _=>true)))
abbrev WE:=Expr->aw->St->(AV->St->Prop)->Prop
abbrev ue:=List Expr->aw->St->(List AV->St->Prop)->Prop
abbrev WK:=List il->aw->St->(List (Str×AV)->St->Prop)->Prop
def zX(E:WE)(as:List Expr)(ks:List il)(env:aw)(Q:AV->St->Prop)(σ:St):Prop:=gd (cm ks) (ag (mv as) fun ab=>E ab.1 env σ fun a σ=>E ab.2 env σ fun b σ=>ag (km σ a) fun l=>ag (bP eP b) fun w=>gd (w == ("little" :Str)) (l.length<=8/\Q (.pv (.int (aP l))) σ))
def uf(Es:ue)(K:WK)(as:List Expr)(ks:List il)(env:aw)(σ:St)(P:List AV->List (Str×AV)->St->Prop):Prop:=Es as env σ fun vs σ=>K ks env σ fun kw σ=>P vs kw σ
def IK(T:aI)(E:WE)(Es:ue)(K:WK)(m:Str)(as:List Expr)(ks:List il)(env:aw)(Q:AV->St->Prop)(v:AV)(σ:St):Prop:=cB (t8 v&&m == ("from_bytes" :Str)) (zX E as ks env Q σ) (ag (tN T σ v m) fun r=>uf Es K as ks env σ fun vs kw σ=>eK T r.1 (r.2++vs) kw σ Q)
def IL(T:aI)(Es:ue)(K:WK)(as:List Expr)(ks:List il)(env:aw)(Q:AV->St->Prop)(g:AV)(σ:St):Prop:=ag (bP gH g) fun g=>uf Es K as ks env σ fun vs kw σ=>zR T g vs kw σ Q
def IM(T:aI)(E:WE)(O:Option Expr->aw->St->(AV->St->Prop)->Prop)(s:Expr)(pos:Pos)(env:aw)(Q:AV->St->Prop)(v:AV)(σ:St):Prop:=cu (zF s) (λq=>O q.1 env σ fun l σ=>O q.2 env σ fun h σ=>zO T pos v l h σ Q) (E s env σ fun i σ=>zN T v i σ Q)
def IN(Q:AV->St->Prop)(vs:List AV)(σ:St):Prop:=gd (dN vs.length 1000) (ag (kg vs) fun l=>Q (.pv (.tuple l)) σ)
def IP(T:aI)(pos:Pos)(Q:AV->St->Prop)(vs:List AV)(σ:St):Prop:=gd (dN vs.length 1000) (ag (kg vs) fun l=>i4 T pos l σ Q)
def zY(T:aI)(pos:Pos)(op:k8)(Q:AV->St->Prop)(a b:AV)(σ:St):Prop:=cu (zB op a b) (λq=>q.1.length+q.2.length<=16777216/\i4 T pos (q.1++q.2) σ Q) (zH op a b σ Q)
mutual
noncomputable def aR(T:aI)(C:FCtx):Nat->Expr->aw->St->(AV->St->Prop)->Prop
 |0,_,_,_,_=>False
 |n+1,e,env,σ,Q=>match e with
  | .Constant c _ _=>ag (zu c) fun p=>Q (.pv p) σ
  | .Name x _=>ag (mm T C env x) fun v=>Q v σ
  | .BinOp l op r pos=>aR T C n l env σ fun a σ=>aR T C n r env σ (zY T pos op Q a)
  | .UnaryOp op x _=>match op with
   | .Not=>aR T C n x env σ fun a σ=>kk a fun b=>Q (.pv (.bool (!b))) σ
   |op=>aR T C n x env σ fun a σ=>zJ op a σ Q
  | .BoolOp op es _=>oj T C n op es env σ Q
  | .Compare l ops rs _=>gd (!lastMarks ops rs) (aR T C n l env σ fun a σ=>ly T C n a ops rs env σ fun b σ=>Q (.pv (.bool b)) σ)
  | .IfExp t b o _=>jE T C n t env σ fun c σ=>cB c (aR T C n b env σ Q) (aR T C n o env σ Q)
  | .Attribute o x _=>gd (mz o) (aR T C n o env σ fun v σ=>zx T v x σ Q)
  | .Subscript o s pos=>aR T C n o env σ (IM T (aR T C n) (ug T C n) s pos env Q)
  | .Tuple es _ _=>gd (cJ es) (iC T C n es env σ (IN Q))
  | .List es pos=>gd (cJ es) (iC T C n es env σ (IP T pos Q))
  | .Call f as ks pos=>gd (cJ as&&fB ks&&dN (as.length+ks.length) 20) (cu (kh f) (λq=>gd (mz q.1&&a7 q.2.2.endLine pos.line) (aR T C n q.1 env σ (IK T (aR T C n) (iC T C n) (jD T C n) q.2.1 as ks env Q)))
    (ag (jC f) fun x=>ag (mm T C env x.1) fun v=>IL T (iC T C n) (jD T C n) as ks env Q v σ))
  | .ListComp elt gs scope pos=>match gs with
   | []=>False
   |g::r=>match r with
    | []=>lw T C n elt g scope pos env σ Q
    |_::_=>False
  |_=>False
noncomputable def lw(T:aI)(C:FCtx):Nat->Expr->kW->Scope->Pos->aw->St->(AV->St->Prop)->Prop
 |0,_,_,_,_,_,_,_=>False
 |n+1,elt,g,scope,pos,env,σ,Q=>ag (zV g) fun q=>gd (lv C scope q.1) (iD T C n q.1 q.2 env σ (ud T (λc=>aR T c n) (dz C scope) elt q.1 pos Q))
noncomputable def ug(T:aI)(C:FCtx):Nat->Option Expr->aw->St->(AV->St->Prop)->Prop
 |0,_,_,_,_=>False
 |n+1,e,env,σ,Q=>match e with
  |none=>Q (.pv .none) σ
  |some e=>aR T C n e env σ Q
noncomputable def iC(T:aI)(C:FCtx):Nat->List Expr->aw->St->(List AV->St->Prop)->Prop
 |0,_,_,_,_=>False
 |n+1,es,env,σ,Q=>match es with
  | []=>Q [] σ
  |e::r=>aR T C n e env σ fun v σ=>iC T C n r env σ fun vs σ=>Q (v::vs) σ
noncomputable def jD(T:aI)(C:FCtx):Nat->List il->aw->St->(List (Str×AV)->St->Prop)->Prop
 |0,_,_,_,_=>False
 |n+1,ks,env,σ,Q=>match ks with
  | []=>Q [] σ
  |⟨aa x,e,_⟩::r=>aR T C n e env σ fun v σ=>jD T C n r env σ fun vs σ=>Q ((x,v)::vs) σ
  |_=>False
noncomputable def oj(T:aI)(C:FCtx):Nat->BoolOp->List Expr->aw->St->(AV->St->Prop)->Prop
 |0,_,_,_,_,_=>False
 |n+1,op,es,env,σ,Q=>match es with
  | []=>False
  |e::r=>match r with
   | []=>aR T C n e env σ Q
   |_::_=>aR T C n e env σ fun v σ=>kk v fun b=>match op with
    | .And=>cB b (oj T C n op r env σ Q) (Q v σ)
    | .Or=>cB b (Q v σ) (oj T C n op r env σ Q)
noncomputable def ly(T:aI)(C:FCtx):Nat->AV->List nA->List Expr->aw->St->(Bool->St->Prop)->Prop
 |0,_,_,_,_,_,_=>False
 |n+1,a,ops,rs,env,σ,Q=>match ops with
  | []=>False
  |op::ops=>match rs with
   | []=>False
   |r::rs=>match ops with
    | []=>(match rs with
     | []=>aR T C n r env σ fun b σ=>qm op a b fun c=>Q c σ
     |_::_=>False)
    |_::_=>(match rs with
     | []=>False
     |_::_=>aR T C n r env σ fun b σ=>qm op a b fun c=>cB c (ly T C n b ops rs env σ Q) (Q false σ))
noncomputable def jE(T:aI)(C:FCtx):Nat->Expr->aw->St->(Bool->St->Prop)->Prop
 |0,_,_,_,_=>False
 |n+1,e,env,σ,Q=>match e with
  | .UnaryOp .Not x _=>jE T C n x env σ fun b σ=>Q (!b) σ
  | .BoolOp op es _=>ol T C n op es env σ Q
  | .IfExp _ _ _ _=>False
  | .Compare l ops rs _=>gd (!lastMarks ops rs) (aR T C n l env σ fun a σ=>ly T C n a ops rs env σ Q)
  | .Name x p=>aR T C n (.Name x p) env σ fun v σ=>cu (bP j7 v) (λa=>ag (T.idict.lookup a) fun d=>Q (!d.isEmpty) σ) (kk v fun b=>Q b σ)
  |e=>aR T C n e env σ fun v σ=>kk v fun b=>Q b σ
noncomputable def ol(T:aI)(C:FCtx):Nat->BoolOp->List Expr->aw->St->(Bool->St->Prop)->Prop
 |0,_,_,_,_,_=>False
 |n+1,op,es,env,σ,Q=>match es with
  | []=>Q (match op with | .And=>true | .Or=>false) σ
  |e::r=>jE T C n e env σ fun b σ=>match op with
   | .And=>cB b (ol T C n op r env σ Q) (Q false σ)
   | .Or=>cB b (Q true σ) (ol T C n op r env σ Q)
noncomputable def iD(T:aI)(C:FCtx):Nat->Expr->Expr->aw->St->(List PV->List (Nat×List PV)->St->Prop)->Prop
 |0,_,_,_,_,_=>False
 |n+1,t,e,env,σ,Q=>cu (kr C T env "range" e) (λas=>ag (fA as) fun a=>aR T C n a env σ fun v σ=>ag (bP bX v) fun m=>(0<=m/\m<=1000000)/\Q ((gV m.toNat).map fun(i:Nat)=>PV.int i) [] σ)
  (cu (kr C T env "enumerate" e) (λas=>ag (fA as) fun a=>gd (kp t) (aR T C n a env σ fun v σ=>ag (kq σ v) fun r=>Q (r.1.zipIdx.map fun p=>.tuple [.int p.2,p.1]) r.2 σ))
   (cu (kr C T env "zip" e) (λas=>ag (mv as) fun ab=>gd (kp t) (aR T C n ab.1 env σ fun v σ=>aR T C n ab.2 env σ fun u σ=>ag (kq σ v) fun r=>ag (kq σ u) fun q=>dQ σ r.2/\Q ((r.1.zip q.1).map fun p=>.tuple [p.1,p.2]) (r.2++q.2) σ))
    (aR T C n e env σ fun v σ=>cu (bP eP v) (λx=>x.cps.size<=1000000/\Q (x.cps.toList.map fun c=>.str ⟨#[c]⟩) [] σ) (cu (bP j5 v) (λl=>Q l [] σ) (ag (kq σ v) fun r=>Q r.1 r.2 σ)))))
end
theorem hU(e:b=true)(h:cB b X Y):X:=by subst e;exact h
theorem iE(e:b=false)(h:cB b X Y):Y:=by subst e;exact h
def om(T:aI)(x:Str)(u v:AV)(σ:St)(K:St->Prop):Prop:=ag (eR u) fun k=>ag (qb σ k) fun i=>ag (qe σ i.2) fun fs=>gd (qg T i.1 x&&dN fs.length 900) (K (eT σ i.2 (.attrs (dH fs x v))))
def zZ(u i v:AV)(σ:St)(K:St->Prop):Prop:=ag (eR u) fun k=>ag (dy i) fun j=>ag (eQ v) fun p=>ag (lm σ k) fun l=>ag (gJ l j p) fun l=>K (eT σ k (.list l))
def Aa(u l:AV)(σ:St)(K:St->Prop):Prop:=ag (eR u) fun k=>ag (dy l) fun l=>ag (lm σ k) fun xs=>(0<=l/\l<=(xs.length:Int))/\K (eT σ k (.list (xs.take l.toNat)))
def Ab(e:Expr):Option (Expr×kW×Scope×Pos):=aA (tR e) fun q=>aA (fA q.2.1) fun g=>aa (q.1,g,q.2.2)
theorem IQ(h:Ab e=aa q):e=.ListComp q.1 [q.2.1] q.2.2.1 q.2.2.2:=ay h fun c e h=>ay h fun g e1 h=>ac h▸gn e1▸Iv e
def uj(e:Expr):Option (Expr×Expr):=aA (qj e) fun q=>aa (q.1,q.2.1)
theorem Ac(h:uj e=aa q):∃p,e=.Subscript q.1 q.2 p:=ay h fun q e h=>⟨q.2.2,ac h▸zC e⟩
def Ad(e:Expr):Option Expr:=aA (ln e) fun q=>bW (iA q.2.1&&iA q.2.2.1) q.1
theorem IR{lo:Expr}(h:Ad e=aa lo):∃p,e=.Slice (aa lo) none none p:=ay h fun q e h=>bU h fun g h=>⟨q.2.2.2,(qi e).trans (by rw[h,ls (b2 g).1,ls (b2 g).2])⟩
def Ae(e:Expr):Option (Expr×Expr):=aA (ln e) fun q=>aA q.1 fun a=>aA q.2.1 fun b=>bW (iA q.2.2.1) (aa (a,b))
theorem IS(h:Ae e=aa r):∃p,e=.Slice (aa r.1) (aa r.2) none p:=ay h fun q e h=>ay h fun a e1 h=>ay h fun b e2 h=>bU h fun g h=>⟨q.2.2.2,ac h▸e1▸e2▸ls g▸qi e⟩
def uk(e:Expr):Bool:=dZ (ln e) fun _=>true
def Af(T:aI)(E:Expr->St->(AV->St->Prop)->Prop)(t:Expr)(env:aw)(Q:Fl->aw->St->Prop)(v:AV)(σ:St):Prop:=cu (kh t) (λq=>E q.1 σ fun u σ=>om T q.2.1 u v σ (Q .next env))
 (cu (qj t) (λq=>E q.1 σ fun u σ=>cB (uk q.2.1) False (E q.2.1 σ fun i σ=>zZ u i v σ (Q .next env))) (ag (gI env t v) fun env=>Q .next env σ))
mutual
noncomputable def gK(T:aI)(C:FCtx):Nat->Stmt->aw->St->(Fl->aw->St->Prop)->Prop
 |0,_,_,_,_=>False
 |n+1,st,env,σ,Q=>match st with
  | .Expr e _=>ag (lq e) fun _=>aR T C n e env σ fun _ σ=>Q .next env σ
  | .Continue _=>Q .cont env σ
  | .Return e _=>match e with
   |none=>Q (.ret (.pv .none)) env σ
   |some e=>aR T C n e env σ fun v σ=>Q (.ret v) env σ
  | .Assign ts e _=>ag (fA ts) fun t=>cB (iB e)
    (ag (Ab e) fun q=>ag (jC t) fun r=>gd (gp C r.1&&a7 r.2.line q.2.2.2.line&&!(q.2.2.1.names.any fun p=>p.1 == r.1&&(p.2 == .local||p.2 == .cell))) (lw T C n q.1 q.2.1 q.2.2.1 q.2.2.2 env σ fun v σ=>Q .next (dH env r.1 v) σ))
    (gd (zW C t e) (aR T C n e env σ (Af T (λe σ=>aR T C n e env σ) t env Q)))
  | .AugAssign t op e _=>ag (kj t) fun x=>gd (gp C x) (ag (env.lookup x) fun a=>aR T C n e env σ fun b σ=>tU op a b σ fun v σ=>Q .next (dH env x v) σ)
  | .If t b o _=>jE T C n t env σ fun c σ=>cB c (fC T C n b env σ Q) (fC T C n o env σ Q)
  | .Assert t _ _=>jE T C n t env σ fun c σ=>gd c (Q .next env σ)
  | .For t it b o _=>gd (cm o&&hN C t) (iD T C n t it env σ fun items src σ=>c9 (fC T C n b) t src (env.map (·.1)) items env σ Q)
  | .Delete ts _=>ag (fA ts) fun t=>ag (uj t) fun q=>ag (Ad q.2) fun lo=>aR T C n q.1 env σ fun u σ=>aR T C n lo env σ fun l σ=>Aa u l σ (Q .next env)
  |_=>False
noncomputable def fC(T:aI)(C:FCtx):Nat->List Stmt->aw->St->(Fl->aw->St->Prop)->Prop
 |0,_,_,_,_=>False
 |n+1,cw,env,σ,Q=>match cw with
  | []=>Q .next env σ
  |s::r=>gK T C n s env σ (mB (λenv σ=>fC T C n r env σ Q) Q)
end
def on(Q:AV->St->Prop)(f:Fl)(_:aw)(σ:St):Prop:=Fl.casesOn (motive:=λ_=>Prop) f (Q (.pv .none) σ) False fun v=>Q v σ
def oo(T:aI)(C:FCtx)(body:List Stmt)(env:aw)(σ:St)(Q:AV->St->Prop):Prop:=fC T C 200 body env σ (on Q)
structure Cf where
 I:Im
 ρ:ml
 σ:St
def ObjAt(P:bq)(I:Im)(ρ:ml)(h:Heap)(a:Addr):AObj->Prop
 | .list l=>∃vs n,h.get? a=aa (bQ vs n)/\RepL P I l vs/\l.length<=aW
 | .ba b=>h.get? a=aa (aU b)/\b.length<=aW
 | .inst C kd=>∃d,ρ kd=aa d/\h.get? a=aa (cW C d)
 | .attrs fs=>∃es n,h.get? a=aa (eS es n)/\RepAF P I ρ fs es
theorem ObjAt.mono(i:∀a o,I a=aa o->J a=aa o)(g:∀k a,ρ k=aa a->τ k=aa a)(e:h'.get? a=h.get? a):∀{o:AObj},ObjAt P I ρ h a o->ObjAt P J τ h' a o
 | .list _,⟨vs,n,x,y,z⟩=>(i23 vs n (e.trans x) (y.mono fun _ _ r=>r.mono i) z)
 | .ba _,x=>⟨e.trans x.1,x.2⟩
 | .inst _ _,⟨d,x,y⟩=>(i12 d (g _ _ x) (e.trans y))
 | .attrs _,⟨es,n,x,y⟩=>(i22 es n (e.trans x) (y.mono fun _ _ r=>⟨r.1,r.2.mono i g⟩))
theorem ObjAt.there:∀{o:AObj},ObjAt P I ρ h a o->∃x,h.get? a=aa x
 | .list _,⟨_,_,x,_⟩=>⟨_,x⟩
 | .ba _,x=>⟨_,x.1⟩
 | .inst _ _,⟨_,_,x⟩=>⟨_,x⟩
 | .attrs _,⟨_,_,x,_⟩=>⟨_,x⟩
structure Env0 where
 prog:Program
 w:bD
 K:Frag
 mg:Str->Option Value
 mb:Str->Option Value
abbrev Env0.M(E:Env0):Model:=aH E.prog E.w
structure Base(E:Env0)(I:Im):Prop where
 K:∀a o,E.K.lookup a=aa o->I a=aa o
 top:∀h:Heap,(∀a o,I a=aa o->h.get? a=aa o)->h.Ns mainGlobals E.mg/\h.Ns nN E.mb/\h.NoLimit
 blt:∀x:Str,x≠"__name__"->E.mb x=tm x
theorem Base.mono(B:Base E I)(i:∀a o,I a=aa o->J a=aa o):Base E J:=
 ⟨λa o e=>i a o (B.K a o e),λh k=>B.top h fun a o e=>k a o (i a o e),B.blt⟩
structure Ext(c d:Cf):Prop where
 I:∀a o,c.I a=aa o->d.I a=aa o
 ρ:∀k a,c.ρ k=aa a->d.ρ k=aa a
theorem Ext.refl(c:Cf):Ext c c:=⟨λ_ _ e=>e,λ_ _ e=>e⟩
theorem Ext.trans(x:Ext c d)(y:Ext d e):Ext c e:=⟨λa o h=>y.I a o (x.I a o h),λa o h=>y.ρ a o (x.ρ a o h)⟩
abbrev Rp(E:Env0)(c:Cf)(v:AV)(u:Value):Prop:=RepA E.w.params c.I c.ρ v u
theorem Rp.ext(r:Rp E c v u)(x:Ext c d):Rp E d v u:=RepA.mono x.I x.ρ r
structure HInv(E:Env0)(c:Cf)(h:Heap):Prop where
 base:Base E c.I
 keep:∀a o,c.I a=aa o->h.get? a=aa o
 st:∀k o,aX c.σ k=aa o->∃a,c.ρ k=aa a/\ObjAt E.w.params c.I c.ρ h a o
 dom:∀k a,c.ρ k=aa a->∃o,aX c.σ k=aa o
 out:∀k a,c.ρ k=aa a->c.I a=none
 inj:∀k j a,c.ρ k=aa a->c.ρ j=aa a->k=j
theorem HInv.at(V:HInv E c h)(e:c.ρ k=aa a):∃x,h.get? a=aa x:=by
 refine(let G:=_;(?_:G));refine e11 (V.dom k a e) fun o ho=>?_
 refine e12 (V.st k o ho) fun b hb r=>?_
 replace hb:=e▸hb
 have z0:=ac hb;clear hb;subst z0
 exact r.there
structure Fs where
 E:Env0
 r:Shared
 I₀:Im
 M:Addr->Prop
 L:Addr
 cl:List (Str×AV×Value)
structure FInv(F:Fs)(env:aw)(c:Cf)(s:Shared):Prop where
 h:HInv F.E c s.heap
 size:F.r.heap.objs.size<=s.heap.objs.size
 kept:∀a o,F.r.heap.get? a=aa o->¬F.M a->s.heap.get? a=aa o
 ns:∃m,s.heap.Ns F.L m/\∀x v,env.lookup x=aa v->∃u,m x=aa u/\Rp F.E c v u
 Lout:c.I F.L=none
 Lnew:F.M F.L\/F.r.heap.objs.size<=F.L
 Lne:∀k,c.ρ k≠aa F.L
 old:∀k a,c.ρ k=aa a->F.M a\/F.r.heap.objs.size<=a
 Iold:∀a o,c.I a=aa o->F.I₀ a=aa o\/F.r.heap.objs.size<=a
 rest:s.gens=F.r.gens/\s.drawn=F.r.drawn/\s.os=F.r.os
 cl:∀p,p∈F.cl->Rp F.E c p.2.1 p.2.2
noncomputable def Cf.put(c:Cf)(a:Addr)(o:Obj):Cf:={c with I:=λb=>match a7 b a with |true=>aa o |false=>c.I b}
theorem mC(h:a=b):a7 a b=true:=by subst h;exact Ha a
theorem mD(h:a≠b):a7 a b=false:=by
 cases q:a7 a b with
 |false=>rfl
 |true=>exact absurd (ce q) h
theorem Cf.put_self(c:Cf)(a:Addr)(o:Obj):(c.put a o).I a=aa o:=by show(match a7 a a with |true=>aa o |false=>c.I a)=_;rw[mC rfl]
theorem Cf.put_ne(c:Cf)(o:Obj)(h:b≠a):(c.put a o).I b=c.I b:=by show(match a7 b a with |true=>aa o |false=>c.I b)=_;rw[mD h]
theorem Cf.put_ext(h:c.I a=none):Ext c (c.put a o):=⟨λb x e=>by
 rw[c.put_ne o (λq=>by subst q;replace e:=h▸e;exact aD e)];exact e,λ_ _ e=>e⟩
section
variable{F:Fs}{env:aw}{c:Cf}{s:Shared}
theorem HInv.lt(V:HInv F.E c s.heap)(e:c.I a=aa o):a<s.heap.objs.size:=bM (V.keep a o e)
theorem HInv.fresh(V:HInv E c h):c.I h.objs.size=none:=by
 cases q:c.I h.objs.size with
 |none=>rfl
 |some o=>exact absurd (bM (V.keep _ _ q)) (iP _)
theorem FInv.toks(V:FInv F env c s)(t:Nat):FInv F env c {s with toks:=t}:=⟨V.h,V.size,V.kept,V.ns,V.Lout,V.Lnew,V.Lne,V.old,V.Iold,V.rest,V.cl⟩
theorem HInv.alloc(V:HInv E c h)(hf:o.isFreed=false):HInv E (c.put h.objs.size o) (h.push o):=by
 have x:=Cf.put_ext (o:=o) V.fresh
 refine⟨V.base.mono x.I,λa p e=>?_,λk p e=>?_,V.dom,λk a e=>?_,V.inj⟩
 ·by_cases q:a=h.objs.size
  ·subst q;rw[c.put_self] at e;have z0:=ac e;refine eqL z0 ?_;exact d9 _ hf
  ·rw[c.put_ne o q] at e;exact cD _ (V.keep a p e)
 ·refine(let G:=_;(?_:G));refine e12 (V.st k p e) fun a ha r=>?_
  refine e11 r.there fun y hy=>?_
  exact(i12 a ha (r.mono x.I x.ρ ((cD _ hy).trans hy.symm)))
 ·obtain⟨y,hy⟩:=V.at e
  rw[c.put_ne o (fJ (bM hy))];exact V.out k a e
theorem FInv.alloc(V:FInv F env c s)(hf:o.isFreed=false)(t:Nat):FInv F env (c.put s.heap.objs.size o) {s with heap:=s.heap.push o,toks:=t}:=by
 have x:=Cf.put_ext (o:=o) V.h.fresh
 refine(let G:=_;(?_:G));refine e12 V.ns fun m hm he=>?_
 refine e32 hm fun oL es ep hL hr=>?_
 refine⟨V.h.alloc hf,bT V.size (by simp only[gB];exact jm _),λa p e k=>cD _ (V.kept a p e k),(i12 m (i32 oL es ep (cD _ hL) hr) (λy v e=>?_)),?_,V.Lnew,V.Lne,V.old,λa p e=>?_,V.rest,λp q=>(V.cl p q).ext x⟩
 ·refine e12 (he y v e) fun u hu r=>?_
  exact(i12 u hu (r.ext x))
 ·rw[c.put_ne o (fJ (bM hL))];exact V.Lout
 ·by_cases q:a=s.heap.objs.size
  ·exact .inr (q▸V.size)
  ·rw[c.put_ne o q] at e;exact V.Iold a p e
theorem FInv.ext(V:FInv F env c s):Ext c (c.put s.heap.objs.size o):=Cf.put_ext V.h.fresh
theorem mE(h:aX σ k=aa o):aX (eT σ k o') j=if j=k then aa o' else aX σ j:=by
 unfold aX eT at *
 induction σ with
 |nil=>exact aD h
 |cons p r ih=>
  obtain⟨i,x⟩:=p
  rw[ey,cr,cr]
  simp only[cr] at h
  by_cases q:k=i
  ·refine eqL q ?_
   simp only[mC rfl]
   by_cases e:j=k
   ·refine eqR e ?_;simp
   ·rw[if_neg e]
    have :(j == k)=false:=by simpa using e
    simp only[this]
    clear ih h
    induction r with
    |nil=>rfl
    |cons p r ih=>
     rw[ey,cr,cr]
     by_cases z:p.1=k
     ·rw[mC z]
      have :(j == p.1)=false:=by simpa[z] using e
      simp only[this]
      exact(by
           have :(j == k)=false:=by simpa using e
           simp only[this];exact ih)
     ·rw[mD z]
      cases (j == p.1) <;> first |rfl |exact ih
  ·have :(k == i)=false:=by simpa using q
   rw[this] at h
   simp only[mD (fh q)]
   by_cases e:j=i
   ·refine eqR e ?_
    simp only[beq_self_eq_true]
    rw[if_neg (fh q)]
   ·have :(j == i)=false:=by simpa using e
    simp only[this]
    exact ih h
theorem lz(h:aX σ k=none):aX (σ++[(k,o)]) j=if j=k then aa o else aX σ j:=by
 unfold aX at *
 induction σ with
 |nil=>
  simp only[sX,cr]
  by_cases e:j=k
  ·subst e;simp
  ·have :(j == k)=false:=by simpa using e
   simp only[if_neg e,this]
 |cons p r ih=>
  rw[yy,cr,cr]
  rw[cr] at h
  cases q:(k == p.1) with
  |true=>replace h:=q▸h;exact aD h.symm
  |false=>
   replace h:=q▸h
   cases z:(j == p.1) with
   |true=>
    have :j≠k:=λe=>by refine(let G:=_;(?_:G));subst e;replace q:=z▸q;exact bn q.symm
    rw[if_neg this]
   |false=>exact ih h
theorem HInv.upd(V:HInv E c h)(hk:aX c.σ k=aa o)(ha:c.ρ k=aa a)(hs:ii a h h')(hr:ObjAt E.w.params c.I c.ρ h' a o'):
  HInv E {c with σ:=eT c.σ k o'} h':=by
 refine⟨V.base,λb p e=>(hs.2 b (λq=>by subst q;replace e:=(V.out k b ha)▸e;exact aD e)).trans (V.keep b p e),λj p e=>?_,λj b e=>?_,V.out,V.inj⟩
 ·rw[mE hk] at e
  by_cases q:j=k
  ·subst q;replace e:=(if_pos rfl)▸e;have z0:=ac e;refine eqL z0 ?_;exact(i12 a ha hr)
  ·rw[if_neg q] at e
   refine e12 (V.st j p e) fun b hb r=>?_
   exact(i12 b hb (r.mono (λ_ _ e=>e) (λ_ _ e=>e) (hs.2 b fun z=>q (V.inj j k a (z▸hb) ha))))
 ·by_cases q:j=k
  ·refine eqR q ?_;exact⟨o',by skip;rw[mE hk,if_pos rfl]⟩
  ·refine e11 (V.dom j b e) fun p hp=>?_
   exact⟨p,by skip;rw[mE hk,if_neg q];exact hp⟩
theorem FInv.upd(V:FInv F env c s)(t:Nat)(hk:aX c.σ k=aa o)(ha:c.ρ k=aa a)(hs:ii a s.heap h')(hr:ObjAt F.E.w.params c.I c.ρ h' a o'):
  FInv F env {c with σ:=eT c.σ k o'} {s with heap:=h',toks:=t}:=by
 refine e12 V.ns fun m hm he=>?_
 refine⟨V.h.upd hk ha hs hr,by simp only[show h'.objs.size=s.heap.objs.size from hs.1];exact V.size,λb p e n=>(hs.2 b fun z=>?_).trans (V.kept b p e n),(i12 m (hm.sameBut hs fun z=>V.Lne k (by simp only[ha,z])) he),V.Lout,V.Lnew,V.Lne,V.old,V.Iold,V.rest,V.cl⟩
 clear hs;clear hr;subst z
 rcases V.old k b ha with q' |q'
 ·exact n q'
 ·exact absurd (bM e) (Nat.not_lt.mpr q')
noncomputable def Cf.add(c:Cf)(k:Nat)(a:Addr)(o:AObj):Cf:={c with ρ:=λj=>match a7 j k with |true=>aa a |false=>c.ρ j,σ:=c.σ++[(k,o)]}
theorem Cf.add_self(c:Cf)(k:Nat)(a:Addr)(o:AObj):(c.add k a o).ρ k=aa a:=by show(match a7 k k with |true=>aa a |false=>c.ρ k)=_;rw[mC rfl]
theorem Cf.add_ne(c:Cf)(a:Addr)(o:AObj)(h:j≠k):(c.add k a o).ρ j=c.ρ j:=by show(match a7 j k with |true=>aa a |false=>c.ρ j)=_;rw[mD h]
theorem Cf.add_ext(V:HInv E c h)(hk:aX c.σ k=none):Ext c (c.add k a o):=⟨λ_ _ e=>e,λj b e=>by
 rw[c.add_ne a o (λq=>by subst q;refine e11 (V.dom j b e) fun p hp=>?_;replace hp:=hk▸hp;exact aD hp)];exact e⟩
theorem HInv.add(V:HInv E c h)(hk:aX c.σ k=none)(hr:ObjAt E.w.params c.I (c.add k h.objs.size o).ρ (h.push x) h.objs.size o):
  HInv E (c.add k h.objs.size o) (h.push x):=by
 have y:=Cf.add_ext (a:=h.objs.size) (o:=o) V hk
 refine⟨V.base,λa p e=>cD _ (V.keep a p e),λj p e=>?_,λj a e=>?_,λj a e=>?_,λi j a e f=>?_⟩
 ·have e:aX (c.σ++[(k,o)]) j=aa p:=e
  rw[lz hk] at e
  by_cases q:j=k
  ·subst q;replace e:=(if_pos rfl)▸e;have z0:=ac e;refine eqL z0 ?_;exact(i12 _ (c.add_self ..) hr)
  ·replace e:=(if_neg q)▸e
   refine(let G:=_;(?_:G));refine e12 (V.st j p e) fun a ha r=>?_
   refine e11 r.there fun z hz=>?_
   exact(i12 a (y.ρ j a ha) (r.mono y.I y.ρ ((cD _ hz).trans hz.symm)))
 ·by_cases q:j=k
  ·clear y;subst q;exact⟨o,by show aX (c.σ++[(j,o)]) j=_;rw[lz hk,if_pos rfl]⟩
  ·rw[c.add_ne _ o q] at e
   obtain⟨p,hp⟩:=V.dom j a e
   exact⟨p,by show aX (c.σ++[(k,o)]) j=_;rw[lz hk,if_neg q];exact hp⟩
 ·by_cases q:j=k
  ·clear hr;clear y;subst q;rw[c.add_self] at e;have z1:=ac e;refine eqL z1 ?_;exact V.fresh
  ·rw[c.add_ne _ o q] at e;exact V.out j a e
 ·by_cases q:i=k
  ·by_cases q':j=k
   ·simp only[q,q']
   ·subst q;rw[c.add_self] at e;have z2:=ac e;subst z2
    rw[c.add_ne _ o q'] at f
    obtain⟨z,hz⟩:=V.at f
    exact absurd (bM hz) (iP _)
  ·by_cases q':j=k
   ·subst q';rw[c.add_self] at f;have z3:=ac f;subst z3
    rw[c.add_ne _ o q] at e
    obtain⟨z,hz⟩:=V.at e
    exact absurd (bM hz) (iP _)
   ·rw[c.add_ne _ o q] at e;rw[c.add_ne _ o q'] at f;exact V.inj i j a e f
theorem FInv.add(V:FInv F env c s)(t:Nat)(hk:aX c.σ k=none)(hr:ObjAt F.E.w.params c.I (c.add k s.heap.objs.size o).ρ (s.heap.push x) s.heap.objs.size o):
  FInv F env (c.add k s.heap.objs.size o) {s with heap:=s.heap.push x,toks:=t}:=by
 have y:=Cf.add_ext (a:=s.heap.objs.size) (o:=o) V.h hk
 refine e12 V.ns fun m hm he=>?_
 have hL:=hm.lt
 refine⟨V.h.add hk hr,bT V.size (by simp only[gB];exact jm _),λa p e n=>cD _ (V.kept a p e n),(i12 m (hm.push x) (λz v e=>?_)),V.Lout,V.Lnew,λj q=>?_,λj a e=>?_,V.Iold,V.rest,λp q=>(V.cl p q).ext y⟩
 ·refine e12 (he z v e) fun u hu r=>?_
  exact(i12 u hu (r.ext y))
 ·refine(let G:=_;(?_:G));by_cases z:j=k
  ·clear hr;subst z;rw[c.add_self] at q;exact absurd hL (by rw[<-ac q];exact iP _)
  ·rw[c.add_ne _ o z] at q;exact V.Lne j q
 ·by_cases z:j=k
  ·clear y;clear hr;subst z;rw[c.add_self] at e;have z0:=ac e;refine eqL z0 ?_;exact .inr V.size
  ·rw[c.add_ne _ o z] at e;exact V.old j a e
noncomputable def Fs.re(F:Fs)(c:Cf)(s:Shared):Fs:={F with r:=s,I₀:=c.I,M:=λa=>(∃k,c.ρ k=aa a)\/a=F.L}
theorem FInv.re(V:FInv F env c s):FInv (F.re c s) env c s:=
 ⟨V.h,c8 _,λ_ _ e _=>e,V.ns,V.Lout,.inl (.inr rfl),V.Lne,λk _ e=>.inl (.inl ⟨k,e⟩),λ_ _ e=>.inl e,(bl rfl rfl rfl),V.cl⟩
theorem FInv.un(V:FInv F env c s)(V':FInv (F.re c s) env' c' s'):FInv F env' c' s':=by
 refine⟨V'.h,bT V.size V'.size,λa o e n=>V'.kept a o (V.kept a o e n) fun q=>?_,V'.ns,V'.Lout,V.Lnew,V'.Lne,λk a e=>?_,λa o e=>?_,(bl (V'.rest.1.trans V.rest.1) (V'.rest.2.1.trans V.rest.2.1) (V'.rest.2.2.trans V.rest.2.2)),V'.cl⟩
 ·rcases q with ⟨k,q⟩|q
  ·refine(let G:=_;(?_:G));rcases V.old k a q with z |z
   ·exact n z
   ·exact absurd (bM e) (Nat.not_lt.mpr z)
  ·refine(let G1:=_;(?_:G1));subst q;exact V.Lnew.elim n fun z=>absurd (bM e) (Nat.not_lt.mpr z)
 ·rcases V'.old k a e with (⟨j,q⟩|q)|q
  ·exact V.old j a q
  ·exact absurd (q▸e) (V'.Lne k)
  ·exact .inr (bT V.size q)
 ·rcases V'.Iold a o e with q |q
  ·exact V.Iold a o q
  ·exact .inr (bT V.size q)
def Hid(wr:List Addr)(F:Fs)(c:Cf)(s:Shared):Prop:=∀b∈wr,F.r.heap.objs.size<=b/\b<s.heap.objs.size/\c.I b=none/\(∀k,c.ρ k≠aa b)/\b≠F.L
theorem FInv.away(V:FInv F env c s)(H:Hid wr F c s)(hk:∀b o,b∉wr->s.heap.get? b=aa o->h'.get? b=aa o)(hz:s.heap.objs.size<=h'.objs.size)(t:Nat):
  FInv F env c {s with heap:=h',toks:=t}:=by
 refine(let G:=_;(?_:G));refine e12 V.ns fun m z0 he=>?_;refine e32 z0 fun oL es ep hL hr=>?_
 refine⟨⟨V.h.base,λa o e=>hk a o (λq=>?_) (V.h.keep a o e),λk o e=>?_,V.h.dom,V.h.out,V.h.inj⟩,bT V.size hz,λa o e n=>hk a o (λq=>?_) (V.kept a o e n),(i12 m (i32 oL es ep (hk _ _ (λq=>?_) hL) hr) he),V.Lout,V.Lnew,V.Lne,V.old,V.Iold,V.rest,V.cl⟩
 ·have :=(H a q).2.2.1;replace this:=e▸this;exact aD this.symm
 ·refine(let G1:=_;(?_:G1));refine e12 (V.h.st k o e) fun a ha r=>?_
  refine e11 r.there fun y hy=>?_
  exact(i12 a ha (r.mono (λ_ _ e=>e) (λ_ _ e=>e) ((hk a y (λq=>(H a q).2.2.2.1 k ha) hy).trans hy.symm)))
 ·exact absurd (bM e) (Nat.not_lt.mpr (H a q).1)
 ·exact(H _ q).2.2.2.2 rfl
theorem Hid.away(H:Hid wr F c s)(hz:s.heap.objs.size<=h'.objs.size)(t:Nat):Hid wr F c {s with heap:=h',toks:=t}:=
 fun b m=>let⟨h1,h2,h3⟩:=H b m;(bl h1 (jS h2 hz) h3)
theorem Hid.re(H:Hid wr F c s)(V':FInv (F.re c s) env' c' s'):Hid wr F c' s'/\∀b∈wr,∀o,s.heap.get? b=aa o->s'.heap.get? b=aa o:=by
 refine⟨λb m=>?_,λb m o e=>V'.kept b o e fun q=>?_⟩
 ·refine fN (H b m) fun h1 h2 h3 h4 h5=>?_
  refine(g0 h1 (jS h2 V'.size) (?_) (λk e=>?_) h5)
  ·cases q:c'.I b with
   |none=>rfl
   |some o=>
    refine(let G:=_;(?_:G));rcases V'.Iold b o q with z |z
    ·have z:c.I b=aa o:=z
     replace z:=h3▸z;exact aD z
    ·exact absurd h2 (Nat.not_lt.mpr z)
  ·rcases V'.old k b e with (⟨j,q⟩|q)|q
   ·exact h4 j q
   ·exact h5 q
   ·exact absurd h2 (Nat.not_lt.mpr q)
 ·refine fN (H b m) fun h1 h2 h3 h4 h5=>?_
  rcases q with ⟨j,q⟩|q
  ·exact h4 j q
  ·exact h5 q
theorem FInv.show(V:FInv F env c s)(ho:s.heap.get? a=aa o)(h1:F.r.heap.objs.size<=a)(h2:c.I a=none)(h3:∀k,c.ρ k≠aa a)(h4:a≠F.L):FInv F env (c.put a o) s/\Ext c (c.put a o):=by
 have x:=Cf.put_ext (o:=o) h2
 refine e12 V.ns fun m hm he=>?_
 refine⟨⟨⟨V.h.base.mono x.I,λb p e=>?_,λk p e=>?_,V.h.dom,λk b e=>?_,V.h.inj⟩,V.size,V.kept,(i12 m hm (λy v e=>?_)),?_,V.Lnew,V.Lne,V.old,λb p e=>?_,V.rest,λp q=>(V.cl p q).ext x⟩,x⟩
 ·by_cases q:b=a
  ·clear h2;subst q;rw[c.put_self] at e;have z0:=ac e;refine eqL z0 ?_;exact ho
  ·rw[c.put_ne o q] at e;exact V.h.keep b p e
 ·refine e12 (V.h.st k p e) fun b hb r=>?_
  exact(i12 b hb (r.mono x.I x.ρ rfl))
 ·rw[c.put_ne o (λq=>by clear h2;subst q;exact h3 k e)];exact V.h.out k b e
 ·refine e12 (he y v e) fun u hu r=>?_
  exact(i12 u hu (r.ext x))
 ·rw[c.put_ne o (fh h4)];exact V.Lout
 ·by_cases q:b=a
  ·exact .inr (q▸h1)
  ·rw[c.put_ne o q] at e;exact V.Iold b p e
theorem FInv.show2(V:FInv F env c s)(hk:aX c.σ k=none)(h1:F.r.heap.objs.size<=a)(h2:c.I a=none)(h3:∀k,c.ρ k≠aa a)(h4:a≠F.L)
  (hr:ObjAt F.E.w.params c.I (c.add k a o).ρ s.heap a o):FInv F env (c.add k a o) s/\Ext c (c.add k a o):=by
 have y:=Cf.add_ext (a:=a) (o:=o) V.h hk
 refine e12 V.ns fun m hm he=>?_
 refine⟨⟨⟨V.h.base,V.h.keep,λj p e=>?_,λj b e=>?_,λj b e=>?_,λi j b e f=>?_⟩,V.size,V.kept,(i12 m hm (λz v e=>?_)),V.Lout,V.Lnew,λj q=>?_,λj b e=>?_,V.Iold,V.rest,λp q=>(V.cl p q).ext y⟩,y⟩
 ·have e:aX (c.σ++[(k,o)]) j=aa p:=e
  rw[lz hk] at e
  by_cases q:j=k
  ·subst q;replace e:=(if_pos rfl)▸e;have z0:=ac e;refine eqL z0 ?_;exact(i12 _ (c.add_self ..) hr)
  ·rw[if_neg q] at e
   refine(let G:=_;(?_:G));refine e12 (V.h.st j p e) fun b hb r=>?_
   exact(i12 b (y.ρ j b hb) (r.mono y.I y.ρ rfl))
 ·by_cases q:j=k
  ·clear hr;subst q;exact⟨o,by show aX (c.σ++[(j,o)]) j=_;rw[lz hk,if_pos rfl]⟩
  ·rw[c.add_ne _ o q] at e
   obtain⟨p,hp⟩:=V.h.dom j b e
   exact⟨p,by show aX (c.σ++[(k,o)]) j=_;rw[lz hk,if_neg q];exact hp⟩
 ·by_cases q:j=k
  ·subst q;rw[c.add_self] at e;have z1:=ac e;refine eqL z1 ?_;exact h2
  ·rw[c.add_ne _ o q] at e;exact V.h.out j b e
 ·by_cases q:i=k
  ·by_cases q':j=k
   ·simp only[q,q']
   ·subst q;rw[c.add_self] at e;have z2:=ac e;subst z2
    rw[c.add_ne _ o q'] at f
    exact absurd f (h3 j)
  ·by_cases q':j=k
   ·subst q';rw[c.add_self] at f;have z3:=ac f;subst z3
    rw[c.add_ne _ o q] at e
    exact absurd e (h3 i)
   ·rw[c.add_ne _ o q] at e;rw[c.add_ne _ o q'] at f;exact V.h.inj i j b e f
 ·refine e12 (he z v e) fun u hu r=>?_
  exact(i12 u hu (r.ext y))
 ·refine(let G1:=_;(?_:G1));by_cases z:j=k
  ·clear h2;clear h3;clear hr;clear y;refine(let G2:=_;(?_:G2));refine(let G3:=_;(?_:G3));subst z;rw[c.add_self] at q;have z4:=ac q;subst z4;exact h4 rfl
  ·rw[c.add_ne _ o z] at q;exact V.Lne j q
 ·by_cases z:j=k
  ·subst z;rw[c.add_self] at e;have z5:=ac e;refine eqL z5 ?_;exact .inr h1
  ·rw[c.add_ne _ o z] at e;exact V.old j b e
end
structure Room(A:aS)(b:Nat):Prop where
 depth:A.depth+b<pL
 units:A.units+20*b<cLine
 handled:A.handled=none
theorem Room.u(R:Room A b):A.units<cLine:=k7 (fw _ _) R.units
inductive PE(F:Fs)(env:aw)(c:Cf)(Q:AV->St->Prop)(v:Value)(s':Shared):Prop
 |mk (d:Cf) (r:AV):Ext c d->FInv F env d s'->Rp F.E d r v->Q r d.σ->PE F env c Q v s'
inductive PB(F:Fs)(env:aw)(c:Cf)(Q:Bool->St->Prop)(b:Bool)(s':Shared):Prop
 |mk (d:Cf):Ext c d->FInv F env d s'->Q b d.σ->PB F env c Q b s'
inductive mF(F:Fs)(env:aw)(c:Cf)(Q:List AV->St->Prop)(vs:List Value)(s':Shared):Prop
 |mk (d:Cf) (rs:List AV):Ext c d->FInv F env d s'->All2 (Rp F.E d) rs vs->Q rs d.σ->mF F env c Q vs s'
inductive PC(F:Fs)(env:aw)(c:Cf)(Q:Bool->St->Prop)(v:Value)(s':Shared):Prop
 |mk (d:Cf) (b:Bool):v=.bool b->Ext c d->FInv F env d s'->Q b d.σ->PC F env c Q v s'
theorem PE.lift(x:Ext c d):∀v s',PE F env d Q v s'->PE F env c Q v s':=λ_ _ h=>h.casesOn fun d' r x' V rr q=>⟨d',r,x.trans x',V,rr,q⟩
theorem PB.lift(x:Ext c d):∀v s',PB F env d Q v s'->PB F env c Q v s':=λ_ _ h=>h.casesOn fun d' x' V q=>⟨d',x.trans x',V,q⟩
theorem PC.lift(x:Ext c d):∀v s',PC F env d Q v s'->PC F env c Q v s':=λ_ _ h=>h.casesOn fun d' b e x' V q=>⟨d',b,e,x.trans x',V,q⟩
section
variable{F:Fs}{A:aS}{env:aw}{c:Cf}{s:Shared}{α:Type}{K:α->Shared->Prop}
theorem cK{K:Value->Shared->Prop}(h:am F.E.M A t (PE F env c Q) aK s)(f:∀v s' d u,Ext c d->FInv F env d s'->Rp F.E d u v->Q u d.σ->K v s'):am F.E.M A t K aK s:=aT h (λv s' hp=>hp.casesOn fun d u x W r q=>f v s' d u x W r q) bb
theorem um{K:Bool->Shared->Prop}(h:am F.E.M A t (PB F env c Q) aK s)(f:∀b s' d,Ext c d->FInv F env d s'->Q b d.σ->K b s'):am F.E.M A t K aK s:=aT h (λv s' hp=>hp.casesOn fun d x W q=>f v s' d x W q) bb
theorem qp{K:List Value->Shared->Prop}(h:am F.E.M A t (mF F env c Q) aK s)(f:∀vs s' d us,Ext c d->FInv F env d s'->All2 (Rp F.E d) us vs->Q us d.σ->K vs s'):am F.E.M A t K aK s:=aT h (λv s' hp=>hp.casesOn fun d u x W r q=>f v s' d u x W r q) bb
theorem IT{K:Value->Shared->Prop}(h:am F.E.M A t (PC F env c Q) aK s)(f:∀s' d b,Ext c d->FInv F env d s'->Q b d.σ->K (.bool b) s'):am F.E.M A t K aK s:=aT h (λv s' hp=>hp.casesOn fun d b e x W q=>e▸f s' d b x W q) bb
end
def Ev(F:Fs)(A:aS)(env:aw)(t:cy Value)(c:Cf)(s:Shared)(Q:AV->St->Prop):Prop:=
 am F.E.M A t (PE F env c Q) aK s
def lD(F:Fs)(A:aS)(env:aw)(t:cy Bool)(c:Cf)(s:Shared)(Q:Bool->St->Prop):Prop:=
 am F.E.M A t (PB F env c Q) aK s
section
variable{F:Fs}{A:aS}{env:aw}{c:Cf}{s:Shared}{Q:AV->St->Prop}
theorem Ev.same(V:FInv F env c s)(t:Nat)(h:Rp F.E c r v)(q:Q r c.σ):PE F env c Q v {s with toks:=t}:=
 ⟨c,r,Ext.refl c,V.toks t,h,q⟩
theorem Ev.here(V:FInv F env c s)(h:Rp F.E c r v)(q:Q r c.σ):PE F env c Q v s:=
 ⟨c,r,Ext.refl c,V,h,q⟩
theorem IU{y:Int}{x:List UInt8}(h2:y<=1048576)(h3:x.length<=16):((fH y.toNat x).flatten).length<=aW:=by
 simp only[List.length_flatten,List.map_replicate,List.sum_replicate_nat]
 have :y.toNat*x.length<=1048576*16:=Nat.mul_le_mul (by omega) h3
 exact this
theorem IV(h:zG op x y R)(e:∀{z n},R (.int z)->PE F env c Q (.int z n) {s with toks:=s.toks+1}):Ev F A env (tj op (.int x t) (.int y k)) c s Q:=by
 cases op with
 |Add=>exact wpAny_add_int (e h)
 |Sub=>exact sub_int (e h)
 |Mult=>exact bH h fun g h=>mul_int (e h) (zy g)
 |Mod=>exact bH h fun g h=>mod_int' (tO g).1 (e h)
 |Pow=>exact bH h fun g h=>pow_int (zA g).1 (zA g).2 (e h)
 |LShift=>exact bH h fun g h=>lshift_int (zz g).1 (zz g).2 (e h)
 |RShift=>exact bH h fun g h=>rshift_int (qh g) (e h)
 |BitOr=>exact or_int (e h)
 |BitAnd=>exact and_int (e h)
 |FloorDiv=>exact bH h fun g h=>floordiv_int (tO g).1 (e h) (.inl (PyProof.noPylong_of_log2 (tO g).2))
 |_=>exact h.elim
theorem IW{op:k8}{a b:AV}{u v:Value}(V:FInv F env c s)(ra:Rp F.E c a u)(rb:Rp F.E c b v)(h:zH op a b c.σ Q):Ev F A env (tj op u v) c s Q:=
 aq h fun y e h=>rb.int_at e fun k=>cQ h (λx e h=>ra.int_at e fun t=>IV h fun q=>Ev.same V _ (.pv .int) q) fun _ h=>aq h fun x e h=>aq h fun _ em h=>bH h fun g h=>ra.byt_at e fun t _=>eqR (Iz em)
  (bytes_mul_any (mr g).1 (mr g).2.1 (mr g).2.2.1 (mr g).2.2.2 fun t' k=>Ev.same V _ (.pv (.bytes (IU (mr g).2.2.1 (mr g).2.2.2))) h)
theorem IX(V:FInv F env c s)(ra:Rp F.E c a u)(h:zJ op a c.σ Q):Ev F A env (unaryOp op u) c s Q:=
 aq h fun x e h=>ra.int_at e fun t=>by
  cases op with
  |Invert=>exact invert_int (Ev.same V _ (.pv .int) h)
  |USub=>exact neg_int (Ev.same V _ (.pv .int) h)
  |_=>exact h.elim
noncomputable def uo(x:Int)(v:Value):Bool:=th (motive:=λ_=>Bool) v false false false (λ_=>false) (λy _=>y == x) (λ_ _=>false) (λ_ _=>false) (λ_ _=>false) (λ_=>false) (λ_=>false) (λ_=>false)
theorem Ag(rp:RepP P I p u)(rq:RepP P I q v)(h:tV p q=aa b):SeqAt.RcAt A s u v b/\Xu A s u v (!b):=
 dE h (λx e h=>ay h fun y e2 h=>rp.int_at e fun t=>rq.int_at e2 fun k=>ac h▸⟨.int_int _ _ _ _,.int_int _ _ _ _⟩) fun _ h=>dE h (λx e h=>ay h fun y e2 h=>rp.boo_at e (rq.boo_at e2 (ac h▸⟨.bool_bool _ _,.bool_bool _ _⟩)))
  fun _ h=>ay h fun x e h=>ay h fun y e2 h=>rp.str_at e fun t=>rq.str_at e2 fun k=>ac h▸⟨.str_str _ _ _ _,.str_str _ _ _ _⟩
theorem IY(a:Int)(t:fj)(b:Bool):Gives (bV.«int.__lt__» ⟨[.bool b,.int a t],[]⟩) (.val (Xw (decide ((if b=true then(1:Int) else 0)<a)))):=
 .of_wp fun M A E s Q h=>by obtain⟨hp,g,d,tk,os⟩:=s;wp_walk;exact(i12 _ rfl h)
theorem IZ(a:Int)(t:fj)(b:Bool):Gives (bV.«int.__ge__» ⟨[.bool b,.int a t],[]⟩) (.val (Xw (decide ((if b=true then(1:Int) else 0)>=a)))):=
 .of_wp fun M A E s Q h=>by obtain⟨hp,g,d,tk,os⟩:=s;wp_walk;exact(i12 _ rfl h)
section
variable{prog:Program}{w:bD}{E:Value->Shared->Prop}{K:Value->Shared->Prop}
theorem I0(h:K (.bool (decide (a<=if b=true then(1:Int) else 0))) s):am (aH prog w) A (pI .LtE (.int a t) (.bool b)) K E s:=
 SeqAt.rc_sub_first_or (op:=.LtE) (pP s a t) rfl (by decide) F.sub_bool_int Wt
  (call_gives Wt rfl F.entry_int_ge (F.args_int_ge_2 _ _) (IZ a t b) ⟨nofun,h⟩) (.inl rfl)
theorem I1(h:K (.bool (decide ((if b=true then(1:Int) else 0)<a))) s):am (aH prog w) A (pI .Lt (.bool b) (.int a t)) K E s:=
 SeqAt.rc_left_or (op:=.Lt) rfl (pP s a t) (by decide) F.sub_int_bool Wu
  (call_gives Wu rfl F.entry_int_lt (F.args_int_lt_2 _ _) (IY a t b) ⟨nofun,h⟩) (.inl rfl)
end
end
section
variable{P:bq}{I:Im}{A:aS}{s:Shared}{prog:Program}{w:bD}{E:Value->Shared->Prop}
noncomputable def kt(v:Value):Bool:=th (motive:=λ_=>Bool) v true false false (λ_=>false) (λ_ _=>false) (λ_ _=>false) (λ_ _=>false) (λ_ _=>false) (λ_=>false) (λ_=>false) (λ_=>false)
theorem uq:kt v=true->v=.none:=th (motive:=λv=>kt v=true->v=.none) v (λ_=>rfl) bn bn (λ_=>bn) (λ_ _=>bn) (λ_ _=>bn) (λ_ _=>bn) (λ_ _=>bn) (λ_=>bn) (λ_=>bn) (λ_=>bn)
theorem I2(r:RepA P I ρ a u):isNone a=aa b->kt u=b:=
 RepA.casesOn (motive:=λa u _=>isNone a=aa b->kt u=b) r (λr=>RepP.casesOn (motive:=λp u _=>isNone (.pv p)=aa b->kt u=b) r ac ac ac ac (λ_=>ac) (λ_ _=>ac) (λ_=>aD)
  (λ_ _ _ _=>ac) (λ_ _ _ _=>ac) (λ_ _ _ _ _=>ac)) (λ_=>ac) (λ_ _ _ _ _=>ac)
theorem Ah(h:kt u=false):u≠.none:=λe=>bn (h.symm.trans (congrArg kt e))
theorem I3{l:List Int}{m:List Int}(h:l.length=m.length):(gV l.length).all (λj=>l[j]? == m[j]?)=decide (l=m):=by
 rw[Bool.eq_iff_iff]
 simp only[du,GZ,beq_iff_eq,decide_eq_true_eq]
 constructor
 ·intro k
  refine yz fun i=>?_
  by_cases q:i<l.length
  ·exact k i q
  ·rw[sU (aO (f2 1 [(1,v0,v1)] v0 v1 rfl (jw q))),sU (aO (f3 1 [(1,v1,v0),(1,v0,v2)] v1 v2 rfl (fZ h) (jw q)))]
 ·rintro rfl _ _;rfl
theorem Ai{vs:List Value}{xs:List Int}(h:RepL P I (xs.map .int) vs){j:Nat}{y:Value}(e:vs[j]? =aa y):∃x t,y=.int x t/\xs[j]? =aa x:=by
 have k:j<xs.length:=by rw[<-dT PV.int,h.1];exact(List.getElem?_eq_some_iff.mp e).1
 have e1:=eH k
 exact e11 (h.2 j (.int xs[j]) y (by rw[io,e1];rfl) e).int_inv fun t f=>i22 _ t f e1
theorem I4{l m:List PV}{u v:Value}{xs ys:List Int}(hu:A.units<cLine)(k:∀a o,I a=aa o->s.heap.get? a=aa o)(rp:RepP P I (.list l) u)(rq:RepP P I (.list m) v)(hl:l=xs.map .int)(hm:m=ys.map .int):
  Xu A s u v (!decide (xs=ys)):=by
 refine e34 rp.list_inv fun a vs n eu i1 _ R1=>e34 rq.list_inv fun b us n' ev i2 _ R2=>?_
 rw[eu,ev]
 replace R1:=hl▸R1
 replace R2:=hm▸R2
 have l1:=R1.1
 have l2:=R2.1
 have h1:s.heap.IsList a vs.toArray:=⟨_,k _ _ i1,rfl,n,rfl⟩
 have h2:s.heap.IsList b us.toArray:=⟨_,k _ _ i2,rfl,n',rfl⟩
 rw[dT] at l1 l2
 by_cases q:xs.length=ys.length
 ·rw[<-I3 q,l1]
  exact .lists h1 h2 (l1.symm.trans (q.trans l2)) hu fun j x y=>e22 (Ai R1 (eH x)) fun x1 t e1 f1=>e22 (Ai R2 (eH y)) fun x2 t' e2 f2=>by
   rw[f1,f2,show vs.toArray[j]=_ from e1,show us.toArray[j]=_ from e2];exact .int_int _ _ _ _
 ·rw[show decide (xs=ys)=false from decide_eq_false fun e=>q (by rw[e])]
  exact .lists_lengths h1 h2 (bne_iff_ne.mpr fun e=>q (l1.trans (Gw e l2.symm))) hu
theorem I5:∀{l:List PV} {vs:List Value} {b:Bool},RepL P I l vs->tW x l=aa b->(∀y,y∈vs->SeqAt.EqAt A s y (.int x t) (uo x y))/\vs.any (uo x)=b:=by
 intro v0
 induction v0 with
 |nil=>exact fun r h=>r.nil_el (ac h▸⟨λ_ m=>absurd m fu,rfl⟩)
 |cons q l ih=>
  exact fun r h=>r.cons_el fun v vs r1 r2=>ay h fun y e h=>ay h fun z e2 h=>r1.int_at e fun t=>ax (ih r2 e2) fun k1 k2=>ac h▸⟨List.forall_mem_cons.mpr ⟨.int_int _ _ _ _,k1⟩,congrArg ((y == x)||·) k2⟩
@[elab_as_elim] theorem ur{p:PV}{u:Value}{x:Int}{M:Value->Prop}(r:RepP P I p u)(h:fP p=aa x)(f:∀t,M (.int x t))(g:∀b:Bool,x=(if b then 1 else 0)->M (.bool b)):M u:=
 dE h (λi e h=>r.int_at e fun t=>ac h▸f t) fun _ h=>ay h fun b e h=>r.boo_at e (g b (by rw[<-ac h];cases b <;> rfl))
theorem I6(k:∀a o,I a=aa o->s.heap.get? a=aa o)(ra:RepP P I p u)(rb:RepP P I q v)(ep:bX p=aa x)(eq:j5 q=aa l)(e:tW x l=aa j){K:Value->Shared->Prop}(f:K (.bool j) s):am (aH prog w) A (pI .In u v) K E s:=
 ra.int_at ep fun t=>rb.tup_at eq fun a vs i2 _ r2=>ax (I5 (A:=A.in1) (s:=s) (t:=t) r2 e) fun g1 g2=>SeqAt.in_tupleAt (items:=vs.toArray) (uo x) ⟨_,k _ _ i2,rfl,0,rfl⟩ (λy m=>g1 y (List.mem_toArray.mp m)) (by rw[List.any_toArray,g2];exact f)
inductive qr(Q:Bool->Prop)(s:Shared)(r:Value)(s':Shared):Prop
 |mk (k:Bool):r=.bool k->Q k->s'=s->qr Q s r s'
theorem I7{op:nA}{p q:PV}{u v:Value}{Q:Bool->Prop}(hu:A.units<cLine)(k:∀a o,I a=aa o->s.heap.get? a=aa o)(ra:RepP P I p u)(rb:RepP P I q v)(h:zK op p q Q):
  am (aH prog w) A (pI op u v) (qr Q s) E s:=by
 have fin:∀{k:Bool},Q k->qr Q s (.bool k) s:=λq=>⟨_,rfl,q,rfl⟩
 cases op with
 |Eq=>exact aq h fun j e g=>(Ag ra rb e).1 prog w E _ (fin g)
 |NotEq=>exact cQ h (λj e g=>(Ag ra rb e).2 prog w E _ (fin g)) fun _ h=>aq h fun l e1 h=>aq h fun m e2 h=>e23 h fun xs ys f1 f2 g=>(I4 hu k (lk e1▸ra) (lk e2▸rb) f1 f2) prog w E _ (fin g)
 |Lt=>exact aq h fun x e1 h=>aq h fun y e2 h=>rb.int_at e2 fun t'=>ur ra e1 (λt=>PySem.P.lt_int (fin h)) fun b e=>I1 (fin (e▸h))
 |LtE=>exact aq h fun x e1 h=>aq h fun y e2 h=>ra.int_at e1 fun t=>ur rb e2 (λt'=>PySem.P.le_int (fin h)) fun b e=>I0 (fin (e▸h))
 |GtE=>exact aq h fun x e1 h=>aq h fun y e2 h=>ra.int_at e1 fun t=>rb.int_at e2 fun t'=>PySem.P.ge_int (fin h)
 |In=>exact cQ h (λy e2 h=>aq h fun x e1 h=>ra.str_at e1 fun t=>rb.str_at e2 fun t'=>PySem.SB.contains (fin h)) fun _ h=>aq h fun l e2 h=>aq h fun x e1 h=>aq h fun j e h=>I6 k ra rb e1 e2 e (fin h)
 |_=>exact h.elim
theorem I8(hu:A.units<cLine)(k:∀a o,I a=aa o->s.heap.get? a=aa o)(ra:RepA P I ρ a u)(rb:RepA P I ρ b v)(h:qm op a b Q):
  am (aH prog w) A (pI op u v) (qr Q s) E s:=
 cQ h (λn e h=>aq h fun _ e1 h=>aq h fun r e2 h=>rb.non_at e1 (by
  have z:=I2 ra e2
  rw[IB e]
  cases n with
  |false=>cases r with
   |true=>rw[uq z];exact is_none ⟨_,rfl,h,rfl⟩
   |false=>exact is_none_ne (Ah z) ⟨_,rfl,h,rfl⟩
  |true=>cases r with
   |true=>rw[uq z];exact isNot_none ⟨_,rfl,h,rfl⟩
   |false=>exact isnot_none_ne (Ah z) ⟨_,rfl,h,rfl⟩)) fun _ h=>aq h fun p e1 h=>aq h fun q e2 h=>I7 hu k (ra.pvx e1) (rb.pvx e2) h
theorem qs{K:Value->Shared->Prop}(hu:A.units<cLine)(k:∀a o,I a=aa o->s.heap.get? a=aa o)(ra:RepA P I ρ a u)(rb:RepA P I ρ b v)(h:qm op a b Q)(f:∀b,Q b->K (.bool b) s):
  am (aH prog w) A (pI op u v) K aK s:=aT (I8 hu k ra rb h) (λz s' hp=>hp.casesOn fun b e1 e2 e3=>e1▸e3▸f b e2) bb
theorem Aj(ra:RepA P I ρ a u)(h:kk a Q):am (aH prog w) A (truthy u) (λb s'=>Q b/\s'=s) E s:=
 cQ h (λ_ e h=>ra.non_at e (truthy_none ⟨h,rfl⟩)) fun _ h=>aq h fun b e h=>ra.boo_at e (za ⟨h,rfl⟩)
theorem qt{K:Bool->Shared->Prop}(ra:RepA P I ρ a u)(h:kk a Q)(f:∀b,Q b->K b s):am (aH prog w) A (truthy u) K aK s:=
 aT (Aj ra h) (λb s' z=>ax z fun q e=>e▸f b q) bb
end
inductive Done(E:Env0)(c:Cf)(s:Shared)(Q:AV->St->Prop)(v:Value)(s':Shared):Prop
 |mk (d:Cf) (r:AV):Ext c d->HInv E d s'.heap->Rp E d r v->Q r d.σ->s.heap.objs.size<=s'.heap.objs.size->
  (∀a o,s.heap.get? a=aa o->(∀k,c.ρ k≠aa a)->s'.heap.get? a=aa o)->
  (∀k a,d.ρ k=aa a->c.ρ k=aa a\/s.heap.objs.size<=a)->
  (∀a o,d.I a=aa o->c.I a=aa o\/s.heap.objs.size<=a)->
  s'.gens=s.gens/\s'.drawn=s.drawn/\s'.os=s.os->Done E c s Q v s'
abbrev KwRep(E:Env0)(c:Cf)(kw:List (Str×AV))(ks:List (Str×Value)):Prop:=All2 (λf g=>f.1=g.1/\Rp E c f.2 g.2) kw ks
def Spec.Sound(E:Env0)(S:Spec)(f:Value):Prop:=
 ∀(A:aS) (s:Shared) (c:Cf) (vs:List AV) (us:List Value) (kw:List (Str×AV)) (ks:List (Str×Value)) (Q:AV->St->Prop),
  Room A S.need->HInv E c s.heap->All2 (Rp E c) vs us->KwRep E c kw ks->S.run vs kw c.σ Q->am E.M A (bO f us ks) (Done E c s Q) aK s
def Spec.SoundC(E:Env0)(S:Spec)(f:Value):Prop:=
 ∀(A:aS) (s:Shared) (c:Cf) (vs:List AV) (us:List Value) (kw:List (Str×AV)) (ks:List (Str×Value)) (Q:AV->St->Prop),
  Room A S.need->HInv E c s.heap->All2 (Rp E c) vs us->KwRep E c kw ks->S.run vs kw c.σ Q->la E.M A (.call f ⟨us,ks⟩) (λr s'=>∃v,r=.ok (.ret v)/\Done E c s Q v s') s
theorem Spec.SoundC.sound{E:Env0}{S:Spec}{f:Value}(h:S.SoundC E f):S.Sound E f:=λA s c vs us kw ks Q R V rv rk q=>
 nY (pH (h A s c vs us kw ks Q R V rv rk q) fun r s' h=>by
  obtain⟨v,rfl,h⟩:=h
  exact h)
theorem has_iff:has ks k=true↔k∈ks:=by
 unfold has
 rw[yw]
 exact⟨λz0=>e12 z0 fun x h e=>(ce e)▸h,λh=>(i12 k h (Ha k))⟩
theorem gb:aX (p::σ) k=if k=p.1 then aa p.2 else aX σ k:=by
 unfold aX
 rw[cr]
 by_cases h:k=p.1
 ·refine eqL h ?_;simp
 ·have :(k == p.1)=false:=by simpa using h
  simp only[this,if_neg h]
theorem stGet_keys:(∃o,aX σ k=aa o)↔k∈bF σ:=by
 induction σ with
 |nil=>exact⟨λz0=>e11 z0 fun o h=>(by exact aD h),λh=>(by refine(let G:=_;(?_:G));cases h)⟩
 |cons p σ ih=>
  rw[gb]
  show _↔k∈p.1::bF σ
  by_cases h:k=p.1
  ·refine eqL h ?_;rw[if_pos rfl];exact⟨λ_=>cM,λ_=>⟨_,rfl⟩⟩
  ·rw[if_neg h,ih,cT];exact⟨.inr,λq=>q.resolve_left h⟩
theorem mG(h:k∉bF σ):aX σ k=none:=by
 cases e:aX σ k with
 |none=>rfl
 |some o=>exact absurd (stGet_keys.mp ⟨o,e⟩) h
theorem ut(h:aX σ k=aa o):(k,o)∈σ:=by
 induction σ with
 |nil=>exact aD h
 |cons p σ ih=>
  replace h:=gb▸h
  by_cases q:k=p.1
  ·replace h:=(if_pos q)▸h;have z0:=ac h;refine eqL z0 ?_;rw[q];exact cM
  ·replace h:=(if_neg q)▸h;exact cU _ (ih h)
theorem I9:aX (part σ ks) k=if has ks k=true then aX σ k else none:=by
 unfold part
 induction σ with
 |nil=>skip;split <;> rfl
 |cons p σ ih=>
  rw[yA]
  by_cases h:has ks p.1=true
  ·rw[if_pos h,gb,gb,ih]
   by_cases q:k=p.1
   ·subst q;rw[if_pos rfl,if_pos rfl,if_pos h]
   ·rw[if_neg q,if_neg q]
  ·rw[if_neg h,ih,gb]
   by_cases q:k=p.1
   ·subst q;rw[if_neg h,if_neg h]
   ·rw[if_neg q]
theorem Ja:aX (σ++τ) k=(aX σ k).or (aX τ k):=by
 induction σ with
 |nil=>rfl
 |cons p σ ih=>
  simp only[yy,gb,gb,ih]
  split <;> rfl
theorem Ak:aX (n9 σ τ) k=(aX τ k).or (aX σ k):=by
 unfold n9
 rw[Ja]
 have h1:aX (σ.map fun p=>match aX τ p.1 with |some o=>(p.1,o)|none=>p) k=if k∈bF σ then(aX τ k).or (aX σ k) else none:=by
  induction σ with
  |nil=>rfl
  |cons p σ ih=>
   simp only[ey,gb,ih,gb]
   have e1:(match aX τ p.1 with |some o=>(p.1,o)|none=>p).1=p.1:=by split <;> rfl
   have e2:aa (match aX τ p.1 with |some o=>(p.1,o)|none=>p).2=(aX τ p.1).or (aa p.2):=by
    cases aX τ p.1 <;> rfl
   rw[e1]
   show _=if k∈p.1::bF σ then _ else _
   by_cases q:k=p.1
   ·refine eqR q ?_;rw[if_pos rfl,if_pos rfl,if_pos cM,e2]
   ·rw[if_neg q,if_neg q]
    by_cases z:k∈bF σ
    ·rw[if_pos z,if_pos (cU _ z)]
    ·rw[if_neg z,if_neg (by rw[cT];exact fun w=>w.elim q z)]
 have h2:aX (τ.filter fun p=>!has (bF σ) p.1) k=if k∈bF σ then none else aX τ k:=by
  clear h1
  induction τ with
  |nil=>skip;split <;> rfl
  |cons p τ ih=>
   rw[yA]
   by_cases h:has (bF σ) p.1=true
   ·rw[h,if_neg (by simp),ih,gb]
    by_cases q:k=p.1
    ·refine eqR q ?_;rw[if_pos (has_iff.mp h),if_pos (has_iff.mp h)]
    ·rw[if_neg q]
   ·simp only[Bool.not_eq_true] at h
    rw[h,if_pos (by simp),gb,ih,gb]
    have hp:p.1∉bF σ:=λw=>by replace h:=(has_iff.mpr w)▸h;exact bn h.symm
    by_cases q:k=p.1
    ·clear ih;refine eqR q ?_;rw[if_pos rfl,if_pos rfl,if_neg hp]
    ·rw[if_neg q,if_neg q]
 refine(show Hg _ _=Hg _ _ from congr (congrArg Hg h1) h2).trans ?_
 by_cases z:k∈bF σ
 ·rw[if_pos z,if_pos z];cases (aX τ k).or (aX σ k) <;> rfl
 ·rw[if_neg z,if_neg z,mG z];cases aX τ k <;> rfl
theorem RepA.cut(g:∀k a,has ks k=true->ρ k=aa a->τ k=aa a)(r:RepA P I ρ v u):∀{n:Nat},hJ ks n v=true->RepA P I τ v u:=by
 induction r with
 |pv r=>exact fun _=>.pv r
 |loc e=>
  intro n h
  refine(let G:=_;(?_:G));cases n with
  |zero=>exact bn h
  |succ n=>exact .loc (g _ _ h e)
 | @obj C fs a d es n i j l k r ih=>
  intro n h
  refine(let G1:=_;(?_:G1));cases n with
  |zero=>exact bn h
  |succ n=>
   have h:fs.all (λf=>hJ ks n f.2)=true:=h
   exact .obj i j l k fun i x p e q1 q2=>ih i x p e q1 q2 (du.mp h _ (pr q1))
theorem ObjAt.cut(g:∀k a,has ks k=true->ρ k=aa a->τ k=aa a):∀{o:AObj},ObjAt P I ρ h a o->n8 ks o=true->ObjAt P I τ h a o
 | .list _,x,_=>x
 | .ba _,x,_=>x
 | .inst _ _,⟨d,x,y⟩,k=>(i12 d (g _ _ k x) y)
 | .attrs fs,⟨es,n,x,y⟩,k=>⟨es,n,x,y.1,λi f e q1 q2=>⟨(y.2 i f e q1 q2).1,(y.2 i f e q1 q2).2.cut g (du.mp (show fs.all (λf=>hJ ks 9 f.2)=true from k) _ (pr q1))⟩⟩
def Cf.cut(c:Cf)(ks:List Nat):Cf:={I:=c.I,σ:=part c.σ ks,ρ:=λk=>match has (bF (part c.σ ks)) k with |true=>c.ρ k |false=>none}
theorem Cf.cut_some{c:Cf}{ks:List Nat}{k:Nat}{a:Addr}(h:(c.cut ks).ρ k=aa a):c.ρ k=aa a/\k∈bF (part c.σ ks):=by
 have h:(match has (bF (part c.σ ks)) k with |true=>c.ρ k |false=>none)=aa a:=h
 refine(let G:=_;(?_:G));cases e:has (bF (part c.σ ks)) k with
 |true=>replace h:=e▸h;exact⟨h,has_iff.mp e⟩
 |false=>replace h:=e▸h;exact aD h
theorem Cf.cut_of{c:Cf}{ks:List Nat}{k:Nat}(h:k∈bF (part c.σ ks)):(c.cut ks).ρ k=c.ρ k:=by
 show(match has (bF (part c.σ ks)) k with |true=>c.ρ k |false=>none)=_
 rw[has_iff.mpr h]
theorem Jb(h:aX (part σ ks) k=aa o):aX σ k=aa o:=by
 rw[I9] at h
 split at h
 ·exact h
 ·exact aD h
theorem HInv.cut{E:Env0}{c:Cf}{h:Heap}(V:HInv E c h){ks:List Nat}(hc:(part c.σ ks).all (λp=>n8 (bF (part c.σ ks)) p.2)=true):HInv E (c.cut ks) h:=by
 have g:∀k a,has (bF (part c.σ ks)) k=true->c.ρ k=aa a->(c.cut ks).ρ k=aa a:=λk a q e=>(Cf.cut_of (has_iff.mp q)).trans e
 refine⟨V.base,V.keep,λk o e=>?_,λk a e=>?_,λk a e=>V.out k a (Cf.cut_some e).1,λk j a e f=>V.inj k j a (Cf.cut_some e).1 (Cf.cut_some f).1⟩
 ·refine e12 (V.st k o (Jb e)) fun a ha r=>?_
  exact(i12 a ((Cf.cut_of (stGet_keys.mp ⟨o,e⟩)).trans ha) (r.cut g (du.mp hc _ (ut e))))
 ·exact stGet_keys.mpr (Cf.cut_some e).2
theorem Done.frame{E:Env0}{c:Cf}{s s':Shared}{v:Value}{Q:AV->St->Prop}{ks:List Nat}(V:HInv E c s.heap)
  (D:Done E (c.cut ks) s (tK c.σ (part c.σ ks) Q) v s'):Done E c s Q v s':=by
 obtain⟨d,r,x,W,rr,q,hsz,kept,hρ,hI,rest⟩:=D
 refine bH q fun hc q=>?_
 ·
  rw[bC,du,du] at hc
  refine ax hc fun h1 h2=>?_
  have A1:∀k,k∈bF d.σ->k∈bF (part c.σ ks)\/k∉bF c.σ:=λk m=>by
   refine(let G:=_;(?_:G));refine e11 (stGet_keys.mpr m) fun o ho=>?_
   have :=h1 _ (ut ho)
   simp only[ny] at this
   rcases this with t |t
   ·exact .inl (has_iff.mp t)
   ·refine .inr fun w=>?_
    replace t:=(has_iff.mpr w)▸t;exact bn t
  have A2:∀k,k∈bF (part c.σ ks)->k∈bF d.σ:=λk m=>has_iff.mp (h2 k m)
  have cin:∀{k a},c.ρ k=aa a->k∈bF c.σ:=λe=>stGet_keys.mp (V.dom _ _ e)
  have clt:∀{k a},c.ρ k=aa a->a<s.heap.objs.size:=λe=>let⟨_,h⟩:=V.at e;bM h
  have din:∀{k a},d.ρ k=aa a->k∈bF d.σ:=λe=>stGet_keys.mp (W.dom _ _ e)
  let e:Cf:={I:=d.I,σ:=n9 c.σ d.σ,ρ:=λk=>match c.ρ k with |some a=>aa a |none=>d.ρ k}
  have ec:∀{k a},c.ρ k=aa a->e.ρ k=aa a:=λ{k a} h=>by show(match c.ρ k with |some a=>aa a |none=>d.ρ k)=_;rw[h]
  have ed:∀{k a},d.ρ k=aa a->e.ρ k=aa a:=λ{k a} h=>by
   show(match c.ρ k with |some a=>aa a |none=>d.ρ k)=_
   cases hk:c.ρ k with
   |none=>exact h
   |some b=>
    refine(let G1:=_;(?_:G1));rcases A1 k (din h) with m |m
    ·have :=x.ρ k b ((Cf.cut_of m).trans hk)
     rw[h] at this;exact this.symm
    ·exact absurd (cin hk) m
  have ei:∀{k a},e.ρ k=aa a->c.ρ k=aa a\/(c.ρ k=none/\d.ρ k=aa a/\s.heap.objs.size<=a):=λ{k a} h=>by
   have h:(match c.ρ k with |some a=>aa a |none=>d.ρ k)=aa a:=h
   cases hk:c.ρ k with
   |some b=>replace h:=hk▸h;exact .inl h
   |none=>
    replace h:=hk▸h
    refine .inr (bl rfl h (?_))
    rcases hρ k a h with t |t
    ·replace hk:=((Cf.cut_some t).1)▸hk;exact aD hk.symm
    ·exact t
  have xe:Ext c e:=⟨λa o h=>x.I a o h,λk a h=>ec h⟩
  refine⟨e,r,xe,⟨W.base,W.keep,λk o h=>?_,λk a h=>?_,λk a h=>?_,λk j a h h'=>?_⟩,RepA.mono (λ_ _ h=>h) (λ_ _ h=>ed h) rr,q,hsz,λa o h n=>kept a o h fun k h'=>n k (Cf.cut_some h').1,λk a h=>?_,hI,rest⟩
  ·have h:aX (n9 c.σ d.σ) k=aa o:=h
   replace h:=Ak▸h
   cases hd:aX d.σ k with
   |some o'=>
    replace h:=hd▸h;have z0:=ac h;refine eqL z0 ?_
    refine e12 (W.st k _ hd) fun a ha ra=>?_
    exact(i12 a (ed ha) (ra.mono (λ_ _ h=>h) (λ_ _ h=>ed h) rfl))
   |none=>
    replace h:=hd▸h
    refine e12 (V.st k o h) fun a ha ra=>?_
    refine(i12 a (ec ha) (ra.mono xe.I xe.ρ ?_))
    obtain⟨y,hy⟩:=ra.there
    simp only[hy]
    refine kept a y hy fun j hj=>?_
    have :=V.inj j k a (Cf.cut_some hj).1 ha
    clear ha;subst this
    refine e11 (stGet_keys.mpr (A2 _ (Cf.cut_some hj).2)) fun o' ho'=>?_
    replace ho':=hd▸ho';exact aD ho'
  ·skip
   rw[Ak]
   rcases ei h with t |⟨_,t,_⟩
   ·refine e11 (V.dom k a t) fun o ho=>?_
    rw[ho];cases aX d.σ k <;> exact⟨_,rfl⟩
   ·refine e11 (W.dom k a t) fun o ho=>?_
    rw[ho];exact⟨_,rfl⟩
  ·rcases ei h with t |⟨_,t,_⟩
   ·cases hi:d.I a with
    |none=>rfl
    |some o=>
     refine(let G2:=_;(?_:G2));rcases hI a o hi with w |w
     ·have w:c.I a=aa o:=w
      replace w:=(V.out k a t)▸w;exact aD w
     ·exact absurd (clt t) (Nat.not_lt.mpr w)
   ·exact W.out k a t
  ·refine(let G3:=_;(?_:G3));rcases ei h with t |⟨_,t,t'⟩ <;> rcases ei h' with u |⟨_,u,u'⟩
   ·exact V.inj k j a t u
   ·exact absurd (clt t) (Nat.not_lt.mpr u')
   ·exact absurd (clt u) (Nat.not_lt.mpr t')
   ·exact W.inj k j a t u
  ·rcases ei h with t |⟨_,_,t⟩
   ·exact .inl t
   ·exact .inr t
theorem FInv.after(V:FInv F env c s)(D:Done F.E c s Q v s'):PE F env c Q v s':=by
 refine(let G:=_;(?_:G));obtain⟨d,r,x,W,rr,q,hsz,kept,hρ,hI,rest⟩:=D
 refine e12 V.ns fun m hm he=>?_
 have hL:=hm.lt
 refine⟨d,r,x,⟨W,bT V.size hsz,λa o h n=>kept a o (V.kept a o h n) fun k hk=>?_,(i12 m (?_) (λy v e=>?_)),?_,V.Lnew,λk hk=>?_,λk a hk=>?_,λa o h=>?_,(bl (rest.1.trans V.rest.1) (rest.2.1.trans V.rest.2.1) (rest.2.2.trans V.rest.2.2)),λp q=>(V.cl p q).ext x⟩,rr,q⟩
 ·refine(let G1:=_;(?_:G1));rcases V.old k a hk with t |t
  ·exact n t
  ·exact absurd (bM h) (Nat.not_lt.mpr t)
 ·refine e32 hm fun o es ep ho r=>?_
  exact(i32 o es ep (kept _ _ ho V.Lne) r)
 ·refine e12 (he y v e) fun u hu r=>?_
  exact(i12 u hu (r.ext x))
 ·cases hi:d.I F.L with
  |none=>rfl
  |some o=>
   rcases hI _ _ hi with t |t
   ·replace t:=V.Lout▸t;exact aD t
   ·exact absurd hL (Nat.not_lt.mpr t)
 ·refine(let G2:=_;(?_:G2));rcases hρ k _ hk with t |t
  ·exact V.Lne k t
  ·exact absurd hL (Nat.not_lt.mpr t)
 ·rcases hρ k a hk with t |t
  ·exact V.old k a t
  ·exact .inr (bT V.size t)
 ·rcases hI a o h with t |t
  ·exact V.Iold a o t
  ·exact .inr (bT V.size t)
def uu(K:Frag)(C:Addr)(x:Str):Option Addr:=aA (jY K (.ref C) x) fun o=>aA o jA
theorem Al{K:Frag}(h:uu K C x=aa f):jY K (.ref C) x=aa (aa (.ref f)):=ay h fun o e h=>ay h fun v e1 h=>e.trans (congrArg aa (e1.trans (congrArg aa (j6 h))))
def qu(K:Frag)(C:Addr)(x:Str):Option Addr:=aA (uu K C x) fun p=>bW (yZ K C x&&HF K C&&HO K (.ref p) "__get__" == aa (aa (.builtin "property.__get__"))&&takesIn K (.ref p) == aa true)
 (aA (recIn K p "property") fun l=>aA (dF l) fun q=>jA q.1)
noncomputable def Am(K:Frag)(C:Addr)(x:Str):Bool:=yZ K C x&&HF K C&&jY K (.ref C) x == aa none
noncomputable def uv(K:Frag)(C:Addr)(x:Str):Bool:=jY K (.ref C) "__setattr__" == aa (aa (.builtin "object.__setattr__"))&&plainOver K C&&takerIn K C x == aa none&&HF K C
def jF(K:Frag)(C:Addr)(m:Str):Option Addr:=aA (uu K C m) fun f=>bW (yZ K C m&&isFn K (.ref f)) (aa f)
theorem qv{K:Frag}(h:jF K C m=aa f):jY K (.ref C) m=aa (aa (.ref f))/\yZ K C m=true/\isFn K (.ref f)=true:=ay h fun g e h=>bU h fun g h=>ac h▸bl (Al e) (b2 g).1 (b2 g).2
noncomputable def uw(r:CFound):Option Value:=yn (motive:=λ_=>Option Value) r aa fun _ _ _ _=>none
noncomputable def ux(r:CFound):Option (Value×Value×Value×Value):=yn (motive:=λ_=>Option (Value×Value×Value×Value)) r (λ_=>none) fun a b c d=>aa (a,b,c,d)
theorem Jc(h:uw r=aa v):r=.val v:=yn (motive:=λr=>uw r=aa v->r=.val v) r (λ_ h=>ac h▸rfl) (λ_ _ _ _=>aD) h
theorem Jd(h:ux r=aa q):r=.get q.1 q.2.1 q.2.2.1 q.2.2.2:=yn (motive:=λr=>ux r=aa q->r=.get q.1 q.2.1 q.2.2.1 q.2.2.2) r (λ_=>aD) (λ_ _ _ _ h=>ac h▸rfl) h
def qw(K:Frag)(C:Addr)(x:Str):Option Value:=aA (nW K (.ref C)) fun mc=>bW (readsIn K C mc&&HO K (.ref C) "__getattribute__" == aa (aa (.builtin "type.__getattribute__")))
 (aA (yV K (.ref C) mc x) fun r=>dP (uw r) (λv=>bW (fY v) (aa v)) (aA (ux r) fun q=>bW (mx (p6 q.1) "staticmethod.__get__") (aA (jA q.2.1) fun p=>aA (jA q.2.2.2) fun _=>aA (recIn K p "staticmethod") fun l=>aA (dF l) fun f=>bW (fY f.1) (aa f.1))))
def An(v:Value):Option (Int×fj):=cq fun h=>Hp v h fun i t=>aa (i,t)
theorem Je(h:An v=aa q):v=.int q.1 q.2:=cF h fun i h=>Hp (motive:=λv=>∀i,(Hp v i fun i t=>aa (i,t))=aa q->v=.int q.1 q.2) v i (λ_ _ _ h=>ac h▸rfl) i h
def mH(p:PV)(v:Value):Bool:=kn (gH p) (λu=>u == v&&fY v) (dZ (bX p) fun i=>dZ (An v) fun q=>i == q.1)
theorem uy(h:mH p v=true):RepP P I p v:=
 qo h (λu e h=>by rw[n5 e,beq_iff_eq.mp (b2 h).1];exact .const (b2 h).2) fun _ h=>fO h fun i e h=>fO h fun j e1 h=>by rw[j4 e,Je e1,beq_iff_eq.mp h];exact .int
theorem RepA.handed(r:RepA P I ρ v u):fY u=true:=
 RepA.casesOn (motive:=λ_ u _=>fY u=true) r (λr=>RepP.casesOn (motive:=λ_ u _=>fY u=true) r rfl rfl rfl rfl (λ_=>rfl) (λ_ _=>rfl) (λh=>h) (λ_ _ _ _=>rfl) (λ_ _ _ _=>rfl) (λ_ _ _ _ _=>rfl)) (λ_=>rfl) (λ_ _ _ _ _=>rfl)
structure mI(E:Env0)(T:aI):Prop where
 glob:∀x p,T.glob.lookup x=aa p->∃v,RepP E.w.params (λa=>bN a E.K) p v/\(E.mg x=aa v\/(E.mg x=none/\E.mb x=aa v))
 cattr:∀C x p,fo T.cattr C x=aa p->∃v,qw E.K C x=aa v/\mH p v=true
 cmeth:∀C m f,fo T.cmeth C m=aa f->jF E.K C m=aa f/\gX E.K f=true
 cprop:∀C x g,fo T.cprop C x=aa g->qu E.K C x=aa g/\gX E.K g=true
 cfld:∀C x,qg T C x=true->Am E.K C x=true/\uv E.K C x=true
 fns:∀a S,T.fns.lookup a=aa S->S.Sound E (.ref a)/\(gX E.K a=true->S.SoundC E (.ref a))/\nQ E.K (.ref a)=true
 bls:∀n S,T.bls.lookup n=aa S->S.Sound E (.builtin n)
 tys:∀n S,T.tys.lookup n=aa S->S.Sound E (.type n)
noncomputable def ku{α:Type}(R:α->Value->Prop)(x:Str)(es:List DictEntry)(o:Option α):Prop:=Hi (getL x es=aa none) (λp=>∃v,getL x es=aa (aa v)/\R p v) o
theorem qx(x:Str):∀{fs:List (Str×α)} {es:List DictEntry},All2 (λf e=>(∃t,e.key=.str f.1 t)/\R f.2 e.val) fs es->es.any (·.refKey)=false/\ku R x es (fs.lookup x):=by
 intro v0
 induction v0 with
 |nil=>exact fun h=>h.nil_el ⟨rfl,rfl⟩
 |cons f fs ih=>
  exact fun h=>h.cons_el fun e es e2 h'=>ax (ih h') fun i1 i2=>e11 e2.1 fun t e1=>by
   have rk:e.refKey=false:=(show e.refKey=e.key.onHeap from rfl).trans (congrArg Value.onHeap e1)
   have ke:e.key.isStr x=(f.1 == x):=congrArg (Hq · x) e1
   refine⟨(congr (congrArg or rk) i1:),?_⟩
   unfold ku getL at i2 ⊢
   rw[cr,WQ,List.any_cons,rk,ke,Wk]
   by_cases q:x=f.1
   ·rw[beq_iff_eq.mpr q,beq_iff_eq.mpr q.symm];exact i12 _ rfl e2.2
   ·rw[beq_false_of_ne q,beq_false_of_ne (fh q)];exact i2
theorem Jf(h:ku (RepP E.w.params c.I) x es o):ku (Rp E c) x es (o.map .pv):=by
 cases o with
 |none=>exact h
 |some p=>exact e12 h fun v a b=>i12 v a (.pv b)
inductive Ao(E:Env0)(c:Cf)(h:Heap)(C:Addr)(f:Str->Option AV)(u:Value):Prop
 |mk (a d:Addr) (es:List DictEntry) (n:Nat):u=.ref a->InstAt h a (cW C d) C (aa (eS es n))->(∀x,ku (Rp E c) x es (f x))->Ao E c h C f u
theorem mJ(V:HInv E c h)(r:Rp E c v u)(hc:qf c.σ v=aa i):Ao E c h i.1 i.2 u:=
 dE hc (λq e hc=>r.onv e fun p rp e=>rp.obj_at e fun a d es n i1 i2 r=>ac hc▸⟨a,d,es,n,rfl,⟨V.keep _ _ i1,rfl,rfl,V.keep _ _ i2⟩,λx=>Jf (qx x r).2⟩)
  fun _ hc=>dE hc (λq e hc=>r.obj_at e fun a d es n i1 i2 r=>ac hc▸⟨a,d,es,n,rfl,⟨V.keep _ _ i1,rfl,rfl,V.keep _ _ i2⟩,λx=>(qx x r).2⟩)
  fun _ hc=>ay hc fun k e hc=>ay hc fun j e1 hc=>ay hc fun fs e2 hc=>r.loc_at e fun a ea=>e12 (V.st k _ (tL e1)) fun b hb z=>e12 z fun d hd ho=>e12 (V.st j.2 _ (tM e2)) fun d' hd' z=>e22 z fun es n he hr=>
   ac hc▸⟨a,d,es,n,rfl,⟨ac (hb.symm.trans ea)▸ho,rfl,rfl,ac (hd'.symm.trans hd)▸he⟩,λx=>(qx x hr).2⟩
theorem Room.le(R:Room A b)(h:a<=b):Room A a:=⟨k7 (G8 h _) R.depth,k7 (G8 (Nat.mul_le_mul_left _ h) _) R.units,R.handled⟩
theorem Room.in1(R:Room A (b+1)):Room A.in1 b:=⟨by have :=R.depth;show A.depth+b<_;exact dx (f3 1 [(1,.p (.p v0 (.p v1 (.n 1))) (.n 1),v2)] (.p (.p v0 v1) (.n 1)) v2 rfl (a:=↑A.depth) (b:=↑b) (c:=↑pL) (dD this)),by have :=R.units;show A.units+1+20*b<_;exact dx (f3 1 [(1,.p (.p v0 (.s 20 (.p v1 (.n 1)))) (.n 1),v2)] (.p (.p (.p v0 (.n 1)) (.s 20 v1)) (.n 1)) v2 rfl (a:=↑A.units) (b:=↑b) (c:=↑cLine) (dD this)),R.handled⟩
theorem Spec.call_inv{S:Spec}{bud:Nat}{vs:List AV}{kw:List (Str×AV)}{σ:St}{Q:AV->St->Prop}(h:S.call bud vs kw σ Q):S.need+8<=bud/\∃ks,oa (part σ ks) vs kw=true/\S.run vs kw (part σ ks) (tK σ (part σ ks) Q):=
 bH h fun e h=>bH h fun e' h=>⟨dv e,_,e',h⟩
theorem Ap(r:Rp E c v u)(h:hJ (bF (part c.σ ks)) 9 v=true):Rp E (c.cut ks) v u:=
 RepA.cut (λk a q e=>(Cf.cut_of (has_iff.mp q)).trans e) r h
theorem uz(r:All2 (Rp E c) vs us)(h:vs.all (hJ (bF (part c.σ ks)) 9)=true):All2 (Rp E (c.cut ks)) vs us:=
 ⟨r.1,λi a b e f=>Ap (r.2 i a b e f) (du.mp h _ (pr e))⟩
theorem uA(r:KwRep E c kw us)(h:kw.all (λf=>hJ (bF (part c.σ ks)) 9 f.2)=true):KwRep E (c.cut ks) kw us:=
 ⟨r.1,λi a b e f=>⟨(r.2 i a b e f).1,Ap (r.2 i a b e f).2 (du.mp h _ (pr e))⟩⟩
section
variable{E:Env0}{A:aS}{s:Shared}{c:Cf}{vs:List AV}{us:List Value}{kw:List (Str×AV)}{ks:List (Str×Value)}{Q:AV->St->Prop}{S:Spec}{f:Value}{bud:Nat}
theorem uB(hs:S.Sound E f)(R:Room A (bud-8))(V:HInv E c s.heap)(rv:All2 (Rp E c) vs us)(rk:KwRep E c kw ks)(h:S.call bud vs kw c.σ Q):am E.M A (bO f us ks) (Done E c s Q) aK s:=by
 refine(let G:=_;(?_:G));refine ax (Spec.call_inv h) fun hn z7=>?_;refine e12 z7 fun l hc h=>?_
 unfold oa at hc
 replace hc:=b3 hc
 exact aT (hs A s (c.cut l) vs us kw ks _ (R.le (aO (f3 1 [(1,.p v0 (.n 8),v1),(1,.m v1 (.n 8),v2)] v0 v2 rfl (aF hn) jx))) (V.cut hc.2) (uz rv hc.1.1) (uA rk hc.1.2) h) (λ_ _ D=>D.frame V) bb
theorem Aq(hs:S.SoundC E f)(R:Room A (bud-8))(V:HInv E c s.heap)(rv:All2 (Rp E c) vs us)(rk:KwRep E c kw ks)(h:S.call bud vs kw c.σ Q):
  la E.M A (.call f ⟨us,ks⟩) (λr s'=>∃v,r=.ok (.ret v)/\Done E c s Q v s') s:=by
 refine(let G:=_;(?_:G));refine ax (Spec.call_inv h) fun hn z7=>?_;refine e12 z7 fun l hc h=>?_
 unfold oa at hc
 replace hc:=b3 hc
 exact pH (hs A s (c.cut l) vs us kw ks _ (R.le (aO (f3 1 [(1,.p v0 (.n 8),v1),(1,.m v1 (.n 8),v2)] v0 v2 rfl (aF hn) jx))) (V.cut hc.2) (uz rv hc.1.1) (uA rk hc.1.2) h) fun _ _ z0=>e12 z0 fun v e D=>(i12 v e (D.frame V))
theorem kx{T:aI}(h:eK T f vs kw σ Q):∃S,qa T f=aa S/\S.call T.bud vs kw σ Q:=hE h
theorem uC{T:aI}(O:mI E T)(h:qa T f=aa S):S.Sound E f:=
 dE h (λa e h=>eqR (j6 e) (O.fns a S h).1) fun _ h=>dE h (λn e h=>eqR (p7 e) (O.bls n S h)) fun _ h=>ay h fun n e h=>eqR (ll e) (O.tys n S h)
end
theorem oq(h:R a b):All2 R [a] [b]:=.cons h .nil
structure EnvOk(F:Fs)(C:FCtx)(ev:Env):Prop where
 scope:ev.scope=C.scope
 kind:C.scope.kind=.function
 loc:ev.locals=F.L
 glob:ev.globals=mainGlobals
 blt:ev.builtins=nN
 dbg:bN ("__debug__" :Str) C.scope.names=none
 cells:∀x p,C.cells.lookup x=aa p->∃a o v,ev.cells.lookup x=aa a/\F.r.heap.get? a=aa o/\¬F.M a/\o.data=.cell (aa v)/\(x,p,v)∈F.cl/\(x == ("__classdict__" :Str))=false
section
variable{F:Fs}{A:aS}{env:aw}{c:Cf}{s:Shared}{Q:AV->St->Prop}{T:aI}{C:FCtx}{ev:Env}
theorem HInv.K(V:HInv E c h):Frag.In E.K h:=λa o e=>V.keep a o (V.base.K a o e)
theorem FInv.top(V:FInv F env c s):s.heap.Ns mainGlobals F.E.mg/\s.heap.Ns nN F.E.mb/\s.heap.NoLimit:=V.h.base.top _ V.h.keep
theorem FInv.krep(V:FInv F env c s)(r:RepP F.E.w.params (λa=>bN a F.E.K) p v):Rp F.E c (.pv p) v:=.pv (r.mono fun a o e=>V.h.base.K a o e)
theorem qy(O:mI F.E T)(N:EnvOk F C ev)(V:FInv F env c s)(h:mm T C env x=aa v)(q:Q v c.σ):Ev F A env (eval (.Name x pos) ev) c s Q:=
 ay h fun k e h=>by
  have hx:(x == ("__debug__" :Str))=false:=beq_false_of_ne fun q=>aD (N.dbg.symm.trans (q▸e))
  have hk:ev.scope.kind=.function:=by rw[N.scope];exact N.kind
  have ko:ev.kindOf x=aa k:=by show ev.scope.names.lookup x=_;rw[N.scope];exact e
  cases k with
  | «local»=>exact e12 V.ns fun m hm he=>e12 (he x v h) fun u hu r=>HR (HZ hk ko (by rw[N.loc];exact hm) hu (Ev.here V r q)) hx
  |globalImplicit=>exact ay h fun p hp h=>e12 (O.glob x p hp) fun u r hu=>cP V.top fun t1 t2 _=>Name_function_global hk ko (hu.elim
    (λhu=>XF (by rw[N.glob];exact t1) hu (Ev.here V (V.krep r) (ac h▸q)))
    fun hu=>XE (by rw[N.glob];exact t1) hu.1 (by rw[N.blt];exact t2) hu.2 (Ev.here V (V.krep r) (ac h▸q))) hx
  |free=>exact e36 (N.cells x v h) fun a o u h1 h2 h2' h3 r h4=>HR (XS hk ko h1 ⟨o,V.kept a o h2 h2',h3⟩ (Ev.here V (V.cl _ r) q) h4) hx
  |cell=>exact e36 (N.cells x v h) fun a o u h1 h2 h2' h3 r h4=>HR (wpAny_loadName_cell hk ko h1 ⟨o,V.kept a o h2 h2',h3⟩ (Ev.here V (V.cl _ r) q)) hx
  |globalExplicit=>exact aD h
theorem Ar{E:Env0}{a:Addr}{x:Str}{v:Value}{expr:Bool}{K Ex:Value->Shared->Prop}(X:E.K.In s.heap)(h:qw E.K a x=aa v)(q:fY v=true->K v {s with toks:=s.toks+1}):am E.M A (nP (.ref a) x expr) K Ex s:=
 ay h fun mc e0 h=>bU h fun e1 h=>ay h fun r e2 h=>dE h (λv' e3 h=>bU h fun e4 h=>eqL (M:=λv=>(fY v=true->K v {s with toks:=s.toks+1})->am E.M A (nP (.ref a) x expr) K Ex s) (ac h) (λq=>cls_value X (b2 e1).1 (e2.trans (congrArg aa (Jc e3))) e4 (q e4)) q)
  fun _ h=>ay h fun g e3 h=>bU h fun e4 h=>ay h fun p e5 h=>ay h fun C' e6 h=>ay h fun l e7 h=>ay h fun f e8 h=>bU h fun e9 h=>by
   have e:=e2.trans (congrArg aa (Jd e3))
   rw[p7 (oi e4),j6 e5,j6 e6] at e
   exact eqL (M:=λv=>(fY v=true->K v {s with toks:=s.toks+1})->am E.M A (nP (.ref a) x expr) K Ex s) (ac h) (λq=>cls_bind X (b2 e1).1 e (nY (sm_get (s:={s with toks:=s.toks+1}) X (e7.trans (congrArg aa (eU e8))) (handed_on e9 (q e9))))) q
theorem Jg(O:mI F.E T)(R:Room A T.bud)(V:FInv F env c s){o:AV}{x:Str}{expr:Bool}{a d C g:Addr}{es:List DictEntry}{n:Nat}(r:Rp F.E c o (.ref a))(I:InstAt s.heap a (cW C d) C (aa (eS es n)))(hp:qu F.E.K C x=aa g)
  (hg:gX F.E.K g=true) (h:eK T (.ref g) [o] [] c.σ Q):Ev F A env (nP (.ref a) x expr) c s Q:=
 e12 (kx h) fun S hS h=>cP (O.fns g S hS) fun _ hC _=>ay hp fun p e1 hp=>bU hp fun e2 hp=>ay hp fun l e6 hp=>ay hp fun q e7 hp=>ax (b4 e2) fun z e5=>ax z fun z e4=>ax z fun e2 e3=>by
  have X:=V.h.K
  have hn:=(Spec.call_inv h).1
  rw[beq_iff_eq] at e4 e5
  have e6:=e6.trans (congrArg aa (eU e7))
  rw[j6 hp] at e6
  refine get_bind X I (tu e2).1 (findObj_data (e12 (any_some e3) fun cd hc _=>hc▸rfl) (Al e1) e4 e5) (tu e2).2 (nY (prop_get (s:={s with toks:=s.toks+1}) X e6 ?_))
  refine pH (Aq (hC hg) (Room.in1 (R.le (b:=T.bud) (a:=T.bud-8+1) (aO (f2 1 [(1,v1,.m v0 (.n 8))] (.p v1 (.n 1)) v0 rfl (gl (aO (f2 1 [(1,.p v0 (.n 8),v1),(1,.n 0,v0)] (.n 8) v1 rfl (a:=↑S.need) (b:=↑T.bud) (aF hn) aY))))))) (V.toks _).h (oq r) .nil h) fun r' s' D=>e12 D fun v er D=>?_
  rw[er]
  obtain⟨e,rr,x1,V',r1,q⟩:=(V.toks (s.toks+1)).after D
  exact handed_on r1.handed ⟨e,rr,x1,V',r1,q⟩
theorem Jh(O:mI F.E T)(R:Room A T.bud)(V:FInv F env c s)(r:Rp F.E c o u)(h:zx T o x c.σ Q):Ev F A env (nP u x expr) c s Q:=
 cQ h (λa e h=>aq h fun p e1 h=>r.ref_at e fun _=>e12 (O.cattr _ _ _ e1) fun v h1 h2=>Ar V.h.K h1 fun _=>Ev.same V _ (.pv (uy h2)) h)
  fun _ h=>aq h fun i e h=>(mJ V.h r e).casesOn fun a d es n eu I hf=>by
   refine eqR eu ?_
   exact cQ h (λg eg h=>ax (O.cprop _ _ _ eg) fun hp hg=>Jg O R V (eu▸r) I hp hg h) fun _ h=>bH h fun e1 h=>aq h fun v e2 h=>ax (b3 (O.cfld _ _ e1).1) fun z e5=>ax z fun e3 e4=>
    e12 (show ∃w,getL x es=aa (aa w)/\Rp F.E c v w from(e2▸hf x:ku (Rp F.E c) x es (aa v))) fun w h1 h2=>get_value V.h.K I (tu e3).1 (findObj_own e4 (beq_iff_eq.mp e5) rfl h1) h2.handed (Ev.same V _ h2 h)
end
def jG(K:Frag)(f:Value):Bool:=kn (jA f) (λ_=>nQ K f) true
theorem uD(h:mz o=true):pE o x env whole=whole:=by
 cases o with
 |Call f as ks p=>cases f with
  |Name y q=>cases as with
   |nil=>cases ks with
    |nil=>exact bn h
    |cons _ _=>rfl
   |cons _ _=>rfl
  |_=>rfl
 |_=>rfl
theorem jH(h:cJ (e::r)=true):cN (e::r) ev=(false,eval e ev)::cN r ev:=by cases e <;> first |rfl |exact bn h
theorem ou(h:cJ (e::r)=true):cJ r=true:=(b2 h).2
theorem Ji:∀{es:List Expr},cJ es=true->cN es env=(jX es env).map fun t=>(false,t):=by
 intro v0
 induction v0 with
 |nil=>
  intro _
  exact rfl
 |cons e r ih=>
  intro h
  simp only[jH h,ih (ou h)]
  rfl
theorem jI(h:cJ es=true):cV pos (cN es env)=(jX es env).map fun t=>(false,t):=by
 rw[Ji h]
 unfold cV
 rw[yF]
 exact List.map_congr_left fun _ _=>rfl
theorem mK:∀{ks:List il},fB ks=true->(cG pos (cH ks env)).filterMap (·.1)=i5 ks/\(cG pos (cH ks env)).all (·.1.isSome)=true
 | [],_=>⟨rfl,rfl⟩
 |⟨aa x,e,p⟩::r,h=>by
  refine ax (mK (env:=env) (pos:=pos) (ks:=r) h) fun a b=>?_
  have q:cG pos (cH (⟨aa x,e,p⟩::r) env)=(aa x,do let v <-eval e env;standAt pos;pure v)::cG pos (cH r env):=rfl
  rw[q]
  exact⟨congrArg (x::·) a,b⟩
 |⟨none,e,p⟩::r,h=>by exact bn h
section
variable{prog:Program}{w:bD}{A:aS}{E:Value->Shared->Prop}{s:Shared}{env:Env}
theorem uE(hs:cJ es=true)(hk:fB ks=true)
  (h:am (aH prog w) A (jt (cV pos (cN es env))) (λvs s₁=>am (aH prog w) A (l8 ((cG pos (cH ks env)).map (·.2))) (λkv s₂=>Q ⟨vs,(i5 ks).zip kv⟩ s₂) E s₁) E s):
  am (aH prog w) A (evalArgs f true (cV pos (cN es env)) (cG pos (cH ks env))) Q E s:=by
 refine ax (mK (env:=env) (pos:=pos) hk) fun k1 k2=>?_
 rw[jI hs] at h ⊢
 cases es with
 |nil=>
  refine evalArgs_kw_nil k2 ?_
  rw[k1]
  exact fun Γ p hΓ=>h Γ p hΓ Γ p hΓ
 |cons e r=>
  refine evalArgs_kw k2 ?_
  rw[k1]
  exact h
theorem At{K:Frag}(hk:jG K f=true)(h:Heap)(X:K.In h):∃k,(k=WM\/k=WN\/k=WL)/\iO (aH prog w) h (keeperOf f) k:=by
 cases f with
 |ref a=>exact keeps_K (K:=K) (f:=.ref a) hk h X
 |_=>exact(i12 .machine (.inr (.inl rfl)) (pt rfl))
theorem uF{K:Frag}(hs:cJ es=true)(hk:fB ks=true)
  (h:am (aH prog w) A (jt (cV pos (cN es env))) (λvs s₁=>am (aH prog w) A (l8 ((cG pos (cH ks env)).map (·.2)))
   (λkv s₂=>(K.In s₂.heap/\jG K f=true)/\am (aH prog w) A (bO f (first++vs) ((i5 ks).zip kv)) Q E s₂) E s₁) E s):
  am (aH prog w) A (callWith pos f first (cV pos (cN es env)) (cG pos (cH ks env))) Q E s:=by
 refine Hx (P:=λh=>K.In h/\jG K f=true) ?_ (λh X=>At X.2 h X.1) (uE hs hk h)
 rw[jI hs,nw]
 refine⟨?_,?_⟩
 ·rw[yx]
  exact List.any_eq_false.mpr fun _ _=>pd
 ·have :=(mK (env:=env) (pos:=pos) hk).2
  rw[du] at this
  refine List.any_eq_false.mpr fun x m=>?_
  have :=this x m
  simpa[yJ,Xk] using this
theorem uG(hs:cJ es=true)(hk:fB ks=true)(hn:dN (es.length+ks.length) 20=true):methodCallForm (es.length+ks.length) (cV pos (cN es env)) (cG pos (cH ks env))=true:=by
 unfold methodCallForm
 rw[(mK (env:=env) (pos:=pos) hk).2,jI hs,Bool.and_true,List.all_map,bC]
 refine⟨du.mpr fun _ _=>rfl,decide_eq_true (k7 (Xb (dv hn) ?_) (by decide:20+1<30))⟩
 split <;> decide
theorem uH(hl:a7 apos.endLine pos.line=true):methodCallPos true o env apos pos=pure pos:=by
 unfold methodCallPos
 rw[if_pos (by rw[Wl,Wk];exact beq_iff_eq.mpr (ce hl))]
theorem Au(hb:mz o=true)(hl:a7 apos.endLine pos.line=true)(hs:cJ es=true)(hk:fB ks=true)(hn:dN (es.length+ks.length) 20=true)
  (h:am (aH prog w) A (eval o env) (λov s₁=>∀pl,am (aH prog w) A (jZ ov name pl) (λfx s₂=>am (aH prog w) A (callWith pos fx.1 fx.2 (cV pos (cN es env)) (cG pos (cH ks env))) Q E s₂) E s₁) E s):
  am (aH prog w) A (eval (.Call (.Attribute o name apos) es ks pos) env) Q E s:=by
 have e:eval (.Call (.Attribute o name apos) es ks pos) env=(do
   let ov <-pE o name env (eval o env)
   standAt apos.atName
   nR o name apos pos env ov (es.length+ks.length) (cV pos (cN es env)) (cG pos (cH ks env))):=rfl
 rw[e,uD hb]
 refine af (aT h (λov s₁ h₁=>af (gZ ?_)) bb)
 unfold nR
 rw[uG hs hk hn]
 refine af (iT (aT (h₁ _) (λfx s₂ h₂=>?_) bb))
 exact af (dY (uH hl) h₂)
end
noncomputable def qz:Nat->String
 |0=>"str"
 |1=>"bytes"
 |2=>"bytearray"
 |3=>"list"
 |_=>"int"
def uI(T:aI):Prop:=∀k m id,fo T.bmeth k m=aa id->PlainAttrs (qz k)/\jV (qz k) m id/\nX (.builtin id)=pure (.type "method_descriptor")
section
variable{E:Env0}{F:Fs}{A:aS}{env:aw}{c:Cf}{s:Shared}{Q:AV->St->Prop}{T:aI}{C:FCtx}{ev:Env}
def KindIs(s:Shared)(k:Nat)(u:Value):Prop:=s.TypeIs u (qz k)/\∀a,u=.ref a->∃o,s.heap.get? a=aa o/\o.dict=none
theorem KindIs.obj{k:Nat}{a:Addr}{o:Obj}(h:s.heap.get? a=aa o)(e:o.cls=.type (qz k))(d:o.dict=none):KindIs s k (.ref a):=⟨⟨o,h,e⟩,λb q=>Xy q▸i12 o h d⟩
theorem Jj(V:HInv E c s.heap)(r:Rp E c v u)(e:zw c.σ v=aa k):KindIs s k u:=
 dE e (λp e1 h=>RepP.casesOn (motive:=λp u _=>zv p=aa k->KindIs s k u) (r.pvx e1) aD aD (λh=>ac h▸⟨pP _ _ _,nofun⟩) (λh=>ac h▸⟨HQ _ _ _,nofun⟩) (λ_ h=>ac h▸⟨ix _ _ _,nofun⟩)
   (λi _ h=>ac h▸.obj (V.keep _ _ i) rfl rfl) (λ_=>aD) (λ_ _ _ _=>aD) (λi _ _ _ h=>ac h▸.obj (V.keep _ _ i) rfl rfl) (λ_ _ _ _ _=>aD) h)
  fun _ h=>ay h fun l e1 h=>ay h fun o e2 h=>r.loc_at e1 fun a ha=>e12 (V.st l _ e2) fun b hb z=>by
   rw[ac (hb.symm.trans ha)] at z
   cases o with
   |list _=>exact e23 z fun vs n ho _ _=>ac h▸.obj ho rfl rfl
   |ba _=>exact ac h▸.obj z.1 rfl rfl
   |_=>exact aD h
theorem uJ:∀{rs:List AV} {ps:List PV} {vs:List Value},kg rs=aa ps->All2 (Rp E c) rs vs->RepL E.w.params c.I ps vs:=by
 intro v0
 induction v0 with
 |nil=>exact fun e r=>r.nil_el (ac e▸.nil)
 |cons v rs ih=>exact fun e r=>r.cons_el fun u vs r1 r2=>ay e fun p e1 e=>ay e fun l e2 e=>ac e▸.cons (r1.pvx e1) (ih e2 r2)
theorem All2.ext(x:Ext c d)(r:All2 (Rp E c) rs vs):All2 (Rp E d) rs vs:=r.mono fun _ _ r=>r.ext x
theorem RepL.ext(x:Ext c d)(r:RepL E.w.params c.I rs vs):RepL E.w.params d.I rs vs:=r.mono fun _ _ r=>r.mono x.I
theorem Jk(V:FInv F env c s)(r:All2 (Rp F.E c) rs vs)(hz:dN rs.length 1000=true)(e:kg rs=aa ps)(q:Q (.pv (.tuple ps)) c.σ):Ev F A env (newTuple vs) c s Q:=by
 have h1:=dv hz
 have h2:=r.1
 refine nZ ?_ ?_
 ·have W:=V.alloc (o:=j8 vs) rfl s.toks
  have x:Ext c (c.put s.heap.objs.size (j8 vs)):=V.ext
  have R:=uJ e (All2.ext x r)
  exact⟨_,_,x,W,.pv (.tuple (Cf.put_self ..) (R.1▸h2▸bT h1 (by decide)) R.1 R.2),q⟩
 ·show vs.toArray.size<=lh
  simp only[cb,ty]
  exact aO (f2 1 [(1,v0,.n 1000),(1,v1,v0)] v1 (.n 16777216) rfl (aF h1) (fZ h2))
theorem uK(V:FInv F env c s)(r:RepL F.E.w.params c.I l vs)(hz:l.length<=aW)(q:i4 T pos l c.σ Q):
  PE F env c Q (.ref s.heap.objs.size) {s with heap:=s.heap.push (bQ vs n),toks:=t}:=by
 refine cQ q (λk _ q=>?_) fun _ q=>?_
 ·cases e2:has (bF c.σ) k with
  |true=>exact(hU e2 q).elim
  |false=>
   have hk:aX c.σ k=none:=mG fun m=>bn (e2.symm.trans (has_iff.mpr m))
   exact⟨c.add k s.heap.objs.size (.list l),.loc k,Cf.add_ext V.h hk,V.add t hk (i23 vs n (d9 _ rfl) r hz),.loc (c.add_self ..),iE e2 q⟩
 ·have x:Ext c (c.put s.heap.objs.size (bQ vs n)):=V.ext
  have r':=RepL.ext (E:=F.E) x r
  exact⟨_,_,x,V.alloc rfl t,.pv (.list (Cf.put_self ..) hz r'.1 r'.2),q⟩
theorem Jl(V:FInv F env c s)(r:RepL F.E.w.params c.I l vs)(hz:l.length<=aW)(q:i4 T pos l c.σ Q):Ev F A env (newList vs) c s Q:=by
 refine nZ (uK V (t:=s.toks) (n:=0) r hz q) ?_
 show vs.toArray.size<=lh
 have h2:=r.1
 simp only[cb,ty]
 unfold aW at hz
 exact aO (f2 1 [(1,v0,.n 16777216),(1,v1,v0)] v1 (.n 16777216) rfl (aF hz) (fZ h2))
theorem Av(O:mI F.E T)(B:uI T)(V:FInv F env c s)(r:Rp F.E c v u)(h:tN T c.σ v m=aa g):
  am F.E.M A (jZ u m pl) (λfx s'=>∃t,s'={s with toks:=t}/\fx.1=g.1/\All2 (Rp F.E c) g.2 fx.2) aK s:=
 dE h (λa e h=>ay h fun p e1 h=>ay h fun f e2 h=>r.ref_at e fun _=>e12 (O.cattr _ _ _ e1) fun w h1 h2=>by
   rw[n5 e2] at h2
   have e3:HO F.E.K (.ref a) "__getattribute__" =aa (aa (.builtin "type.__getattribute__")):=ay h1 fun _ _ h=>bU h fun e _=>beq_iff_eq.mp (b2 e).2
   exact method_cls V.h.K e3 (Ar V.h.K h1 fun _=>i13 _ rfl ((beq_iff_eq.mp (b2 h2).1).symm.trans (congrArg gj (ac h))) (ac h▸.nil)))
  fun _ h=>dE h (λi e h=>bU h fun e1 h=>ay h fun f e2 h=>(mJ V.h r e).casesOn fun a d es n eu I hf=>cP (qv (O.cmeth _ _ _ e2).1) fun m1 m2 m3=>by
   rw[eu]
   refine method_fn V.h.K I (tu m2).1 (tu m2).2 m1 (beq_iff_eq.mp m3) ?_ (ac h▸i13 s.toks rfl rfl (oq (eu▸r)))
   exact congrArg (Option.map _) (ls (show iA (i.2 m)=true by cases q:i.2 m <;> (rw[q] at e1;exact e1))▸hf m:ku (Rp F.E c) m es none))
  fun _ h=>ay h fun k e1 h=>ay h fun id e2 h=>cP (B _ _ _ e2) fun p1 p2 p3=>ax (Jj V.h r e1) fun k1 k2=>XD k1 p1 p2 p3 k2 (ac h▸i13 s.toks rfl rfl (oq r))
end
noncomputable def Heap.below(h:Heap)(L:Addr):Heap:={h with objs:=h.objs.extract 0 L}
theorem Aw(e:(Heap.below h L).get? a=aa o):h.get? a=aa o:=by
 unfold Heap.below tc at *
 simp only[Wf] at e
 refine(let G:=_;(?_:G));by_cases q:a<min L h.objs.size-0
 ·rw[if_pos q,nI] at e;exact e
 ·replace e:=(if_neg q)▸e;exact aD e
theorem Ax(q:a<L)(e:h.get? a=aa o):(Heap.below h L).get? a=aa o:=by
 have hl:=bM e
 unfold Heap.below tc at *
 simp only[Wf]
 rw[if_pos (show a<min L h.objs.size-0 from by simp only[Xf];exact Nat.lt_min.mpr ⟨q,hl⟩),nI];exact e
theorem uL:(Heap.below h L).objs.size<=L:=by
 unfold Heap.below
 simp only[Array.size_extract]
 lia
section
variable{F:Fs}{A:aS}{env:aw}{c:Cf}{s:Shared}{Q:AV->St->Prop}{T:aI}{C:FCtx}{ev:Env}{prog:Program}{w:bD}{E:Value->Shared->Prop}{K:Value->Shared->Prop}
theorem mM{slice:Expr}{T id:String}(hT:s.TypeIs o T)(hl:fa (.type T) "__getitem__" =pure (aa (.builtin id)))(h:am (aH prog w) A (jr o i) K E s):am (aH prog w) A (pN value slice o i) K E s:=by
 unfold pN
 refine af ?_
 rw[getitemInPython_of_ne hT.not_modules]
 refine af (dC hT hl ?_)
 refine e11 (show ∃l,subscripted slice false o i=operate l (jr o i) by cases slice <;> first |exact⟨_,rfl⟩|(rename_i st _;cases st <;> exact⟨_,rfl⟩)) fun l e=>?_
 have fin:am (aH prog w) A (subscripted slice false o i) (λr s₃=>am (aH prog w) A (letTemporaryGo value o r >>=λ_=>pure r) K E s₃) E s:=eqR e (wpAny_operating (aT h (λr s₃ h₃=>af (XR (aN h₃))) bb))
 exact aN (af fin)
end
def BaR.item(E:Env0):Prop:=∀(A:aS) (s:Shared) (Ex:Value->Shared->Prop) (K:Value->Shared->Prop) (a:Addr) (b:List UInt8) (i:Int) (t:fj) (u:UInt8),s.heap.get? a=aa (aU b)->b.length<=aW->cI b i=aa u->
  (∀t' k,K (.int (u.toNat:Int) t') {s with toks:=k})->am E.M A (jr (.ref a) (.int i t)) K Ex s
def BaR.itemB(E:Env0):Prop:=∀(A:aS) (s:Shared) (Ex:Value->Shared->Prop) (K:Value->Shared->Prop) (b:List UInt8) (i:Int) (t t1:fj) (u:UInt8),b.length<=aW->cI b i=aa u->
  (∀t' k,K (.int (u.toNat:Int) t') {s with toks:=k})->am E.M A (jr (.bytes b.toArray t1) (.int i t)) K Ex s
def BaR.slice(E:Env0):Prop:=∀(A:aS) (s:Shared) (Ex:Value->Shared->Prop) (K:Value->Shared->Prop) (a sl:Addr) (b:List UInt8) (vl vu:Value) (lo hi:Option Int),s.heap.get? a=aa (aU b)->b.length<=aW->s.heap.IsSliceOf sl vl vu .none->fg vl lo->fg vu hi->
  (∀k,K (.ref s.heap.objs.size) {s with heap:=s.heap.push (aU (Mine.slice lo hi b)),toks:=k})->am E.M A (jr (.ref a) (.ref sl)) K Ex s
def BaR.cat(E:Env0):Prop:=∀(A:aS) (s:Shared) (Ex:Value->Shared->Prop) (K:Value->Shared->Prop) (a b:Addr) (vs us:List Value) (n m:Nat),s.heap.get? a=aa (bQ vs n)->s.heap.get? b=aa (bQ us m)->vs.length+us.length<=aW->
  (∀k,K (.ref s.heap.objs.size) {s with heap:=s.heap.push (bQ (vs++us) 0),toks:=k})->am E.M A (tj .Add (.ref a) (.ref b)) K Ex s
def BaR.fromb(E:Env0):Prop:=∀(A:aS) (s:Shared) (Ex:Value->Shared->Prop) (K:Value->Shared->Prop) (x:Addr) (v:Value) (b:List UInt8) (t:fj),s.heap.get? x=aa kZ->(v=.bytes b.toArray t\/∃a,v=.ref a/\s.heap.get? a=aa (aU b))->b.length<=8->
  ∀t1,(∀t' k,K (.int (aP b) t') {s with toks:=k})->am E.M A (bO (.ref x) [v,.str "little" t1]) K Ex s
def BaR.getfb(E:Env0):Prop:=∀(A:aS) (s:Shared) (Ex:Value->Shared->Prop) (K:Value×List Value->Shared->Prop) (pl:cy Bool),E.K.In s.heap->(∀k,K (.ref s.heap.objs.size,[]) {s with heap:=s.heap.push kZ,toks:=k})->am E.M A (jZ (.type "int") "from_bytes" pl) K Ex s
def BaR.lenI(E:Env0):Prop:=∀(A:aS) (s:Shared) (Ex:Value->Shared->Prop) (K:Value->Shared->Prop) (a d C f:Addr) (es:List DictEntry) (n:Nat),E.K.In s.heap->InstAt s.heap a (cW C d) C (aa (eS es n))->jF E.K C "__len__" =aa f->gX E.K f=true->
  (∀t,am E.M A.in1 (bO (.ref f) [.ref a]) (λv s'=>∃i t,v=.int i t/\0<=i/\i<2^63/\∀t' k,K (.int i t') {s' with toks:=k}) aK {s with toks:=t})->am E.M A (bO (.builtin "len") [.ref a]) K Ex s
def BaR.strI(E:Env0):Prop:=∀(A:aS) (s:Shared) (Ex:Value->Shared->Prop) (K:Value->Shared->Prop) (a d C f:Addr) (es:List DictEntry) (n:Nat),E.K.In s.heap->InstAt s.heap a (cW C d) C (aa (eS es n))->jF E.K C "__str__" =aa f->gX E.K f=true->A.units+40<cLine->
  (∀A' t,(A'=A\/A'=A.in1\/A'=A.in1.in1)->am E.M A' (bO (.ref f) [.ref a]) (λv s'=>∃x t,v=.str x t/\∀k,K (.str x t) {s' with toks:=k}) aK {s with toks:=t})->am E.M A (bO (.type "str") [.ref a]) K Ex s
def BaR.seti(E:Env0):Prop:=∀(A:aS) (s:Shared) (Ex:Value->Shared->Prop) (K:Unit->Shared->Prop) (a:Addr) (vs:List Value) (n:Nat) (i:Int) (t:fj) (v:Value),s.heap.get? a=aa (bQ vs n)->vs.length<=aW->0<=i->i<vs.length->
  (∀h' n' k,ii a s.heap h'->h'.get? a=aa (bQ (vs.set i.toNat v) n')->K () {s with heap:=h',toks:=k})->am E.M A (nU (.ref a) (.int i t) v) K Ex s
def BaR.dels(E:Env0):Prop:=∀(A:aS) (s:Shared) (Ex:Value->Shared->Prop) (K:Unit->Shared->Prop) (a sl:Addr) (vs:List Value) (n:Nat) (vl:Value) (lo:Int),s.heap.get? a=aa (bQ vs n)->vs.length<=aW->s.heap.IsSliceOf sl vl .none .none->fg vl (aa lo)->0<=lo->lo<=vs.length->
  (∀h' n' k,(∀b o,b≠a->s.heap.get? b=aa o->h'.get? b=aa o)->h'.get? a=aa (bQ (vs.take lo.toNat) n')->K () {s with heap:=h',toks:=k})->am E.M A (delItem (.ref a) (.ref sl)) K Ex s
structure Ay(E:Env0):Prop where
 slot:fa (.type "bytearray") "__getitem__" =pure (aa (.builtin "bytearray.__getitem__"))
 slotB:fa (.type "bytes") "__getitem__" =pure (aa (.builtin "bytes.__getitem__"))
 item:BaR.item E
 itemB:BaR.itemB E
 slice:BaR.slice E
 cat:BaR.cat E
 fromb:BaR.fromb E
 getfb:BaR.getfb E
 lenI:BaR.lenI E
 strI:BaR.strI E
 seti:BaR.seti E
 dels:BaR.dels E
structure Az(E:Env0)(a:Addr)(d:List (Int×Str)):Prop where
 typ:∃o,bN a E.K=aa o/\o.cls=.type "dict"
 item:∀(A:aS) (s:Shared) (Ex:Value->Shared->Prop) (K:Value->Shared->Prop) (i:Int) (t:fj) (x:Str),E.K.In s.heap->d.lookup i=aa x->(∀t' k,K (.str x t') {s with toks:=k})->am E.M A (jr (.ref a) (.int i t)) K Ex s
 truth:∀(A:aS) (s:Shared) (Ex:Value->Shared->Prop) (K:Bool->Shared->Prop),E.K.In s.heap->(∀k,K (!d.isEmpty) {s with toks:=k})->am E.M A (truthy (.ref a)) K Ex s
structure Ok(E:Env0)(T:aI):Prop where
 tab:mI E T
 bm:uI T
 ba:Ay E
 idict:∀a d,bN a T.idict=aa d->Az E a d
 gdict:fa (.type "dict") "__getitem__" =pure (aa (.builtin "dict.__getitem__"))
section
variable{F:Fs}{A:aS}{env:aw}{c:Cf}{s:Shared}{Q:AV->St->Prop}{T:aI}{C:FCtx}{ev:Env}{prog:Program}{w:bD}{E:Value->Shared->Prop}{K:Value->Shared->Prop}
theorem uM(h:cI l i=aa p):(0<=i/\i<l.length/\l[i.toNat]? =aa p)\/(i<0/\ -(l.length:Int)<=i/\l[((l.length:Int)+i).toNat]? =aa p):=by
 unfold cI at h
 cases e:decide (0<=i) with
 |true=>
  rw[e] at h
  exact .inl (bl (of_decide_eq_true e) (f3 1 [(1,.p v1 (.n 1),v2),(1,v0,v1)] (.p v0 (.n 1)) v2 rfl (dD (List.getElem?_eq_some_iff.mp h).1) iU) h)
 |false=>
  rw[e] at h
  cases e2:decide (-(l.length:Int)<=i) with
  |true=>rw[e2] at h;exact .inr (bl (f1 1 [(1,.p v0 (.n 1),.n 0)] (.p v0 (.n 1)) (.n 0) rfl (Int.not_le.mp (of_decide_eq_false e))) (of_decide_eq_true e2) h)
  |false=>rw[e2] at h;exact aD h
theorem Jm(hl:s.heap.get? a=aa (bQ vs n))(hz:vs.length<=aW)(h:cI vs i=aa v)(q:K v s):am (aH prog w) A (jr (.ref a) (.int i t)) K E s:=by
 have hL:s.heap.IsList a vs.toArray:=⟨_,hl,rfl,n,rfl⟩
 unfold aW at hz
 refine(let G:=_;(?_:G));rcases uM h with ⟨h1,h2,h3⟩|⟨h1,h2,h3⟩
 ·exact wpAny_getItem_list hL h1 (f2 1 [(1,v0,.n 16777216),(1,.p v1 (.n 1),v0)] (.p v1 (.n 1)) (.n (2^63)) rfl (aF hz) h2) (by simpa using h3) q
 ·refine wpAny_getItem_list_neg hL h1 (by simpa using h2) (f2 1 [(1,v0,.n 16777216),(1,.g v0,v1)] (.g (.n (2^63))) v1 rfl (aF hz) h2) ?_ q
  rw[cb,yD,Wy]
  exact h3
theorem Jn{i:Int}{n:Nat}(h1:0<=i)(h2:i<n):tw i n=aa i.toNat:=by
 unfold tw
 have e:¬i<0:=Int.not_lt.mpr (f1 1 [(1,.n 0,v0)] (.n 0) v0 rfl h1)
 simp only[e,if_false]
 rw[if_pos (by simp only[bC,decide_eq_true_eq,decide_eq_true_eq];exact⟨h1,h2⟩)]
theorem Jo{i:Int}{n:Nat}(h1:i<0)(h2: -(n:Int)<=i):tw i n=aa ((n:Int)+i).toNat:=by
 unfold tw
 simp only[h1,if_true]
 rw[if_pos (by simp only[bC,decide_eq_true_eq,decide_eq_true_eq];constructor <;> lia),Wy]
theorem Jp(h1:0<=i)(h:l[i.toNat]? =aa p):cI l i=aa p:=by unfold cI;rw[decide_eq_true h1];exact h
theorem Jq(h1:i<0)(h2: -(l.length:Int)<=i)(h:l[((l.length:Int)+i).toNat]? =aa p):cI l i=aa p:=by unfold cI;rw[decide_eq_false (show ¬0<=i from Int.not_le.mpr h1),decide_eq_true h2];exact h
theorem Jr(r:All2 R l vs)(h:cI l i=aa p):∃v,cI vs i=aa v/\R p v:=by
 have hl:=r.1
 have g:∀{k:Nat},l[k]? =aa p->∃w,vs[k]? =aa w:=λh=>⟨_,eH (hl▸(List.getElem?_eq_some_iff.mp h).1)⟩
 rcases uM h with ⟨h1,h2,h3⟩|⟨h1,h2,h3⟩
 ·exact e11 (g h3) fun w e=>i12 w (Jp h1 e) (r.2 _ _ _ h3 e)
 ·exact e11 (g h3) fun w e=>i12 w (Jq h1 (hl▸h2) (hl▸e)) (r.2 _ _ _ h3 e)
def AA(e:Expr):Bool:=iA (ln e)
theorem FInv.fr(V:FInv F env c s):∃m,Fr (Heap.below s.heap F.L) F.L s.heap m:=let⟨m,hm,_⟩:=V.ns;⟨m,hm,λ_ _ e=>Aw e,uL⟩
theorem FInv.kin(V:FInv F env c s)(kin:∀a o,bN a F.E.K=aa o->a<F.L):Frag.In F.E.K (Heap.below s.heap F.L):=λa o e=>Ax (kin a o e) (V.h.K a o e)
theorem Js(O:Ok F.E T)(R:Room A T.bud)(V:FInv F env c s)(kin:∀a o,bN a F.E.K=aa o->a<F.L){slice:Expr}(ro:Rp F.E c o u)(ri:Rp F.E c i v)(hs:AA slice=true)
  (e:kb c.σ o=aa D) (eg:fo T.cmeth D "__getitem__" =aa g) (h:eK T (.ref g) [o,i] [] c.σ Q):Ev F A env (pN value slice u v) c s Q:=
 ay e fun j e eD=>(mJ V.h ro e).casesOn fun a d es n eu I _=>ax (O.tab.cmeth _ _ _ eg) fun e4 hg=>e12 (kx h) fun S hS h=>cP (qv e4) fun m1 m2 m3=>e11 V.fr fun m Fm=>by
  rw[eu]
  have hn:=(Spec.call_inv h).1
  rw[<-ac eD] at m1
  refine sub_K Fm (V.kin kin) I m1 hg m3 ?_ (by cases slice <;> first |rfl |exact bn hs)
  exact aT (uB (uC O.tab hS) (Room.in1 (R.le (aO (f2 1 [(1,v1,.m v0 (.n 8))] (.p v1 (.n 1)) v0 rfl (gl (aO (f2 1 [(1,.p v0 (.n 8),v1),(1,.n 0,v0)] (.n 8) v1 rfl (a:=↑S.need) (b:=↑T.bud) (aF hn) aY))))))) V.h (.cons (eu▸ro) (.cons ri .nil)) .nil h) (λ_ _ D=>V.after D) bb
theorem uN{E:Env0}{c:Cf}{h:Heap}{o:AV}{u:Value}{l:List PV}{G:Prop}(V:HInv E c h)(r:Rp E c o u)(e:qn c.σ o=aa l)
  (f:∀x vs n,h.get? x=aa (bQ vs n)->RepL E.w.params c.I l vs->l.length<=aW->u=.ref x->G):G:=
 dE e (λp e1 e=>r.pvx e1 |>.lst_at (M:=λu=>(∀x vs n,h.get? x=aa (bQ vs n)->RepL E.w.params c.I l vs->l.length<=aW->u=.ref x->G)->G) e (λa vs n e2 e3 e4 f=>f a vs n (V.keep _ _ e2) e4 e3 rfl) f)
  fun _ e=>ay e fun k e1 e=>r.loc_at (M:=λu=>(∀x vs n,h.get? x=aa (bQ vs n)->RepL E.w.params c.I l vs->l.length<=aW->u=.ref x->G)->G) e1 (λa ek f=>e12 (V.st k _ (j9 e)) fun b hb hr=>e23 (show ∃vs n,_/\_/\_ from hr) fun vs n ho r1 z=>
   f a vs n (ac (hb.symm.trans ek)▸ho) r1 z rfl) f
theorem qA{E:Env0}{c:Cf}{h:Heap}{o:AV}{u:Value}{l:List UInt8}{G:Prop}(V:HInv E c h)(r:Rp E c o u)(e:km c.σ o=aa l)(f:∀t,l.length<=aW->u=.bytes l.toArray t->G)(g:∀x,h.get? x=aa (aU l)->l.length<=aW->u=.ref x->G):G:=by
 rcases IC e with rfl |rfl |⟨k,rfl,e9⟩
 ·refine e12 r.pv_inv.bytes_inv fun t e1 z=>f t z e1
 ·refine e13 r.pv_inv.barr_inv fun a e1 e2 z=>g a (V.keep _ _ e2) z e1
 ·refine e12 r.loc_inv fun a e1 ek=>e12 (V.st k _ e9) fun b hb hr=>?_
  exact g a (ac (hb.symm.trans ek)▸hr.1) hr.2 e1
theorem Jt(V:FInv F env c s){a:AV}{u:Value}{l:List UInt8}(r:Rp F.E c a u)(h:km c.σ a=aa l):∃t,u=.bytes l.toArray t\/∃x,u=.ref x/\s.heap.get? x=aa (aU l):=
 qA V.h r h (λt _ e=>⟨t,.inl e⟩) fun x ho _ e=>⟨0,.inr (i12 x e ho)⟩
theorem Ju(O:Ok F.E T)(V:FInv F env c s){value slice:Expr}{o:AV}{i:Int}{t:fj}{u:Value}(ro:Rp F.E c o u)(h:zM T o i c.σ Q):Ev F A env (pN value slice u (.int i t)) c s Q:=
 cQ h (λl e1 h=>aq h fun p e2 q=>uN V.h ro e1 fun x vs n ho rl z eu=>eqR eu (e12 (Jr rl e2) fun y y1 y2=>
   mM (i12 _ ho rfl) slot_list_getitem.lookup (Jm ho (rl.1▸z) y1 (Ev.here V (.pv y2) q))))
  fun _ h=>cQ h (λb e1 h=>aq h fun y e2 q=>qA V.h ro e1 (λt z eu=>eqR eu (mM (ix _ _ _) O.ba.slotB (O.ba.itemB _ _ _ _ _ _ _ _ _ z e2 fun t k=>Ev.same V k (.pv .int) q)))
   fun x ho z eu=>eqR eu (mM (i12 _ ho rfl) O.ba.slot (O.ba.item _ _ _ _ _ _ _ _ _ ho z e2 fun t k=>Ev.same V k (.pv .int) q)))
  fun _ h=>aq h fun a e1 h=>aq h fun d e2 h=>aq h fun x e3 q=>ro.ref_at e1 fun _=>e12 (O.idict a d e2).typ fun ob t1 t2=>
   mM (i12 ob (V.h.K a ob t1) t2) O.gdict ((O.idict a d e2).item _ _ _ _ _ _ _ V.h.K e3 fun _ _=>Ev.same V _ (.pv .str) q)
theorem Jv(O:Ok F.E T)(R:Room A T.bud)(V:FInv F env c s)(kin:∀a o,bN a F.E.K=aa o->a<F.L){slice:Expr}(ro:Rp F.E c o u)(ri:Rp F.E c i v)(hs:AA slice=true)
  (h:zN T o i c.σ Q):Ev F A env (pN value slice u v) c s Q:=
 cQ h (λD e h=>aq h fun g eg h=>Js O R V kin ro ri hs e eg h) fun _ h=>aq h fun i e h=>ri.int_at e fun t=>Ju O V ro h
end
theorem AB:mw n v d=(match v with |none=>d |some i=>if i<0 then n-(-i).toNat else min i.toNat n):=by
 cases v with
 |none=>rfl
 |some i=>
  unfold mw
  dsimp only
  by_cases q:i<0
  ·rw[decide_eq_true q,if_pos q,cond_true,show(n:Int)+i=(n:Int)-(((-i).toNat:Nat):Int) by rw[l4 (Int.neg_nonneg_of_nonpos (nD q)),Int.sub_neg]];exact Int.toNat_sub ..
  ·rw[decide_eq_false q,if_neg q,cond_false]
theorem ow(lo hi:Option Int)(l:List α):Mine.slice lo hi l=(l.drop (tp lo l.length)).take (kms_hi hi l.length-tp lo l.length):=by
 unfold Mine.slice
 rw[List.drop_take,AB,AB]
 cases lo <;> cases hi <;> rfl
theorem uO(lo hi:Option Int)(l:List α):(Mine.slice lo hi l).length<=l.length:=by
 rw[ow];exact bT (List.length_take_le' _ _) (by rw[jR];exact Hc _ _)
theorem All2.slice(r:All2 R l m)(lo hi:Option Int):All2 R (Mine.slice lo hi l) (Mine.slice lo hi m):=by
 rw[ow,ow,r.1]
 refine⟨by simp only[ip,ip,jR,jR,r.1],λi a b e f=>?_⟩
 rw[yC] at e f
 by_cases q:i<kms_hi hi m.length-tp lo m.length
 ·rw[if_pos q,yB] at e f
  exact r.2 _ _ _ e f
 ·rw[if_neg q] at e
  exact aD e
section
variable{F:Fs}{A:aS}{env:aw}{c:Cf}{s:Shared}{Q:AV->St->Prop}{T:aI}{C:FCtx}{ev:Env}{prog:Program}{w:bD}{E:Value->Shared->Prop}{K:Value->Shared->Prop}
theorem AC(r:Rp F.E c v u)(h:tY v=aa l):fg u l:=
 dE h (λ_ e h=>r.non_at e (ac h▸.none)) fun _ h=>ay h fun i e h=>r.int_at e fun _=>ac h▸.int _ _
theorem Jw{lo:Option Int}(hl:s.heap.get? a=aa (bQ vs n))(hz:vs.length<=aW)(hs:s.heap.IsSliceOf sl vl vu .none)(pl:fg vl lo)(pu:fg vu hi)
  (h:K (.ref s.heap.objs.size) {s with heap:=s.heap.push (bQ (Mine.slice lo hi vs) 0)}):am (aH prog w) A (jr (.ref a) (.ref sl)) K E s:=by
 refine wpAny_getItem_list_slice (items:=vs.toArray) ⟨_,hl,rfl,n,rfl⟩ hs pl pu .none (by nofun) ?_ ?_
 ·have e:slicePick vs.toArray lo hi none=(Mine.slice lo hi vs).toArray:=by
   simp only[kms_pick_eq,ow];rfl
  rw[e];exact h
 ·simp only[cb,ty];exact hz
theorem Jx(O:Ok F.E T)(V:FInv F env c s)(ro:Rp F.E c o u)(rl:Rp F.E c l vl)(rh:Rp F.E c h vu)
  (hs:s.heap.IsSliceOf sl vl vu .none) (q:zO T pos o l h c.σ Q):Ev F A env (pN value (.Slice lo' hi' none p) u (.ref sl)) c s Q:=by
 refine aq q fun lo e1 q=>aq q fun hi e2 q=>?_
 have pl:=AC rl e1
 have ph:=AC rh e2
 exact cQ q (λxs e3 q=>uN V.h ro e3 fun x vs n ho rl z eu=>eqR eu (mM (i12 _ ho rfl) slot_list_getitem.lookup (Jw ho (rl.1▸z) hs pl ph (uK (t:=s.toks) V (All2.slice rl lo hi) (bT (uO ..) z) q))))
  fun _ q=>aq q fun k e3 q=>aq q fun b e4 q=>ro.loc_at e3 fun a ek=>e12 (V.h.st k _ (mn e4)) fun b' hb z=>
   mM (i12 _ (ac (hb.symm.trans ek)▸z.1) rfl) O.ba.slot (O.ba.slice _ _ _ _ _ _ _ _ _ _ _ (ac (hb.symm.trans ek)▸z.1) z.2 hs pl ph fun t=>⟨_,_,V.ext,V.alloc rfl t,.pv (.barr (Cf.put_self ..) (bT (uO ..) z.2)),q⟩)
end
section
variable{prog:Program}{w:bD}{A:aS}{E:Value->Shared->Prop}{s:Shared}
theorem qB(ho:s.heap.get? I=aa o)(hc:o.cls=.type n)
  (hn:(["enumerate","zip","dict_itemiterator","dict_reverseitemiterator","odict_iterator","itertools.zip_longest","itertools.pairwise"].contains n)=false) (q:Q () s):
  am (aH prog w) A (pJ t (.ref I) v) Q E s:=by
 have fin:am (aH prog w) A (do
   let(.ref r,.ref a):=(dw I,v)|return
   let o <-load r
   match o.cls,o.data with
   | .type n,.fields vs=>
    if["enumerate","zip","dict_itemiterator","dict_reverseitemiterator","odict_iterator","itertools.zip_longest","itertools.pairwise"].contains n&&vs[0]? == aa (rawInt a) then
     rule "for.unpacks-the-owned-tuple"
     updateField r 0 .none
   |_,_=>pure ()) Q E s:=by
  cases v <;> first |exact aN q |skip
  refine af (gk ho ?_)
  rw[hc]
  cases o.data <;> first |exact aN q |skip
  dsimp only
  rw[hn,sD]
  exact aN q
 cases t <;> first |exact aN q |exact fin
end
def ARep(E:Env0)(c:Cf)(t:Expr)(v:AV)(u:Value)(h:Heap):Prop:=cu (lr t) (λ_=>∀l,bP j5 v=aa l->∃T vals,u=.ref T/\h.IsTuple T vals/\RepL E.w.params c.I l vals.toList) (Rp E c v u)
theorem ARep.of(V:HInv E c h)(r:Rp E c v u):ARep E c t v u h:=by
 unfold ARep
 cases lr t with
 |some _=>exact fun l hl=>r.onv hl fun p rp e=>rp.tup_at e fun a vs i z r=>⟨a,_,rfl,⟨_,V.keep _ _ i,rfl,_,rfl⟩,r⟩
 |none=>exact r
theorem srcOk_app:∀{a b:List (Nat×List PV)},dQ σ (a++b)↔dQ σ a/\dQ σ b:=by
 intro v0
 induction v0 with
 |nil=>
  intro b
  exact⟨λh=>⟨trivial,h⟩,λh=>h.2⟩
 |cons f0 a ih=>
  intro b;have k:=f0.1;have l:=f0.2
  exact⟨λh=>⟨⟨h.1,(ih.mp h.2).1⟩,(ih.mp h.2).2⟩,λh=>⟨h.1.1,ih.mpr ⟨h.1.2,h.2⟩⟩⟩
structure Run(E:Env0)(A:aS)(t:Expr)(I:Addr)(wr:List Addr)(items:List PV)(src:List (Nat×List PV))(c0:Cf)(Own:Nat->Heap->Prop):Prop where
 frame:∀i h h',Own i h->(∀b∈wr,∀o,h.get? b=aa o->h'.get? b=aa o)->Own i h'
 turn:∀c h i,Ext c0 c->HInv E c h->dQ c.σ src->Own i h->∃fp wr0 P Md St,(∀b∈wr0,b∈wr)/\KTurns E.prog E.w A t I fp wr0 items.length P Md St/\St i h/\(∀j h',St j h'->Own j h')/\
  (∀v h' x,items[i]? =aa x->HInv E c h'->P i v h'->ARep E c t (.pv x) v h')
 self:∀i (s:Shared) (Q:Value->Shared->Prop) (Ex:Value->Shared->Prop),Own i s.heap->Q (.ref I) s->am (aH E.prog E.w) A (iw (.ref I)) Q Ex s
def LAt(E:Env0)(c0:Cf)(l:List PV)(src:List (Nat×List PV))(a:Addr):Prop:=
 (∃vs n,c0.I a=aa (bQ vs n)/\RepL E.w.params c0.I l vs/\l.length<=aW/\src=[])\/(∃k,c0.ρ k=aa a/\src=[(k,l)])
section
variable{E:Env0}{A:aS}{c0:Cf}
theorem RepL.mono(h:∀a o,I a=aa o->J a=aa o)(r:RepL P I l vs):RepL P J l vs:=All2.mono r fun _ _ r=>r.mono h
theorem LAt.get(L:LAt E c0 l src a)(x:Ext c0 c)(V:HInv E c h)(hs:dQ c.σ src):∃vs n,h.get? a=aa (bQ vs n)/\RepL E.w.params c.I l vs/\l.length<=aW:=by
 refine(let G:=_;(?_:G));rcases L with ⟨vs,n,i,r,z,rfl⟩|⟨k,hk,rfl⟩
 ·exact(i23 vs n (V.keep _ _ (x.I _ _ i)) (r.mono x.I) z)
 ·refine e12 (V.st k _ hs.1) fun b hb z7=>?_;refine e23 z7 fun vs n ho r z=>?_
  replace hb:=(x.ρ _ _ hk)▸hb;have z0:=ac hb;clear z7;clear hb;subst z0
  exact(i23 vs n ho r z)
theorem LAt.ext(L:LAt E c0 l src a)(x:Ext c0 c):LAt E c l src a:=by
 refine(let G:=_;(?_:G));rcases L with ⟨vs,n,i,r,z,rfl⟩|⟨k,hk,rfl⟩
 ·exact .inl (i24 vs n (x.I _ _ i) (r.mono x.I) z rfl)
 ·exact .inr (i12 k (x.ρ _ _ hk) rfl)
theorem LAt.isList{h:Heap}{a:Addr}{vs:List Value}{n:Nat}(e:h.get? a=aa (bQ vs n)):h.IsList a vs.toArray:=⟨_,e,rfl,n,rfl⟩
theorem oy{vs:List Value}{i:Nat}{v:Value}(h:vs.toArray[i]? =aa v):vs[i]? =aa v:=by rwa [yD] at h
theorem Run.list{t:Expr}{I a:Addr}{l:List PV}{src:List (Nat×List PV)}(hh:A.handled=none)(L:LAt E c0 l src a)(hne:a≠I):Run E A t I [I] l src c0 (λi h=>h.IsListIter I a i):=by
 refine⟨λi h h' st hk=>st.at fun o e=>hk I (List.mem_singleton.mpr rfl) o e,λc h i x V hs st=>?_,λi s Q Ex st q=>wpAny_pyIter_listiter st q⟩
 refine e23 (L.get x V hs) fun vs n ho r z=>?_
 have W:=Walks.list (prog:=E.prog) (w:=E.w) hh I a hne vs.toArray
 simp only[cb,<-r.1] at W
 refine(i55 ([I,a]) ([I]) _ _ _ (λb hb=>hb) (yv W fun i v s Q Ex st q=>?_) ⟨st,LAt.isList ho⟩ (λj h' st=>st.1) (λv h' y hy V' hp=>?_))
 ·refine(let G:=_;(?_:G));refine ax st fun z0 _=>?_;refine e13 z0 fun o ho hc _=>?_
  exact qB ho hc (by decide) q
 ·exact .of V' (.pv (r.2 _ _ _ hy (oy hp)))
theorem Run.tuple{t:Expr}{I a:Addr}{l:List PV}{vs:List Value}(hh:A.handled=none)(i0:c0.I a=aa (j8 vs))(r0:RepL E.w.params c0.I l vs)(hne:a≠I):Run E A t I [I] l [] c0 (λi h=>h.IsTupleIter I a i):=by
 refine⟨λi h h' st hk=>st.at fun o e=>hk I (List.mem_singleton.mpr rfl) o e,λc h i x V hs st=>?_,λi s Q Ex st q=>wpAny_pyIter_tupleiter st q⟩
 have ho:=V.keep _ _ (x.I _ _ i0)
 have r:=r0.mono x.I
 have W:=Walks.tuple (prog:=E.prog) (w:=E.w) hh I a hne vs.toArray
 simp only[cb,<-r.1] at W
 refine(i55 ([I,a]) ([I]) _ _ _ (λb hb=>hb) (yv W fun i v s Q Ex st q=>?_) ⟨st,⟨_,ho,rfl,_,rfl⟩⟩ (λj h' st=>st.1) (λv h' y hy V' hp=>?_))
 ·refine(let G:=_;(?_:G));refine ax st fun z0 _=>?_;refine e13 z0 fun o ho hc _=>?_
  exact qB ho hc (by decide) q
 ·exact .of V' (.pv (r.2 _ _ _ hy (oy hp)))
theorem Run.range{t:Expr}{I:Addr}{m:Int}(hh:A.handled=none):Run E A t I [I] ((gV m.toNat).map fun(i:Nat)=>PV.int i) [] c0 (λi h=>IsRangeIter h I (0+(i:Nat)*1) ((m.toNat:Int)-(i:Nat)) 1):=by
 refine⟨λi h h' st hk=>hk I (List.mem_singleton.mpr rfl) _ st,λc h i x V hs st=>?_,λi s Q Ex st q=>wpAny_pyIter_rangeiter st q⟩
 have W:=Walks.range (prog:=E.prog) (w:=E.w) hh I 0 1 m.toNat
 refine(i55 ([I]) ([I]) _ _ _ (λb hb=>hb) (yv (by simp only[dT,sW];exact W) fun i v s Q Ex st q=>?_) st (λj h' st=>st) (λv h' y hy V' hp=>?_))
 ·exact qB st rfl (by decide) q
 ·obtain⟨t',hp⟩:=hp
  replace hy:=(io)▸hy
  obtain⟨j,hj,rfl⟩:=Option.map_eq_some_iff.mp hy
  obtain⟨_,hj⟩:=List.getElem?_eq_some_iff.mp hj
  rw[List.getElem_range] at hj
  clear hy;refine eqL hj ?_
  rw[show((0:Int)+(i:Int)*1)=(i:Int) by exact dM (f1 1 [] (.p (.n 0) (.t v0 1)) v0 rfl) (f1 1 [] v0 (.p (.n 0) (.t v0 1)) rfl)] at hp
  refine eqR hp ?_
  exact .of V' (.pv .int)
theorem Run.str{St:Nat->Heap->Prop}(W:Walks E.prog E.w A I [I] [I] x.cps.size (SignAt x) St)(hgo:∀i h,St i h->∃o n,h.get? I=aa o/\o.cls=.type n/\(["enumerate","zip","dict_itemiterator","dict_reverseitemiterator","odict_iterator","itertools.zip_longest","itertools.pairwise"].contains n)=false):
  Run E A t I [I] (x.cps.toList.map fun c=>.str ⟨#[c]⟩) [] c0 St:=by
 refine⟨λi h h' st hk=>W.frame _ _ _ st hk,λc h i e V hs st=>?_,λi s Q Ex st q=>W.self i s Q Ex st q⟩
 refine(i55 ([I]) ([I]) _ _ _ (λb hb=>hb) (yv (by simp only[dT,lZ];exact W) fun i v s Q Ex st q=>?_) st (λj h' st=>st) (λv h' y hy V' hp=>?_))
 ·refine e23 (hgo _ _ st) fun o n h1 h2 h3=>?_
  exact qB h1 h2 h3 q
 ·refine e21 hp fun ch u z7=>?_;clear hp;obtain⟨h1,rfl⟩:=z7
  simp only[io,Gm,h1] at hy
  have z0:=ac hy;clear hy;subst z0
  exact .of V' (.pv .str)
theorem Run.enum{elts:List Expr}{k:Nat}{pos:Pos}{e it a:Addr}{l:List PV}{src:List (Nat×List PV)}(hh:A.handled=none)(L:LAt E c0 l src a)(hei:e≠it)(hle:a≠e)(hli:a≠it):
  Run E A (.Tuple elts k pos) e [e,it] (l.zipIdx.map fun p=>.tuple [.int p.2,p.1]) src c0 (λi h=>(∃old,IsEnum h e it i old)/\h.IsListIter it a i):=by
 refine⟨λi h h' st hk=>⟨let⟨old,x⟩:=st.1;(i11 old (hk e (by simp) _ x)),st.2.at fun o x=>hk it (by simp) o x⟩,λc h i x V hs st=>?_,λi s Q Ex st q=>let⟨_,x⟩:=st.1;XV x q⟩
 refine e23 (L.get x V hs) fun vs n ho r z=>?_
 have W:=(WalksT.enumerate (prog:=E.prog) (w:=E.w) hh e it a hei hle hli vs.toArray).toU
 simp only[cb,<-r.1] at W
 have KT:=WJ (elts:=elts) (k:=k) (pos:=pos) W
 simp only[show l.length=(l.zipIdx.map fun p=>PV.tuple [.int p.2,p.1]).length by simp only[dT,WU]] at KT
 refine(i55 _ _ _ _ _ (λb hb=>hb) KT (bl st.1 st.2 (LAt.isList ho)) (λj h' st=>⟨st.1,st.2.1⟩) (λv h' y hy V' hp=>?_))
 refine e23 hp fun T vals rfl z0 hT=>?_;obtain⟨tk,u,hu,rfl⟩:=z0
 simp only[io] at hy
 obtain⟨p,hp,rfl⟩:=Option.map_eq_some_iff.mp hy
 rw[List.getElem?_zipIdx] at hp
 clear hy;obtain⟨q,hq,rfl⟩:=Option.map_eq_some_iff.mp hp
 exact fun ps he=>ac he▸i23 T _ rfl hT (.cons (by rw[nI];exact .int) (.cons (r.2 _ _ _ hq (oy hu)) .nil))
theorem Run.zip{elts:List Expr}{k:Nat}{pos:Pos}{z TI TO i1 i2 a b:Addr}{l m:List PV}{r q:List (Nat×List PV)}(hh:A.handled=none)(L:LAt E c0 l r a)(M:LAt E c0 m q b)(D:ZipApart z TI TO i1 i2 a b):
  Run E A (.Tuple elts k pos) z [z,TI,TO,i1,i2] ((l.zip m).map fun p=>.tuple [p.1,p.2]) (r++q) c0 (λi h=>IsZip h z TI TO .none/\IsPair h TI (.ref i1) (.ref i2)/\(∃x y,IsPair h TO x y)/\h.IsListIter i1 a i/\h.IsListIter i2 b i):=by
 refine⟨λi h h' st hk=>?_,λc h i x V hs st=>?_,λi s Q Ex st q=>XX st.1 q⟩
 ·refine(let G:=_;(?_:G));refine fN st fun h1 h2 z0 h4 h5=>?_;refine e21 z0 fun u v h3=>?_
  exact(g0 (hk z (by simp) _ h1) (hk TI (by simp) _ h2) (i21 u v (hk TO (by simp) _ h3)) (h4.at fun o x=>hk i1 (by simp) o x) (h5.at fun o x=>hk i2 (by simp) o x))
 refine ax (srcOk_app.mp hs) fun s1 s2=>?_
 refine e23 (L.get x V s1) fun vs n ho r1 z1=>?_
 refine e23 (M.get x V s2) fun us n' ho' r2 z2=>?_
 have W:=(WalksT.zip2 (prog:=E.prog) (w:=E.w) hh z TI TO i1 i2 a b D vs.toArray us.toArray).toU
 simp only[cb,cb,<-r1.1,<-r2.1] at W
 have KT:=WJ (elts:=elts) (k:=k) (pos:=pos) W
 simp only[show min l.length m.length=((l.zip m).map fun p=>PV.tuple [p.1,p.2]).length by simp only[dT,List.length_zip]] at KT
 refine(i55 _ _ _ _ _ (λb hb=>?_) KT (pQ st.1 st.2.1 st.2.2.1 st.2.2.2.1 st.2.2.2.2 (LAt.isList ho) (LAt.isList ho')) (λj h' st=>(g0 st.1 st.2.1 st.2.2.1 st.2.2.2.1 st.2.2.2.2.1)) (λv h' y hy V' hp=>?_))
 ·simp only[cT,fu,or_false] at hb ⊢
  clear st;clear W;clear KT;rcases hb with rfl |rfl |rfl |rfl <;> simp
 ·refine(let G1:=_;(?_:G1));refine e23 hp fun T vals rfl z3 hT=>?_;obtain⟨u,u',hu,hu',rfl⟩:=z3
  replace hy:=(io)▸hy
  obtain⟨p,hp,rfl⟩:=Option.map_eq_some_iff.mp hy
  rw[List.getElem?_zip_eq_some] at hp
  exact fun ps he=>ac he▸i23 T _ rfl hT (.cons (r1.2 _ _ _ hp.1 (oy hu)) (.cons (r2.2 _ _ _ hp.2 (oy hu')) .nil))
end
theorem AD:∀{env:aw},(dH env x v).lookup y=if y=x then aa v else env.lookup y
 | []=>by
  show bN y [(x,v)]=_
  rw[cr]
  by_cases h:y=x
  ·subst h;simp
  ·have :(y == x)=false:=by simpa using h
   rw[this,if_neg h]
 |(z,u)::r=>by
  show bN y (match z == x with |true=>(x,v)::r |false=>(z,u)::dH r x v)=_
  by_cases q:z=x
  ·subst q
   rw[beq_self_eq_true]
   skip
   rw[cr,cr]
   by_cases h:y=z
   ·subst h;simp
   ·have :(y == z)=false:=by simpa using h
    rw[this,if_neg h]
  ·have :(z == x)=false:=by simpa using q
   rw[this]
   show bN y ((z,u)::dH r x v)=_
   rw[cr,cr,AD (env:=r)]
   by_cases h:y=z
   ·subst h
    simp[q]
   ·have :(y == z)=false:=by simpa using h
    rw[this]
section
variable{F:Fs}{A:aS}{T:aI}{C:FCtx}{ev:Env}{env:aw}{c:Cf}{s:Shared}
theorem HInv.same(V:HInv E c h)(hI:c.I L=none)(hρ:∀k,c.ρ k≠aa L)(hs:ii L h h'):HInv E c h':=
 ⟨V.base,λa o e=>(hs.2 a (λq=>by subst q;replace e:=hI▸e;exact aD e)).trans (V.keep a o e),λk o e=>by
  refine e12 (V.st k o e) fun a ha r=>?_
  exact(i12 a ha (r.mono (λ_ _ e=>e) (λ_ _ e=>e) (hs.2 a fun q=>hρ k (q▸ha)))),V.dom,V.out,V.inj⟩
theorem FInv.setName(V:FInv F env c s)(r:Rp F.E c v u)(hm:s.heap.Ns F.L m)(he:∀y w,env.lookup y=aa w->∃u,m y=aa u/\Rp F.E c w u)
  (hn:h'.Ns F.L (λy=>if y=x then aa u else m y)) (hs:ii F.L s.heap h'):FInv F (dH env x v) c {s with heap:=h',toks:=t}:=by
 refine⟨V.h.same V.Lout V.Lne hs,by simp only[show h'.objs.size=s.heap.objs.size from hs.1];exact V.size,λa o e n=>(hs.2 a fun q=>?_).trans (V.kept a o e n),(i12 _ hn (λy w e=>?_)),V.Lout,V.Lnew,V.Lne,V.old,V.Iold,V.rest,V.cl⟩
 ·subst q;exact V.Lnew.elim n fun z=>absurd (bM e) (Nat.not_lt.mpr z)
 ·replace e:=AD▸e
  by_cases q:y=x
  ·replace e:=(if_pos q)▸e;have z0:=ac e;refine eqL z0 ?_;exact(i12 u (by rw[if_pos q]) r)
  ·replace e:=(if_neg q)▸e;rw[if_neg q];exact he y w e
theorem lE(N:EnvOk F C ev)(V:FInv F env c s)(hx:bN x C.scope.names=aa .local)(r:Rp F.E c v u){K:Unit->Shared->Prop}(h:∀s',FInv F (dH env x v) c s'->K () s'):
  am F.E.M A (storeName ev x u) K aK s:=by
 refine e12 V.ns fun m hm he=>?_
 refine wpAny_storeName_local (m:=m) (by show ev.scope.names.lookup x=_;rw[N.scope];exact hx) (by simp only[N.loc];exact hm) (λh' hn hs=>h _ (V.setName r hm he (by simp only[<-N.loc];exact hn) (by rw[<-N.loc];exact hs))) ?_
 rw[N.scope,N.kind];rfl
theorem Jy:∀{es:List Expr} {vs:List PV} {env env':aw},t9 es vs env=aa env'->es.length=vs.length:=by
 intro v0
 induction v0 with
 |nil=>exact fun h=>bU h fun g _=>(congrArg ae (cX g)).symm
 |cons e es ih=>exact fun h=>ay h fun v e1 h=>ay h fun x e2 h=>eqR (eU e1) (congrArg (· +1) (ih h))
theorem AE:pD (.Name x p::es) ev=(false,k9 (.Name x p) ev)::pD es ev:=rfl
theorem Jz:∀{es:List Expr},es.all (mA C)=true->(pD es ev).findIdx? (·.1)=none/\(pD es ev).length=es.length:=by
 intro v0
 induction v0 with
 |nil=>
  intro _
  exact⟨rfl,rfl⟩
 |cons e es ih=>
  intro h
  simp only[sQ,bC] at h
  refine ax (ih h.2) fun i1 i2=>?_
  obtain⟨x,p,rfl,_⟩:=IG h.1
  simp only[AE]
  exact⟨by rw[List.findIdx?_cons,i1];rfl,congrArg (· +1) i2⟩
theorem JA(N:EnvOk F C ev):∀{es:List Expr} {vs:List PV} {us:List Value} {env env':aw} {s:Shared} {K:Unit->Shared->Prop},es.all (mA C)=true->FInv F env c s->RepL F.E.w.params c.I vs us->t9 es vs env=aa env'->
  (∀s',FInv F env' c s'->K () s')->am F.E.M A (assignInOrder ((pD es ev).map (·.2)) us) K aK s:=by
 intro v0
 induction v0 with
 |nil=>exact fun{vs us env env' s K} _ V r hb h=>bU hb fun g hb=>(cX g▸r:RepL F.E.w.params c.I [] us).nil_el (aN (h _ (ac hb▸V)))
 |cons e es ih=>
  exact fun{vs us env env' s K} hl V r hb h=>ay hb fun v e1 hb=>ay hb fun x e2 hb=>(eU e1▸r:RepL F.E.w.params c.I (v.1::v.2) us).cons_el fun u us r1 r2=>fO (b2 hl).1 fun y e3 hy=>e11 (oh e2) fun p ep=>by
   rw[ep,AE]
   exact af (iT (HV (lE N V (lu (ac (e3.symm.trans e2)▸hy)) (.pv r1) fun s' V'=>ih (b2 hl).2 V' r2 hb h)))
theorem AF(N:EnvOk F C ev)(hh:A.handled=none)(V:FInv F env c s){K:Unit->Shared->Prop}(hl:hN C t=true)(hb:gI env t v=aa env')(r:ARep F.E c t v u s.heap)
  (h:∀s',FInv F env' c s'->K () s'):am F.E.M A (k9 t ev u) K aK s:=
 dE hb (λx e hb=>e11 (oh e) fun p et=>by
  rw[et] at hl r ⊢
  exact HV (lE N V (lu hl) r fun s' V'=>h s' (ac hb▸V'))) fun _ hb=>ay hb fun q e hb=>ay hb fun l e2 hb=>by
  rw[tS e] at hl r ⊢
  refine e23 (show ∃T vals,u=.ref T/\s.heap.IsTuple T vals/\RepL F.E.w.params c.I l vals.toList from r l e2) fun T vals eu hT ra=>?_
  rw[eu]
  have hl:q.1.all (mA C)=true:=hl
  refine ax (Jz (ev:=ev) hl) fun n1 n2=>?_
  have hlen:(pD q.1 ev).length=vals.size:=by rw[n2,Jy hb,ra.1,lZ]
  refine af (gZ ?_)
  unfold unpack
  rw[hlen,n1]
  refine af (iT (aT (iW (wpAny_unpackItems_tuple (Q:=λus s'=>us=vals.toList/\∃h',s'={s with heap:=h'}/\Wx s.heap.objs.size s.heap h') hh hT fun h' he=>⟨rfl,h',rfl,he⟩)) (λus s' ⟨hz,e,h',hs',he⟩=>?_) bb))
  subst hs'
  rw[e]
  exact JA N hl (V.away (wr:=[]) (λ_ m=>absurd m fu) (λb o _ q=>he b o (fJ (bM q)) q) hz s.toks) ra hb h
theorem EnvOk.re(N:EnvOk F C ev)(V:FInv F env c s):EnvOk (F.re c s) C ev:=
 ⟨N.scope,N.kind,N.loc,N.glob,N.blt,N.dbg,λx p h=>by
  refine e36 (N.cells x p h) fun a o v h1 h2 h3 h4 h5 h6=>?_
  have ho:=V.kept a o h2 h3
  refine(i36 a o v h1 ho (λq=>?_) h4 h5 h6)
  rcases q with ⟨k,q⟩|q
  ·rcases V.old k a q with z |z
   ·exact h3 z
   ·exact absurd (bM h2) (Nat.not_lt.mpr z)
  ·clear h1;clear h2;clear h3;subst q
   refine e12 V.ns fun m z0 _=>?_;refine e33 z0 fun oL es ep hL hd _=>?_
   replace ho:=hL▸ho;have z1:=ac ho;clear ho;subst z1
   replace h4:=hd▸h4;cases h4⟩
end
structure Cx(F:Fs)(A:aS)(T:aI)(C:FCtx)(ev:Env):Prop where
 ok:Ok F.E T
 env:EnvOk F C ev
 room:Room A T.bud
 kin:∀a o,bN a F.E.K=aa o->a<F.L
section
variable{F:Fs}{A:aS}{T:aI}{C:FCtx}{ev:Env}{env:aw}{c:Cf}{s:Shared}{Q:AV->St->Prop}
theorem AG(O:Ok F.E T)(h:eK T f vs kw σ Q):jG F.E.K f=true:=by
 refine e12 (kx h) fun S hS y1=>?_
 clear h;cases f with
 |ref a=>exact(O.tab.fns a S hS).2.2
 |_=>rfl
theorem AH(X:Cx F A T C ev)(V:FInv F env c s)(rv:All2 (Rp F.E c) vs us)(rk:KwRep F.E c kw ks)(h:eK T f vs kw c.σ Q):Ev F A env (bO f us ks) c s Q:=by
 refine e12 (kx h) fun S hS h=>?_
 exact aT (uB (uC X.ok.tab hS) (X.room.le (Hc _ _)) V.h rv rk h) (λy1 y2 D=>V.after D) bb
theorem AI(X:Cx F A T C ev)(V:FInv F env c s)(hA:A'=A\/A'=A.in1\/A'=A.in1.in1)(rv:All2 (Rp F.E c) vs us)(h:eK T f vs [] c.σ Q):Ev F A' env (bO f us) c s Q:=by
 refine e12 (kx h) fun S hS h=>?_
 have hn:=(Spec.call_inv h).1
 have R:Room A' (T.bud-8):=by
  rcases hA with rfl |rfl |rfl
  ·exact X.room.le (aO (f2 1 [(1,v1,.m v0 (.n 8))] v1 v0 rfl (gl (aO (f2 1 [(1,.p v0 (.n 8),v1),(1,.n 0,v0)] (.n 8) v1 rfl (a:=↑S.need) (b:=↑T.bud) (aF hn) aY)))))
  ·exact Room.in1 (X.room.le (aO (f2 1 [(1,v1,.m v0 (.n 8))] (.p v1 (.n 1)) v0 rfl (gl (aO (f2 1 [(1,.p v0 (.n 8),v1),(1,.n 0,v0)] (.n 8) v1 rfl (a:=↑S.need) (b:=↑T.bud) (aF hn) aY))))))
  ·exact Room.in1 (Room.in1 (X.room.le (aO (f2 1 [(1,v1,.m v0 (.n 8))] (.p (.p v1 (.n 1)) (.n 1)) v0 rfl (gl (aO (f2 1 [(1,.p v0 (.n 8),v1),(1,.n 0,v0)] (.n 8) v1 rfl (a:=↑S.need) (b:=↑T.bud) (aF hn) aY)))))))
 exact aT (uB (uC X.ok.tab hS) R V.h rv .nil h) (λy1 y2 D=>V.after D) bb
theorem JB(X:Cx F A T C ev)(V:FInv F env c s)(rv:All2 (Rp F.E c) [v] us)(rk:KwRep F.E c [] ks)(e:kb c.σ v=aa D)
  (h:ag (fo T.cmeth D "__len__") fun g=>eK T (.ref g) [v] [] c.σ fun r σ'=>ag (bP bX r) fun i=>(0<=i/\i<2^63)/\Q (.pv (.int i)) σ'):Ev F A env (bO (.builtin "len") us ks) c s Q:=by
 refine ay e fun j e eD=>rv.cons_el fun u us r1 r2=>r2.nil_el (All2.nil_el rk (aq h fun g eg h=>(mJ V.h r1 e).casesOn fun a d es n eu I _=>ax (X.ok.tab.cmeth _ _ _ eg) fun e4 hg=>?_))
 rw[eu]
 exact X.ok.ba.lenI _ _ _ _ _ _ _ _ _ _ V.h.K I (ac eD▸e4) hg fun t=>cK (AI X (V.toks t) (.inr (.inl rfl)) (oq (eu▸r1)) h) fun v' s' d' r' x' W' rr q=>aq q fun i ei q=>rr.int_at ei fun t=>i24 _ _ rfl q.1.1 q.1.2 fun t' k=>⟨d',_,x',W'.toks k,.pv .int,q.2⟩
theorem JC(X:Cx F A T C ev)(V:FInv F env c s)(rv:All2 (Rp F.E c) [v] us)(rk:KwRep F.E c [] ks)(e:kb c.σ v=aa D)
  (h:ag (fo T.cmeth D "__str__") fun g=>eK T (.ref g) [v] [] c.σ fun r σ'=>ag (bP eP r) fun x=>Q (.pv (.str x)) σ'):Ev F A env (bO (.type "str") us ks) c s Q:=by
 refine ay e fun j e eD=>rv.cons_el fun u us r1 r2=>r2.nil_el (All2.nil_el rk (aq h fun g eg h=>(mJ V.h r1 e).casesOn fun a d es n eu I _=>ax (X.ok.tab.cmeth _ _ _ eg) fun e4 hg=>?_))
 rw[eu]
 have hb:8<=T.bud:=e12 (kx h) fun S hS h'=>bT (Nat.le_add_left _ _) (Spec.call_inv h').1
 have :=X.room.units
 exact X.ok.ba.strI _ _ _ _ _ _ _ _ _ _ V.h.K I (ac eD▸e4) hg (dx (f3 1 [(5,.n 8,v0),(1,.p (.p v1 (.s 20 v0)) (.n 1),v2),(15,.n 0,v0)] (.p (.p v1 (.n 40)) (.n 1)) v2 rfl (a:=↑T.bud) (b:=↑A.units) (c:=↑cLine) (aF hb) (dD this) aY)) fun A' t hA=>cK (AI X (V.toks t) hA (oq (eu▸r1)) h) fun v' s' d' r' x' W' rr q=>aq q fun i ei q=>rr.str_at ei fun t=>i22 _ _ rfl fun k=>⟨d',_,x',W'.toks k,.pv .str,q⟩
theorem JD(X:Cx F A T C ev)(V:FInv F env c s)(rv:All2 (Rp F.E c) vs us)(rk:KwRep F.E c kw ks)(h:zR T f vs kw c.σ Q):
  jG F.E.K f=true/\Ev F A env (bO f us ks) c s Q:=by
 exact cQ h (λq e q1=>fM (zQ e) fun b1 b2 b3 b4=>eqR (ID b1) ⟨rfl,JB X V (b2▸rv) (b3▸rk) b4 q1⟩) fun _ h=>cQ h (λq e q1=>fM (zQ e) fun b1 b2 b3 b4=>eqR (IE b1) ⟨rfl,JC X V (b2▸rv) (b3▸rk) b4 q1⟩)
  fun _ h=>⟨AG X.ok h,AH X V rv rk h⟩
inductive PI(F:Fs)(A:aS)(t:Expr)(env:aw)(c:Cf)(Q:List PV->List (Nat×List PV)->St->Prop)(it:Value)(s2:Shared):Prop
 |mk (d:Cf) (items:List PV) (src:List (Nat×List PV)) (wr:List Addr) (I:Addr) (Own:Nat->Heap->Prop):it=.ref I->Ext c d->FInv F env d s2->Run F.E A t I wr items src d Own->Own 0 s2.heap->Hid wr F d s2->dQ d.σ src->Q items src d.σ->PI F A t env c Q it s2
def JE(F:Fs)(A:aS)(env:aw)(t:Expr)(c:Cf)(s:Shared)(tr:cy Value)(Q:List PV->List (Nat×List PV)->St->Prop):Prop:=
 am F.E.M A tr (λx s1=>am F.E.M A (iw x) (PI F A t env c Q) aK s1) aK s
inductive PK(F:Fs)(env:aw)(c:Cf)(Q:List (Str×AV)->St->Prop)(kv:List (Str×Value))(s':Shared):Prop
 |mk (d:Cf) (rs:List (Str×AV)):Ext c d->FInv F env d s'->KwRep F.E d rs kv->Q rs d.σ->PK F env c Q kv s'
structure IH(F:Fs)(A:aS)(T:aI)(C:FCtx)(ev:Env)(n:Nat):Prop where
 e:∀e env c s Q,FInv F env c s->aR T C n e env c.σ Q->Ev F A env (eval e ev) c s Q
 o:∀e env c s Q,FInv F env c s->ug T C n e env c.σ Q->Ev F A env (evalPart e ev) c s Q
 es:∀es pos env c s Q,cJ es=true->FInv F env c s->iC T C n es env c.σ Q->am F.E.M A (jt (cV pos (cN es ev))) (mF F env c Q) aK s
 k:∀ks pos env c s Q,fB ks=true->FInv F env c s->jD T C n ks env c.σ Q->am F.E.M A (l8 ((cG pos (cH ks ev)).map (·.2))) (λvs s'=>PK F env c Q ((i5 ks).zip vs) s') aK s
 b:∀op es pos env c s Q,FInv F env c s->oj T C n op es env c.σ Q->Ev F A env (boolOp pos op (jX es ev)) c s Q
 ch:∀a v ops rs pos env c s Q,FInv F env c s->Rp F.E c a v->ly T C n a ops rs env c.σ Q->am F.E.M A (HB pos v ops (jX rs ev)) (PC F env c Q) aK s
 ct:∀a v ops rs pos env c s Q,FInv F env c s->Rp F.E c a v->ly T C n a ops rs env c.σ Q->lD F A env (HP pos v ops (jX rs ev)) c s Q
 t:∀e env c s Q,FInv F env c s->jE T C n e env c.σ Q->lD F A env (isTrue e ev (eval e ev)) c s Q
 a:∀op es env c s Q,FInv F env c s->ol T C n op es env c.σ Q->lD F A env (allTrue op es ev) c s Q
 i:∀t e env c s Q,FInv F env c s->iD T C n t e env c.σ Q->JE F A env t c s (eval e ev) Q
 l:∀elt g scope pos env c s Q,FInv F env c s->lw T C n elt g scope pos env c.σ Q->Ev F A env (eval (.ListComp elt [g] scope pos) ev) c s Q
theorem Ev.bind{t:cy Value}{k:Value->cy Value}{Q1:AV->St->Prop}(h:Ev F A env t c s Q1)(f:∀v s' d r,Ext c d->FInv F env d s'->Rp F.E d r v->Q1 r d.σ->Ev F A env (k v) d s' Q):
  am F.E.M A t (λv s'=>am F.E.M A (k v) (PE F env c Q) aK s') aK s:=
 aT h (λv s' hp=>hp.casesOn fun d r x V rr q=>aT (f v s' d r x V rr q) (PE.lift x) bb) bb
theorem Ev.lift(x:Ext c d)(h:Ev F A env t d s' Q):am F.E.M A t (PE F env c Q) aK s':=
 aT h (PE.lift x) bb
theorem JF(I:IH F A T C ev n)(V:FInv F env c s)(h:ug T C (n+1) e env c.σ Q):Ev F A env (evalPart e ev) c s Q:=by
 cases e with
 |none=>exact aN (Ev.here V (.pv .none) h)
 |some e=>exact I.e e env c s Q V h
theorem JG{n:Nat}(I:IH F A T C ev n){es:List Expr}{pos:Pos}{Q:List AV->St->Prop}(hs:cJ es=true)(V:FInv F env c s)(h:iC T C (n+1) es env c.σ Q):
  am F.E.M A (jt (cV pos (cN es ev))) (mF F env c Q) aK s:=by
 cases es with
 |nil=>exact nM ⟨c,[],Ext.refl c,V,.nil,h⟩
 |cons e r=>exact l5 (cK (I.e e env c s _ V h) fun v s' d u x W ru q=>qp (I.es r pos env d s' _ (ou hs) W q) fun vs s'' d' rs x' W' rr q'=>⟨d',u::rs,x.trans x',W',.cons (ru.ext x') rr,q'⟩) (jH hs)
theorem JH{n:Nat}(I:IH F A T C ev n){ks:List il}{pos:Pos}{Q:List (Str×AV)->St->Prop}(hs:fB ks=true)(V:FInv F env c s)(h:jD T C (n+1) ks env c.σ Q):
  am F.E.M A (l8 ((cG pos (cH ks ev)).map (·.2))) (λvs s'=>PK F env c Q ((i5 ks).zip vs) s') aK s:=by
 cases ks with
 |nil=>exact tz ⟨c,[],Ext.refl c,V,.nil,h⟩
 |cons k r=>
  obtain⟨a,e,p⟩:=k
  cases a with
  |none=>exact bn hs
  |some x=>
   refine wpAny_evalAll_cons (x:=do let v <-eval e ev;standAt pos;pure v) (rest:=(cG pos (cH r ev)).map (·.2)) (af (cK (I.e e env c s _ V h) fun v s' d u x' W ru q=>af (gZ (aN ?_))))
   exact aT (I.k r pos env d s' _ hs W q) (λvs s'' hp=>hp.casesOn fun d' rs x'' W' rr q'=>⟨d',(x,u)::rs,x'.trans x'',W',.cons ⟨rfl,ru.ext x''⟩ rr,q'⟩) bb
theorem JI{n:Nat}(X:Cx F A T C ev)(I:IH F A T C ev n){a:AV}{v:Value}{ops:List nA}{rs:List Expr}{pos:Pos}{Q:Bool->St->Prop}(V:FInv F env c s)(ra:Rp F.E c a v)(h:ly T C (n+1) a ops rs env c.σ Q):
  am F.E.M A (HB pos v ops (jX rs ev)) (PC F env c Q) aK s:=by
 cases ops with
 |nil=>exact h.elim
 |cons op ops=>cases rs with
  |nil=>exact h.elim
  |cons r rs=>cases ops with
   |nil=>cases rs with
    |nil=>exact chain_last (cK (I.e r env c s _ V h) fun u s' d b x W rb q=>qs X.room.u W.h.keep (ra.ext x) rb q fun k q=>⟨d,k,rfl,x,W,q⟩)
    |cons _ _=>exact h.elim
   |cons op' ops=>cases rs with
    |nil=>exact h.elim
    |cons r' rs=>
     refine chain_link (cK (I.e r env c s _ V h) fun u s' d b x W rb q=>qs X.room.u W.h.keep (ra.ext x) rb q fun k q=>za ?_)
     cases k with
     |false=>exact⟨d,false,rfl,x,W,q⟩
     |true=>exact aT (I.ch b u (op'::ops) (r'::rs) pos env d s' _ W rb q) (PC.lift x) bb
theorem JJ{n:Nat}(X:Cx F A T C ev)(I:IH F A T C ev n){a:AV}{v:Value}{ops:List nA}{rs:List Expr}{pos:Pos}{Q:Bool->St->Prop}(V:FInv F env c s)(ra:Rp F.E c a v)(h:ly T C (n+1) a ops rs env c.σ Q):
  lD F A env (HP pos v ops (jX rs ev)) c s Q:=by
 cases ops with
 |nil=>exact h.elim
 |cons op ops=>cases rs with
  |nil=>exact h.elim
  |cons r rs=>cases ops with
   |nil=>cases rs with
    |nil=>exact test_last (cK (I.e r env c s _ V h) fun u s' d b x W rb q=>qs X.room.u W.h.keep (ra.ext x) rb q fun k q=>za ⟨d,x,W,q⟩)
    |cons _ _=>exact h.elim
   |cons op' ops=>cases rs with
    |nil=>exact h.elim
    |cons r' rs=>
     refine test_link (cK (I.e r env c s _ V h) fun u s' d b x W rb q=>qs X.room.u W.h.keep (ra.ext x) rb q fun k q=>za ?_)
     cases k with
     |false=>exact⟨d,x,W,q⟩
     |true=>exact aT (I.ct b u (op'::ops) (r'::rs) pos env d s' _ W rb q) (PB.lift x) bb
theorem JK(I:IH F A T C ev n)(V:FInv F env c s)(h:oj T C (n+1) op es env c.σ Q):Ev F A env (boolOp pos op (jX es ev)) c s Q:=by
 cases es with
 |nil=>exact h.elim
 |cons e r=>cases r with
  |nil=>exact I.e e env c s Q V h
  |cons e' r=>
   refine af (cK (I.e e env c s _ V h) fun v s' d u x W ru q=>af (gZ (af (iT (qt ru q fun k q=>?_)))))
   cases op <;> cases k
   ·exact aN ⟨d,u,x,W,ru,q⟩
   ·exact Ev.lift x (I.b _ _ _ _ _ _ _ W q)
   ·exact Ev.lift x (I.b _ _ _ _ _ _ _ W q)
   ·exact aN ⟨d,u,x,W,ru,q⟩
theorem JL{n:Nat}(I:IH F A T C ev n){op:BoolOp}{es:List Expr}{Q:Bool->St->Prop}(V:FInv F env c s)(h:ol T C (n+1) op es env c.σ Q):lD F A env (allTrue op es ev) c s Q:=by
 cases es with
 |nil=>cases op <;> exact aN ⟨c,Ext.refl c,V,h⟩
 |cons e r=>
  refine af (um (I.t e env c s _ V h) fun b s' d x W q=>?_)
  cases op <;> cases b
  ·exact aN ⟨d,x,W,q⟩
  ·exact aT (I.a _ _ _ _ _ _ W q) (PB.lift x) bb
  ·exact aT (I.a _ _ _ _ _ _ W q) (PB.lift x) bb
  ·exact aN ⟨d,x,W,q⟩
theorem AJ{n:Nat}(I:IH F A T C ev n){e:Expr}{Q:Bool->St->Prop}(V:FInv F env c s)(he:isTrue e ev (eval e ev)=(do let v <-eval e ev;standAt e.pos;holding [v] (truthy v)))(h:aR T C n e env c.σ (λv σ=>kk v fun b=>Q b σ)):lD F A env (isTrue e ev (eval e ev)) c s Q:=
 isTrue_plain (cK (I.e e env c s _ V h) fun v s' d u x W ru q=>qt ru q fun b q=>⟨d,x,W,q⟩) he
theorem JM{n:Nat}(X:Cx F A T C ev)(I:IH F A T C ev n){e:Expr}{Q:Bool->St->Prop}(V:FInv F env c s)(h:jE T C (n+1) e env c.σ Q):lD F A env (isTrue e ev (eval e ev)) c s Q:=by
 cases e with
 |UnaryOp op x p=>
  cases op with
  |Not=>exact isTrue_not (um (I.t x env c s _ V h) fun b s' d x W q=>⟨d,x,W,q⟩)
  |_=>exact AJ I V rfl h
 |BoolOp op es p=>exact I.a op es env c s Q V h
 |IfExp _ _ _ _=>exact h.elim
 |Compare l ops rs p=>
  refine bH h fun hm h=>?_
  show am F.E.M A (do HP p (<-eval l ev) ops (markedEach ops rs (jX rs ev))) _ _ s
  rw[XG _ _ _ (nt hm)]
  exact af (cK (I.e l env c s _ V h) fun v s' d u x W ru q=>aT (I.ct _ _ _ _ _ _ _ _ _ W ru q) (PB.lift x) bb)
 |Name y p=>exact isTrue_plain (cK (I.e _ env c s _ V h) fun v s' d u x W ru q=>cQ q (λa e q=>aq q fun l e1 q2=>ru.ref_at e fun _=>(X.ok.idict a l e1).truth _ _ _ _ W.h.K fun k=>⟨d,x,W.toks k,q2⟩) fun _ q=>qt ru q fun b q=>⟨d,x,W,q⟩) rfl
 |_=>exact AJ I V rfl h
theorem JN(V:FInv F env c s)(h:zu k=aa p)(q:Q (.pv p) c.σ)(ki:Nat)(pos:Pos):Ev F A env (eval (.Constant k ki pos) ev) c s Q:=by
 cases k with
 |none=>have z0:=ac h;refine(let G:=_;(?_:G));subst z0;exact Constant_none (Ev.here V (.pv .none) q)
 |bool b=>have z1:=ac h;subst z1;exact Constant_bool (Ev.here V (.pv .bool) q)
 |int i=>have z2:=ac h;subst z2;exact wpAny_Constant_int (Ev.same V _ (.pv .int) q)
 |str i=>have z3:=ac h;subst z3;exact Constant_str (Ev.same V _ (.pv .str) q)
 |bytes b=>
  have h:(match dN b.length 1000 with |true=>aa (PV.bytes b)|false=>none)=aa p:=h
  set_option smartUnfolding false in refine n3 h fun e h=>?_
  have z4:=ac h;subst z4
  have :=dv e
  exact Constant_bytes (Ev.same V _ (.pv (.bytes (by unfold aW;exact aO (f1 1 [(1,v0,.n 1000)] v0 (.n 16777216) rfl (aF this))))) q)
 |_=>exact aD h
theorem JO(O:Ok F.E T)(V:FInv F env c s)(ra:Rp F.E c a u)(rb:Rp F.E c b v)(h:zY T pos op Q a b c.σ):Ev F A env (tj op u v) c s Q:=
 cQ h (λq e h=>cP (Iu e) fun e1 e2 e3=>eqR e1 (e34 (e2▸ra:Rp F.E c (.pv (.list q.1)) u).pv_inv.list_inv fun x vs n eu i1 z1 r1=>e34 (e3▸rb:Rp F.E c (.pv (.list q.2)) v).pv_inv.list_inv fun y ws m ev i2 z2 r2=>eqR eu (eqR ev
  (O.ba.cat _ _ _ _ _ _ _ _ _ _ (V.h.keep _ _ i1) (V.h.keep _ _ i2) (by rw[<-r1.1,<-r2.1];exact h.1) fun k=>uK (t:=k) V (r1.append r2) (by rw[bB];exact h.1) h.2)))) fun _ h=>IW V ra rb h
theorem JP(O:Ok F.E T)(V:FInv F env c s){K:Value×List Value->Shared->Prop}
  (h:∀k,∀d,Ext c d->FInv F env d {s with heap:=s.heap.push kZ,toks:=k}->d.σ=c.σ->d.I s.heap.objs.size=aa kZ->K (.ref s.heap.objs.size,[]) {s with heap:=s.heap.push kZ,toks:=k}):
  am F.E.M A (jZ (.type "int") "from_bytes" pl) K aK s:=
 O.ba.getfb _ _ _ _ _ V.h.K fun k=>h k _ V.ext (V.alloc rfl k) rfl (Cf.put_self ..)
theorem JQ(r:Rp F.E c v u)(h:t8 v=true):u=.type "int":=fO h fun f e h=>r.cst_at e fun _=>ll (oi h)
theorem AK(X:Cx F A T C ev)(I:IH F A T C ev n)(hs:cJ as=true)(hk:fB ks=true)(V:FInv F env c s)(rf:All2 (Rp F.E c) first fv)
  (h:uf (iC T C n) (jD T C n) as ks env c.σ P)
  (hc:∀d s' vs us kw kv,FInv F env d s'->All2 (Rp F.E d) (first++vs) us->KwRep F.E d kw kv->P vs kw d.σ->jG F.E.K g=true/\Ev F A env (bO g us kv) d s' Q):
  Ev F A env (callWith pos g fv (cV pos (cN as ev)) (cG pos (cH ks ev))) c s Q:=
 uF (K:=F.E.K) hs hk (qp (I.es as pos env c s _ hs V h) fun vs s' d rs x W rr q=>aT (I.k ks pos env d s' _ hk W q) (λkv s'' hp=>hp.casesOn fun d' rk x' W' rk' q'=>
  ax (hc d' s'' rs (fv++vs) rk _ W' ((rf.ext (x.trans x')).append (rr.ext x')) rk' q') fun k1 k2=>⟨⟨W'.h.K,k1⟩,Ev.lift (x.trans x') k2⟩) bb)
theorem JR(I:IH F A T C ev n)(V:FInv F env c s)(h:aR T C (n+1) (.Compare l ops rs pos) env c.σ Q):Ev F A env (eval (.Compare l ops rs pos) ev) c s Q:=by
 refine bH h fun hm h=>?_
 show am F.E.M A (do HB pos (<-eval l ev) ops (markedEach ops rs (jX rs ev))) _ _ s
 rw[XG _ _ _ (nt hm)]
 exact af (cK (I.e l env c s _ V h) fun v s' d u x W ru q=>IT (I.ch _ _ _ _ _ _ _ _ _ W ru q) fun s'' d' b x' W' q'=>⟨d',_,x.trans x',W',.pv .bool,q'⟩)
theorem JS{n:Nat}(X:Cx F A T C ev)(I:IH F A T C ev n){o:Expr}{x:Str}{pos:Pos}(V:FInv F env c s)(h:aR T C (n+1) (.Attribute o x pos) env c.σ Q):Ev F A env (eval (.Attribute o x pos) ev) c s Q:=by
 refine bH h fun hb h=>?_
 show am F.E.M A (do
  let o' <-pE o x ev (eval o ev)
  standAt pos.atName
  let r <-holding [o'] (nP o' x true)
  letTemporaryGo o o' r
  pure r) _ _ s
 rw[uD hb]
 exact af (Ev.bind (I.e o env c s _ V h) fun v s' d u x' W ru q=>af (gZ (af (iT (aT (Jh X.ok.tab X.room W ru q) (λr s₂ h₂=>af (XR (aN h₂))) bb)))))
theorem JT(I:IH F A T C ev n)(V:FInv F env c s)(h:aR T C (n+1) (.Tuple es k pos) env c.σ Q):Ev F A env (eval (.Tuple es k pos) ev) c s Q:=
 bH h fun hs h=>Tuple_ (qp (I.es es pos env c s _ hs V h) fun vs s' d rs x W rr q=>bH q fun hz q=>aq q fun l e q=>Ev.lift x (Jk W rr hz e q))
theorem JU(I:IH F A T C ev n)(V:FInv F env c s)(h:aR T C (n+1) (.List es pos) env c.σ Q):Ev F A env (eval (.List es pos) ev) c s Q:=
 bH h fun hs h=>List_ (qp (I.es es pos env c s _ hs V h) fun vs s' d rs x W rr q=>bH q fun hz q=>aq q fun l e1 q=>
  Ev.lift x (Jl W (uJ e1 rr) ((uJ e1 rr).1▸rr.1▸bT (dv hz) (by decide)) q))
theorem JV(X:Cx F A T C ev)(I:IH F A T C ev n)(V:FInv F env c s)(h:aR T C (n+1) (.Subscript o sl pos) env c.σ Q):Ev F A env (eval (.Subscript o sl pos) ev) c s Q:=by
 refine Subscript_ (cK (I.e o env c s _ V h) fun v s₁ d1 u x1 W1 r1 q=>cQ q (λz e q=>e11 (Iy e) fun p e=>?_) fun _ q=>?_)
 ·refine eqR e ?_
  refine HU (cK (I.o z.1 env d1 s₁ _ W1 q) fun vl s₂ d2 ul x2 W2 r2 q=>cK (I.o z.2 env d2 s₂ _ W2 q) fun vh s₃ d3 uh x3 W3 r3 q=>aN ?_)
  have W4:=W3.alloc (o:={cls:=.type "slice",data:=.fields #[vl,vh,.none]}) rfl s₃.toks
  have x4:Ext d3 (d3.put s₃.heap.objs.size {cls:=.type "slice",data:=.fields #[vl,vh,.none]}):=W3.ext
  exact Ev.lift (x1.trans (x2.trans (x3.trans x4))) (Jx X.ok W4 (r1.ext (x2.trans (x3.trans x4))) (r2.ext (x3.trans x4)) (r3.ext x4) (GK ..) q)
 ·cases z2:ln sl with
  |none=>exact cK (I.e sl env d1 s₁ _ W1 q) fun i s₂ d2 ui x2 W2 r2 q=>Ev.lift (x1.trans x2) (Jv X.ok X.room W2 X.kin (r1.ext x2) r2 (congrArg iA z2) q)
  |some w=>
   rw[qi z2] at q
   cases n <;> exact q.elim
theorem JW(X:Cx F A T C ev)(I:IH F A T C ev n)(hs:cJ as=true)(hk:fB ks=true)(V:FInv F env c s)
  (h:zX (aR T C n) as ks env Q c.σ):
  am F.E.M A (jZ (.type "int") "from_bytes" pl) (λfx s₂=>am F.E.M A (callWith pos fx.1 fx.2 (cV pos (cN as ev)) (cG pos (cH ks ev))) (PE F env c Q) aK s₂) aK s:=by
 refine bH h fun hk0 h=>aq h fun ab e h=>?_
 obtain rfl:=cX hk0
 obtain rfl:=qk e
 refine JP X.ok V fun k d2 x2 W2 e2 hx=>?_
 simp only[<-e2] at h
 refine Hx (P:=λh=>h.get? s.heap.objs.size=aa kZ) (by rw[jI hs];rfl) (λh hh=>(i12 .machine (.inr (.inl rfl)) ((yH (part:=none) hh).andThen .now))) (uE hs hk ?_)
 refine l5 (cK (I.e ab.1 env d2 _ _ W2 h) fun va s₃ d3 ua x3 W3 r3 q=>l5 (cK (I.e ab.2 env d3 _ _ W3 q) fun vb s₄ d4 ub x4 W4 r4 q=>nM (tz ⟨W4.h.keep _ _ (x4.I _ _ (x3.I _ _ hx)),?_⟩)) (jH (ou hs))) (jH hs)
 refine aq q fun l hl q=>aq q fun w hw q=>bH q fun e q=>r4.str_at hw fun t=>?_
 rw[show w="little" from beq_iff_eq.mp e]
 have fin:∀{t' k:Nat},PE F env c Q (.int (aP l) t') {s₄ with toks:=k}:=λ{t' k}=>⟨d4,_,x2.trans (x3.trans x4),W4.toks k,.pv .int,q.2⟩
 exact qA W4.h (r3.ext x4) hl (λt z eu=>X.ok.ba.fromb _ _ _ _ _ _ _ _ (W4.h.keep _ _ (x4.I _ _ (x3.I _ _ hx))) (.inl eu) q.1 _ fun t' k=>fin) fun x ho z eu=>X.ok.ba.fromb _ _ _ _ _ _ _ _ (W4.h.keep _ _ (x4.I _ _ (x3.I _ _ hx))) (show va=.bytes l.toArray 0\/_ from .inr ⟨x,eu,ho⟩) q.1 _ fun t' k=>fin
theorem JX(X:Cx F A T C ev)(I:IH F A T C ev n)(V:FInv F env c s)(h:aR T C (n+1) (.Call f as ks pos) env c.σ Q):Ev F A env (eval (.Call f as ks pos) ev) c s Q:=by
 refine bH h fun hg h=>ax (b3 hg) fun hsk hn=>cQ h (λz e h=>bH h fun hb h2=>?_) fun e h=>?_
 ·refine eqR (og e) ?_
  refine Au (b2 hb).1 (b2 hb).2 hsk.1 hsk.2 hn (cK (I.e z.1 env c s _ V h2) fun v s₁ d1 u x1 W1 r1 q pl=>?_)
  cases hi:t8 u&&z.2.1 == ("from_bytes" :Str) with
  |true=>
   rw[JQ r1 (b2 hi).1,show z.2.1="from_bytes" from beq_iff_eq.mp (b2 hi).2]
   exact aT (JW X I hsk.1 hsk.2 W1 (hU hi q)) (λfx s₂ h=>aT h (PE.lift x1) bb) bb
  |false=>
   refine aq (iE hi q) fun r hr q=>aT (Av X.ok.tab X.ok.bm W1 r1 hr) (λfx s₂ z0=>e13 z0 fun t e1 e2 rf=>?_) bb
   obtain⟨g,fv⟩:=fx
   obtain rfl:g=r.1:=e2
   refine eqR e1 ?_
   exact Ev.lift x1 (AK X I hsk.1 hsk.2 (W1.toks t) rf q fun d s' vs us kw kv W rv rk q=>⟨AG X.ok q,AH X W rv rk q⟩)
 ·refine aq h fun x ex h=>aq h fun v hv q=>?_
  rw[lp ex]
  exact af (cK (qy X.ok.tab X.env V (Q:=λu σ=>u=v/\σ=c.σ) hv ⟨rfl,rfl⟩) fun v' s₁ d1 u x1 W1 r1 eu=>aq q fun g eg q=>r1.cst_at (eu.1.symm▸eg) fun _=>Ev.lift x1 (AK X I (first:=[]) hsk.1 hsk.2 W1 .nil (eu.2.symm▸q) fun d s' vs us kw kv W rv rk q=>JD X W rv rk q))
theorem JY(X:Cx F A T C ev)(I:IH F A T C ev n)(V:FInv F env c s)(h:aR T C (n+1) e env c.σ Q):Ev F A env (eval e ev) c s Q:=by
 cases e with
 |Constant k ki pos=>exact aq h fun p e h=>JN V e h ki pos
 |Name x pos=>exact aq h fun v e h=>qy X.ok.tab X.env V e h
 |BinOp l op r pos=>exact wpAny_BinOp (cK (I.e l env c s _ V h) fun v s' d u x W ru q=>cK (I.e r env d s' _ W q) fun v' s'' d' u' x' W' ru' q'=>Ev.lift (x.trans x') (JO X.ok W' (ru.ext x') ru' q'))
 |UnaryOp op x pos=>
  cases op with
  |Not=>exact UnaryOp_ (cK (I.e x env c s _ V h) fun v s' d u x W ru q=>not_of (qt ru q fun b q=>⟨d,_,x,W,.pv .bool,q⟩))
  |_=>exact UnaryOp_ (Ev.bind (I.e x env c s _ V h) fun v s' d u x W ru q=>IX W ru q)
 |BoolOp op es pos=>exact I.b op es pos env c s Q V h
 |Compare l ops rs pos=>exact JR I V h
 |IfExp t b o pos=>
  refine IfExp_ (um (I.t t env c s _ V h) fun k s' d x W q=>?_)
  cases k with
  |true=>exact Ev.lift x (I.e _ _ _ _ _ W q)
  |false=>exact Ev.lift x (I.e _ _ _ _ _ W q)
 |Attribute o x pos=>exact JS X I V h
 |Tuple es k pos=>exact JT I V h
 |List es pos=>exact JU I V h
 |Subscript o sl pos=>exact JV X I V h
 |Call f as ks pos=>exact JX X I V h
 |ListComp elt gens scope pos=>
  cases gens with
  |nil=>exact h.elim
  |cons g r=>cases r with
   |nil=>exact I.l elt g scope pos env c s Q V h
   |cons _ _=>exact h.elim
 |_=>exact h.elim
end
section
variable{F:Fs}{A:aS}{T:aI}{C:FCtx}{ev:Env}{env:aw}{c:Cf}{s:Shared}
theorem qC(V:FInv F env c s)(ru:Rp F.E c v u)(h:kq c.σ v=aa r):∃a,u=.ref a/\LAt F.E c r.1 r.2 a/\dQ c.σ r.2:=
 dE h (λl e h=>ac h▸ru.onv e fun p rp e=>rp.lst_at e fun a vs n i z r'=>i13 a rfl (.inl (i24 _ _ i r' z rfl)) trivial)
  fun _ h=>ay h fun k e1 h=>ay h fun l e2 h=>ac h▸ru.loc_at e1 fun a ek=>i13 a rfl (.inr (i12 k ek rfl)) ⟨j9 e2,trivial⟩
theorem lF(V:FInv F env c s)(hw:∀b∈wr,s.heap.objs.size<=b/\b<h'.objs.size):Hid wr F c {s with heap:=h',toks:=t}:=λb m=>by
 refine ax (hw b m) fun h1 h2=>?_
 refine(g0 (bT V.size h1) h2 (?_) (λk e=>?_) (λq=>?_))
 ·cases q:c.I b with
  |none=>rfl
  |some o=>exact absurd (bM (V.h.keep _ _ q)) (Nat.not_lt.mpr h1)
 ·refine e11 (V.h.at e) fun x hx=>?_;exact absurd (bM hx) (Nat.not_lt.mpr h1)
 ·refine e12 V.ns fun m hm _=>?_;exact absurd hm.lt (by rw[<-q];exact Nat.not_lt.mpr h1)
theorem FInv.more(V:FInv F env c s)(hk:∀b o,s.heap.get? b=aa o->h'.get? b=aa o)(hz:s.heap.objs.size<=h'.objs.size)(t:Nat):FInv F env c {s with heap:=h',toks:=t}:=
 V.away (wr:=[]) (λ_ m=>absurd m fu) (λb o _ e=>hk b o e) hz t
abbrev SrcP(F:Fs)(A:aS)(env:aw)(t:Expr)(c:Cf)(Q:List PV->List (Nat×List PV)->St->Prop):Value->Shared->Prop:=PI F A t env c Q
variable{Q:List PV->List (Nat×List PV)->St->Prop}
theorem SrcP.lift(x:Ext c d)(h:am F.E.M A tr (SrcP F A env t d Q) aK s):am F.E.M A tr (SrcP F A env t c Q) aK s:=
 aT h (λ_ _ hp=>hp.casesOn fun d' a b wr I O e x' V r1 r2 r3 r4 r5=>⟨d',a,b,wr,I,O,e,x.trans x',V,r1,r2,r3,r4,r5⟩) bb
theorem qD(h:Heap)(o:Obj):h.objs.size<(h.push o).objs.size:=by simp only[gB];exact jT _
theorem JZ(hh:A.handled=none)(V:FInv F env c s)(L:LAt F.E c l r a)(hs:dQ c.σ r)(q:Q l r c.σ):am F.E.M A (iw (.ref a)) (SrcP F A env t c Q) aK s:=by
 refine e22 (L.get (Ext.refl c) V.h hs) fun vs n ho _=>?_
 exact wpAny_pyIter_list (LAt.isList ho) ⟨c,l,r,[s.heap.objs.size],s.heap.objs.size,_,rfl,Ext.refl c,V.more (λb o e=>cD _ e) (iV _ _) s.toks,Run.list hh L (fJ (bM ho)),
  (i13 _ (d9 _ rfl) rfl rfl),lF (t:=s.toks) V (λb m=>by rw[List.mem_singleton.mp m];exact⟨c8 _,qD _ _⟩),hs,q⟩
theorem J0(hh:A.handled=none)(V:FInv F env c s)(i:c.I a=aa (j8 vs))(r:RepL F.E.w.params c.I l vs)(q:Q l [] c.σ):am F.E.M A (iw (.ref a)) (SrcP F A env t c Q) aK s:=by
 have ho:=V.h.keep _ _ i
 exact wpAny_pyIter_tuple ⟨_,ho,rfl,_,rfl⟩ ⟨c,l,[],[s.heap.objs.size],s.heap.objs.size,_,rfl,Ext.refl c,V.more (λb o e=>cD _ e) (iV _ _) s.toks,Run.tuple hh i r (fJ (bM ho)),
  (i13 _ (d9 _ rfl) rfl rfl),lF (t:=s.toks) V (λb m=>by rw[List.mem_singleton.mp m];exact⟨c8 _,qD _ _⟩),trivial,q⟩
theorem J1(hh:A.handled=none)(V:FInv F env c s)(q:Q (x.cps.toList.map fun c=>.str ⟨#[c]⟩) [] c.σ):am F.E.M A (iw (.str x tk)) (SrcP F A env t c Q) aK s:=by
 have fin:∀(o:Obj) (St:Nat->Heap->Prop),Walks F.E.prog F.E.w A s.heap.objs.size [s.heap.objs.size] [s.heap.objs.size] x.cps.size (SignAt x) St->St 0 (s.heap.push o)->
   (∀i h,St i h->∃o n,h.get? s.heap.objs.size=aa o/\o.cls=.type n/\(["enumerate","zip","dict_itemiterator","dict_reverseitemiterator","odict_iterator","itertools.zip_longest","itertools.pairwise"].contains n)=false)->
   SrcP F A env t c Q (.ref s.heap.objs.size) {s with heap:=s.heap.push o}:=λo St W st hgo=>
  ⟨c,_,[],[s.heap.objs.size],s.heap.objs.size,St,rfl,Ext.refl c,V.more (λb o e=>cD _ e) (iV _ _) s.toks,Run.str W hgo,
   st,lF (t:=s.toks) V (λb m=>by rw[List.mem_singleton.mp m];exact⟨c8 _,qD _ _⟩),trivial,q⟩
 refine(let G:=_;(?_:G));cases ha:x.cps.all (·< 128)
 ·exact wpAny_pyIter_wide ha (fin _ _ (Walks.strWide hh _ x tk) (i13 _ (d9 _ rfl) rfl rfl) fun i h st=>by refine e11 st fun o z7=>?_;obtain⟨h1,h2,_⟩:=z7;exact⟨o,_,h1,h2,by decide⟩)
 ·exact wpAny_pyIter_ascii ha (fin _ _ (Walks.strAscii hh _ x tk) (i13 _ (d9 _ rfl) rfl rfl) fun i h st=>by refine e13 st fun o h1 h2 _=>?_;exact(i23 o _ h1 h2 (by decide)))
theorem uP{K:Value->Shared->Prop}(X:Cx F A T C ev)(V:FInv F env c s)(hf:kr C T env g e=aa as)
  (h:∀pos d s1,cJ as=true->Ext c d->d.σ=c.σ->FInv F env d s1->am F.E.M A (jt (cV pos (cN as ev))) (λvs s'=>F.E.K.In s'.heap/\am F.E.M A (bO (.type g) vs) K aK s') aK s1):
  am F.E.M A (eval e ev) K aK s:=by
 refine e33 (II hf) fun f fp pos e hn hs=>?_
 refine eqR e ?_
 have e:eval (.Call (.Name f fp) as [] pos) ev=(do callWith pos (<-eval (.Name f fp) ev) [] (cV pos (cN as ev)) (cG pos (cH [] ev))):=rfl
 rw[e]
 refine af (cK (qy X.ok.tab X.env V (Q:=λv σ=>v=.pv (.const (.type g))/\σ=c.σ) hn ⟨rfl,rfl⟩) fun v s1 d r x W ru hr=>?_)
 obtain⟨rfl,hσ⟩:=hr
 refine RepP.const_el ru.pv_inv fun _=>?_
 exact uF (K:=F.E.K) (ks:=[]) hs rfl (aT (h pos d s1 hs x hσ W) (λvs s' q=>tz ⟨⟨q.1,rfl⟩,q.2⟩) bb)
theorem AL(h:kp t=true):∃es k p,t=.Tuple es k p:=fO h fun q e _=>i31 _ _ _ (tS e)
theorem uQ{n a b:Nat}(h:a≠b):n+a≠n+b:=λe=>h (Nat.add_left_cancel e)
theorem qE(k:Nat)(h:a<n):a≠n+k:=fJ (jS h (fw n k))
theorem J2{n a1 a2:Nat}(l1:a1<n)(l2:a2<n):ZipApart (n+4) (n+2) (n+3) n (n+1) a1 a2:=by
 constructor <;> first |exact uQ (by decide)|exact uQ (b:=0) (by decide)|exact uQ (a:=0) (by decide)|exact qE _ l1 |exact qE _ l2 |exact qE 0 l1 |exact qE 0 l2
theorem J3(X:Cx F A T C ev)(I:IH F A T C ev n)(V:FInv F env c s)(hf:kr C T env "range" e=aa as)
  (h:ag (fA as) fun a=>aR T C n a env c.σ fun v σ=>ag (bP bX v) fun m=>(0<=m/\m<=1000000)/\Q ((gV m.toNat).map fun(i:Nat)=>PV.int i) [] σ):
  am F.E.M A (eval e ev) (λx s1=>am F.E.M A (iw x) (SrcP F A env t c Q) aK s1) aK s:=by
 refine aq h fun a ea h=>?_
 obtain rfl:=gn ea
 refine uP X V hf fun pos d0 s0 hs x0 e0 W0=>?_
 replace h:=e0.symm▸h
 refine l5 (cK (I.e a env d0 s0 _ W0 h) fun v s1 d r x W ru q=>nM ⟨W.h.K,aq q fun m em q=>?_⟩) (jH hs)
 refine ru.int_at em fun _=>call_range_1 ?_
 have W':=λo:Obj=>W.more (t:=s1.toks+1+1) (h':=s1.heap.push o) (λb o e=>cD _ e) (iV _ _)
 refine SrcP.lift (x0.trans x) (wpAny_pyIter_range (IsRange.new _ 0 m 1 _ _ _) (small_one (by decide) (by decide) (pj (by decide: -(2^62:Int)<=0) q.1.1) (pk q.1.2 (by decide:(1000000:Int)<2^62))) ?_)
 refine⟨d,_,[],[_],_,_,rfl,Ext.refl d,(W' _).more (λb o e=>cD _ e) (iV _ _) _,Run.range (m:=m) X.room.handled,?_,lF (W' _) (λb m=>by rw[List.mem_singleton.mp m];exact⟨c8 _,qD _ _⟩),trivial,q.2⟩
 have hz:X0 0 m 1=(m.toNat:Int):=by rw[rangeSize_one];split <;> lia
 rw[hz]
 show IsRangeIter _ _ (0+((0:Nat):Int)*1) ((m.toNat:Int)-((0:Nat):Int)) 1
 simp only[show(0:Int)+((0:Nat):Int)*1=0 from rfl,show(m.toNat:Int)-((0:Nat):Int)=(m.toNat:Int) from Int.sub_zero _]
 exact d9 _ rfl
theorem J4(X:Cx F A T C ev)(I:IH F A T C ev n)(V:FInv F env c s)(hf:kr C T env "enumerate" e=aa as)
  (h:ag (fA as) fun a=>gd (kp t) (aR T C n a env c.σ fun v σ=>ag (kq σ v) fun r=>Q (r.1.zipIdx.map fun p=>.tuple [.int p.2,p.1]) r.2 σ)):
  am F.E.M A (eval e ev) (λx s1=>am F.E.M A (iw x) (SrcP F A env t c Q) aK s1) aK s:=by
 refine aq h fun a ea h=>bH h fun ht h=>?_
 obtain rfl:=gn ea
 refine e31 (AL ht) fun es k p et=>?_
 subst et
 refine uP X V hf fun pos d0 s0 hs x0 e0 W0=>?_
 replace h:=e0.symm▸h
 refine l5 (cK (I.e a env d0 s0 _ W0 h) fun v s1 d r x W ru q=>nM ⟨W.h.K,aq q fun z hl q=>e13 (qC W ru hl) fun ad e L hsrc=>e22 (L.get (Ext.refl d) W.h hsrc) fun vs n' ho _=>?_⟩) (jH hs)
 refine eqR e ?_
 have hlt:=bM ho
 refine call_enumerate_list (LAt.isList ho) fun h' he hi hz hk=>SrcP.lift (x0.trans x) ?_
 refine XV (s:={s1 with heap:=h'}) he ⟨d,_,z.2,[s1.heap.objs.size+1,s1.heap.objs.size],_,_,rfl,Ext.refl d,W.more (t:=s1.toks) hk (by simp only[hz];exact fw _ _),Run.enum X.room.handled L (Nat.succ_ne_self _) (fJ (s8 hlt)) (fJ hlt),⟨⟨_,he⟩,hi⟩,
  lF (t:=s1.toks) (h':=h') W (λb m=>?_),hsrc,q⟩
 rcases cT.mp m with rfl |m
 ·exact⟨jm _,by simp only[hz];exact jT _⟩
 ·rw[List.mem_singleton.mp m];exact⟨c8 _,by simp only[hz];exact s8 (jT _)⟩
theorem J5(X:Cx F A T C ev)(I:IH F A T C ev n)(V:FInv F env c s)(hf:kr C T env "zip" e=aa as)
  (h:ag (mv as) fun ab=>gd (kp t) (aR T C n ab.1 env c.σ fun v σ=>aR T C n ab.2 env σ fun u σ=>ag (kq σ v) fun r=>ag (kq σ u) fun q=>dQ σ r.2/\Q ((r.1.zip q.1).map fun p=>.tuple [p.1,p.2]) (r.2++q.2) σ)):
  am F.E.M A (eval e ev) (λx s1=>am F.E.M A (iw x) (SrcP F A env t c Q) aK s1) aK s:=by
 refine aq h fun ab ea h=>bH h fun ht h=>?_
 obtain rfl:=qk ea
 refine e31 (AL ht) fun es k p et=>?_
 subst et
 refine uP X V hf fun pos d0 s0 hs x0 e0 W0=>?_
 replace h:=e0.symm▸h
 refine l5 (cK (I.e ab.1 env d0 s0 _ W0 h) fun v s1 d r x W ru q=>l5 (cK (I.e ab.2 env d s1 _ W q) fun v' s2 d' r' x' W' ru' q=>nM ⟨W'.h.K,aq q fun z hl q=>aq q fun y hm q=>e13 (qC W' (ru.ext x') hl) fun a1 e1 L hs1=>e13 (qC W' ru' hm) fun a2 e2 M hs2=>?_⟩) (jH (ou hs))) (jH hs)
 refine eqR e1 ?_;refine eqR e2 ?_
 refine e22 (L.get (Ext.refl d') W'.h hs1) fun vs n1 ho1 _=>e22 (M.get (Ext.refl d') W'.h hs2) fun us n2 ho2 _=>?_
 refine call_zip_2 (LAt.isList ho1) (LAt.isList ho2) fun h' z1 z2 z3 z4 z5 hz hk=>SrcP.lift (x0.trans (x.trans x')) ?_
 refine XX (s:={s2 with heap:=h'}) z1 ⟨d',_,z.2++y.2,[s2.heap.objs.size+4,s2.heap.objs.size+2,s2.heap.objs.size+3,s2.heap.objs.size,s2.heap.objs.size+1],_,_,rfl,Ext.refl d',W'.more (t:=s2.toks) hk (by simp only[hz];exact fw _ _),Run.zip X.room.handled L M (J2 (bM ho1) (bM ho2)),(g0 z1 z2 (i21 _ _ z3) z4 z5),
  lF (t:=s2.toks) (h':=h') W' (λb m=>?_),srcOk_app.mpr ⟨hs1,hs2⟩,q.2⟩
 simp only[hz]
 have off:∀{k:Nat},k<5->s2.heap.objs.size<=s2.heap.objs.size+k/\s2.heap.objs.size+k<s2.heap.objs.size+5:=λh=>⟨fw _ _,Nat.add_lt_add_left h _⟩
 simp only[cT,fu,or_false] at m
 rcases m with rfl |rfl |rfl |rfl |rfl
 ·exact off (by decide)
 ·exact off (by decide)
 ·exact off (by decide)
 ·exact off (k:=0) (by decide)
 ·exact off (by decide)
theorem J6(X:Cx F A T C ev)(I:IH F A T C ev n)(V:FInv F env c s)(h:iD T C (n+1) t e env c.σ Q):am F.E.M A (eval e ev) (λx s1=>am F.E.M A (iw x) (SrcP F A env t c Q) aK s1) aK s:=
 cQ h (λ_ e h=>J3 X I V e h) fun _ h=>cQ h (λ_ e h=>J4 X I V e h) fun _ h=>cQ h (λ_ e h=>J5 X I V e h) fun _ h=>
  cK (I.e e env c s _ V h) fun v s1 d r x W ru q=>SrcP.lift x (cQ q (λy e q=>ru.str_at e fun _=>J1 X.room.handled W q.2) fun _ q=>cQ q (λl e q=>ru.onv e fun p rp e=>rp.tup_at e fun a vs i z r=>J0 X.room.handled W i r q) fun _ q=>aq q fun z hl q=>e13 (qC W ru hl) fun a e L hs=>e▸JZ X.room.handled W L hs q)
end
section
variable{prog:Program}{w:bD}{A:aS}{R:Result->Shared->Prop}{s:Shared}
theorem J7{iter:Expr}(I:Nat->Shared->Prop)
  (turn:∀n s,I n s->am (aH prog w) A (j0 it) (λr s₁=>match r with
   |none=>R (.ok .next) s₁
   |some v=>am (aH prog w) A (pJ t it v) (λ_ s₁'=>am (aH prog w) A (k9 t env v) (λ_ s₂=>am (aH prog w) A (eval elt env) (λx s₃=>
     am (aH prog w) A (call (.builtin "list.append") [acc,x]) (λ_ s₄=>∃m,m<n/\I m s₄) aK s₃) aK s₂) aK s₁') aK s₁) aK s)
  (n:Nat) (h:I n s):la (aH prog w) A (.compLoop (.ListComp elt [⟨t,iter,[],0⟩] scope pos) 0 it acc env) R s:=by
 refine codeAny_loop rfl I (λn s hI=>?_) n h
 skip
 refine wpAny_noted (aT (E:=aK) ?_ (λ_ _ h=>h) fun _ _ z=>z.elim)
 rw[compTurn_list1]
 refine af (gZ (af (aT (turn n s hI) (λr s₁ h₁=>?_) fun _ _ h'=>h')))
 cases r with
 |none=>exact aN h₁
 |some v=>
  refine af (aT h₁ (λ_ s₁' h₁'=>?_) fun _ _ h'=>h')
  exact af (aT h₁' (λ_ s₂ h₂=>af (af (aT h₂ (λx s₃ h₃=>af (aT h₃
   (λ_ s₄ h₄=>aN (aN ⟨rfl,h₄⟩)) fun _ _ h'=>h')) fun _ _ h'=>h'))) fun _ _ h'=>h')
theorem J8(I:Nat->Shared->Prop)
  (turn:∀n s,I n s->am (aH prog w) A (j0 it) (λr s₁=>match r with
   |none=>R (.ok .next) s₁
   |some v=>am (aH prog w) A (pJ t it v) (λ_ s₁'=>
     am (aH prog w) A (k9 t env v) (λ_ s₂=>am (aH prog w) A (fy body env) (λf s₃=>match f with
      | .next | .cont=>∃m,m<n/\I m s₃
      | .brk=>R (.ok .next) s₃
      | .ret v=>R (.ok (.ret v)) s₃) aK s₂) aK s₁') aK s₁) aK s)
  (n:Nat) (h:I n s):la (aH prog w) A (.forLoop t it body [] env) R s:=by
 refine codeAny_forLoop_any I (λn s hI=>aT (turn n s hI) (λr s₁ h₁=>?_) fun _ _ z=>z.elim) n h
 cases r with
 |none=>exact tA h₁
 |some v=>exact aT h₁ (λ_ s₁' h₁'=>aT h₁' (λ_ s₂ h₂=>aT h₂ (λf s₃ h₃=>h₃) fun _ _ z=>z.elim) fun _ _ z=>z.elim) fun _ _ z=>z.elim
end
section
variable{F:Fs}{A:aS}{T:aI}{C:FCtx}{ev:Env}{env:aw}{c:Cf}{s:Shared}
theorem uR(N:EnvOk F C ev)(hh:A.handled=none)(V:FInv F env c s){K:Shared->Prop}
  (W:Run F.E A t I wr items src c0 Own) (x0:Ext c0 c) (hs:dQ c.σ src) (O:Own i s.heap) (H:Hid wr F c s) (hi:items[i]? =aa x) (hb:gI env t (.pv x)=aa env') (hl:hN C t=true)
  (k:∀s',FInv F env' c s'->Own (i+1) s'.heap->Hid wr F c s'->(∀b o,b∉wr->b≠F.L->(∀k,c.ρ k≠aa b)->s.heap.get? b=aa o->s'.heap.get? b=aa o)->hsz s<=hsz s'->K s'):
  am F.E.M A (j0 (.ref I)) (λr s1=>∃v,r=aa v/\am F.E.M A (pJ t (.ref I) v) (λ_ s2=>am F.E.M A (k9 t ev v) (λ_ s3=>K s3) aK s2) aK s1) aK s:=by
 refine e55 (W.turn c s.heap i x0 V.h hs O) fun fp wr0 P Md St hw KT st hO hP=>?_
 have hlt:i<items.length:=(List.getElem?_eq_some_iff.mp hi).1
 refine aT (iW (KT.item i s (λr s'=>∃v h' tk,r=aa v/\s'={s with heap:=h',toks:=tk}/\Md i v h'/\∀b o,b∉wr0->s.heap.get? b=aa o->h'.get? b=aa o) aK hlt st fun v h' tk a b=>(i34 v h' tk rfl rfl a b))) (λr s1 ⟨z1,v,h1,tk,e1,e2,hm,k1⟩=>(i12 v e1 (?_))) bb
 subst e2
 refine aT (iW (KT.go i v _ (λ_ s'=>∃h',s'={s with heap:=h',toks:=tk}/\P i v h'/\St (i+1) h'/\∀b o,b∉wr0->h1.get? b=aa o->h'.get? b=aa o) aK hm fun h' a b d=>(i14 h' rfl a b d))) (λ_ s2 ⟨z2,h2,e3,hp,st2,k2⟩=>?_) bb
 subst e3
 have hk:∀b o,b∉wr->s.heap.get? b=aa o->h2.get? b=aa o:=λb o nb e=>k2 b o (λq=>nb (hw b q)) (k1 b o (λq=>nb (hw b q)) e)
 have hz:s.heap.objs.size<=h2.objs.size:=bT z1 z2
 have V2:=V.away H hk hz tk
 have H2:=H.away hz tk
 refine AF (F:=F.re c _) (N.re V2) hh V2.re hl hb (hP v h2 x hi V2.h hp) fun s3 V3=>?_
 refine ax (H2.re V3) fun H3 k3=>?_
 refine k s3 (V2.un V3) ?_ H3 (λb o nb nL nρ e=>V3.kept b o (hk b o nb e) fun q=>?_) (bT hz V3.size)
 ·exact W.frame _ _ _ (hO _ _ st2) k3
 ·rcases q with ⟨j,q⟩|q
  ·exact nρ j q
  ·exact nL q
theorem uS(V:FInv F env c s){K:Shared->Prop}
  (W:Run F.E A t I wr items src c0 Own) (x0:Ext c0 c) (hs:dQ c.σ src) (O:Own items.length s.heap) (H:Hid wr F c s)
  (k:∀s',FInv F env c s'->Hid wr F c s'->(∀b o,b∉wr->s.heap.get? b=aa o->s'.heap.get? b=aa o)->hsz s<=hsz s'->K s'):
  am F.E.M A (j0 (.ref I)) (λr s1=>r=none/\K s1) aK s:=by
 refine(let G:=_;(?_:G));refine e55 (W.turn c s.heap _ x0 V.h hs O) fun fp wr0 P Md St hw KT st hO hP=>?_
 refine aT (iW (KT.done s (λr s'=>∃h' tk,r=none/\s'={s with heap:=h',toks:=tk}/\∀b o,b∉wr0->s.heap.get? b=aa o->h'.get? b=aa o) aK st fun h' tk b=>(i23 h' tk rfl rfl b))) (λr s1 ⟨z1,h1,tk,e1,e2,k1⟩=>⟨e1,?_⟩) bb
 subst e2
 have hk:∀b o,b∉wr->s.heap.get? b=aa o->h1.get? b=aa o:=λb o nb e=>k1 b o (λq=>nb (hw b q)) e
 exact k _ (V.away H hk z1 tk) (H.away z1 tk) hk z1
theorem uT{α:Type}{l:List α}{i:Nat}{x:α}{r:List α}(h:l.drop i=x::r):l[i]? =aa x/\l.drop (i+1)=r:=by
 have h1:(l.drop i)[0]? =aa x:=by rw[h];rfl
 rw[yB] at h1
 refine⟨h1,?_⟩
 rw[<-List.tail_drop,h];rfl
theorem uU{α:Type}{l:List α}{i:Nat}(hi:i<=l.length)(h:l.drop i=[]):i=l.length:=by
 have :=List.drop_eq_nil_iff.mp h
 exact iz (f2 1 [(1,v0,v1)] v0 v1 rfl (aF hi)) (f2 1 [(1,v1,v0)] v1 v0 rfl (aF this))
end
theorem All2.snoc:∀{l:List α} {m:List β},All2 R l m->R a b->All2 R (l++[a]) (m++[b])
 | [],m,r,h=>by refine eqR r.nil_inv ?_;exact .cons h .nil
 |x::l,m,r,h=>by
  refine(let G:=_;(?_:G));obtain⟨y,m,rfl,r1,r2⟩:=r.cons_inv
  exact .cons r1 (r2.snoc h)
theorem qF(f:Str->Bool):∀{l:List (Str×β)} {x:Str} {p:β},(l.filter fun q=>f q.1).lookup x=aa p->f x=true/\l.lookup x=aa p:=by
 intro v0
 induction v0 with
 |nil=>intro x p h;exact aD h
 |cons f0 l ih=>
  intro x p h
  obtain⟨y,v⟩:=f0
  replace h:=yA▸h
  rw[cr]
  cases hy:f y with
  |false=>
   rw[hy,if_neg (by decide)] at h
   refine ax (ih h) fun h1 h2=>?_
   cases q:x == y with
   |true=>rw[beq_iff_eq] at q;refine(let G:=_;(?_:G));subst q;replace h1:=hy▸h1;exact bn h1
   |false=>exact⟨h1,h2⟩
  |true=>
   rw[hy,if_pos rfl,cr] at h
   cases q:x == y with
   |true=>replace h:=q▸h;rw[beq_iff_eq] at q;subst q;exact⟨hy,h⟩
   |false=>replace h:=q▸h;exact ih h
theorem jJ:∀{l:List (Str×β)} {x:Str} {p:β},l.lookup x=aa p->(x,p)∈l
 |(y,v)::l,x,p,h=>by
  simp only[cr] at h
  cases q:x == y with
  |true=>replace h:=q▸h;rw[beq_iff_eq] at q;subst q;have z0:=ac h;refine eqR z0 ?_;exact cM
  |false=>replace h:=q▸h;exact cU _ (jJ h)
theorem qG:∀{l:List (Str×β)} {x:Str} {p:β},(x,p)∈l->∃q,l.lookup x=aa q/\(x,q)∈l
 |(y,v)::l,x,p,h=>by
  simp only[cr]
  cases q:x == y with
  |true=>rw[beq_iff_eq] at q;refine(let G:=_;(?_:G));subst q;exact(i12 v rfl cM)
  |false=>
   refine(let G1:=_;(?_:G1));rcases cT.mp h with e |e
   ·clear h;cases e;simp only[beq_self_eq_true] at q;exact bn q.symm
   ·refine(let G2:=_;(?_:G2));refine e12 (qG e) fun r h1 h2=>?_
    exact(i12 r h1 (cU _ h2))
theorem J9(h:∀x,(x,jl)∈scope.names->∃a,env.cells.lookup x=aa a):
  ∃cl,Hy scope env=pure cl/\∀x a,(x,jl)∈scope.names->env.cells.lookup x=aa a->cl.lookup x=aa a:=by
 have main:∀(names:List (Str×k0)) (cs:List (Str×Addr)),(∀x,(x,jl)∈names->∃a,env.cells.lookup x=aa a)->(∀p∈cs,env.cells.lookup p.1=aa p.2)->
   ∃cl,(lc names cs fun(p:Str×k0) (cs:List (Str×Addr))=>(if p.2 == .free then(do let a <-cellOf env p.1;pure (GI ((p.1,a)::cs))) else pure (GI cs):cy (ForInStep (List (Str×Addr)))))=pure cl/\
    (∀p∈cl,env.cells.lookup p.1=aa p.2)/\(∀p∈cs,p∈cl)/\∀x,(x,jl)∈names->∃a,(x,a)∈cl:=by
  intro names
  induction names with
  |nil=>exact fun cs _ h2=>(i14 cs rfl h2 (λ_ m=>m) (λ_ m=>nomatch m))
  |cons p names ih=>
   intro cs h1 h2
   obtain⟨x,k⟩:=p
   cases hk:(k == jl) with
   |false=>
    refine e14 (ih cs (λy m=>h1 y (cU _ m)) h2) fun cl e1 e2 e3 e4=>?_
    refine(i14 cl (?_) e2 e3 (λy m=>?_))
    ·rw[nF]
     simp only[hk,sE,if_false]
     exact e1
    ·refine(let G1:=_;(?_:G1));rcases cT.mp m with e |e
     ·cases e;exact bn hk.symm
     ·exact e4 y e
   |true=>
    refine e11 (h1 x (by rw[show k=jl by simpa using hk];exact cM)) fun a ha=>?_
    refine e14 (ih ((x,a)::cs) (λy m=>h1 y (cU _ m)) (λq m=>by
     rcases cT.mp m with rfl |m
     ·exact ha
     ·exact h2 q m)) fun cl e1 e2 e3 e4=>?_
    refine(i14 cl (?_) e2 (λq m=>e3 q (cU _ m)) (λy m=>?_))
    ·rw[nF]
     simp only[hk,if_true,cellOf,ha]
     exact e1
    ·rcases cT.mp m with e |e
     ·cases e;exact⟨a,e3 _ cM⟩
     ·exact e4 y e
 refine(let G:=_;(?_:G));refine e14 (main scope.names [] h (λ_ m=>nomatch m)) fun cl e1 e2 _ e4=>?_
 refine(i12 cl (?_) (λx a m ha=>?_))
 ·simp only[Hy]
  refine(congrArg (λt:cy (List (Str×Addr))=>t >>=λr=>pure r) (Gw ?_ e1)).trans rfl
  rfl
 ·refine(let G2:=_;(?_:G2));refine e11 (e4 x m) fun b hb=>?_
  refine e12 (qG hb) fun q h1 h2=>?_
  have :=e2 _ h2
  replace this:=ha▸this
  have z0:=ac this;clear h2;clear this;subst z0
  exact h1
section
variable{F:Fs}{A:aS}{T:aI}{C:FCtx}{ev:Env}{env:aw}{c:Cf}{s:Shared}{Q:AV->St->Prop}
def Off(b:Addr)(F:Fs)(c:Cf)(s:Shared):Prop:=b<s.heap.objs.size/\c.I b=none/\(∀k,c.ρ k≠aa b)/\b≠F.L
theorem Off.re(H:Off b F c s)(V':FInv (F.re c s) env' c' s'):Off b F c' s'/\∀o,s.heap.get? b=aa o->s'.heap.get? b=aa o:=by
 refine(let G:=_;(?_:G));refine fM H fun h2 h3 h4 h5=>?_
 refine⟨(eC (jS h2 V'.size) (?_) (λk e=>?_) h5),λo e=>V'.kept b o e fun q=>?_⟩
 ·cases q:c'.I b with
  |none=>rfl
  |some o=>
   rcases V'.Iold b o q with z |z
   ·have z:c.I b=aa o:=z
    replace z:=h3▸z;exact aD z
   ·exact absurd h2 (Nat.not_lt.mpr z)
 ·rcases V'.old k b e with (⟨j,q⟩|q)|q
  ·exact h4 j q
  ·exact h5 q
  ·exact absurd h2 (Nat.not_lt.mpr q)
 ·rcases q with ⟨j,q⟩|q
  ·exact h4 j q
  ·exact h5 q
theorem Off.hid(H:Off b F c s)(h:F.r.heap.objs.size<=b):Hid [b] F c s:=λx m=>by rw[List.mem_singleton.mp m];exact⟨h,H⟩
def AM(F:Fs)(env:aw)(c:Cf)(T:aI)(pos:Pos)(Q:AV->St->Prop)(D Cc:Addr)(s':Shared):Prop:=
 ∃d l vs n m,Ext c d/\FInv F env d s'/\Hid [D] F d s'/\Hid [Cc] F d s'/\D≠Cc/\s'.heap.get? D=aa (bQ vs n)/\RepL F.E.w.params d.I l vs/\l.length<=aW/\s'.heap.Ns Cc m/\i4 T pos l d.σ Q
theorem AN(V:FInv F env c s)(H:Hid [D] F c s)(ho:s.heap.get? D=aa (bQ vs n))(r:RepL F.E.w.params c.I l vs)(hz:l.length<=aW)(q:i4 T pos l c.σ Q):
  ∃d r,Ext c d/\FInv F env d s/\Rp F.E d r (.ref D)/\Q r d.σ/\∀b,b≠D->(c.I b=none->d.I b=none)/\((∀k,c.ρ k≠aa b)->∀k,d.ρ k≠aa b):=by
 refine(let G:=_;(?_:G));refine fN (H D (List.mem_singleton.mpr rfl)) fun h1 h2 h3 h4 h5=>?_
 refine cQ q (λk _ q=>?_) fun _ q=>?_
 ·cases e2:has (bF c.σ) k with
  |true=>exact(hU e2 q).elim
  |false=>
   have hk:aX c.σ k=none:=mG fun m=>bn (e2.symm.trans (has_iff.mpr m))
   refine ax (V.show2 (o:=.list l) hk h1 h3 h4 h5 (i23 vs n ho r hz)) fun V' x=>i25 _ (.loc k) x V' (.loc (c.add_self ..)) (iE e2 q) fun b nb=>⟨λe=>e,λe j=>?_⟩
   by_cases z:j=k
   ·clear e2;clear hk;refine eqR z ?_;rw[c.add_self];exact fun w=>nb (ac w).symm
   ·rw[c.add_ne _ _ z];exact e j
 ·refine ax (V.show ho h1 h3 h4 h5) fun V' x=>?_
  have r':=RepL.ext (E:=F.E) x r
  exact(i25 _ _ x V' (.pv (.list (c.put_self ..) hz r'.1 r'.2)) q (λb nb=>⟨λe=>(c.put_ne _ nb).trans e,λe=>e⟩))
noncomputable def Fs.at(F:Fs)(L:Addr):Fs:={F with L:=L}
theorem Ka(N:EnvOk F C ev)(hc:lv C scope t=true)(hcl:∀x a,(x,jl)∈scope.names->ev.cells.lookup x=aa a->cl.lookup x=aa a)
  (h1:cenv.scope=tv scope ev) (h2:cenv.locals=Cc) (h3:cenv.globals=ev.globals) (h4:cenv.builtins=ev.builtins) (h5:cenv.cells=cl) (hC:∀a o,F.r.heap.get? a=aa o->a≠Cc):EnvOk (F.at Cc) (dz C scope) cenv:=by
 unfold lv at hc
 replace hc:=b4 hc
 refine(let G:=_;(?_:G));refine ax hc fun z0 hd=>?_;refine ax z0 fun z1 ha=>?_;refine ax z1 fun _ hk=>?_
 have hrel:tv scope ev=uc scope C.scope:=by
  have :tv scope ev=uc scope ev.scope:=rfl
  simp only[this,N.scope]
 refine⟨h1.trans hrel,by show scope.kind=_;simpa using hk,h2,h3.trans N.glob,h4.trans N.blt,?_,λx p hp=>?_⟩
 ·show bN _ (scope.names.map _)=none
  have hd:bN ("__debug__" :Str) scope.names=none:=by simpa using hd
  clear ha hrel h1
  generalize scope.names=names at hd ⊢
  induction names with
  |nil=>rfl
  |cons q names ih=>
   obtain⟨y,k⟩:=q
   simp only[cr] at hd
   rw[ey]
   cases e:(("__debug__" :Str) == y) with
   |true=>replace hd:=e▸hd;exact aD hd.symm
   |false=>
    replace hd:=e▸hd
    dsimp only
    split <;> simp only[cr,e] <;> exact ih hd
 ·have hp:bN x (C.cells.filter fun p=>(λy=>scope.names.lookup y == aa .free) p.1)=aa p:=hp
  refine(let G1:=_;(?_:G1));refine ax (qF (λy=>scope.names.lookup y == aa .free) hp) fun e1 e2=>?_
  have hm:(x,jl)∈scope.names:=jJ (beq_iff_eq.mp e1)
  refine e36 (N.cells x p e2) fun a o v q1 q2 q3 q4 q5 q6=>?_
  exact(i36 a o v (by rw[h5];exact hcl x a hm q1) q2 q3 q4 q5 q6)
end
section
variable{F:Fs}{A:aS}{T:aI}{C:FCtx}{ev:Env}{env:aw}{c:Cf}{s:Shared}{Q:AV->St->Prop}
theorem Cx.re(X:Cx F A T C ev)(V:FInv F env c s):Cx (F.re c s) A T C ev:=⟨X.ok,X.env.re V,X.room,X.kin⟩
theorem Kb{K:Value->Shared->Prop}(ho:s.heap.get? D=aa (bQ vs n))(hz:vs.length<=aW)
  (h:∀h',ii D s.heap h'->h'.get? D=aa (bQ (vs++[x]) (n+1))->K .none {s with heap:=h'}):am (aH prog w) A (call (.builtin "list.append") [.ref D,x]) K aK s:=by
 refine append_at (its:=vs.toArray) (n:=n) ho (λh' hs e=>h h' hs ?_) (by simp only[cb,ty];exact hz)
 rw[e]
 skip
 rw[List.push_toArray]
theorem Kc(V:FInv F env d s)(hoL:s.heap.get? F.L=aa oL)(x:Ext d dd)(V':FInv (F.at Cc) env' dd s')(e1:s'.heap.get? F.L=aa oL)(H:Off F.L (F.at Cc) dd s'):FInv F env dd s':=
 e12 V.ns fun m z0 he=>e32 z0 fun o es ep ho hr=>⟨V'.h,V'.size,V'.kept,(i12 m (i32 o es ep (e1.trans (hoL.symm.trans ho)) hr) (λy v e=>let⟨u,hu,r⟩:=he y v e;(i12 u hu (r.ext x)))),H.2.1,V.Lnew,H.2.2.1,V'.old,V'.Iold,V'.rest,V'.cl⟩
inductive uV(F:Fs)(L:Addr)(d:Cf)(items:List PV)(src:List (Nat×List PV))(wr:List Addr)(Own:Nat->Heap->Prop)(D:Addr)(oL:Obj)(G:List PV->aw->List PV->St->Prop)(m:Nat)(s':Shared):Prop
 |mk (i:Nat) (env:aw) (dd:Cf) (acc:List PV) (vs:List Value) (nn:Nat):m=items.length+1-i->i<=items.length->acc.length=i->Ext d dd->FInv F env dd s'->Own i s'.heap->Hid wr F dd s'->Off D F dd s'->dQ dd.σ src->s'.heap.get? D=aa (bQ vs nn)->
   RepL F.E.w.params dd.I acc.reverse vs->s'.heap.get? L=aa oL->Off L F dd s'->G (items.drop i) env acc dd.σ->uV F L d items src wr Own D oL G m s'
theorem Off.to(H:Off b F c s)(e:h'.objs.size=s.heap.objs.size):Off b F c {s with heap:=h',toks:=t}:=⟨e▸H.1,H.2⟩
theorem Kd{cenv:Env}{n:Nat}{t elt:Expr}{d:Cf}{I L D:Addr}{wr:List Addr}{items:List PV}{src:List (Nat×List PV)}{Own:Nat->Heap->Prop}{oL:Obj}{KK:List PV->St->Prop}{i:Nat}{acc:List PV}{vs:List Value}{nn:Nat}{x:PV}{r:List PV}
  (N:EnvOk F C cenv) (hh:A.handled=none) (HE:∀c s env,FInv F env c s->IH (F.re c s) A T C cenv n) (hl:hN C t=true) (W:Run F.E A t I wr items src d Own) (hDw:D∉wr) (hLw:L∉wr) (hDL:D≠L) (hDr:F.r.heap.objs.size<=D) (hz:items.length<=aW)
  (e:items.drop i=x::r) (hi:i<=items.length) (hal:acc.length=i) (x1:Ext d c) (W2:FInv F env c s) (O2:Own i s.heap) (H2:Hid wr F c s) (HD:Off D F c s) (hs2:dQ c.σ src) (oD:s.heap.get? D=aa (bQ vs nn)) (rA:RepL F.E.w.params c.I acc.reverse vs)
  (eL:s.heap.get? L=aa oL) (HL:Off L F c s) (hgo:ga (λc=>aR T c n) C elt t src (x::r) env acc c.σ KK):
  am F.E.M A (j0 (.ref I)) (λr s1=>∃v,r=aa v/\am F.E.M A (pJ t (.ref I) v) (λ_ s2=>am F.E.M A (k9 t cenv v) (λ_ s3=>am F.E.M A (eval elt cenv) (λy s₃=>am F.E.M A (call (.builtin "list.append") [.ref D,y]) (λ_ s₄=>∃m',m'<items.length+1-i/\uV F L d items src wr Own D oL (λl env acc σ=>ga (λc=>aR T c n) C elt t src l env acc σ KK) m' s₄) aK s₃) aK s3) aK s2) aK s1) aK s:=
 ax (uT e) fun hx hr=>aq hgo fun env3 hb hgo=>by
  have hlt:i<items.length:=(List.getElem?_eq_some_iff.mp hx).1
  refine uR N hh W2 W x1 hs2 O2 H2 hx hb hl fun s3 V3 O3 H3 k3 z3=>?_
  have HD3:Off D F c s3:=⟨jS HD.1 z3,HD.2⟩
  have HL3:Off L F c s3:=⟨jS HL.1 z3,HL.2⟩
  have oD3:=k3 D _ hDw HD.2.2.2 HD.2.2.1 oD
  have eL3:=k3 L _ hLw HL.2.2.2 HL.2.2.1 eL
  refine cK (F:=F.re c s3) ((HE c s3 env3 V3).e elt env3 c s3 _ V3.re hgo) fun y s4 d4 ry x4 V4 rr q=>aq q fun p ep q=>ax (H3.re V4) fun H4 k4=>ax (HD3.re V4) fun HD4 kD4=>ax (HL3.re V4) fun HL4 kL4=>?_
  have U4:=V3.un V4
  have oD4:=kD4 _ oD3
  have rA4:RepL F.E.w.params d4.I acc.reverse vs:=RepL.ext (E:=F.E) x4 rA
  refine Kb oD4 (by rw[<-rA4.1,GS,hal];exact bT hi hz) fun h' hs' oD5=>?_
  have V5:=U4.away (wr:=[D]) (HD4.hid hDr) (λb o nb q=>hs'.extBut b o (λz=>nb (List.mem_singleton.mpr z)) q) (iq hs'.1.symm) s4.toks
  exact⟨items.length+1-(i+1),Hd (nH hi) (jT _),⟨i+1,env3,d4,p::acc,vs++[y],nn+1,rfl,hlt,congrArg (· +1) hal,x1.trans x4,V5,W.frame _ _ _ (W.frame _ _ _ O3 k4) fun b mb o q=>hs'.extBut b o (λz=>hDw (z▸mb)) q,H4.away (iq hs'.1.symm) s4.toks,
   HD4.to hs'.1,q.1,oD5,by rw[G6];exact rA4.snoc (rr.pvx ep),hs'.extBut _ _ (fh hDL) (kL4 _ eL3),HL4.to hs'.1,by rw[hr];exact q.2⟩⟩
theorem Ke{n:Nat}(X:Cx F A T C ev)(H:∀F' C' ev',F'.E=F.E->Cx F' A T C' ev'->IH F' A T C' ev' n){t it elt:Expr}{scope:Scope}{pos:Pos}{d:Cf}{I:Addr}{wr:List Addr}{items:List PV}{src:List (Nat×List PV)}{Own:Nat->Heap->Prop}{D Cc:Addr}{cenv:Env}{oL:Obj}
  {RR:Result->Shared->Prop} {KK:List PV->St->Prop} (hK:∀l σ,KK l σ->i4 T pos l σ Q) (V:FInv F env d s) (N2:EnvOk (F.at Cc) (dz C scope) cenv) (hl:hN (dz C scope) t=true) (hCc:F.r.heap.objs.size<=Cc) (hLC:F.L<Cc) (hDC:D≠Cc)
  (W:Run F.E A t I wr items src d Own) (O:Own 0 s.heap) (hH:Hid wr F d s) (hsrc:dQ d.σ src) (hD:Off D F d s) (hDr:F.r.heap.objs.size<=D) (hDw:D∉wr) (hCw:Cc∉wr) (hC:Off Cc F d s) (hoD:s.heap.get? D=aa (bQ [] 0)) (hns:s.heap.Ns Cc fun _=>none)
  (hoL:s.heap.get? F.L=aa oL) (hz:items.length<=aW) (h:ga (λc=>aR T c n) (dz C scope) elt t src items [] [] d.σ KK)
  (k:∀s',AM F env d T pos Q D Cc s'->RR (.ok .next) s'):
  la F.E.M A (.compLoop (.ListComp elt [⟨t,it,[],0⟩] scope pos) 0 (.ref I) (.ref D) cenv) RR s:=by
 have hLw:F.L∉wr:=λm=>(hH _ m).2.2.2.2 rfl
 have hDL:D≠F.L:=hD.2.2.2
 have V2:FInv (F.at Cc) [] d s:=⟨V.h,V.size,V.kept,(i12 _ hns (λy v e=>nomatch e)),hC.2.1,.inr hCc,hC.2.2.1,V.old,V.Iold,V.rest,V.cl⟩
 have hns':Cc≠F.L:=fh (fJ hLC)
 refine J7 (uV (F.at Cc) F.L d items src wr Own D oL fun l env acc σ=>ga (λc=>aR T c n) (dz C scope) elt t src l env acc σ KK) ?_ (items.length+1)
  ⟨0,[],d,[],[],0,rfl,iQ _,rfl,Ext.refl d,V2,O,λb m=>fN (hH b m) fun h1 h2 h3 h4 h5=>g0 h1 h2 h3 h4 fun q=>hCw ((show b=Cc from q)▸m),eC hD.1 hD.2.1 hD.2.2.1 hDC,hsrc,hoD,.nil,hoL,eC (bM hoL) V.Lout V.Lne (fJ hLC),h⟩
 clear h hns hC hD hH O V2 hoD hsrc
 intro m s' hI
 refine hI.casesOn fun i env2 dd acc vs nn em hi hal x1 W2 O2 H2 HD hs2 oD rA eL HL hgo=>?_
 rw[em]
 replace hgo:ga (λc=>aR T c n) (dz C scope) elt t src (items.drop i) env2 acc dd.σ KK:=hgo
 cases e:items.drop i with
 |nil=>
  rw[uU hi e] at O2 hal
  rw[e] at hgo
  refine aT (uS W2 W x1 hs2 O2 H2 (K:=RR (.ok .next)) fun s3 V3 H3 k3 z3=>k s3 (e12 V3.ns fun m' hm _=>?_)) (λr s1 z2=>ax z2 fun e1 h1=>by rw[e1];exact h1) bb
  exact i510 dd acc.reverse vs nn m' x1 (Kc V hoL x1 V3 (k3 _ _ hLw eL) ⟨jS HL.1 z3,HL.2⟩) (Off.hid (eC (jS HD.1 z3) HD.2.1 HD.2.2.1 hDL) hDr) (Off.hid (eC hm.lt V3.Lout V3.Lne hns') hCc) hDC (k3 _ _ hDw oD) rA (by rw[GS,hal];exact hz) hm (hK _ _ hgo)
 |cons x r=>
  rw[e] at hgo
  exact aT (Kd (F:=F.at Cc) N2 X.room.handled (λdd s3 _ V3=>H ((F.at Cc).re dd s3) (dz C scope) cenv rfl ⟨X.ok,N2.re V3,X.room,λa o q=>Nat.lt_trans (X.kin a o q) hLC⟩) hl W hDw hLw hDL hDr hz e hi hal x1 W2 O2 H2 HD hs2 oD rA eL HL hgo) (λr s1 z4=>e12 z4 fun v e1 h1=>by rw[e1];exact h1) bb
end
section
variable{F:Fs}{A:aS}{T:aI}{C:FCtx}{ev:Env}{env:aw}{c:Cf}{s:Shared}{Q:AV->St->Prop}
theorem All2.none_cell(hc:lv C scope t=true):hN (dz C scope) t=true/\scope.kind=.function/\(∀x∈scope.names,x.2≠.cell)/\(∀x∈scope.names,x.2=.local->scope.names.lookup x.1=aa .local)/\
  (∀x,(x,jl)∈scope.names->∃v,C.cells.lookup x=aa v):=by
 refine ax (b4 hc) fun z0 _=>ax z0 fun z1 ha=>ax z1 fun h1 hk=>?_
 have ha:∀x k,(x,k)∈scope.names->zT C scope x k=true:=λx k m=>du.mp ha _ m
 exact g0 h1 (cE hk) (λx m e=>bn (ha x.1 .cell (e▸m))) (λx m e=>beq_iff_eq.mp (ha x.1 .local (e▸m))) fun x m=>Option.isSome_iff_exists.mp (b3 (ha x .free m)).1.1
theorem AO{n:Nat}(X:Cx F A T C ev)(H:∀F' C' ev',F'.E=F.E->Cx F' A T C' ev'->IH F' A T C' ev' n)(V:FInv F env c s){t it elt:Expr}{scope:Scope}{pos:Pos}{cl:List (Str×Addr)}{RR:Value->Addr->Result->Shared->Prop}
  (hcl:∀x a,(x,jl)∈scope.names->ev.cells.lookup x=aa a->cl.lookup x=aa a)
  (hc:lv C scope t=true) (h:iD T C n t it env c.σ (ud T (λc=>aR T c n) (dz C scope) elt t pos Q)) (k:∀s' D Cc,AM F env c T pos Q D Cc s'->RR (.ref D) Cc (.ok .next) s'):
  am F.E.M A (eval it ev) (λx s₁=>am F.E.M A (iw x) (λit' s₂=>am F.E.M A (newList []) (λacc s₃=>
   am F.E.M A (newFunctionEnv scope ev.globals cl [] ev.qual none .none (aa ev)) (λcenv s₄=>
    la F.E.M A (.compStart (.ListComp elt [⟨t,it,[],0⟩] scope pos) 0 it' acc {cenv with scope:=tv scope ev}) (RR acc cenv.locals) s₄) aK s₃) aK s₂) aK s₁) aK s:=by
 refine fN (All2.none_cell hc) fun hl hk hcell hloc _=>?_
 refine aT ((H F C ev rfl X).i t it env c s _ V h) (λx s₁ h₁=>aT h₁ (λit' s₂ ⟨d,items,src,wr,I,Own,e1,x1,W2,R,O,HH,hs,hz,hgo⟩=>?_) bb) bb
 refine eqR e1 ?_
 refine nZ ?_ (by skip;exact iQ _)
 refine XU hcell (λ_ m=>nomatch m) (λh4 hns hsb=>?_) hk
 have e0:(s₂.heap.push (bQ [] 0)).objs.size=s₂.heap.objs.size+1:=gB ..
 have hz4:h4.objs.size=s₂.heap.objs.size+2:=by
  simp only[hsb.1,gB,e0]
 have keep:∀b o,s₂.heap.get? b=aa o->h4.get? b=aa o:=λb o q=>by
  refine hsb.extBut b o ?_ (cD _ (cD _ q))
  simp only[e0]
  exact fJ (s8 (bM q))
 have hDC:s₂.heap.objs.size≠s₂.heap.objs.size+1:=fJ (jT _)
 have oD:h4.get? s₂.heap.objs.size=aa (bQ [] 0):=hsb.extBut _ _ (by simp only[e0];exact hDC) (cD _ (d9 _ rfl))
 simp only[show({s₂ with heap:=s₂.heap.push (bQ [] 0)}:Shared).heap.objs.size=s₂.heap.objs.size+1 from e0] at hns ⊢
 have W4:=W2.more keep (by simp only[hz4];exact fw _ _) (s₂.toks+([]:List (Str×Value)).length)
 refine(let G1:=_;(?_:G1));refine e12 W2.ns fun m hm _=>?_
 have hlt:=hm.lt
 refine e32 hm fun oL es ep hoL hr=>?_
 have new:∀b,s₂.heap.objs.size<=b->b<h4.objs.size->Off b F d {s₂ with heap:=h4,toks:=s₂.toks+([]:List (Str×Value)).length}/\F.r.heap.objs.size<=b/\b∉wr:=λb h1 h2=>by
  have :=lF (wr:=[b]) (h':=h4) (t:=s₂.toks+([]:List (Str×Value)).length) W2 (λx m=>by rw[List.mem_singleton.mp m];exact⟨h1,h2⟩)
  refine fN (this b (List.mem_singleton.mpr rfl)) fun q1 q2 q3 q4 q5=>?_
  exact(bl (eC q2 q3 q4 q5) q1 (λm=>absurd (HH b m).2.1 (Nat.not_lt.mpr h1)))
 refine cP (new s₂.heap.objs.size (c8 _) (by simp only[hz4];exact Nat.lt_add_of_pos_right (by decide))) fun HD rD wD=>?_
 refine cP (new (s₂.heap.objs.size+1) (jm _) (by simp only[hz4];exact jT _)) fun HC rC wC=>?_
 have O4:Own 0 h4:=R.frame _ _ _ O fun b mb o q=>keep b o q
 have H4:Hid wr F d {s₂ with heap:=h4,toks:=s₂.toks+([]:List (Str×Value)).length}:=HH.away (by simp only[hz4];exact fw _ _) _
 have N2:=Ka (F:=F) (Cc:=s₂.heap.objs.size+1) (cenv:={newEnv scope (s₂.heap.objs.size+1) ev.globals cl ev.qual none .none (aa ev) ev.builtins with scope:=tv scope ev}) X.env hc hcl rfl rfl rfl rfl rfl (λa o q z=>by
  subst z
  exact absurd (bM q) (Nat.not_lt.mpr rC))
 have main:=Ke (pos:=pos) (RR:=RR (.ref s₂.heap.objs.size) (s₂.heap.objs.size+1)) (it:=it) X H (KK:=λl σ'=>σ'=d.σ/\i4 T pos l d.σ Q) (λl σ' q=>by obtain⟨q1,q2⟩:=q;refine eqR q1 ?_;exact q2) W4 N2 hl rC (s8 hlt) hDC R O4 H4 hs HD rD wD wC HC oD hns (keep _ _ hoL) hz hgo fun s' z0=>e52 z0 fun d' l vs nn m' y1 y=>k s' _ _ (i52 d' l vs nn m' (x1.trans y1) y)
 exact codeAny_compStart_list main (R.self 0 _ _ _ O4 main)
theorem AP(N:EnvOk F C ev)(hc:lv C scope t=true):∃cl,Hy scope ev=pure cl/\∀x a,(x,jl)∈scope.names->ev.cells.lookup x=aa a->cl.lookup x=aa a:=
 J9 fun x m=>let⟨v,hv⟩:=(All2.none_cell hc).2.2.2.2 x m;let⟨a,_,_,h,_⟩:=N.cells x v hv;⟨a,h⟩
theorem AQ(h:lw T C (n+1) elt g scope pos env σ Q):∃t it,g=⟨t,it,[],0⟩/\lv C scope t=true/\iD T C n t it env σ (ud T (λc=>aR T c n) (dz C scope) elt t pos Q):=aq h fun q e h=>bH h fun hc h=>i23 _ _ (IJ e) hc h
theorem qH{t it:Expr}{n:Nat}{σ:St}{Q:List PV->List (Nat×List PV)->St->Prop}(h:iD T C n t it env σ Q)(x:Value):XC it ev x=pure x:=by
 cases n with
 |zero=>exact h.elim
 |succ n=>
  cases it <;> first |rfl |skip
  cases n <;> exact h.elim
theorem Kg{n:Nat}(X:Cx F A T C ev)(H:∀F' C' ev',F'.E=F.E->Cx F' A T C' ev'->IH F' A T C' ev' n)(V:FInv F env c s){elt:Expr}{g:kW}{scope:Scope}{pos:Pos}
  (h:lw T C (n+1) elt g scope pos env c.σ Q):Ev F A env (eval (.ListComp elt [g] scope pos) ev) c s Q:=by
 obtain⟨t,it,rfl,hc,h⟩:=AQ h
 refine e12 (AP X.env hc) fun cl e1 hcl=>?_
 refine fN (All2.none_cell hc) fun hl hk hcell hloc _=>?_
 unfold Ev
 simp only[eval_ListComp]
 refine XM (use:=none) rfl (qH h) e1 hk hloc (AO X H V hcl hc h fun s' D Cc ⟨d,l,vs,nn,m,x,W,HD,HC,hne,oD,r,hz,hns,q⟩=>(i12 m hns (λh' hs'=>?_)))
 have W':=W.away HC (λb o nb e=>hs'.extBut b o (λz=>nb (List.mem_singleton.mpr z)) e) (iq hs'.1.symm) s'.toks
 refine(let G:=_;(?_:G));refine e25 (AN W' (HD.away (iq hs'.1.symm) s'.toks) (hs'.extBut _ _ hne oD) r hz q) fun d' r' x' V' rr q' _=>?_
 exact⟨d',r',x.trans x',V',rr,q'⟩
theorem Kh{n:Nat}(X:Cx F A T C ev)(H:∀F' C' ev',F'.E=F.E->Cx F' A T C' ev'->IH F' A T C' ev' n)(V:FInv F env c s){elt:Expr}{g:kW}{scope:Scope}{pos p:Pos}{y:Str}(hy:bN y C.scope.names=aa .local)
  (h:lw T C (n+1) elt g scope pos env c.σ Q):am F.E.M A (evalThenUse (.ListComp elt [g] scope pos) ev (k9 (.Name y p) ev)) (λ_ s'=>∃d r,Ext c d/\FInv F (dH env y r) d s'/\Q r d.σ) aK s:=by
 refine(let G:=_;(?_:G));obtain⟨t,it,rfl,hc,h⟩:=AQ h
 refine e12 (AP X.env hc) fun cl e1 hcl=>?_
 refine fN (All2.none_cell hc) fun hl hk hcell hloc _=>?_
 skip
 refine af (aT (XM (use:=aa (k9 (.Name y p) ev)) (Q:=λ_ s'=>∃d r,Ext c d/\FInv F (dH env y r) d s'/\Q r d.σ) rfl (qH h) e1 hk hloc (AO X H V hcl hc h fun s' D Cc ⟨d,l,vs,nn,m,x,W,HD,HC,hne,oD,r,hz,hns,q⟩=>?_)) (λ_ s' hq=>aN hq) fun _ _ e=>e)
 refine(let G1:=_;(?_:G1));refine e25 (AN W HD oD r hz q) fun d' r' x' V' rr q' keep=>?_
 refine fN (HC Cc (List.mem_singleton.mpr rfl)) fun h1 h2 h3 h4 h5=>?_
 have HC':Off Cc F d' s':=(eC h2 ((keep Cc (fh hne)).1 h3) ((keep Cc (fh hne)).2 h4) h5)
 have V2:=V'.re
 refine HV (lE (F:=F.re d' s') (X.env.re V') V2 hy rr fun s2 V3=>?_)
 refine(let G2:=_;(?_:G2));refine ax (HC'.re V3) fun HC2 k2=>?_
 refine e32 hns fun o es ep ho hr=>?_
 refine(i12 m (i32 o es ep (k2 _ ho) hr) (λh' hs'=>(i23 d' r' (x.trans x') (?_) q')))
 exact(V'.un V3).away (HC2.hid h1) (λb o nb e=>hs'.extBut b o (λz=>nb (List.mem_singleton.mpr z)) e) (iq hs'.1.symm) s2.toks
theorem ih{T:aI}:∀(n:Nat) {F:Fs} {C:FCtx} {ev:Env},Cx F A T C ev->IH F A T C ev n:=by
 intro v0
 induction v0 with
 |zero=>
  intro F C ev X
  exact⟨λ_ _ _ _ _ _ h=>h.elim,λ_ _ _ _ _ _ h=>h.elim,λ_ _ _ _ _ _ _ _ h=>h.elim,λ_ _ _ _ _ _ _ _ h=>h.elim,λ_ _ _ _ _ _ _ _ h=>h.elim,λ_ _ _ _ _ _ _ _ _ _ _ h=>h.elim,λ_ _ _ _ _ _ _ _ _ _ _ h=>h.elim,λ_ _ _ _ _ _ h=>h.elim,λ_ _ _ _ _ _ _ h=>h.elim,
   fun _ _ _ _ _ _ _ h=>h.elim,λ_ _ _ _ _ _ _ _ _ h=>h.elim⟩
 |succ n ih=>
  intro F C ev X
  exact⟨λ_ _ _ _ _ V h=>JY X (ih X) V h,λ_ _ _ _ _ V h=>JF (ih X) V h,λ_ _ _ _ _ _ hs V h=>JG (ih X) hs V h,λ_ _ _ _ _ _ hs V h=>JH (ih X) hs V h,λ_ _ _ _ _ _ _ V h=>JK (ih X) V h,
   fun _ _ _ _ _ _ _ _ _ V r h=>JI X (ih X) V r h,λ_ _ _ _ _ _ _ _ _ V r h=>JJ X (ih X) V r h,λ_ _ _ _ _ V h=>JM X (ih X) V h,λ_ _ _ _ _ _ V h=>JL (ih X) V h,
   fun _ _ _ _ _ _ V h=>J6 X (ih X) V h,λ_ _ _ _ _ _ _ _ V h=>Kg X (λ_ _ _ _ X'=>ih X') V h⟩
end
inductive qI(E:Env0)(c:Cf):Fl->kY->Prop
 |next:qI E c .next .next
 |cont:qI E c .cont .cont
 |ret {v u}:Rp E c v u->qI E c (.ret v) (.ret u)
inductive PS(F:Fs)(c:Cf)(Q:Fl->aw->St->Prop)(f:kY)(s':Shared):Prop
 |mk (d:Cf) (g:Fl) (env':aw):Ext c d->FInv F env' d s'->qI F.E d g f->Q g env' d.σ->PS F c Q f s'
theorem PS.lift(x:Ext c d):∀v s',PS F d Q v s'->PS F c Q v s':=λ_ _ h=>h.casesOn fun d' g e x' V q r=>⟨d',g,e,x.trans x',V,q,r⟩
def EvS(F:Fs)(A:aS)(t:cy kY)(c:Cf)(s:Shared)(Q:Fl->aw->St->Prop):Prop:=
 am F.E.M A t (PS F c Q) aK s
section
variable{F:Fs}{A:aS}{T:aI}{C:FCtx}{ev:Env}{env:aw}{c:Cf}{s:Shared}{Q:Fl->aw->St->Prop}
theorem Ki{K:kY->Shared->Prop}(h:K .next s):am F.E.M A (dropValue (.Call f as ks p) pos v) K aK s:=by
 cases v with
 |ref a=>exact af (gZ (af (wpAny_runValue (Hz entry_let_go (show am _ _ (ret .none) _ _ s from aN (aN h))))))
 |_=>exact aN h
theorem Kj{Q:AV->St->Prop}{op:k8}{a b:AV}{u v:Value}(V:FInv F env c s)(ra:Rp F.E c a u)(rb:Rp F.E c b v)(h:tU op a b c.σ Q):Ev F A env (inplaceOp op u v) c s Q:=
 aq h fun x e h=>aq h fun y e2 h=>ra.int_at e fun t=>rb.int_at e2 fun k=>by
  cases op with
  |Sub=>exact PySem.P.isub_int (Ev.same V _ (.pv .int) h)
  |Mult=>exact bH h fun g h=>PySem.P.imul_int (Ev.same V _ (.pv .int) h) (zy g)
  |_=>exact h.elim
structure SH(F:Fs)(A:aS)(T:aI)(C:FCtx)(ev:Env)(n:Nat):Prop where
 s:∀st env c s Q,FInv F env c s->gK T C n st env c.σ Q->EvS F A (exec st ev) c s Q
 ss:∀cw env c s Q,FInv F env c s->fC T C n cw env c.σ Q->EvS F A (fy cw ev) c s Q
theorem EvS.lift(x:Ext c d)(h:EvS F A t d s' Q):am F.E.M A t (PS F c Q) aK s':=
 aT h (PS.lift x) bb
theorem Kk(S:SH F A T C ev n)(V:FInv F env c s)(h:fC T C (n+1) cw env c.σ Q):EvS F A (fy cw ev) c s Q:=by
 cases cw with
 |nil=>exact tA ⟨c,.next,env,Ext.refl c,V,.next,h⟩
 |cons st r=>
  refine wpAny_execs_cons (aT (S.s st env c s _ V h) (λf s' hp=>hp.casesOn fun d g e' x W rg q=>?_) bb)
  clear hp;cases rg with
  |next=>exact EvS.lift x (S.ss r _ _ _ _ W q)
  |cont=>exact⟨d,_,e',x,W,.cont,q⟩
  |ret ru=>exact⟨d,_,e',x,W,.ret ru,q⟩
theorem qJ{e:Expr}{n:Nat}{t:Option Expr}{l:Nat}{Q:AV->St->Prop}{σ:St}(hc:iB e=false)(h:aR T C n e env σ Q):pO e t l ev=pure false:=by
 cases n with
 |zero=>exact h.elim
 |succ n=>cases e <;> first |rfl |exact h.elim |exact bn hc |exact aD hc |exact bn hc.symm
theorem Kl(S:SH F A T C ev n)(I:IH F A T C ev n)(V:FInv F env c s)(h:gK T C (n+1) (.If t b o pos) env c.σ Q):EvS F A (exec (.If t b o pos) ev) c s Q:=by
 refine wpAny_If (aT (I.t t env c s _ V h) (λk s' hp=>hp.casesOn fun d x W q=>?_) bb)
 clear hp;cases k with
 |true=>exact EvS.lift x (S.ss b _ _ _ _ W q)
 |false=>exact EvS.lift x (S.ss o _ _ _ _ W q)
theorem Km(I:IH F A T C ev n)(V:FInv F env c s)(h:gK T C (n+1) (.Return e pos) env c.σ Q):EvS F A (exec (.Return e pos) ev) c s Q:=by
 cases e with
 |none=>exact wpAny_Return_none ⟨c,_,env,Ext.refl c,V,.ret (.pv .none),h⟩
 |some e=>exact wpAny_Return_some (aT (I.e e env c s _ V h) (λv s' hp=>hp.casesOn fun d u x W ru q=>⟨d,_,env,x,W,.ret ru,q⟩) bb)
theorem Kn(I:IH F A T C ev n)(V:FInv F env c s)(h:gK T C (n+1) (.Assert t m pos) env c.σ Q):EvS F A (exec (.Assert t m pos) ev) c s Q:=by
 refine af (gZ (af (aT (I.t t env c s _ V h) (λk s' hp=>hp.casesOn fun d x W q=>?_) bb)))
 clear hp;cases k with
 |true=>exact aN ⟨d,_,env,x,W,.next,q⟩
 |false=>exact q.elim
theorem quiet(X:Cx F A T C ev):yW ev=false:=by
 unfold yW
 rw[X.env.scope,X.env.kind];rfl
theorem Ko(X:Cx F A T C ev)(I:IH F A T C ev n)(V:FInv F env c s)(h:gK T C (n+1) (.Expr e pos) env c.σ Q):EvS F A (exec (.Expr e pos) ev) c s Q:=by
 refine aq h fun q ec h=>?_
 unfold EvS
 rw[mu ec,exec_Expr ev _ pos (quiet X) rfl]
 exact af (gZ (af (aT (I.e _ env c s _ V (mu ec▸h)) (λv s' hp=>hp.casesOn fun d u x W ru q=>Ki ⟨d,_,env,x,W,.next,q⟩) bb)))
theorem Kp(X:Cx F A T C ev)(I:IH F A T C ev n)(V:FInv F env c s)(hl:gp C x=true)(ha:bN x env=aa a)(h:aR T C n e env c.σ fun b σ=>tU op a b σ fun v σ=>Q .next (dH env x v) σ):EvS F A (exec (.AugAssign (.Name x px) op e pos) ev) c s Q:=by
 refine(let G:=_;(?_:G));refine e12 V.ns fun m hm he=>?_
 refine e12 (he x a ha) fun u hu ru=>?_
 have hl:=lu hl
 refine wpAny_AugAssign_Name (HZ (by rw[X.env.scope];exact X.env.kind) (by show ev.scope.names.lookup x=_;rw[X.env.scope];exact hl) (by rw[X.env.loc];exact hm) hu ?_)
 refine aT (I.e e env c s _ V h) (λv s' hp=>hp.casesOn fun d b x1 W rb q=>?_) bb
 refine aT (Kj W (ru.ext x1) rb q) (λv' s'' hp=>hp.casesOn fun d' b' x2 W' rb' q'=>?_) bb
 exact lE X.env W' hl rb' fun s3 W3=>⟨d',_,_,x1.trans x2,W3,.next,q'⟩
theorem Kq(X:Cx F A T C ev)(I:IH F A T C ev n)(hc:iB e=false)(hl:gp C x=true)(V:FInv F env c s)(h:aR T C n e env c.σ fun v σ=>Q .next (dH env x v) σ):EvS F A (exec (.Assign [.Name x px] e pos) ev) c s Q:=by
 refine wpAny_Assign_Name (aT (I.e e env c s _ V h) (λv s' hp=>hp.casesOn fun d b x1 W rb q=>?_) bb) (qJ hc h)
 exact lE X.env W (lu hl) rb fun s3 W3=>⟨d,_,_,x1,W3,.next,q⟩
end
section
variable{F:Fs}{A:aS}{T:aI}{C:FCtx}{ev:Env}{env:aw}{c:Cf}{s:Shared}{Q:Fl->aw->St->Prop}
theorem FInv.upd2(V:FInv F env c s)(t:Nat)(hz:F.r.heap.objs.size<=h'.objs.size)(hk:aX c.σ k=aa o)(ha:c.ρ k=aa a)
  (hs:∀b p,b≠a->b≠F.L->s.heap.get? b=aa p->h'.get? b=aa p) (hn:h'.Ns F.L m) (he:∀x v,env.lookup x=aa v->∃u,m x=aa u/\Rp F.E c v u) (hr:ObjAt F.E.w.params c.I c.ρ h' a o'):
  FInv F env {c with σ:=eT c.σ k o'} {s with heap:=h',toks:=t}:=by
 have ne:∀{b p},c.I b=aa p->b≠a/\b≠F.L:=λ{b p} e=>⟨(λq=>by refine(let G:=_;(?_:G));refine(let G1:=_;(?_:G1));subst q;replace e:=(V.h.out k b ha)▸e;exact aD e),(λq=>by simp only[q,V.Lout] at e;exact aD e)⟩
 refine⟨⟨V.h.base,λb p e=>hs b p (ne e).1 (ne e).2 (V.h.keep b p e),λj p e=>?_,λj b e=>?_,V.h.out,V.h.inj⟩,hz,λb p e n=>hs b p (λz=>?_) (λz=>?_) (V.kept b p e n),(i12 m hn he),V.Lout,V.Lnew,V.Lne,V.old,V.Iold,V.rest,V.cl⟩
 ·rw[mE hk] at e
  by_cases q:j=k
  ·subst q;replace e:=(if_pos rfl)▸e;have z0:=ac e;subst z0;exact(i12 a ha hr)
  ·replace e:=(if_neg q)▸e
   refine(let G2:=_;(?_:G2));refine e12 (V.h.st j p e) fun b hb r=>?_
   refine e11 r.there fun y hy=>?_
   exact(i12 b hb (r.mono (λ_ _ e=>e) (λ_ _ e=>e) ((hs b y (λz=>q (V.h.inj j k a (z▸hb) ha)) (λz=>V.Lne j (z▸hb)) hy).trans hy.symm)))
 ·by_cases q:j=k
  ·refine eqR q ?_;exact⟨o',by skip;rw[mE hk,if_pos rfl]⟩
  ·refine e11 (V.h.dom j b e) fun p hp=>?_
   exact⟨p,by skip;rw[mE hk,if_neg q];exact hp⟩
 ·clear hs;clear hr;clear ne;subst z
  rcases V.old k b ha with q' |q'
  ·exact n q'
  ·exact absurd (bM e) (Nat.not_lt.mpr q')
 ·refine(let G3:=_;(?_:G3));refine(let G3:=_;(?_:G3));subst z;exact V.Lnew.elim n fun z=>absurd (bM e) (Nat.not_lt.mpr z)
end
noncomputable def Heap.without(h:Heap)(L a:Addr):Heap:=(Heap.below h L).update a fun o=>{o with data:=.freed}
theorem AR(e:(Heap.without h L a).get? b=aa o):b≠a/\b<L/\h.get? b=aa o:=by
 have hne:b≠a:=by
  rintro rfl
  unfold Heap.without sL tc at e
  simp only[Gl,if_true] at e
  cases q:(Heap.below h L).objs[b]? with
  |none=>replace e:=q▸e;exact aD e
  |some x=>replace e:=q▸e;exact aD e
 have hg:(Heap.below h L).get? b=aa o:=by
  unfold Heap.without sL at e
  unfold tc at e ⊢
  simp only[Gl,if_neg (fh hne)] at e
  exact e
 exact(bl hne (jS (bM hg) uL) (Aw hg))
theorem Kr:(Heap.without h L a).objs.size<=L:=by
 unfold Heap.without sL
 simp only[Wh]
 exact uL
theorem Ks:∀{es:List DictEntry},(putL name hs key v es).length<=es.length+1:=by
 intro v0
 induction v0 with
 |nil=>
  exact c8 _
 |cons e r ih=>
  unfold putL
  split
  ·simp
  ·simp only[ft,ft];exact He ih
theorem Kt(r:RepA P I ρ v u):∀{fs:List (Str×AV)} {es:List DictEntry},RepAF P I ρ fs es->RepAF P I ρ (dH fs x v) (putL x hs (.str x t) u es):=by
 intro v0
 induction v0 with
 |nil=>intro es h;refine eqR h.nil_inv ?_;exact .cons ⟨⟨t,rfl⟩,r⟩ .nil
 |cons f0 fs ih=>
  intro es h
  obtain⟨y,w⟩:=f0
  refine h.cons_el fun e es z0 h'=>?_;refine ax z0 fun z1 e2=>?_;refine e11 z1 fun t' e1=>?_
  show RepAF P I ρ (match y == x with |true=>(x,v)::fs |false=>(y,w)::dH fs x v) (if e.key.isStr x then⟨e.hash,e.key,u⟩::es else e::putL x hs (.str x t) u es)
  by_cases q:y=x
  ·subst q
   have q2:e.key.isStr y=true:=by rw[e1];simp[Hq]
   rw[beq_self_eq_true,if_pos q2]
   exact .cons ⟨⟨t',e1⟩,r⟩ h'
  ·have q1:(y == x)=false:=by simpa using q
   have q2:¬(e.key.isStr x=true):=by rw[e1];simpa[Hq] using q
   rw[q1,if_neg q2]
   exact .cons ⟨⟨t',e1⟩,e2⟩ (ih h')
theorem Ku(q:b<L)(ne:b≠a)(e:h.get? b=aa o):(Heap.without h L a).get? b=aa o:=by
 have hg:=Ax q e
 unfold Heap.without sL
 unfold tc at hg ⊢
 simp only[Gl,if_neg (fh ne)]
 exact hg
theorem AS(q:b=a\/L<=b):(Heap.without h L a).get? b=none:=by
 cases e:(Heap.without h L a).get? b with
 |none=>rfl
 |some o=>
  refine(let G:=_;(?_:G));refine cP (AR e) fun h1 h2 _=>?_
  rcases q with q |q
  ·exact absurd q h1
  ·exact absurd h2 (Nat.not_lt.mpr q)
noncomputable def qK(h:Heap)(L a:Addr):List (Addr×Obj):=((gV h.objs.size).filter fun b=>decide (L<b)&&decide (b≠a)).filterMap fun b=>(h.get? b).map (b,·)
theorem restOf_mem:p∈qK h L a↔L<p.1/\p.1≠a/\h.get? p.1=aa p.2:=by
 unfold qK
 rw[WW]
 constructor
 ·rintro⟨b,m,e⟩
  rw[GY,bC,decide_eq_true_eq,decide_eq_true_eq] at m
  refine e12 (Option.map_eq_some_iff.mp e) fun o e1 e2=>?_
  clear e;subst e2
  exact(bl m.2.1 m.2.2 e1)
 ·rintro⟨h1,h2,h3⟩
  refine(i12 p.1 (?_) (by rw[h3];rfl))
  rw[GY,bC,decide_eq_true_eq,decide_eq_true_eq,GZ]
  exact(bl (bM h3) h1 h2)
section
variable{F:Fs}{A:aS}{T:aI}{C:FCtx}{ev:Env}{env:aw}{c:Cf}{s:Shared}{Q:Fl->aw->St->Prop}
theorem Kw(X:Cx F A T C ev)(V:FInv F env c s)(ru:Rp F.E c (.loc k) u)(rw':Rp F.E c v w)(e1:aX c.σ k=aa (.inst D kd))(e2:aX c.σ kd=aa (.attrs fs))
  (h1:qg T D x=true) (h2:fs.length<=900) {K:Unit->Shared->Prop} (h:∀s',FInv F env {c with σ:=eT c.σ kd (.attrs (dH fs x v))} s'->K () s'):am F.E.M A (y0 u x w) K aK s:=by
 refine ru.loc_el fun a ek=>?_
 ·refine e12 (V.h.st k _ e1) fun a' ha' z7=>?_;refine e12 z7 fun d hd ho=>?_
  replace ha':=ek▸ha';have z0:=ac ha';clear z7;clear ha';subst z0
  refine e12 (V.h.st kd _ e2) fun d' hd' z8=>?_;refine e22 z8 fun es n he hr=>?_
  replace hd':=hd▸hd';have z2:=ac hd';clear z8;clear hd';subst z2
  have I:InstAt s.heap a (cW D d) D (aa (eS es n)):=⟨ho,rfl,rfl,he⟩
  have XK:=V.h.K
  have st:=(X.ok.tab.cfld _ _ h1).2
  unfold uv at st
  replace st:=b4 st;rw[beq_iff_eq,beq_iff_eq] at st
  refine ax st fun z3 s4=>?_;refine ax z3 fun z4 s3=>?_;refine ax z4 fun s1 s2=>?_
  refine e12 V.ns fun m hm hl=>?_
  have dF:d≠F.L:=λq=>V.Lne kd (q▸hd)
  have Fm:Fr (Heap.without s.heap F.L d) F.L s.heap m:=⟨hm,λ_ _ e=>(AR e).2.2,Kr⟩
  have N:News (Heap.without s.heap F.L d) F.L s.heap ([]++(d,eS es n)::qK s.heap F.L d):=by
   intro p hp
   rcases cT.mp hp with rfl |hp
   ·exact(bl he dF (AS (.inl rfl)))
   ·refine cP (restOf_mem.mp hp) fun p1 p2 p3=>?_
    exact(bl p3 (Xd p1) (AS (.inr (yI p1))))
  have hlook:(lookIn x (eS es n)).isSome=true:=by
   have this:ku (Rp F.E c) x es (fs.lookup x):=(qx x hr).2
   show(getL x es).isSome=true
   cases q:bN x fs with
   |none=>rw[q] at this;rw[show getL x es=_ from this];rfl
   |some p=>rw[q] at this;exact e12 (show ∃v,getL x es=aa (aa v)/\Rp F.E c p v from this) fun z z1 _=>by rw[z1];rfl
  have main:am F.E.M A (y0 (.ref a) x w) (λ_ s'=>∃h' t',s'={s with heap:=h',toks:=t'}/\h'.Ns F.L m/\(∀b p,b≠d->b≠F.L->s.heap.get? b=aa p->h'.get? b=aa p)/\ObjAt F.E.w.params c.I c.ρ h' d (.attrs (dH fs x v))) aK s:=by
   refine set_plain XK I s1 (osa_dict (s:={s with toks:=s.toks+1}) (pre:=[]) (post:=qK s.heap F.L d) Fm N XK I rfl s2 s3 s4 hlook (λ_ h=>absurd h fu) (λp hp=>(restOf_mem.mp hp).2.1)
    (putName_dict x _ _ w es n) rfl (bT Ks (by have :=hr.1;exact aO (f2 1 [(1,v0,.n 900),(1,v1,v0)] (.p v1 (.n 1)) (.n 1000) rfl (aF h2) (fZ this)))) fun h' F' N'=>⟨h',_,rfl,F'.ns,?_,_,_,(N' _ (GX [] cM)).1,Kt rw' hr⟩)
   intro b p n1 n2 e
   by_cases q:b<F.L
   ·exact F'.keep b p (Ku q n1 e)
   ·have q:F.L<b:=by
     rcases Nat.lt_or_ge b F.L with z |z
     ·exact absurd z q
     ·exact Nat.lt_of_le_of_ne z (fh n2)
    exact(N' (b,p) (GX [] (cU _ (restOf_mem.mpr (bl q n1 e))))).1
  refine aT (iW main) (λ_ s' ⟨hz,h',t',hs',hn,hs,ho'⟩=>?_) bb
  subst hs'
  exact h _ (V.upd2 t' (bT V.size hz) e2 hd hs hn hl ho')
end
section
variable{F:Fs}{A:aS}{T:aI}{C:FCtx}{ev:Env}{env:aw}{c:Cf}{s:Shared}{Q:Fl->aw->St->Prop}
theorem AT(X:Cx F A T C ev)(x1:Ext c d1)(x2:Ext d1 d)(W:FInv F env d s2)(ru:Rp F.E d u ov)(rv:Rp F.E d1 v w)(q:om T x u v d.σ (Q .next env)){K:Unit->Shared->Prop}(hK:∀s',PS F c Q .next s'->K () s'):am F.E.M A (y0 ov x w) K aK s2:=by
 refine aq q fun k e0 q=>aq q fun i e1 q=>aq q fun fs e2 q=>bH q fun hb q4=>?_
 exact Kw X W (pW e0▸ru) (rv.ext x2) (tL e1) (tM e2) (b2 hb).1 (dv (b2 hb).2) fun s' W'=>hK s' ⟨{d with σ:=eT d.σ i.2 (.attrs (dH fs x v))},.next,env,⟨λa o e=>x2.I a o (x1.I a o e),λa o e=>x2.ρ a o (x1.ρ a o e)⟩,W',.next,q4⟩
theorem Kx(X:Cx F A T C ev)(I:IH F A T C ev n)(hc:iB e=false)(V:FInv F env c s)(h:aR T C n e env c.σ fun v σ=>aR T C n o env σ fun u σ=>om T x u v σ (Q .next env)):EvS F A (exec (.Assign [.Attribute o x ap] e pos) ev) c s Q:=by
 refine plainObj_wpAny_Assign_Attribute (aT (I.e e env c s _ V h) (λv s₁ hp=>hp.casesOn fun d1 u1 x1 W1 r1 q=>?_) bb) (qJ hc h)
 exact aT (I.e o env d1 s₁ _ W1 q) (λw s₂ hp=>hp.casesOn fun d2 u2 x2 W2 r2 q=>AT X x1 x2 W2 r2 r1 q fun _ h=>h) bb
theorem Ky(V:FInv F env c s)(h:gK T C (n+1) (.Continue pos) env c.σ Q):EvS F A (exec (.Continue pos) ev) c s Q:=
 af (gZ (aN ⟨c,.cont,env,Ext.refl c,V,.cont,h⟩))
end
theorem All2.set(r:All2 R l m)(h:R a b):All2 R (l.set i a) (m.set i b):=by
 refine⟨by simp only[pp,pp,r.1],λj x y e f=>?_⟩
 rw[sV] at e f
 by_cases q:i=j
 ·rw[if_pos q] at e f
  by_cases z:i<l.length
  ·rw[if_pos z] at e;rw[if_pos (r.1▸z)] at f;exact ac e▸ac f▸h
  ·rw[if_neg z] at e;exact aD e
 ·rw[if_neg q] at e f;exact r.2 _ _ _ e f
theorem All2.take(r:All2 R l m)(n:Nat):All2 R (l.take n) (m.take n):=by
 refine⟨by simp only[ip,ip,r.1],λj x y e f=>?_⟩
 rw[yC] at e f
 by_cases q:j<n
 ·rw[if_pos q] at e f;exact r.2 _ _ _ e f
 ·rw[if_neg q] at e;exact aD e
theorem FInv.cutE(V:FInv F env c s)(ns:List Str):FInv F (Mine.cutE ns env) c s:=by
 refine e12 V.ns fun m hn he=>?_
 exact⟨V.h,V.size,V.kept,(i12 m hn (λx v e=>he x v (qF (mo ns) (show(env.filter fun q=>mo ns q.1).lookup x=aa v from e)).2)),V.Lout,V.Lnew,V.Lne,V.old,V.Iold,V.rest,V.cl⟩
section
variable{F:Fs}{A:aS}{T:aI}{C:FCtx}{ev:Env}{env:aw}{c:Cf}{s:Shared}{Q:Fl->aw->St->Prop}
inductive lG(F:Fs)(c0:Cf)(items:List PV)(src:List (Nat×List PV))(wr:List Addr)(Own:Nat->Heap->Prop)(G:List PV->aw->St->Prop)(m:Nat)(s':Shared):Prop
 |mk (i:Nat) (env:aw) (d:Cf):m=items.length+1-i->i<=items.length->Ext c0 d->FInv F env d s'->Own i s'.heap->Hid wr F d s'->dQ d.σ src->G (items.drop i) env d.σ->lG F c0 items src wr Own G m s'
theorem AU(e:l=x::r)(h:c9 body t src ns l env σ Q):∃env',gI (cutE ns env) t (.pv x)=aa env'/\body env' σ (zS src ns (λenv σ=>c9 body t src ns r env σ Q) Q):=by
 refine(let G:=_;(?_:G));subst e;exact hE h
theorem AW(e:l=[])(h:c9 body t src ns l env σ Q):Q .next (cutE ns env) σ:=by
 refine(let G:=_;(?_:G));subst e;exact h
theorem Kz(X:Cx F A T C ev)(I:IH F A T C ev n)(H:∀F':Fs,Cx F' A T C ev->SH F' A T C ev n)(V:FInv F env c s)(h:gK T C (n+1) (.For t it b [] pos) env c.σ Q):EvS F A (exec (.For t it b [] pos) ev) c s Q:=by
 refine bH h fun hl h=>?_
 refine wpAny_For (aT (I.i t it env c s _ V h) (λx s1 h1=>aT h1 (λit' s2 hp=>hp.casesOn fun d items src wr J Own e1 x1 W2 R O HH hs hgo=>?_) bb) bb) (qH h)
 refine eqR e1 ?_
 clear h1 h V I
 generalize env.map (·.1)=ns at hgo
 refine J8 (lG F d items src wr Own fun l env σ=>c9 (fC T C n b) t src ns l env σ Q) ?_ (items.length+1) ⟨0,env,d,rfl,iQ _,Ext.refl d,W2,O,HH,hs,hgo⟩
 clear hgo hs HH O W2
 intro m s' hI
 refine(let G:=_;(?_:G));obtain⟨i,env2,dd,rfl,hi,x2,V2,O2,H2,hs2,hgo⟩:=hI
 replace V2:=V2.cutE ns
 cases e:items.drop i with
 |nil=>
  cases uU hi e
  exact aT (uS V2 R x2 hs2 O2 H2 (K:=λs'=>PS F c Q .next s') fun s3 V3 H3 k3 z3=>⟨dd,.next,_,x1.trans x2,V3,.next,AW e hgo⟩) (λr s1 z0=>ax z0 fun e1 h1=>by clear z0;refine eqR e1 ?_;exact h1) bb
 |cons x r=>
  refine ax (uT e) fun hx hr=>?_
  refine e12 (AU e hgo) fun env3 hb hgo=>?_
  have hlt:i<items.length:=(List.getElem?_eq_some_iff.mp hx).1
  refine aT (uR X.env X.room.handled V2 R x2 hs2 O2 H2 hx hb hl (K:=λs3=>am F.E.M A (fy b ev) (λf s₃=>match(generalizing:=false) f with
      | .next | .cont=>∃m',m'<items.length+1-i/\lG F d items src wr Own (λl env σ=>c9 (fC T C n b) t src ns l env σ Q) m' s₃
      | .brk=>PS F c Q .next s₃
      | .ret v=>PS F c Q (.ret v) s₃) aK s3) fun s3 V3 O3 H3 k3 z3=>?_) (λr s1 z1=>e12 z1 fun v e1 h1=>by clear z1;refine eqR e1 ?_;exact h1) bb
  refine aT ((H (F.re dd s3) (X.re V3)).ss b env3 dd s3 _ V3.re hgo) (λf s4 hp=>hp.casesOn fun d4 g env4 x4 V4 rg q=>?_) bb
  refine ax (H3.re V4) fun H4 k4=>?_
  have U4:=V3.un V4
  have O4:=R.frame _ _ _ O3 k4
  have nx:dQ d4.σ src/\c9 (fC T C n b) t src ns r env4 d4.σ Q->∃m',m'<items.length+1-i/\lG F d items src wr Own (λl env σ=>c9 (fC T C n b) t src ns l env σ Q) m' s4:=λq=>⟨items.length+1-(i+1),Hd (nH hi) (jT _),⟨i+1,env4,d4,rfl,hlt,x2.trans x4,U4,O4,H4,q.1,by rw[hr];exact q.2⟩⟩
  clear hp;cases rg with
  |next=>exact nx q
  |cont=>exact nx q
  |ret ru=>exact⟨d4,_,env4,x1.trans (x2.trans x4),U4,.ret ru,q⟩
theorem KC(X:Cx F A T C ev)(H:∀m,m<n+1->∀F' C' ev',F'.E=F.E->Cx F' A T C' ev'->IH F' A T C' ev' m)(V:FInv F env c s)
  (hc:(gp C x&&a7 px.line cp.line&&!(scope.names.any fun p=>p.1 == x&&(p.2 == .local||p.2 == .cell)))=true) (h:lw T C n elt g scope cp env c.σ fun v σ=>Q .next (dH env x v) σ):EvS F A (exec (.Assign [.Name x px] (.ListComp elt [g] scope cp) pos) ev) c s Q:=by
 replace hc:=b3 hc
 refine ax hc fun z0 h3=>?_;refine ax z0 fun h1 h2=>?_
 have hx:=lu h1
 have hsw:pO (.ListComp elt [g] scope cp) (aa (.Name x px)) pos.line ev=pure true:=by
  show(pure (ev.blockKind == .function&&ev.kindOf x == aa .local&&px.line == cp.line&&!(scope.names.any fun(n,k)=>n == x&&(k == .local||k == .cell))):cy Bool)=pure true
  have b1:(ev.blockKind == ScopeKind.function)=true:=by
   unfold Env.blockKind
   rw[X.env.scope,X.env.kind];rfl
  have b2:(ev.kindOf x == aa .local)=true:=by
   show(ev.scope.names.lookup x == aa .local)=true
   rw[X.env.scope,hx];rfl
  simp only[b1,b2,show(px.line == cp.line)=true from beq_iff_eq.mpr (ce h2)]
  exact congrArg pure h3
 unfold EvS
 rw[exec_Assign_Name_used _ _ _ _ hsw]
 refine af (gZ (af ?_))
 refine(let G:=_;(?_:G));cases n with
 |zero=>exact h.elim
 |succ n=>
  exact aT (Kh X (H n (s8 (jT _))) V hx h) (λ_ s' z1=>e23 z1 fun d r x' V' q=>aN ⟨d,.next,_,x',V',.next,q⟩) bb
theorem KD:swapsWithSole [.Tuple es k p] e l ev=pure false:=by cases e <;> rfl
theorem KE(hc:iB e=false)(h:kp e=false):swappedStores [.Tuple es k p] e ev=pure none:=by cases e <;> first |rfl |exact bn hc.symm |exact bn h.symm
theorem KG(h:gJ l i a=aa m):0<=i/\i<l.length/\m=l.set i.toNat a:=by
 unfold gJ at h
 refine(let G:=_;(?_:G));cases q:(decide (0<=i)&&decide (i<(l.length:Int))) with
 |false=>rw[q] at h;exact aD h
 |true=>
  rw[q] at h
  simp only[bC,decide_eq_true_eq,decide_eq_true_eq] at q
  exact(bl q.1 q.2 ((ac h).symm))
theorem KH(X:Cx F A T C ev)(I:IH F A T C ev n)(hc:iB e=false)(V:FInv F env c s)(hn:kp e=false)(hl:hN C (.Tuple es k p)=true)
  (h:aR T C n e env c.σ fun v σ=>ag (gI env (.Tuple es k p) v) fun env=>Q .next env σ):EvS F A (exec (.Assign [.Tuple es k p] e pos) ev) c s Q:=
 Assign_Tuple (aT (I.e e env c s _ V h) (λv s1 hp=>hp.casesOn fun d u x1 W ru q=>aq q fun env' hb q=>AF X.env X.room.handled W hl hb (ARep.of W.h ru) fun s' W'=>⟨d,.next,_,x1,W',.next,q⟩) bb) KD (KE hc hn)
theorem AX(V:FInv F env c s)(ek:c.ρ k=aa a)(e:aX c.σ k=aa (.list l)):∃vs n,s.heap.get? a=aa (bQ vs n)/\RepL F.E.w.params c.I l vs/\l.length<=aW:=by
 refine(let G:=_;(?_:G));refine e12 (V.h.st k _ e) fun b hb z7=>?_;refine e23 z7 fun vs n ho r z=>?_
 replace hb:=ek▸hb;have z0:=ac hb;clear z7;clear hb;subst z0
 exact(i23 vs n ho r z)
theorem FInv.upd3(V:FInv F env c s)(t:Nat)(hz:s.heap.objs.size<=h'.objs.size)(hk:aX c.σ k=aa o)(ha:c.ρ k=aa a)
  (hs:∀b p,b≠a->s.heap.get? b=aa p->h'.get? b=aa p) (hr:ObjAt F.E.w.params c.I c.ρ h' a o'):FInv F env {c with σ:=eT c.σ k o'} {s with heap:=h',toks:=t}:=by
 refine(let G:=_;(?_:G));refine e12 V.ns fun m z0 he=>?_;refine e32 z0 fun oL es ep hL hr'=>?_
 exact V.upd2 t (bT V.size hz) hk ha (λb p n _ e=>hs b p n e) (i32 oL es ep (hs _ _ (λq=>V.Lne k (q▸ha)) hL) hr') he hr
theorem KI(X:Cx F A T C ev)(I:IH F A T C ev n)(hc:iB e=false)(V:FInv F env c s)
  (h:aR T C n e env c.σ fun v σ=>aR T C n o env σ fun u σ=>cB (uk i) False (aR T C n i env σ fun i σ=>zZ u i v σ (Q .next env))):EvS F A (exec (.Assign [.Subscript o i p] e pos) ev) c s Q:=by
 refine wpAny_Assign_Subscript (aT (I.e e env c s _ V h) (λv s1 hp=>hp.casesOn fun d1 av x1 W1 r1 q=>aT (I.e o env d1 s1 _ W1 q) (λov s2 hp=>hp.casesOn fun d2 ao x2 W2 r2 q=>?_) bb) bb) (qJ hc h)
 cases hi:uk i with
 |true=>exact(hU hi q).elim
 |false=>
  refine aT (I.e i env d2 s2 _ W2 (iE hi q)) (λiv s3 hp=>hp.casesOn fun d3 ai x3 W3 r3 q=>?_) bb
  refine aq q fun k e0 q=>aq q fun j e1 q=>aq q fun pv e2 q=>aq q fun l e3 q=>aq q fun l' e4 q5=>(r2.ext x3).loc_at e0 fun a ek=>r3.int_at e1 fun _=>e23 (AX W3 ek (j9 e3)) fun vs nn ho r z=>cP (KG e4) fun h0 h1 el=>?_
  rw[el] at q5
  exact X.ok.ba.seti A s3 aK _ a vs nn j _ v ho (r.1▸z) h0 (by rw[<-r.1];exact h1) fun h' n' k' e1 e2'=>⟨{d3 with σ:=eT d3.σ k (.list (l.set j.toNat pv))},.next,env,⟨λa o e=>x3.I a o (x2.I a o (x1.I a o e)),λa o e=>x3.ρ a o (x2.ρ a o (x1.ρ a o e))⟩,
   W3.upd k' (j9 e3) ek e1 (i23 _ n' e2' (r.set ((r1.pvx e2).mono fun a o e=>x3.I a o (x2.I a o e))) (by rw[pp];exact z)),.next,q5⟩
theorem KJ(X:Cx F A T C ev)(I:IH F A T C ev n){lo:Expr}(V:FInv F env c s)
  (h:aR T C n o env c.σ fun u σ=>aR T C n lo env σ fun l σ=>Aa u l σ (Q .next env)):EvS F A (exec (.Delete [.Subscript o (.Slice (aa lo) none none p1) p2] pos) ev) c s Q:=by
 refine wpAny_Delete (wpAny_deleteEach_cons ?_)
 simp only[arm_delete_Subscript]
 refine af (aT (I.e o env c s _ V h) (λov s1 hp=>hp.casesOn fun d1 ao x1 W1 r1 q=>af (iT ?_)) bb)
 refine HU (aT (I.e lo env d1 s1 _ W1 q) (λvl s2 hp=>hp.casesOn fun d2 al x2 W2 r2 q=>aN (aN ?_)) bb)
 refine aq q fun k e0 q=>aq q fun l e1 q=>aq q fun xs e2 q=>(r1.ext x2).loc_at e0 fun a ek=>?_
 have q3:=q.1
 have q4:=q.2
 have hx:=j9 e2
 have hl':fg vl (aa l):=r2.int_at e1 fun _=>.int _ _
 have W3:=W2.more (h':=s2.heap.push {cls:=.type "slice",data:=.fields #[vl,.none,.none]}) (λb o e=>cD _ e) (iV _ _) s2.toks
 have hsl:=GK s2.heap vl .none .none
 generalize s2.heap.push {cls:=.type "slice",data:=.fields #[vl,.none,.none]}=H at hsl W3 ⊢
 refine e23 (AX W3 ek hx) fun vs nn ho r z=>?_
 refine af (gZ (af (iT ?_)))
 refine aT (iW (X.ok.ba.dels A _ aK (λ_ s'=>∃h' n' k',s'={s2 with heap:=h',toks:=k'}/\(∀b o,b≠a->H.get? b=aa o->h'.get? b=aa o)/\h'.get? a=aa (bQ (vs.take l.toNat) n')) a _ vs nn _ l ho (r.1▸z) hsl hl' q3.1 (by rw[<-r.1];exact q3.2)
  fun h' n' k' e1 e2=>(i33 h' n' k' rfl e1 e2))) (λ_ s5 ⟨hz,h',n',k',e0,e1,e2⟩=>?_) bb
 subst e0
 exact H5 (wpAny_deleteEach_nil ⟨{d2 with σ:=eT d2.σ k (.list (xs.take l.toNat))},.next,env,⟨λa o e=>x2.I a o (x1.I a o e),λa o e=>x2.ρ a o (x1.ρ a o e)⟩,W3.upd3 k' hz hx ek e1 (i23 _ n' e2 (r.take _) (bT (by rw[ip];exact Xc _ _) z)),.next,q4⟩)
theorem KL(X:Cx F A T C ev)(I:IH F A T C ev n)(hc:iB e=false)(V:FInv F env c s)(ht:zW C t e=true)(h:aR T C n e env c.σ (Af T (λe σ=>aR T C n e env σ) t env Q)):EvS F A (exec (.Assign [t] e pos) ev) c s Q:=
 qo ht (λq eq ht=>by
   rw[tS eq] at h ⊢
   exact KH X I hc V (nt (b2 ht).1) (b2 ht).2 h) fun _ ht=>qo ht (λx ex ht=>e11 (oh ex) fun px et=>by
   rw[et] at h ⊢
   exact Kq X I hc ht V h) fun _ ht=>qo ht (λq eq _=>by
   rw[og eq] at h ⊢
   exact Kx X I hc V h) fun _ ht=>fO ht fun q eq _=>by
   rw[zC eq] at h ⊢
   exact KI X I hc V h
theorem KN(X:Cx F A T C ev)(H:∀F':Fs,Cx F' A T C ev->SH F' A T C ev n){st:Stmt}(V:FInv F env c s)(h:gK T C (n+1) st env c.σ Q):EvS F A (exec st ev) c s Q:=by
 cases st with
 |Expr e pos=>exact Ko X (ih n X) V h
 |Continue pos=>exact Ky V h
 |Return e pos=>exact Km (ih n X) V h
 |If t b o pos=>exact Kl (H F X) (ih n X) V h
 |Assert t m pos=>exact Kn (ih n X) V h
 |For t it b o pos=>cases o with
  |nil=>exact Kz X (ih n X) H V h
  |cons _ _=>exact h.elim
 |AugAssign t op e pos=>exact aq h fun x e1 h=>bH h fun hl h=>aq h fun a e2 h=>e11 (oh e1) fun p e=>eqR e (Kp X (ih n X) V hl e2 h)
 |Delete ts pos=>
  exact aq h fun t e1 h=>aq h fun q e2 h=>aq h fun lo e3 h=>e11 (Ac e2) fun p et=>e11 (IR e3) fun p' e=>by
   rw[gn e1,et,e]
   exact KJ X (ih n X) V h
 |Assign ts e pos=>
  refine aq h fun t e1 h=>?_
  rw[gn e1]
  cases hc:iB e with
  |true=>
   refine aq (hU hc h) fun q e2 h=>aq h fun r e3 h=>bH h fun hg h=>?_
   rw[IQ e2,lp e3]
   exact KC X (λm _ F' C' ev' _ X'=>ih m X') V hg h
  |false=>exact bH (iE hc h) fun ht h=>KL X (ih n X) hc V ht h
 |_=>exact h.elim
theorem sh{T:aI}:∀(n:Nat) {F:Fs},Cx F A T C ev->SH F A T C ev n:=by
 intro v0
 induction v0 with
 |zero=>
  intro F X
  exact⟨λ_ _ _ _ _ _ h=>h.elim,λ_ _ _ _ _ _ h=>h.elim⟩
 |succ n ih=>
  intro F X
  exact⟨λ_ _ _ _ _ V h=>KN X (λ_ X'=>ih X') V h,λ_ _ _ _ _ V h=>Kk (ih X) V h⟩
end
section
variable{α:Type}
noncomputable def lH(names:List Str):List (Str×α)->List (Str×α)->Option (List (Str×α))
 | [],slots=>aa slots
 |(k,v)::r,slots=>match names.contains k&&(slots.lookup k).isNone with
  |true=>lH names r (slots++[(k,v)])
  |false=>none
noncomputable def ky:List (Str×α)->List (Str×α)->List (Str×α)
 | [],slots=>slots
 |(k,v)::r,slots=>match(slots.lookup k).isNone with
  |true=>ky r (slots++[(k,v)])
  |false=>ky r slots
def gL(names:List Str)(ds vs:List α)(kw:List (Str×α)):Option (List (Str×α)):=
 match dN vs.length names.length&&dN ds.length names.length with
 |true=>match lH names kw (names.zip vs) with
  |some slots=>match(names.take (names.length-ds.length)).all fun n=>(slots.lookup n).isSome with
   |true=>aa (names.filterMap fun n=>((ky ((names.drop (names.length-ds.length)).zip ds) slots).lookup n).map (n,·))
   |false=>none
  |none=>none
 |false=>none
end
section
variable{α β:Type}{R:α->β->Prop}
abbrev LR(R:α->β->Prop):List (Str×α)->List (Str×β)->Prop:=All2 fun f g=>f.1=g.1/\R f.2 g.2
theorem LR.look(r:LR R l m)(x:Str):(∃a b,l.lookup x=aa a/\m.lookup x=aa b/\R a b)\/(l.lookup x=none/\m.lookup x=none):=by
 induction l generalizing m with
 |nil=>refine eqR r.nil_inv ?_;exact .inr ⟨rfl,rfl⟩
 |cons f l ih=>
  refine r.cons_el fun g m z0 r'=>?_;obtain⟨e,h⟩:=z0
  obtain⟨k,a⟩:=f
  obtain⟨k',b⟩:=g
  clear r;subst e
  simp only[cr,cr]
  cases x == k with
  |true=>exact .inl (i23 a b rfl rfl h)
  |false=>exact ih r'
theorem LR.isNone(r:LR R l m)(x:Str):(l.lookup x).isNone=(m.lookup x).isNone/\(l.lookup x).isSome=(m.lookup x).isSome:=by
 rcases r.look x with ⟨a,b,e,f,_⟩|⟨e,f⟩ <;> rw[e,f] <;> exact⟨rfl,rfl⟩
theorem LR.zip:∀(names:List Str) {l:List α} {m:List β},All2 R l m->LR R (names.zip l) (names.zip m):=by
 intro v0
 induction v0 with
 |nil=>
  intro l m _
  exact .nil
 |cons n ns ih=>
  intro l m r
  cases l with
  |nil=>refine eqR r.nil_inv ?_;exact .nil
  |cons a l=>
   refine r.cons_el fun b m h r'=>?_
   exact .cons ⟨rfl,h⟩ (ih r')
theorem LR.kw:∀{kw:List (Str×α)} {ks:List (Str×β)} {l:List (Str×α)} {m:List (Str×β)} {l':List (Str×α)},LR R kw ks->LR R l m->lH names kw l=aa l'->∃m',lH names ks m=aa m'/\LR R l' m':=by
 intro v0
 induction v0 with
 |nil=>intro ks l m l' r r' h;refine eqR r.nil_inv ?_;have z0:=ac h;refine eqL z0 ?_;exact(i12 m rfl r')
 |cons f0 kw ih=>
  intro ks l m l' r r' h
  obtain⟨k,v⟩:=f0
  refine r.cons_el fun z1 ks z2 r2=>?_;obtain⟨k',u⟩:=z1;obtain⟨e,h1⟩:=z2
  clear r;cases e
  unfold lH at h ⊢
  rw[<-(r'.isNone k).1]
  split at h
  ·exact ih r2 (r'.append (.cons ⟨rfl,h1⟩ .nil)) h
  ·exact aD h
theorem LR.df:∀{kw:List (Str×α)} {ks:List (Str×β)} {l:List (Str×α)} {m:List (Str×β)},LR R kw ks->LR R l m->LR R (ky kw l) (ky ks m):=by
 intro v0
 induction v0 with
 |nil=>intro ks l m r r';refine eqR r.nil_inv ?_;exact r'
 |cons f0 kw ih=>
  intro ks l m r r'
  obtain⟨k,v⟩:=f0
  refine r.cons_el fun z0 ks z1 r2=>?_;obtain⟨k',u⟩:=z0;obtain⟨e,h1⟩:=z1
  clear r;subst e
  unfold ky
  simp only[<-(r'.isNone k).1]
  split
  ·exact ih r2 (r'.append (.cons ⟨rfl,h1⟩ .nil))
  ·exact ih r2 r'
theorem LR.fm(r:LR R l m):∀(names:List Str),LR R (names.filterMap fun n=>(l.lookup n).map (n,·)) (names.filterMap fun n=>(m.lookup n).map (n,·)):=by
 intro v0
 induction v0 with
 |nil=>
  exact .nil
 |cons n ns ih=>
  rw[sR,sR]
  rcases r.look n with ⟨a,b,e,f,h⟩|⟨e,f⟩
  ·rw[e,f];exact .cons ⟨rfl,h⟩ (ih)
  ·rw[e,f];exact ih
theorem LR.bind{names:List Str}{ds vs:List α}{es us:List β}{kw:List (Str×α)}{ks:List (Str×β)}{l:List (Str×α)}(r1:All2 R ds es)(r2:All2 R vs us)(r3:LR R kw ks)(h:gL names ds vs kw=aa l):∃m,gL names es us ks=aa m/\LR R l m:=by
 unfold gL at h ⊢
 rw[<-r1.1,<-r2.1]
 split at h
 ·set_option smartUnfolding false in refine zd h fun slots e h=>?_
  refine e12 (LR.kw r3 (LR.zip names r2) e) fun m e' rm=>?_
  rw[e']
  dsimp only
  have :((names.take (names.length-ds.length)).all fun n=>(m.lookup n).isSome)=((names.take (names.length-ds.length)).all fun n=>(slots.lookup n).isSome):=
   congrArg (jk _) (funext fun n=>(rm.isNone n).2.symm)
  rw[this]
  split at h
  ·have z0:=ac h;refine eqL z0 ?_
   exact(i12 _ rfl (LR.fm (LR.df (LR.zip _ r1) rm) names))
  ·exact aD h
 ·exact aD h
end
def uW(h:Heap)(d:Value)(ds:List Value):Prop:=(d=.none/\ds=[])\/∃T o n,d=.ref T/\h.get? T=aa o/\o.data=.seq ds.toArray n
section
variable{M:Model}{A:aS}{E:Value->Shared->Prop}{s:Shared}
theorem KO(h:uW s.heap d ds)(q:∀o,(o.getD #[]).toList=ds->Q o s):am M A (seqItems? d) Q E s:=by
 refine(let G:=_;(?_:G));rcases h with ⟨rfl,rfl⟩|⟨T,o,n,rfl,ho,hd⟩
 ·exact aN (q none rfl)
 ·exact H6 ho hd (q _ rfl)
theorem AY{names:List Str}{f:Str×Value->List (Str×Value)×List (Str×Value)->cy (ForInStep (List (Str×Value)×List (Str×Value)))}
  (hf:∀k v slots ex,names.contains k=true->(slots.lookup k).isNone=true->f (k,v) (slots,ex)=pure (.yield (slots++[(k,v)],ex))):
  ∀{ks slots slots' ex},lH names ks slots=aa slots'->lc ks (slots,ex) f=pure (slots',ex)
 | [],slots,slots',ex,h=>by have z0:=ac h;refine eqR z0 ?_;rfl
 |(k,v)::ks,slots,slots',ex,h=>by
  unfold lH at h
  set_option smartUnfolding false in refine n3 h fun q h=>?_
  simp only[bC] at q
  rw[nF,hf k v slots ex q.1 q.2]
  exact AY hf h
theorem uX{f:Str×Value->List (Str×Value)->cy (ForInStep (List (Str×Value)))}
  (hf:∀k v slots,f (k,v) slots=pure (.yield (match(slots.lookup k).isNone with |true=>slots++[(k,v)]|false=>slots))):
  ∀{ks slots},lc ks slots f=pure (ky ks slots)
 | [],slots=>rfl
 |(k,v)::ks,slots=>by
  rw[nF,hf k v slots]
  unfold ky
  cases (slots.lookup k).isNone with
  |true=>exact uX hf
  |false=>exact uX hf
theorem AZ{fd:FuncData}{us ds:List Value}{ks binds:List (Str×Value)}(h1:fd.params.posonlyargs=[])(h2:fd.params.vararg=none)(h3:fd.params.kwonlyargs=[])(h4:fd.params.kwarg=none)(hd:uW s.heap fd.defaults ds)
  (h:gL (fd.params.args.map (·.arg)) ds us ks=aa binds):BindsTo s fd ⟨us,ks⟩ binds:=by
 intro M A E Q hQ
 unfold gL at h
 split at h
 rotate_left
 ·exact aD h
 rename_i q
 replace q:=b2 q
 have q1:=dv q.1
 have q2:=dv q.2
 split at h
 rotate_left
 ·exact aD h
 rename_i slots e
 split at h
 rotate_left
 ·exact aD h
 rename_i q3
 have z0:=ac h;clear h;subst z0
 unfold bindArgs
 dsimp only
 rw[h1,h2,h3,h4]
 dsimp only
 simp only[GU,sX,im]
 rw[AY (names:=fd.params.args.map (·.arg)) (λk v slots ex c1 c2=>by
  have c3:(slots.lookup k).isSome=false:=by
   cases z:slots.lookup k with
   |none=>rfl
   |some _=>replace c2:=z▸c2;exact bn c2
  simp only[c1,Bool.true_or,if_true,c3,sE,if_false]) e]
 refine af (aN (af (KO hd fun o ho=>?_)))
 skip
 rw[ho]
 rw[if_neg (by
  simp only[bC,decide_eq_true_eq]
  exact fun z=>Nat.not_lt.mpr q1 z.1)]
 have hdrop:ds.length-(fd.params.args.map (·.arg)).length=0:=Nat.sub_eq_zero_of_le q2
 rw[hdrop,WP]
 have hmiss:((fd.params.args.map (·.arg)).take ((fd.params.args.map (·.arg)).length-ds.length)).filter (λn=>(slots.lookup n).isNone)=[]:=by
  rw[List.filter_eq_nil_iff]
  intro n hn
  have :=du.mp q3 n hn
  intro z
  rw[yJ] at z
  replace this:=z▸this;exact bn this
 rw[hmiss]
 rw[uX (λk v slots=>by cases (slots.lookup k).isNone <;> rfl)]
 rw[if_neg (by decide)]
 refine af (aN ?_)
 simp only[List.forIn_nil]
 refine af (aN ?_)
 dsimp only
 rw[if_neg (by decide)]
 exact aN hQ
end
theorem HInv.more(V:HInv E c h)(k:∀b o,h.get? b=aa o->h'.get? b=aa o):HInv E c h':=
 ⟨V.base,λa o e=>k _ _ (V.keep a o e),λj o e=>by
  refine e12 (V.st j o e) fun a ha r=>?_
  obtain⟨y,hy⟩:=r.there
  exact(i12 a ha (r.mono (λ_ _ e=>e) (λ_ _ e=>e) ((k a y hy).trans hy.symm))),V.dom,V.out,V.inj⟩
theorem KP:∀{l:List (Str×α)} {m:List (Str×β)} {x:Str} {v:α},LR R l m->(m.map (·.1)).Nodup->l.lookup x=aa v->∃u,m.reverse.lookup x=aa u/\R v u:=by
 have rH:∀{β:Type} (a b:List (Str×β)) (x:Str),(a++b).lookup x=(a.lookup x).or (b.lookup x):=by
  intro β a b x
  induction a with
  |nil=>rfl
  |cons p a ih=>
   obtain⟨y,w⟩:=p
   simp only[yy,cr,cr]
   cases x == y with
   |true=>rfl
   |false=>exact ih
 intro l
 induction l with
 |nil=>intro m x v r _ h;exact aD h
 |cons f l ih=>
  intro m x v r nd h
  obtain⟨g,m,rfl,⟨e,h1⟩,r'⟩:=r.cons_inv
  obtain⟨k,a⟩:=f
  obtain⟨k',b⟩:=g
  clear r;subst e
  simp only[ey,sY] at nd
  simp only[G6,rH]
  simp only[cr] at h
  cases q:x == k with
  |true=>
   replace h:=q▸h
   have z0:=ac h;refine eqL z0 ?_
   rw[beq_iff_eq] at q
   subst q
   have :m.reverse.lookup x=none:=by
    cases z:m.reverse.lookup x with
    |none=>rfl
    |some w=>exact absurd (pq (f:=(·.1)) (List.mem_reverse.mp (jJ z))) nd.1
   rw[this]
   exact(i12 b (by simp only[cr,beq_self_eq_true];rfl) h1)
  |false=>
   replace h:=q▸h
   refine e12 (ih r' nd.2 h) fun u hu ru=>?_
   rw[hu]
   exact(i12 u rfl ru)
structure Ent(E:Env0)(env:aw)(c:Cf)(s s1:Shared)(L:Addr)(cl:List (Str×AV×Value)):Prop where
 keep:∀b o,s.heap.get? b=aa o->s1.heap.get? b=aa o
 hz:hsz s<=hsz s1
 hL:hsz s<=L
 ns:∃m,s1.heap.Ns L m/\∀x v,env.lookup x=aa v->∃u,m x=aa u/\Rp E c v u
 rest:s1.gens=s.gens/\s1.drawn=s.drawn/\s1.os=s.os
 hcl:∀p,p∈cl->Rp E c p.2.1 p.2.2
noncomputable def lI(E:Env0)(c:Cf)(s1:Shared)(L:Addr)(cl:List (Str×AV×Value)):Fs:=⟨E,s1,c.I,λa=>(∃k,c.ρ k=aa a)\/a=L,L,cl⟩
section
variable{E:Env0}{A:aS}{T:aI}{C:FCtx}{ev:Env}{env:aw}{c:Cf}{s s1:Shared}{Q:AV->St->Prop}{body:List Stmt}{L:Addr}{cl:List (Str×AV×Value)}
theorem A3(V:HInv E c s.heap)(e:c.ρ k=aa a):a<hsz s:=let⟨_,h⟩:=V.at e;bM h
theorem Ent.fresh(V:HInv E c s.heap)(hb:hsz s<=b)(ne:b≠L):¬(lI E c s1 L cl).M b:=λq=>by
 rcases q with ⟨k,e⟩|q
 ·exact absurd (A3 V e) (Nat.not_lt.mpr hb)
 ·exact ne q
theorem Ent.inv(N:Ent E env c s s1 L cl)(V:HInv E c s.heap):FInv (lI E c s1 L cl) env c s1:=by
 refine⟨V.more N.keep,c8 _,λ_ _ e _=>e,N.ns,?_,.inl (.inr rfl),λk e=>?_,λk a e=>.inl (.inl ⟨k,e⟩),λa o e=>.inl e,(bl rfl rfl rfl),N.hcl⟩
 ·show c.I L=none
  cases q:c.I L with
  |none=>rfl
  |some o=>exact absurd (bM (V.keep _ _ q)) (Nat.not_lt.mpr N.hL)
 ·exact absurd (A3 V e) (Nat.not_lt.mpr N.hL)
theorem Ent.cx(N:Ent E env c s s1 L cl)(V:HInv E c s.heap)(O:Ok E T)(R:Room A T.bud)(X:EnvOk (lI E c s1 L cl) C ev):Cx (lI E c s1 L cl) A T C ev:=
 ⟨O,X,R,λa o e=>jS (bM (V.K a o e)) N.hL⟩
theorem Ent.fin(N:Ent E env c s s1 L cl)(V:HInv E c s.heap)(x:Ext c d)(W:FInv (lI E c s1 L cl) env' d s')(rr:Rp E d r v)(q:Q r d.σ):Done E c s Q v s':=by
 refine⟨d,r,x,W.h,rr,q,bT N.hz W.size,λa o e n=>W.kept a o (N.keep a o e) fun z=>?_,λk a e=>?_,λa o e=>?_,(bl (W.rest.1.trans N.rest.1) (W.rest.2.1.trans N.rest.2.1) (W.rest.2.2.trans N.rest.2.2))⟩
 ·rcases z with ⟨k,z⟩|z
  ·exact n k z
  ·exact absurd (bM e) (Nat.not_lt.mpr (z▸N.hL))
 ·refine(let G:=_;(?_:G));rcases W.old k a e with (⟨j,z⟩|z)|z
  ·exact .inl (W.h.inj k j a e (x.ρ j a z)▸z)
  ·exact .inr (z▸N.hL)
  ·exact .inr (bT N.hz z)
 ·refine(let G1:=_;(?_:G1));rcases W.Iold a o e with z |z
  ·exact .inl z
  ·exact .inr (bT N.hz z)
noncomputable def A4:kY->Value
 | .ret v=>v
 |_=>.none
theorem Ent.flow(N:Ent E env c s s1 L cl)(V:HInv E c s.heap)(x:Ext c d)(h:PS (lI E c s1 L cl) d (on Q) f s'):Done E c s Q (A4 f) s':=h.casesOn fun d' g env' x' W rg q=>by
 clear h;cases rg with
 |next=>exact N.fin V (x.trans x') W (.pv .none) q
 |ret ru=>exact N.fin V (x.trans x') W ru q
 |cont=>exact q.elim
theorem KQ(O:Ok E T)(R:Room A T.bud)(V:HInv E c s.heap)(keep:∀b o,s.heap.get? b=aa o->s1.heap.get? b=aa o)(hz:hsz s<=hsz s1)(hL:hsz s<=L)(hns:s1.heap.Ns L m)(rest:s1.gens=s.gens/\s1.drawn=s.drawn/\s1.os=s.os)
  (he:∀x v,env.lookup x=aa v->∃u,m x=aa u/\Rp E c v u) (hcl:∀p∈cl,Rp E c p.2.1 p.2.2)
  (N:∀M:Addr->Prop,(∀b,hsz s<=b->b≠L->¬M b)->EnvOk ⟨E,s1,c.I,M,L,cl⟩ C ev) (h:oo T C body env c.σ Q):
  am E.M A (fy body ev) (λf s'=>Done E c s Q (A4 f) s') aK s1:=
 have X:Ent E env c s s1 L cl:=⟨keep,hz,hL,(i12 m hns he),rest,hcl⟩
 aT ((sh 200 (X.cx V O R (N _ fun _ hb ne=>Ent.fresh (cl:=cl) (s1:=s1) V hb ne))).ss body env c s1 _ (X.inv V) h) (λ_ _ hp=>X.flow V (Ext.refl c) hp) bb
end
theorem Room.deep(R:Room A (b+1)):Room (A.deeper ev) b:=by
 refine⟨?_,?_,R.handled⟩
 ·have :=R.depth
  show A.depth+1+b<pL
  exact dx (f3 1 [(1,.p (.p v0 (.p v1 (.n 1))) (.n 1),v2)] (.p (.p (.p v0 (.n 1)) v1) (.n 1)) v2 rfl (a:=↑A.depth) (b:=↑b) (c:=↑pL) (dD this))
 ·have :=R.units
  show A.units+3+20*b<cLine
  exact dx (f3 1 [(1,.p (.p v0 (.s 20 (.p v1 (.n 1)))) (.n 1),v2)] (.p (.p (.p v0 (.n 3)) (.s 20 v1)) (.n 1)) v2 rfl (a:=↑A.units) (b:=↑b) (c:=↑cLine) (dD this))
structure FnD where
 body:List Stmt
 scope:Scope
 names:List Str
 defs:List Value
 closure:List (Str×Addr)
 ok:Bool
def uY(d:Data):Option (Array Value×Nat):=cq fun h=>Gv d h fun vs n=>aa (vs,n)
theorem A5(h:uY d=aa q):d=.seq q.1 q.2:=cF h fun i h=>Gv (motive:=λd=>∀i,(Gv d i fun vs n=>aa (vs,n))=aa q->d=.seq q.1 q.2) d i (λ_ _ _ h=>ac h▸rfl) i h
def A6(d:Data):Option FuncData:=cq fun h=>Gu d h aa
theorem KR(h:A6 d=aa q):d=.func q:=cF h fun i h=>Gu (motive:=λd=>∀i,Gu d i aa=aa q->d=.func q) d i (λ_ _ h=>ac h▸rfl) i h
def A7(b:FuncBody):Option (List Stmt):=cq fun h=>GJ b h aa
theorem KS(h:A7 b=aa q):b=.stmts q:=cF h fun i h=>GJ (motive:=λb=>∀i,GJ b i aa=aa q->b=.stmts q) b i (λ_ _ h=>ac h▸rfl) i h
def uZ(K:Frag)(v:Value):Option (List Value):=dP (jA v) (λT=>aA (K.lookup T) fun o=>aA (uY o.data) fun q=>aa q.1.toList) (bW (kt v) (aa []))
noncomputable def vc(K:Frag)(fd:FuncData):Bool:=fd.params.posonlyargs.isEmpty&&fd.params.kwonlyargs.isEmpty&&fd.params.vararg.isNone&&fd.params.kwarg.isNone&&codeIn K fd.code fd.qualname&&!fd.scope.isCoroutine&&!fd.scope.isGenerator&&
     fd.scope.kind == .function&&a7 fd.globals mainGlobals&&a7 fd.builtins nN&&(fd.scope.names.lookup ("__debug__" :Str)).isNone&&decide (fd.params.args.map (·.arg)).Nodup
def jK(K:Frag)(a:Addr):Option FnD:=aA (K.lookup a) fun o=>aA (A6 o.data) fun fd=>aA (A7 fd.body) fun body=>aA (uZ K fd.defaults) fun ds=>aa ⟨body,fd.scope,fd.params.args.map (·.arg),ds,fd.closure,vc K fd⟩
noncomputable def vd(v:Value):Option PV:=th (motive:=λ_=>Option PV) v (aa .none) none none (λb=>aa (.bool b)) (λi _=>aa (.int i)) (λ_ _=>none) (λ_ _=>none) (λ_ _=>none) (λ_=>none) (λ_=>none) (λ_=>none)
theorem KU(h:vd v=aa p):RepP P I p v:=th (motive:=λv=>vd v=aa p->RepP P I p v) v (λh=>ac h▸.none) aD aD (λ_ h=>ac h▸.bool) (λ_ _ h=>ac h▸.int) (λ_ _=>aD) (λ_ _=>aD) (λ_ _=>aD) (λ_=>aD) (λ_=>aD) (λ_=>aD) h
noncomputable def lJ:List Value->Option (List AV):=iN (aa []) fun v _ ih=>aA (vd v) fun p=>aA ih fun l=>aa (.pv p::l)
theorem A8:∀{ds:List Value} {l:List AV},lJ ds=aa l->All2 (Rp E c) l ds:=by
 intro v0
 induction v0 with
 |nil=>exact fun h=>ac h▸.nil
 |cons v r ih=>exact fun h=>ay h fun p e1 h=>ay h fun l e2 h=>ac h▸.cons (.pv (KU e1)) (ih e2)
def ve(T:aI)(D:FnD)(vs:List AV)(kw:List (Str×AV))(σ:St)(Q:AV->St->Prop):Prop:=
 ag (lJ D.defs) fun ds=>ag (gL D.names ds vs kw) fun env=>oo T ⟨D.scope,[]⟩ D.body env σ Q
noncomputable def iF(D:FnD):Bool:=(D.scope.names.all fun p=>!(p.2 == .cell))&&D.names.all fun n=>D.scope.names.lookup n == aa .local
theorem KV(slots:List (Str×α)):∀(names:List Str),(∀p∈(names.filterMap fun n=>(slots.lookup n).map (n,·)),p.1∈names)/\(names.Nodup->((names.filterMap fun n=>(slots.lookup n).map (n,·)).map (·.1)).Nodup):=by
 intro v0
 induction v0 with
 |nil=>
  exact⟨λ_ m=>absurd m fu,λ_=>G4⟩
 |cons n ns ih=>
  refine ax ih fun i1 i2=>?_
  rw[sR]
  cases slots.lookup n with
  |none=>exact⟨λp m=>cU _ (i1 p m),λnd=>i2 (sY.mp nd).2⟩
  |some v=>
   refine⟨λp m=>?_,λnd=>?_⟩
   ·rcases cT.mp m with rfl |m
    ·exact cM
    ·exact cU _ (i1 p m)
   ·simp only[sY] at nd
    refine sY.mpr ⟨λm=>?_,i2 nd.2⟩
    refine e12 (List.mem_map.mp m) fun p hp e=>?_
    have e:p.1=n:=e
    have :=i1 p hp
    simp only[e] at this
    exact nd.1 this
theorem oz{α:Type}{names:List Str}{ds vs:List α}{kw l:List (Str×α)}(h:gL names ds vs kw=aa l):(∀p∈l,p.1∈names)/\(names.Nodup->(l.map (·.1)).Nodup):=by
 unfold gL at h
 set_option smartUnfolding false in refine n3 h fun _ h=>?_
 set_option smartUnfolding false in refine zd h fun _ _ h=>?_
 set_option smartUnfolding false in refine n3 h fun _ h=>?_
 have z0:=ac h;clear h;refine eqL z0 ?_;exact KV _ _
theorem A9{K:Frag}(X:K.In h)(e:uZ K v=aa ds):uW h v ds:=
 dE e (λT e1 e=>ay e fun o e2 e=>ay e fun q e3 e=>.inr (i33 T o q.2 (j6 e1) (X _ _ e2) ((A5 e3).trans (congrArg (λl=>yo l q.2) (by rw[<-ac e])))))
  fun _ e=>bU e fun g e=>.inl ⟨uq g,(ac e).symm⟩
structure oA(K:Frag)(D:FnD)(fd:FuncData):Prop where
 f2:fd.body=.stmts D.body
 f3:fd.scope=D.scope
 f4:fd.params.args.map (·.arg)=D.names
 f5:uZ K fd.defaults=aa D.defs
 f6:fd.closure=D.closure
 f7:fd.params.posonlyargs=[]
 f8:fd.params.vararg=none
 f9:fd.params.kwonlyargs=[]
 f10:fd.params.kwarg=none
 f11:codeIn K fd.code fd.qualname=true
 f12:fd.scope.isCoroutine=false
 f13:fd.scope.isGenerator=false
 f14:fd.scope.kind=.function
 f15:fd.globals=mainGlobals
 f16:fd.builtins=nN
 f17:fd.scope.names.lookup ("__debug__" :Str)=none
 f18:D.names.Nodup
theorem qL{K:Frag}(h:jK K a=aa D)(ok:D.ok=true):∃cls od sl fd,K.lookup a=aa ⟨cls,od,.func fd,sl⟩/\oA K D fd:=by
 refine ay h fun o e1 h=>ay h fun fd e2 h=>ay h fun body e3 h=>ay h fun ds e4 h=>?_
 rw[<-ac h] at ok ⊢
 have ok:vc K fd=true:=ok
 unfold vc at ok
 simp only[bC,sF,decide_eq_true_eq,GR,yJ] at ok
 refine ax ok fun z1 o12=>?_;refine ax z1 fun z2 o11=>?_;refine ax z2 fun z3 o10=>?_;refine ax z3 fun z4 o9=>?_;refine ax z4 fun z5 o8=>?_;refine ax z5 fun z6 o7=>?_;refine ax z6 fun z7 o6=>?_;refine ax z7 fun z8 o5=>?_;refine ax z8 fun z9 o4=>?_;refine ax z9 fun z10 o3=>?_;refine ax z10 fun o1 o2=>?_
 obtain⟨cls,od,dt,sl⟩:=o
 exact⟨cls,od,sl,fd,e1.trans (congrArg (λd=>aa (⟨cls,od,d,sl⟩:Obj)) (KR e2)),KS e3,rfl,rfl,e4,rfl,o1,o3,o2,o4,o5,o6,o7,cE o8,ce o9,ce o10,o11,o12⟩
structure DefIn(E:Env0)(c:Cf)(s:Shared)(fd:FuncData)(us:List Value)(ks:List (Str×Value))(env:aw)(binds:List (Str×Value)):Prop where
 bind:BindsTo s fd ⟨us,ks⟩ binds
 cell:∀x∈fd.scope.names,x.2≠.cell
 loc:∀x∈binds,fd.scope.names.lookup x.1=aa .local
 env:∀x v,env.lookup x=aa v->∃u,binds.reverse.lookup x=aa u/\Rp E c v u
theorem Ba(h:iF D=true)(m:n∈D.names):D.scope.names.lookup n=aa .local:=by
 unfold iF at h
 rw[bC,du,du] at h
 exact cE (h.2 n m)
theorem KW(h:iF D=true)(m:p∈D.scope.names):p.2≠.cell:=by
 unfold iF at h
 rw[bC,du] at h
 have :=h.1 p m
 simpa using this
theorem vg(K:E.K.In s.heap)(ff:oA E.K D fd)(hc:iF D=true)(hds:lJ D.defs=aa ds)(hb:gL D.names ds vs kw=aa env)(rv:All2 (Rp E c) vs us)(rk:KwRep E c kw ks):∃binds,DefIn E c s fd us ks env binds:=by
 refine e12 (LR.bind (A8 (E:=E) (c:=c) hds) rv rk hb) fun binds hb' rb=>?_
 exact⟨binds,AZ ff.f7 ff.f8 ff.f9 ff.f10 (A9 K ff.f5) (by rw[ff.f4];exact hb'),λx m=>KW hc (ff.f3▸m),λx m=>by rw[ff.f3];exact Ba hc ((oz hb').1 x m),λx v e=>KP rb ((oz hb').2 ff.f18) e⟩
theorem vj{K:Frag}(ff:oA K D fd):EnvOk (lI E c s1 L cl) ⟨D.scope,[]⟩ (nO fd L a):=
 ⟨ff.f3,by show D.scope.kind=_;rw[<-ff.f3];exact ff.f14,rfl,ff.f15,ff.f16,by show bN _ D.scope.names=_;rw[<-ff.f3];exact ff.f17,λx p e=>nomatch e⟩
theorem DefIn.ent{E:Env0}{c:Cf}{s:Shared}{fd:FuncData}{us:List Value}{ks:List (Str×Value)}{env:aw}{binds:List (Str×Value)}(B:DefIn E c s fd us ks env binds){h0:Heap}(t:Nat)(hns:h0.Ns s.heap.objs.size fun x=>binds.reverse.lookup x)(keep:∀b o,s.heap.get? b=aa o->h0.get? b=aa o):Ent E env c s {s with heap:=h0,toks:=t} s.heap.objs.size []:=
 ⟨keep,yI hns.lt,c8 _,(i12 _ hns B.env),(bl rfl rfl rfl),λ_ m=>nomatch m⟩
theorem KX{E:Env0}{T:aI}{a:Addr}{D:FnD}{S:Spec}(O:Ok E T)(hD:jK E.K a=aa D)(ok:D.ok=true)(hc:iF D=true)(hn:T.bud+1<=S.need)
  (hS:∀vs kw σ Q,S.run vs kw σ Q->ve T D vs kw σ Q):S.SoundC E (.ref a):=by
 intro A s c vs us kw ks Q R V rv rk h
 refine(let G:=_;(?_:G));refine e42 (qL hD ok) fun cls od sl fd f1 ff=>?_
 refine e12 (hE (hS _ _ _ _ h)) fun ds hds h=>?_
 refine e12 (hE h) fun env hb h=>?_
 have K:=V.K
 obtain⟨binds,B⟩:=vg K ff hc hds hb rv rk
 refine codeAny_call_def (fd:=fd) (body:=D.body) (binds:=binds) (k7 (fw _ _) R.depth) (K _ _ f1) rfl (V.base.top _ V.keep).2.2 (yU K ff.f11) ff.f2 B.bind B.cell B.loc (λh0 hns keep=>?_) ff.f12 ff.f13 ff.f14
 have N:=B.ent (s.toks+binds.length) hns keep
 exact aT ((sh 200 (N.cx V O (Room.deep (R.le hn)) (vj ff))).ss D.body env c _ _ (N.inv V) h) (λf s' hp=>(i12 _ rfl (N.flow V (Ext.refl c) hp))) fun _ _ z=>z.elim
theorem Bb:∀{names:List (Str×k0)} {n:Nat} {acc:List (Str×Addr)},((x,k0.cell)∈names\/∃c,(x,c)∈acc)->∃c,(x,c)∈yS n names acc:=by
 intro v0
 induction v0 with
 |nil=>
  intro n acc h
  refine(let G:=_;(?_:G));rcases h with h |h
  ·cases h
  ·exact h
 |cons f0 names ih=>
  intro n acc h
  have y:=f0.1;have k:=f0.2
  unfold yS
  split
  ·rename_i hk
   refine ih ?_
   rcases h with h |⟨c,h⟩
   ·rcases cT.mp h with e |h
    ·refine eqL e ?_;exact .inr ⟨n,cM⟩
    ·exact .inl h
   ·exact .inr ⟨c,cU _ h⟩
  ·rename_i hk
   refine ih ?_
   rcases h with h |h
   ·rcases cT.mp h with e |h
    ·subst e;exact absurd rfl hk
    ·exact .inl h
   ·exact .inr h
theorem qM{kindOf:Str->Option k0}:∀{binds:List (Str×Value)} {m:Str->Option Value},(∀p∈binds,p.1≠x)->bindL kindOf binds m x=m x/\bindC kindOf binds m x=m x
 | [],m,_=>⟨rfl,rfl⟩
 |(n,v)::r,m,h=>by
  unfold bindL bindC
  have hn:x≠n:=λe=>h _ cM e.symm
  refine ax (qM (kindOf:=kindOf) (binds:=r) (m:=if kindOf n=aa .local then fun y=>if y=n then aa v else m y else m) (λp hp=>h p (cU _ hp))) fun i1 _=>?_
  refine ax (qM (kindOf:=kindOf) (binds:=r) (m:=if kindOf n=aa .local then m else fun y=>if y=n then aa v else m y) (λp hp=>h p (cU _ hp))) fun _ i2=>?_
  simp only[i1,i2]
  constructor
  ·split
   ·exact if_neg hn
   ·rfl
  ·split
   ·rfl
   ·exact if_neg hn
theorem qN{kindOf:Str->Option k0}:∀{binds:List (Str×Value)} {m m':Str->Option Value},(binds.map (·.1)).Nodup->(x,v)∈binds->(kindOf x=aa .local->bindL kindOf binds m x=aa v)/\(kindOf x≠aa .local->bindC kindOf binds m' x=aa v)
 |(n,w)::r,m,m',nd,h=>by
  rw[ey,sY] at nd
  unfold bindL bindC
  rcases cT.mp h with e |h
  ·first |exact bn e |exact aD e |cases e
   have sk:∀p∈r,p.1≠x:=λp hp e=>by
    have :=pq (f:=λq:Str×Value=>q.1) hp
    simp only[e] at this
    exact nd.1 this
   refine⟨λhk=>?_,λhk=>?_⟩
   ·rw[if_pos hk,(qM sk).1,if_pos rfl]
   ·rw[if_neg hk,(qM sk).2,if_pos rfl]
  ·exact⟨λhk=>(qN (m':=m') nd.2 h).1 hk,λhk=>(qN (m:=m) nd.2 h).2 hk⟩
noncomputable def jL(D:FnD)(k:k0)(x:Str):Bool:=D.scope.names.lookup x == aa k
def mN(T:aI)(D:FnD)(vs:List AV)(kw:List (Str×AV))(σ:St)(Q:AV->St->Prop):Prop:=match lJ D.defs with
 |some ds=>match gL D.names ds vs kw with
  |some env=>oo T ⟨D.scope,env.filter fun p=>jL D .cell p.1⟩ D.body (env.filter fun p=>jL D .local p.1) σ Q
  |none=>False
 |none=>False
def vk(D:FnD):Bool:=D.closure.isEmpty&&D.names.all fun n=>(jL D .local n||jL D .cell n)&&!(n == ("__classdict__" :Str))
theorem KY(r:LR R l m)(h:l.lookup x=aa v):∃u,m.lookup x=aa u/\R v u:=by
 refine(let G:=_;(?_:G));rcases r.look x with ⟨a,b,e,f,h'⟩|⟨e,f⟩
 ·replace e:=h▸e;have z0:=ac e;subst z0;exact(i12 b f h')
 ·replace e:=h▸e;exact aD e.symm
theorem KZ{E:Env0}{T:aI}{a:Addr}{D:FnD}{S:Spec}(O:Ok E T)(hD:jK E.K a=aa D)(ok:D.ok=true)(hc:vk D=true)(hn:T.bud+1<=S.need)
  (hS:∀vs kw σ Q,S.run vs kw σ Q->mN T D vs kw σ Q):S.SoundC E (.ref a):=by
 intro A s c vs us kw ks Q R V rv rk h
 refine(let G:=_;(?_:G));refine e42 (qL hD ok) fun cls od sl fd f1 ff=>?_
 have h:=hS _ _ _ _ h
 unfold mN at h
 split at h
 rotate_left
 ·exact h.elim
 rename_i ds hds
 split at h
 rotate_left
 ·exact h.elim
 rename_i env hb
 refine e12 (LR.bind (A8 (E:=E) (c:=c) hds) rv rk hb) fun binds hb' rb=>?_
 refine ax (oz hb') fun n1 n2=>?_
 unfold vk at hc
 replace hc:=b2 hc;rw[du,GR] at hc
 refine ax hc fun hc0 hc=>?_
 have K:=V.K
 have hlim:=(V.base.top _ V.keep).2.2
 have kd:∀{x:Str} {k:k0},jL D k x=true->fd.scope.names.lookup x=aa k:=λh=>by rw[ff.f3];exact beq_iff_eq.mp h
 refine codeAny_call_function (k7 (fw _ _) R.depth) (K _ _ f1) rfl ff.f12 ff.f13 ff.f2 (yU K ff.f11) (AZ ff.f7 ff.f8 ff.f9 ff.f10 (A9 K ff.f5) (by rw[ff.f4];exact hb') _ _ _ _ ?_)
 rw[ff.f6,hc0]
 refine wpAny_newFunctionEnv_cells ff.f14 (λx m=>?_) fun env' he s1 x=>?_
 ·have :=hc x.1 (n1 x m)
  simp only[bC,ny] at this
  rcases this.1 with q |q
  ·exact .inl (kd q)
  ·refine .inr ⟨kd q,?_⟩
   refine e11 (Bb (n:=s.heap.objs.size+1) (acc:=[]) (.inl (jJ (kd q)))) fun c' hc'=>?_
   refine e12 (qG hc') fun q' h1 _=>?_
   rw[h1];rfl
 ·refine(let G1:=_;(?_:G1));subst he
  have R':∀ev,Room (A.deeper ev) T.bud:=λev=>Room.deep (R.le hn)
  obtain⟨h1,tk,rfl,keep⟩:=x.done
  refine⟨hlim.keeps keep,codeAny_func ?_⟩
  have nd:=n2 ff.f18
  have atb:∀y v,env.lookup y=aa v->∃u,binds.lookup y=aa u/\Rp E c v u:=λy v e=>KY rb e
  have hcell:∀y p,(env.filter fun p=>jL D .cell p.1).lookup y=aa p->∃u ca o,env.lookup y=aa p/\binds.lookup y=aa u/\Rp E c p u/\(yS (s.heap.objs.size+1) fd.scope.names []).lookup y=aa ca/\h1.get? ca=aa o/\o.data=.cell (aa u)/\hsz s<ca:=λy p e=>by
   refine(let G2:=_;(?_:G2));refine ax (qF (λy=>jL D .cell y) e) fun e1 e2=>?_
   refine e12 (atb y p e2) fun u hu ru=>?_
   refine e11 (Bb (n:=s.heap.objs.size+1) (acc:=[]) (.inl (jJ (kd e1)))) fun c' hc'=>?_
   refine e12 (qG hc') fun ca h2 h3=>?_
   refine e12 (x.cell y ca h2) fun o ho hd=>?_
   have :=(qN (kindOf:=(newEnv fd.scope s.heap.objs.size fd.globals (yS (s.heap.objs.size+1) fd.scope.names []) (fd.qualname++".<locals>.") (aa a) fd.code none fd.builtins).kindOf) (m:=λ_=>none) (m':=λ_=>none) nd (jJ hu)).2 (λz=>by
    have z:fd.scope.names.lookup y=aa .local:=z
    replace z:=(kd e1)▸z;cases z)
   rw[this] at hd
   exact(i37 u ca o e2 hu ru h2 ho hd (x.above y ca h3))
  let cl:List (Str×AV×Value):=D.names.filterMap fun n=>match env.lookup n,binds.lookup n with
   |some p,aa u=>aa (n,p,u)
   |_,_=>none
  have clm:∀{q},q∈cl↔q.1∈D.names/\env.lookup q.1=aa q.2.1/\binds.lookup q.1=aa q.2.2:=λ{q}=>by
   obtain⟨n,p,u⟩:=q
   skip
   rw[WW]
   constructor
   ·rintro⟨n',hn',e⟩
    refine(let G3:=_;(?_:G3));split at e
    ·rename_i e1 e2
     cases e
     exact(bl hn' e1 e2)
    ·exact aD e
   ·rintro⟨h1,h2,h3⟩
    exact(i12 n h1 (by dsimp only at h2 h3;rw[h2,h3]))
  have hL:=x.toInCall.ns
  refine aT (KQ (C:=⟨D.scope,env.filter fun p=>jL D .cell p.1⟩) (cl:=cl) (L:=s.heap.objs.size) (s:=s) (s1:={s with heap:=h1,toks:=tk}) O (R' _) V keep (yI hL.lt) (c8 _) hL (bl rfl rfl rfl) (λy v e=>?_) (λq m=>?_)
   (λM hM=>⟨ff.f3,by show D.scope.kind=_;rw[<-ff.f3];exact ff.f14,rfl,ff.f15,ff.f16,by show bN _ D.scope.names=_;rw[<-ff.f3];exact ff.f17,λy p e=>?_⟩) h) (λf s' D=>(i12 _ rfl D)) fun _ _ z=>z.elim
  ·refine(let G3:=_;(?_:G3));refine ax (qF (λy=>jL D .local y) e) fun e1 e2=>?_
   refine e12 (atb y v e2) fun u hu ru=>?_
   exact(i12 u ((qN (m':=λ_=>none) nd (jJ hu)).1 (kd e1)) ru)
  ·refine(let G3:=_;(?_:G3));refine cP (clm.mp m) fun m1 m2 m3=>?_
   refine e12 (atb _ _ m2) fun u hu ru=>?_
   replace hu:=m3▸hu;have z0:=ac hu;subst z0
   exact ru
  ·refine e37 (hcell y p e) fun u ca o e2 hu ru h2 ho hd habove=>?_
   refine(i36 ca o u h2 ho (hM ca (yI habove) (Xd habove)) hd (clm.mpr (bl (?_) e2 hu)) (?_))
   ·exact(oz hb).1 _ (jJ e2)
   ·have :=hc y ((oz hb).1 _ (jJ e2))
    simp only[bC,sF] at this
    exact this.2
structure vm(E:Env0)(T:aI)(a:Addr)(D:FnD)(cc Dc:Addr)(sup:List (Addr×Addr)):Prop where
 clo:D.closure=[(("__class__" :Str),cc)]
 cell:∃cl cld csl,bN cc E.K=aa ⟨cl,cld,.cell (aa (.ref Dc)),csl⟩
 cls:∃cd,l6 E.K Dc=aa cd
 ns:D.scope.names.lookup ("super" :Str)=aa .globalImplicit
 nc:D.scope.names.lookup ("__class__" :Str)=aa .free
 self:∃n r,D.names=n::r
 glob:T.glob.lookup ("super" :Str)=aa (.const (.type "super"))
 code:∃oc od sl fd cda ccl cdd vs ccs file tf,bN a E.K=aa ⟨oc,od,.func fd,sl⟩/\fd.code=.ref cda/\bN cda E.K=aa ⟨ccl,cdd,.fields vs,ccs⟩/\vs[2]? =aa (.str file tf)/\((E.prog.main.file:Str) == file)=true
 top:(E.prog.main.scope.names.lookup ("super" :Str)).isSome=false
 opq:iR E.K yQ "thirdparty.any" =aa none
 sup:∀C f2,sup.lookup C=aa f2->mroIn E.K C (.ref Dc)=aa true/\yY E.K C Dc "__init__" =aa (aa (.ref f2))/\nW E.K (.ref f2)=aa (.type "function")/\gX E.K f2=true/\∃cd,l6 E.K C=aa cd
def qO(T:aI)(D:FnD)(as:List Expr)(rest:List Stmt)(sup:List (Addr×Addr))(vs:List AV)(kw:List (Str×AV))(σ:St)(Q:AV->St->Prop):Prop:=
 ag (lJ D.defs) fun ds=>ag (gL D.names ds vs kw) fun env=>ag D.names.head? fun self=>ag (env.lookup self) fun sv=>ag (kb σ sv) fun C=>ag (sup.lookup C) fun f2=>
  iC T ⟨D.scope,[]⟩ 199 as env σ fun vs σ=>eK T (.ref f2) (sv::vs) [] σ fun _ σ=>oo T ⟨D.scope,[]⟩ rest env σ Q
section
variable{prog:Program}{w:bD}{A:aS}{E:Value->Shared->Prop}{s:Shared}{env:Env}
theorem K3(hl:a7 apos.endLine pos.line=true)(hs:cJ es=true)(hk:fB ks=true)(hn:dN (es.length+ks.length) 20=true)
  (h:∀pl,am (aH prog w) A (jZ ov name pl) (λfx s₂=>am (aH prog w) A (callWith pos fx.1 fx.2 (cV pos (cN es env)) (cG pos (cH ks env))) Q E s₂) E s):
  am (aH prog w) A (nR o name apos pos env ov (es.length+ks.length) (cV pos (cN es env)) (cG pos (cH ks env))) Q E s:=by
 unfold nR
 rw[uG hs hk hn]
 refine af (iT (aT (h _) (λfx s₂ h₂=>?_) bb))
 exact af (dY (uH hl) h₂)
end
structure vo(E:Env0)(ev:Env)(cc Dc:Addr)(me:Str):Prop where
 ks:ev.kindOf "super" =aa .globalImplicit
 kc:ev.kindOf "__class__" =aa .free
 kl:ev.kindOf me=aa .local
 kf:ev.scope.kind=.function
 cl:ev.cells.lookup ("__class__" :Str)=aa cc
 fn:∃a of fd ar cda oc vs file tf,ev.func=aa a/\bN a E.K=aa of/\of.data=.func fd/\(fd.params.posonlyargs++fd.params.args).head? =aa ar/\ar.arg=me/\ev.code=.ref cda/\bN cda E.K=aa oc/\oc.data=.fields vs/\vs[2]? =aa (.str file tf)/\((E.prog.main.file:Str) == file)=true
 cell:∃cl cld csl,bN cc E.K=aa ⟨cl,cld,.cell (aa (.ref Dc)),csl⟩
 cls:∃cd oD,bN Dc E.K=aa oD/\oD.data=.cls cd
inductive vp(F:Fs)(env:aw)(c:Cf)(g:Addr)(sv:AV):Value×List Value->Shared->Prop
 |mk {s3:Shared} (m xa:Addr):FInv F env c s3->Rp F.E c sv (.ref xa)->s3.heap.get? m=aa (methodObj (.ref g) (.ref xa))->(∀k,c.ρ k≠aa m)->m≠F.L->vp F env c g sv (.ref m,[]) s3
inductive vq(F:Fs)(env:aw)(c:Cf)(Dc xa C:Addr):Value->Shared->Prop
 |mk {s2:Shared} (so:Addr):FInv F env c s2->s2.heap.get? so=aa (ks_superObj Dc xa C)->vq F env c Dc xa C (.ref so) s2
section
variable{F:Fs}{A:aS}{T:aI}{C0:FCtx}{ev:Env}{env:aw}{c:Cf}{s s1:Shared}
theorem K4(X:Cx F A T C0 ev)(U:vo F.E ev cc Dc self)(G:T.glob.lookup ("super" :Str)=aa (.const (.type "super")))(top:(F.E.prog.main.scope.names.lookup ("super" :Str)).isSome=false)
  (V:FInv F env c s1) (hmL:s1.heap.Ns F.L mL) (hus':mL self=aa (.ref xa)) (hx:s1.heap.get? xa=aa ox) (hxc:ox.cls=.ref C) (hnc:∀c,ox.data≠.cls c) (hm:mroIn F.E.K C (.ref Dc)=aa true):
  _root_.PySem.wpAt F.E.M A (.func body ev) (pE (.Call (.Name "super" p0) [] [] p1) "__init__" ev whole) (vq F env c Dc xa C) aK s1:=by
 refine(let G1:=_;(?_:G1));obtain⟨a,of,fd,ar,cda,oc,vs,file,tf,u1,u2,u3,u4,u5,u6,u7,u8,u9,u10⟩:=U.fn
 have K1:=V.h.K
 refine cP V.top fun t1 t2 _=>?_
 refine ks_wpAt_super_base U.ks U.kc (by decide) u1 (K1 _ _ u2) u3 u4 u6 (K1 _ _ u7) u8 u9 u10 top ?_
 have nm:∀{K0:Value->Shared->Prop},K0 (.type "super") s1->am F.E.M A (loadName ev "super") K0 aK s1:=λ{K0} k=>by
  refine e12 (X.ok.tab.glob _ _ G) fun v rv' hu=>?_
  rw[rv'.const_inv.1] at hu
  refine ks_loadName_global U.kf U.ks ?_
  refine(let G:=_;(?_:G));rcases hu with hu |⟨hu0,hu⟩
  ·exact XF (by rw[X.env.glob];exact t1) hu k
  ·exact XE (by rw[X.env.glob];exact t1) hu0 (by rw[X.env.blt];exact t2) hu k
 refine nm ⟨rfl,?_⟩
 refine e31 U.cell fun cl1 cld csl hcell=>?_
 refine XS U.kf U.kc (c:=cc) U.cl (i12 _ (K1 _ _ hcell) rfl) ?_ (by decide)
 simp only[u5]
 refine HZ U.kf U.kl (by rw[X.env.loc];exact hmL) hus' ?_
 refine e22 U.cls fun cd oD d1 d2=>?_
 refine ks_wpAny_isType_cls (K1 _ _ d1) d2 ⟨rfl,?_⟩
 refine aT (iW (ks_wpAny_call_super (h:=s1.heap) (g:=s1.gens) (d:=s1.drawn) (t:=s1.toks) (os:=s1.os) (Q:=λov s2=>∃h2,ov=.ref s1.heap.objs.size/\s2={s1 with heap:=h2}/\h2.get? s1.heap.objs.size=aa (ks_superObj Dc xa C)/\∀y o,s1.heap.get? y=aa o->h2.get? y=aa o) (E:=aK) (K1 _ _ d1) d2 hx hxc hnc (looks_mroIn K1 hm) fun h2 e k=>(i14 h2 rfl rfl e k))) (λov s2 ⟨hz,h2,e1,e2,hso,k2⟩=>?_) bb
 refine eqR e1 ?_;subst e2
 exact⟨_,V.more k2 hz s1.toks,hso⟩
theorem K5(opq:iR F.E.K yQ "thirdparty.any" =aa none)(q5:l6 F.E.K C=aa cd)(q2:alongIn F.E.K "__init__" ((cd.mro.dropWhile (· != .ref Dc)).drop 1)=aa (aa (.ref g)))(hof:bN g F.E.K=aa of)(hofc:of.cls=.type "function")(ne:xa≠C)
  (rv:Rp F.E c sv (.ref xa)) (h:vq F env c Dc xa C ov s):am F.E.M A (jZ ov "__init__" pl) (vp F env c g sv) aK s:=by
 refine(let G:=_;(?_:G));obtain⟨so,V,hso⟩:=h
 have K2:=V.h.K
 refine ks_wpAny_getMethod_super (h:=s.heap) (g:=s.gens) (d:=s.drawn) (t:=s.toks) (os:=s.os) hso (looks_opaque K2 opq) (l₀:=cd.mro) (λA Q E s k q=>af ((looks_clsIn K2 q5) A _ E s k (aN q))) rfl K2 q2 (K2 _ _ hof) hofc ne (by decide) ?_
 refine(let G1:=_;(?_:G1));refine e12 V.ns fun mL hmL _=>?_
 exact⟨_,xa,V.more (λb o e=>cD _ e) (iV _ _) (s.toks+1),rv,Heap.get?_push_at rfl rfl,λk z=>by
  refine e11 (V.h.at z) fun y hy=>?_
  exact absurd (bM hy) (iP _),λz=>absurd hmL.lt (by rw[<-z];exact iP _)⟩
theorem K6(X:Cx F A T C1 ev)(hg:gX F.E.K g=true)(l2:cJ as=true)
  (h:iC T C1 199 as env c.σ fun vs σ=>eK T (.ref g) (sv::vs) [] σ P) (hm:vp F env c g sv fx s):
  am F.E.M A (callWith cp fx.1 fx.2 (cV cp (cN as ev)) (cG cp (cH [] ev))) (λ_ s'=>∃d r,Ext c d/\FInv F env d s'/\P r d.σ) aK s:=by
 refine(let G:=_;(?_:G));obtain⟨m,xa,V,rus,hq,hmk,hml⟩:=hm
 have V4:=V.re
 refine Hx (P:=MethP F.E.K m g (.ref xa)) (by rw[jI l2];exact nw.mpr ⟨by rw[yx];exact List.any_eq_false.mpr fun _ _=>pd,rfl⟩) (keeps_M hg) (uE l2 rfl ?_)
 refine aT ((ih 199 (X.re V)).es as cp env c _ _ l2 V4 h) (λvs2 s4 hp=>hp.casesOn fun d4 rs x4 W4 rr qq=>tz ?_) fun _ _ z=>z.elim
 have hq4:s4.heap.get? m=aa (methodObj (.ref g) (.ref xa)):=W4.kept _ _ hq fun z=>by
  rcases z with ⟨k,z⟩|z
  ·exact hmk k z
  ·exact hml z
 refine e12 (kx qq) fun S2 hS2 qq=>?_
 have hSC:=(X.ok.tab.fns g S2 hS2).2.1 hg
 refine⟨⟨hq4,W4.h.K⟩,nY (method_call hq4 (pH (Aq hSC (X.room.le (Hc _ _)) W4.h (.cons (Rp.ext rus x4) rr) .nil qq) fun r' s5 D=>?_))⟩
 refine(let G1:=_;(?_:G1));obtain⟨v,rfl,D⟩:=D
 exact(W4.after D).casesOn fun d5 r5 x5 W5 _ q5=>(i23 d5 r5 (x4.trans x5) (V.un W5) q5)
theorem K7(X:Cx F A T ⟨sc,[]⟩ ev)(U:vo F.E ev cc Dc self)(G:T.glob.lookup ("super" :Str)=aa (.const (.type "super")))(top:(F.E.prog.main.scope.names.lookup ("super" :Str)).isSome=false)
  (opq:iR F.E.K yQ "thirdparty.any" =aa none) (V:FInv F env c s1) (hsv:env.lookup self=aa sv) (hC:kb c.σ sv=aa C) (q1:mroIn F.E.K C (.ref Dc)=aa true) (q2:yY F.E.K C Dc "__init__" =aa (aa (.ref g))) (q3:nW F.E.K (.ref g)=aa (.type "function")) (q4:gX F.E.K g=true) (q5:l6 F.E.K C=aa cd)
  (l1:a7 ap.endLine cp.line=true) (l2:cJ as=true) (l3:dN as.length 20=true)
  (h:iC T ⟨sc,[]⟩ 199 as env c.σ fun vs σ=>eK T (.ref g) (sv::vs) [] σ fun _ σ=>oo T ⟨sc,[]⟩ rest env σ Q):
  _root_.PySem.wpAt F.E.M A (.func body ev) (fy (.Expr (.Call (.Attribute (.Call (.Name "super" p0) [] [] p1) "__init__" ap) as [] cp) sp::rest) ev) (PS F c (on Q)) aK s1:=by
 refine(let G1:=_;(?_:G1));refine e12 V.ns fun mL hmL hmE=>?_
 refine e12 (hmE self sv hsv) fun us' hus' rus=>?_
 refine ay hC fun j ej eD=>(mJ V.h rus ej).casesOn fun xa xd xes xn eu I _=>?_
 rw[eu] at hus' rus
 rw[ac eD] at I
 have hx:=I.1
 have ne:=ks_ne V.h.K I q5
 clear I
 have eE:eval (.Call (.Attribute (.Call (.Name "super" p0) [] [] p1) "__init__" ap) as [] cp) ev=(do
   let ov <-pE (.Call (.Name "super" p0) [] [] p1) "__init__" ev (eval (.Call (.Name "super" p0) [] [] p1) ev)
   standAt ap.atName
   nR (.Call (.Name "super" p0) [] [] p1) "__init__" ap cp ev ov (as.length+0) (cV cp (cN as ev)) (cG cp (cH [] ev))):=rfl
 refine ks_wpAt_execs_cons (ks_wpAt_Expr_any ?_ (by unfold yW;rw[U.kf];rfl) (by rfl))
 rw[eE]
 clear eE
 refine _root_.PySem.wpAt_bind (ks_wpAt_mono (E:=aK) (K4 X U G top V hmL hus' hx rfl (λc e=>nomatch e) q1) (λov s2 h2=>wpAt_of_wpAny (af (gZ (K3 (ks:=[]) l1 l2 rfl (by simpa using l3) fun pl=>?_)))) fun _ _ z=>z.elim)
 unfold yY at q2
 rw[q5] at q2
 have ht':(bN g F.E.K).map (·.cls)=aa (.type "function"):=q3
 refine(let G2:=_;(?_:G2));refine e12 (Option.map_eq_some_iff.mp ht') fun of hof hofc=>?_
 refine aT (K5 (cd:=cd) opq q5 q2 hof hofc ne rus h2) (λfx s3 hm=>aT (K6 (C1:=⟨sc,[]⟩) X q4 l2 h hm) (λ_ s5 hp=>?_) bb) bb
 refine(let G:=_;(?_:G));refine e23 hp fun d r x W q=>?_
 exact wpAt_of_wpAny (aT ((sh 200 X).ss rest env d s5 _ W q) (PS.lift x) bb)
end
theorem K8{K:Frag}(ff:oA K D fd)(h:D.names.head? =aa me):∃ar:Arg,(fd.params.posonlyargs++fd.params.args).head? =aa ar/\ar.arg=me:=by
 rw[ff.f7,sX]
 simp only[<-ff.f4,List.head?_map] at h
 exact Option.map_eq_some_iff.mp h
theorem K9{K:Frag}(h:l6 K Dc=aa cd):∃cd oD,bN Dc K=aa oD/\oD.data=.cls cd:=by
 unfold l6 at h
 refine(let G:=_;(?_:G));split at h
 ·rename_i c' d' cd' sl' ho
  exact(i22 _ _ ho rfl)
 ·exact aD h
theorem La{T:aI}(ff:oA E.K D fd)(f1:bN a E.K=aa ⟨cls,od,.func fd,sl⟩)(U:vm E T a D cc Dc sup)(hc:iF D=true)(hself:D.names.head? =aa me):
  vo E (nO fd L a) cc Dc me:=by
 refine(let G:=_;(?_:G));obtain⟨oc,od',sl',fd',cda,ccl,cdd,vs',ccs,file,tf,c1,c2,c3,c4,c5⟩:=U.code
 replace c1:=f1▸c1
 cases c1
 refine e11 U.cls fun cdD hcls=>?_
 have hkd:∀{x k},D.scope.names.lookup x=aa k->(nO fd L a).kindOf x=aa k:=λ{x k} e=>by
  show bN x fd.scope.names=_
  rw[ff.f3];exact e
 refine e12 (K8 ff hself) fun arg hp harg=>?_
 exact⟨hkd U.ns,hkd U.nc,hkd (Ba hc (List.mem_of_mem_head? hself)),ff.f14,by show bN _ fd.closure=_;rw[ff.f6,U.clo];rfl,
  ⟨a,_,fd,arg,cda,_,vs',file,tf,rfl,f1,rfl,hp,harg,c2,c3,rfl,c4,c5⟩,U.cell,K9 hcls⟩
theorem Lb{E:Env0}{T:aI}{a cc Dc:Addr}{D:FnD}{S:Spec}{sup:List (Addr×Addr)}{p0 p1 ap cp sp:Pos}{as:List Expr}{rest:List Stmt}(O:Ok E T)(hD:jK E.K a=aa D)(ok:D.ok=true)(hc:iF D=true)(hn:T.bud+1<=S.need)
  (hbody:D.body=.Expr (.Call (.Attribute (.Call (.Name "super" p0) [] [] p1) "__init__" ap) as [] cp) sp::rest) (hlin:(a7 ap.endLine cp.line&&cJ as&&dN as.length 20)=true) (U:vm E T a D cc Dc sup)
  (hS:∀vs kw σ Q,S.run vs kw σ Q->qO T D as rest sup vs kw σ Q):S.SoundC E (.ref a):=by
 intro A s c vs us kw ks Q R V rv rk h
 refine(let G:=_;(?_:G));refine e42 (qL hD ok) fun cls od sl fd f1 ff=>?_
 refine e12 (hE (hS _ _ _ _ h)) fun ds hds h=>?_
 refine e12 (hE h) fun env hb h=>?_
 refine e12 (hE h) fun self hself h=>?_
 refine e12 (hE h) fun sv hsv h=>?_
 refine e12 (hE h) fun C hC h=>?_
 refine e12 (hE h) fun g hg h=>?_
 have K:=V.K
 obtain⟨binds,B⟩:=vg K ff hc hds hb rv rk
 refine ks_codeAny_call_defAt (fd:=fd) (body:=D.body) (binds:=binds) (k7 (fw _ _) R.depth) (K _ _ f1) rfl (V.base.top _ V.keep).2.2 (yU K ff.f11) ff.f2 B.bind B.cell B.loc (λh0 hns keep=>?_) ff.f12 ff.f13 ff.f14
 have N:=B.ent (s.toks+binds.length) hns keep
 rw[hbody]
 simp only[bC,bC] at hlin
 refine(let G1:=_;(?_:G1));refine fN (U.sup C g hg) fun q1 q2 q3 q4 z7=>?_;refine e11 z7 fun cdC q5=>?_
 exact ks_wpAt_mono (K7 (N.cx V O (Room.deep (R.le hn)) (vj ff)) (La ff f1 U hc hself) U.glob U.top U.opq (N.inv V) hsv hC q1 q2 q3 q4 q5 hlin.1.1 hlin.1.2 hlin.2 h) (λf s' hp=>(i12 _ rfl (N.flow V (Ext.refl c) hp))) fun _ _ z=>z.elim
theorem Lc(C:Addr)(rest:List Value)(kw:List (Str×Value)):(nB "type.__call__" ⟨.ref C::rest,kw⟩).weight=1/\(nB "type.__call__" ⟨.ref C::rest,kw⟩).cUnits=1:=⟨by kernel_rfl,by kernel_rfl⟩
theorem Room.make(R:Room A (b+1)):Room (A.under (.builtin "type.__call__" ⟨.ref C::rest,kw⟩)) b:=by
 refine ax (Lc C rest kw) fun w1 w2=>?_
 refine⟨?_,?_,R.handled⟩
 ·have :=R.depth
  show A.depth+(nB "type.__call__" ⟨.ref C::rest,kw⟩).weight+b<_
  rw[w1];exact dx (f3 1 [(1,.p (.p v0 (.p v1 (.n 1))) (.n 1),v2)] (.p (.p (.p v0 (.n 1)) v1) (.n 1)) v2 rfl (a:=↑A.depth) (b:=↑b) (c:=↑pL) (dD this))
 ·have :=R.units
  show A.units+(nB "type.__call__" ⟨.ref C::rest,kw⟩).cUnits+20*b<_
  rw[w2];exact dx (f3 1 [(1,.p (.p v0 (.s 20 (.p v1 (.n 1)))) (.n 1),v2)] (.p (.p (.p v0 (.n 1)) (.s 20 v1)) (.n 1)) v2 rfl (a:=↑A.units) (b:=↑b) (c:=↑cLine) (dD this))
noncomputable def gc:Nat:=900
noncomputable def fD:Nat:=901
noncomputable def gM(σ:St)(k kd:Nat):St:=σ.filter fun p=>!(a7 p.1 k||a7 p.1 kd)
def oB(C:Addr)(fs:List (Str×AV)):AV:=(kg (fs.map (·.2))).elim (.obj C fs) fun ps=>.pv (.obj C ((fs.map (·.1)).zip ps))
def Ld(C:Addr)(Q:AV->St->Prop)(r:AV)(σ':St):Prop:=ag (mj r) fun _=>ag (qb σ' gc) fun i=>ag (qe σ' fD) fun fs=>
 gd (a7 i.1 C&&a7 i.2 fD&&fs.all (λf=>hJ (bF (gM σ' gc fD)) 9 f.2)&&(gM σ' gc fD).all fun p=>n8 (bF (gM σ' gc fD)) p.2) (Q (oB C fs) (gM σ' gc fD))
def kA(init:Spec)(C:Addr)(vs:List AV)(kw:List (Str×AV))(σ:St)(Q:AV->St->Prop):Prop:=
 gd (!(has (bF σ) gc||has (bF σ) fD)) (init.run (.loc gc::vs) kw (σ++[(fD,.attrs []),(gc,.inst C fD)]) (Ld C Q))
def qP(init:Spec)(C:Addr)(k kd:Nat)(vs:List AV)(kw:List (Str×AV))(σ:St)(Q:AV->St->Prop):Prop:=
 match has (bF σ) k||has (bF σ) kd||a7 k kd with
 |true=>False
 |false=>init.run (.loc k::vs) kw (σ++[(kd,.attrs []),(k,.inst C kd)]) fun r σ'=>match r with
  | .pv .none=>Q (.loc k) σ'
  |_=>False
theorem Bc(V:HInv E c h)(hk:has (bF c.σ) k=false)(hd:has (bF c.σ) kd=false)(hne:k≠kd):
  ∃c1:Cf,c1=(c.add kd h.objs.size (.attrs [])).add k (h.objs.size+1) (.inst C kd)/\HInv E c1 ((h.push gW).push (cW C h.objs.size))/\Ext c c1:=by
 have e1:aX c.σ kd=none:=mG fun m=>by replace hd:=(has_iff.mpr m)▸hd;exact bn hd.symm
 have e2:aX c.σ k=none:=mG fun m=>by replace hk:=(has_iff.mpr m)▸hk;exact bn hk.symm
 have V1:=V.add (x:=gW) (o:=.attrs []) e1 (i22 ([]) 0 (d9 _ rfl) .nil)
 have e3:aX (c.add kd h.objs.size (.attrs [])).σ k=none:=by
  show aX (c.σ++[(kd,.attrs [])]) k=none
  rw[lz e1,if_neg hne];exact e2
 have hz:(h.push gW).objs.size=h.objs.size+1:=gB ..
 have V2:=V1.add (x:=cW C h.objs.size) (o:=.inst C kd) e3 (i12 h.objs.size (by rw[Cf.add_ne _ _ _ (fh hne),Cf.add_self]) (d9 _ rfl))
 rw[hz] at V2
 exact(i13 _ rfl V2 ((Cf.add_ext V e1).trans (by rw[<-hz];exact Cf.add_ext V1 e3)))
section
variable{E:Env0}
theorem RepAF.split:∀{fs:List (Str×AV)} {es:List DictEntry},RepAF P I ρ fs es->∀{ps:List PV},kg (fs.map (·.2))=aa ps->All2 (λf e=>(∃t,e.key=.str f.1 t)/\RepP P I f.2 e.val) ((fs.map (·.1)).zip ps) es:=by
 intro v0
 induction v0 with
 |nil=>exact fun r _ h=>r.nil_el (ac h▸.nil)
 |cons f fs ih=>exact fun r _ h=>r.cons_el fun e es r1 r2=>ay h fun p e1 h=>ay h fun l e2 h=>ac h▸.cons ⟨r1.1,r1.2.pvx e1⟩ (ih r2 e2)
theorem Le(h1:c.I a=aa (cW C d))(h2:c.I d=aa (eS es n))(r:RepAF E.w.params c.I c.ρ fs es):Rp E c (oB C fs) (.ref a):=by
 unfold oB
 cases e:kg (fs.map (·.2)) with
 |some ps=>exact .pv (.obj h1 h2 (RepAF.split r e).1 (λi x p en e1 e2=>((RepAF.split r e).2 i (x,p) en e1 e2).1) fun i x p en e1 e2=>((RepAF.split r e).2 i (x,p) en e1 e2).2)
 |none=>exact .obj h1 h2 r.1 (λi x p e e1 e2=>(r.2 i (x,p) e e1 e2).1) fun i x p e e1 e2=>(r.2 i (x,p) e e1 e2).2
theorem vt:aX (gM σ k kd) j=if j=k\/j=kd then none else aX σ j:=by
 unfold gM
 induction σ with
 |nil=>skip;split <;> rfl
 |cons p σ ih=>
  rw[yA,gb]
  by_cases q:j=p.1
  ·subst q
   rw[if_pos rfl]
   by_cases z:p.1=k\/p.1=kd
   ·rw[if_pos z]
    have :(!(a7 p.1 k||a7 p.1 kd))=false:=by
     rcases z with z |z <;> rw[mC z] <;> simp
    rw[this,if_neg (by decide),ih,if_pos z]
   ·rw[if_neg z]
    have :(!(a7 p.1 k||a7 p.1 kd))=true:=by
     simp only[mD (λe=>z (.inl e)),mD (λe=>z (.inr e))];rfl
    rw[this,if_pos rfl,gb,if_pos rfl]
  ·rw[if_neg q]
   split
   ·rw[gb,if_neg q,ih]
   ·rw[ih]
theorem Lf(V:HInv E d h)(h1:aX d.σ k=aa (.inst C kd))(h2:aX d.σ kd=aa (.attrs fs))(hne:k≠kd)
  (ok1:fs.all (λf=>hJ (bF (gM d.σ k kd)) 9 f.2)=true) (ok2:(gM d.σ k kd).all (λp=>n8 (bF (gM d.σ k kd)) p.2)=true):
  ∃(a da:Addr) (e:Cf),d.ρ k=aa a/\d.ρ kd=aa da/\e.σ=gM d.σ k kd/\HInv E e h/\Rp E e (oB C fs) (.ref a)/\(∀b o,d.I b=aa o->e.I b=aa o)/\(∀b o,e.I b=aa o->d.I b=aa o\/b=a\/b=da)/\
   (∀j b,e.ρ j=aa b↔d.ρ j=aa b/\j≠k/\j≠kd):=by
 refine(let G:=_;(?_:G));refine e12 (V.st k _ h1) fun a ha z7=>?_;refine e12 z7 fun da hda' ho=>?_
 refine e12 (V.st kd _ h2) fun da' hda z8=>?_;refine e22 z8 fun es n hes rf=>?_
 replace hda:=hda'▸hda;have z0:=ac hda;subst z0
 have hadd:a≠da:=λq=>hne (V.inj k kd a ha (by rw[q];exact hda'))
 let e:Cf:={I:=((d.put a (cW C da)).put da (eS es n)).I,σ:=gM d.σ k kd,ρ:=λj=>if j=k\/j=kd then none else d.ρ j}
 have eI:∀b o,d.I b=aa o->e.I b=aa o:=λb o q=>by
  have b1:b≠a:=λz=>by rw[z,V.out k a ha] at q;exact aD q
  have b2:b≠da:=λz=>by rw[z,V.out kd da hda'] at q;exact aD q
  exact(Cf.put_ne _ _ b2).trans ((Cf.put_ne _ _ b1).trans q)
 have ea:e.I a=aa (cW C da):=(Cf.put_ne _ _ hadd).trans (Cf.put_self ..)
 have ed:e.I da=aa (eS es n):=Cf.put_self ..
 have eI':∀b o,e.I b=aa o->d.I b=aa o\/b=a\/b=da:=λb o q=>by
  by_cases b2:b=da
  ·exact .inr (.inr b2)
  ·by_cases b1:b=a
   ·exact .inr (.inl b1)
   ·have q:((d.put a (cW C da)).put da (eS es n)).I b=aa o:=q
    rw[Cf.put_ne _ _ b2,Cf.put_ne _ _ b1] at q
    exact .inl q
 have eρ:∀j b,e.ρ j=aa b↔d.ρ j=aa b/\j≠k/\j≠kd:=λj b=>by
  show(if j=k\/j=kd then none else d.ρ j)=aa b↔_
  split
  ·rename_i q
   exact⟨λz=>(by exact aD z),λz=>(q.elim z.2.1 z.2.2).elim⟩
  ·rename_i q
   exact⟨λz=>(bl z (λw=>q (.inl w)) (λw=>q (.inr w))),λz=>z.1⟩
 have g:∀j b,has (bF (gM d.σ k kd)) j=true->d.ρ j=aa b->e.ρ j=aa b:=λj b q z=>by
  refine(let G1:=_;(?_:G1));refine e11 (stGet_keys.mpr (has_iff.mp q)) fun o ho=>?_
  rw[vt] at ho
  split at ho
  ·exact aD ho
  ·rename_i w
   exact(eρ j b).mpr (bl z (λw'=>w (.inl w')) (λw'=>w (.inr w')))
 have H:HInv E e h:=by
  refine⟨V.base.mono eI,λb o q=>?_,λj o q=>?_,λj b q=>?_,λj b q=>?_,λi j b q q'=>V.inj i j b ((eρ i b).mp q).1 ((eρ j b).mp q').1⟩
  ·rcases eI' b o q with z |z |z
   ·exact V.keep b o z
   ·refine(let G2:=_;(?_:G2));refine(let G3:=_;(?_:G3));clear G2;subst z;replace q:=ea▸q;have z4:=ac q;subst z4;exact ho
   ·subst z;replace q:=ed▸q;have z5:=ac q;refine eqL z5 ?_;exact hes
  ·have q0:aX (gM d.σ k kd) j=aa o:=q
   rw[vt] at q
   split at q
   ·exact aD q
   ·rename_i w
    refine e12 (V.st j o q) fun b hb r=>?_
    refine(i12 b ((eρ j b).mpr (bl hb (λw'=>w (.inl w')) (λw'=>w (.inr w')))) (?_))
    exact(ObjAt.mono eI (λ_ _ e=>e) rfl r).cut g (du.mp ok2 _ (ut q0))
  ·refine cP ((eρ j b).mp q) fun z1 z2 z3=>?_
   obtain⟨o,ho⟩:=V.dom j b z1
   refine⟨o,?_⟩
   skip
   rw[vt,if_neg (λz=>z.elim z2 z3)];exact ho
  ·refine cP ((eρ j b).mp q) fun z1 z2 z3=>?_
   cases w:e.I b with
   |none=>rfl
   |some o=>
    rcases eI' b o w with z |z |z
    ·replace z:=(V.out j b z1)▸z;exact aD z
    ·exact absurd (V.inj j k b z1 (z▸ha)) z2
    ·exact absurd (V.inj j kd b z1 (z▸hda')) z3
 refine(i38 a da e ha hda' rfl H (Le ea ed ⟨rf.1,λi f x q1 q2=>⟨(rf.2 i f x q1 q2).1,?_⟩⟩) eI eI' eρ)
 exact RepA.mono eI (λ_ _ e=>e) ((rf.2 i f x q1 q2).2) |>.cut g (du.mp ok1 _ (pr q1))
theorem KwRep.ext(x:Ext c d)(r:KwRep E c kw ks):KwRep E d kw ks:=⟨r.1,λi a b e f=>⟨(r.2 i a b e f).1,(r.2 i a b e f).2.ext x⟩⟩
theorem Lg{C fI:Addr}{init S:Spec}(hm:makesIn E.K C=true)(hi:jY E.K (.ref C) "__init__" =aa (aa (.ref fI)))(hf:nW E.K (.ref fI)=aa (.type "function"))(hI:init.SoundC E (.ref fI))(hn:init.need+1<=S.need)
  (hS:∀vs kw σ Q,S.run vs kw σ Q->kA init C vs kw σ Q):S.SoundC E (.ref C):=by
 intro A s c vs us kw ks Q R V rv rk h
 refine bH (hS _ _ _ _ h) fun hk h=>?_
 have hkeys:=nt hk
 rw[nw] at hkeys
 refine e13 (Bc V (C:=C) hkeys.1 hkeys.2 (by decide)) fun c1 e1 V1 x1=>?_
 obtain⟨hh,g,dr,t,os⟩:=s
 have e2:c1.σ=c.σ++[(fD,.attrs []),(gc,.inst C fD)]:=by
  rw[e1]
  show(c.σ++[(fD,.attrs [])])++[(gc,.inst C fD)]=_
  rw[dS];rfl
 simp only[<-e2] at h
 have kρ:c1.ρ gc=aa (hh.objs.size+1):=by simp only[e1];exact Cf.add_self ..
 have dρ:c1.ρ fD=aa hh.objs.size:=by rw[e1,Cf.add_ne _ _ _ (by decide)];exact Cf.add_self ..
 have jρ:∀j b,j≠gc->j≠fD->c1.ρ j=aa b->c.ρ j=aa b:=λj b n1 n2 q=>by rw[e1,Cf.add_ne _ _ _ n1,Cf.add_ne _ _ _ n2] at q;exact q
 have hz:((hh.push gW).push (cW C hh.objs.size)).objs.size=hh.objs.size+2:=by rw[gB,gB]
 refine make_core (makes_of V.K hm) (HK V.K hi) (λself=>bind_fn V.K self hf) (.inl rfl) ?_
 refine pH (hI _ ⟨_,g,dr,t,os⟩ c1 (.loc gc::vs) (.ref (hh.objs.size+1)::us) kw ks _ (Room.make (R.le hn)) V1 (.cons (.loc kρ) (rv.ext x1)) (rk.ext x1) h) fun r s' D=>?_
 obtain⟨v,rfl,D⟩:=D
 obtain⟨d,r,x,W,rr,q,hsz,kept,hρ,hI',rest⟩:=D
 refine aq q fun _ en q=>aq q fun i g1 q=>aq q fun fs g2 q=>bH q fun hb q=>?_
 replace hb:=b4 hb
 have ev:v=.none:=rr.non_at en rfl
 subst ev
 have g1:=tL g1
 have g2:=tM g2
 rw[ce hb.1.1.1,ce hb.1.1.2] at g1
 have b3:=hb.1.2
 have b4:=hb.2
 refine e38 (Lf W g1 g2 (by decide) b3 b4) fun a da e ha hda eσ We rf eI eI' eρ=>?_
 have ha':a=hh.objs.size+1:=by have :=x.ρ _ _ kρ;replace this:=ha▸this;exact ac this
 have hda':da=hh.objs.size:=by have :=x.ρ _ _ dρ;rw[hda] at this;exact ac this
 subst ha' hda'
 have inc:∀j b,c.ρ j=aa b->j≠gc/\j≠fD:=λj b q=>by
  have m:=stGet_keys.mp (V.dom j b q)
  exact⟨λz=>(by rw[z] at m;have h1:=has_iff.mpr m;replace h1:=hkeys.1▸h1;exact bn h1),λz=>(by rw[z] at m;have h1:=has_iff.mpr m;replace h1:=hkeys.2▸h1;exact bn h1)⟩
 refine⟨rfl,_,rfl,e,oB C fs,⟨λb o q=>eI b o (x.I b o (x1.I b o q)),λj b q=>(eρ j b).mpr ⟨x.ρ j b (x1.ρ j b q),inc j b q⟩⟩,We,rf,by simp only[eσ];exact q,?_,λb o q n=>?_,λj b q=>?_,λb o q=>?_,rest⟩
 ·have :((hh.push gW).push (cW C hh.objs.size)).objs.size<=s'.heap.objs.size:=hsz
  rw[hz] at this
  exact bT (fw _ _) this
 ·refine kept b o (cD _ (cD _ q)) fun j z=>?_
  by_cases n1:j=gc
  ·subst n1;replace z:=kρ▸z;have z0:=ac z;subst z0;exact absurd (bM q) (Nat.not_lt.mpr (jm _))
  ·by_cases n2:j=fD
   ·subst n2;replace z:=dρ▸z;cases z;exact absurd (bM q) (iP _)
   ·exact n j (jρ j b n1 n2 z)
 ·obtain⟨z1,z2,z3⟩:=(eρ j b).mp q
  rcases hρ j b z1 with z |z
  ·exact .inl (jρ j b z2 z3 z)
  ·refine .inr ?_
   have z:((hh.push gW).push (cW C hh.objs.size)).objs.size<=b:=z
   rw[hz] at z
   exact bT (fw _ _) z
 ·rcases eI' b o q with z |z |z
  ·rcases hI' b o z with w |w
   ·refine .inl ?_
    rw[e1] at w
    exact w
   ·refine .inr ?_
    have w:((hh.push gW).push (cW C hh.objs.size)).objs.size<=b:=w
    rw[hz] at w
    exact bT (fw _ _) w
  ·subst z;exact .inr (jm _)
  ·subst z;exact .inr (c8 _)
end
noncomputable def mO:Code->Bool
 | .builtin id _=>!bV.Bytes.decodersThatHold.contains id
 |_=>true
noncomputable def vw(Γ:Ctx):Prop:=∀x∈Γ.below,mO x.1=true
def vx(Γ:Ctx):Prop:=mO Γ.code=true/\vw Γ
def aG{α:Type}(M:Model)(A:aS)(t:cy α)(Q:α->Shared->Prop)(s:Shared):Prop:=
 ∀Γ p,Γ.In A->vx Γ->yL M Γ t (λa _ s'=>Q a s') (λ_ _ _=>False) p s
def dI(M:Model)(A:aS)(c:Code)(R:kY->Shared->Prop)(s:Shared):Prop:=
 ∀Γ p,Γ.code=c->Γ.Below A->vw Γ->wpCode M Γ (λr s'=>∃f,r=.ok f/\R f s') p s
noncomputable def oC(a:Addr):Code×Pos->Bool:=λx=>match x with
  |(.builtin "bytearray.__contains__" ⟨v::_,_⟩,_)|(.builtin "bytearray.__mod__" ⟨v::_,_⟩,_)
  |(.builtin "bytearray.__rmod__" ⟨_::v::_,_⟩,_)|(.builtin "_struct.pack_into.held" ⟨v::_,_⟩,_)=>pe v (.ref a)
  |(.builtin "bytearray.find.held" ⟨_::_::held,_⟩,_)=>held.any (pe (.ref a))
  |(.builtin id ⟨v::_,_⟩,_)=>pe v (.ref a)&&bV.Bytes.decodersThatHold.contains id
  |_=>false
theorem Lh{id:String}(g:guardIds.contains id=false)(h:bV.Bytes.decodersThatHold.contains id=false):oC a (.builtin id ⟨ps,kw⟩,p)=false:=by
 have n:∀{s:String},guardIds.contains s=true->¬id=s:=λk e=>bn (g.symm.trans (e▸k))
 set_option smartUnfolding false in refine(dif_neg (n (s:="bytearray.__contains__") (by decide))).trans ?_
 set_option smartUnfolding false in refine(dif_neg (n (s:="bytearray.__mod__") (by decide))).trans ?_
 set_option smartUnfolding false in refine(dif_neg (n (s:="bytearray.__rmod__") (by decide))).trans ?_
 set_option smartUnfolding false in refine(dif_neg (n (s:="_struct.pack_into.held") (by decide))).trans ?_
 set_option smartUnfolding false in refine(dif_neg (n (s:="bytearray.find.held") (by decide))).trans ?_
 cases ps with
 |nil=>rfl
 |cons v r=>exact(congrArg (pe v (.ref a)&&·) h).trans (Gn _)
theorem Li(h1:mO c=true)(h2:c.isGuard=false):oC a (c,p)=false:=by
 cases c with
 |builtin id as=>exact Lh h2 (by cases q:bV.Bytes.decodersThatHold.contains id with
  |false=>rfl
  |true=>exact bn (((congrArg (!·) q).symm.trans h1)))
 |_=>rfl
namespace X
variable{α β:Type}{M:Model}{A:aS}{s:Shared}
theorem up(h:am M A t Q aK s):aG M A t Q s:=λΓ p hΓ _=>h Γ p hΓ
theorem mono(h:aG M A t Q s)(hQ:∀a s,Q a s->Q' a s):aG M A t Q' s:=
 fun Γ p hΓ hc=>nJ M Γ t (λa _ s=>hQ a s) (λ_ _ _ h=>h) p s (h Γ p hΓ hc)
theorem pure(h:Q a s):aG M A (gD a) Q s:=λ_ _ _ _=>h
theorem bind(h:aG M A m (λa s'=>aG M A (f a) Q s') s):aG M A (m >>=f) Q s:=λΓ p hΓ hc=>by
 simp only[cy.wp_bind']
 exact nJ M Γ m (λa p' s' h'=>h' Γ p' hΓ hc) (λ_ _ _ h'=>h') p s (h Γ p hΓ hc)
theorem holding(h:aG M A m Q s):aG M A (pC vs m) Q s:=λΓ p hΓ hc=>by simp only[cy.wp_holding];exact h Γ p hΓ hc
theorem keep(h:aG M A m Q s):aG M A (m.keep vs) Q s:=λΓ p hΓ hc=>by simp only[cy.wp_keep];exact h Γ p hΓ hc
theorem onRaise(h:aG M A m Q s):aG M A (m.onRaise k) Q s:=λΓ p hΓ hc=>by
 simp only[cy.wp_onRaise]
 exact nJ M Γ m (λ_ _ _ h'=>h') (λe p' s' h'=>h'.elim) p s (h Γ p hΓ hc)
theorem attempt{m:cy α}{Q:Except Value α->Shared->Prop}(h:aG M A m (λa=>Q (.ok a)) s):aG M A m.attempt Q s:=λΓ p hΓ hc=>by
 simp only[cy.wp_attempt]
 exact nJ M Γ m (λ_ _ _ h'=>h') (λ_ _ _ h'=>h'.elim) p s (h Γ p hΓ hc)
theorem grow(h:aG M A t Q s):aG M A t (λa s'=>hsz s<=hsz s'/\Q a s') s:=λΓ p hΓ hc=>by
 have :=zm M Γ (hsz s) t _ _ p s (c8 _) (h Γ p hΓ hc)
 exact nJ M Γ t (λ_ _ _ h=>h) (λ_ _ _ h=>h.2) p s this
theorem standAt(h:aG M A (k ()) Q s):aG M A (Xs pos >>=k) Q s:=bind (up (gZ h))
theorem Bd(hc:vx Γ):vw (Γ.enter c h p):=λx m=>by
 rcases cT.mp m with rfl |m
 ·exact hc.1
 ·exact hc.2 x m
theorem run(h:dI M A c Q s):aG M A (PySem.run c none) Q s:=λΓ p hΓ hc=>by
 rw[cy.wp_run]
 have hΓ':=hΓ.enter c none p (by intro x;exact aD x)
 refine wpCode_mono (λr s' z0=>e12 z0 fun f e q=>?_) (h _ p rfl hΓ' (Bd hc))
 clear z0;refine eqR e ?_;exact q
theorem runValue(h:dI M A c (λf s'=>∃v,f=.ret v/\Q v s') s):aG M A (PySem.runValue c) Q s:=λΓ p hΓ hc=>by
 rw[cy.wp_runValue]
 have hΓ':=hΓ.enter c none p (by intro x;exact aD x)
 refine wpCode_mono (λr s' ⟨f,e,v,e',q⟩=>?_) (h _ p rfl hΓ' (Bd hc))
 refine eqR e ?_;refine eqR e' ?_;exact q
theorem call(h:dI M A (.call f ⟨pos,kw⟩) (λf s'=>∃v,f=.ret v/\Q v s') s):aG M A (bO f pos kw) Q s:=runValue h
theorem tree(hcalm:mO c=true)
  (h:aG M (A.under c) (M.den c) (λfin s'=>match fin with | .done f=>R f s' | .again c'=>c'.quiet=true/\dI M A c' R s') s):dI M A c R s:=λΓ p hc hΓ hb=>by
 rw[wpCode_iff_wp,hc]
 refine nJ M Γ _ (λfin p' s' h'=>?_) (λ_ _ _ h'=>h'.elim) p s (h Γ p (hc▸hΓ.in) ⟨by rw[hc];exact hcalm,hb⟩)
 cases fin with
 |done f=>exact(i12 f rfl h')
 |again c'=>exact⟨h'.1,h'.2 (Γ.goto c') p' rfl (hΓ.goto c') hb⟩
theorem Lj(hcalm:mO c=true)(hq:c.quiet=true)(I:Nat->Shared->Prop)
  (turn:∀n s,I n s->aG M (A.under c) (M.den c) (λfin s'=>match fin with | .done f=>R f s' | .again c'=>(c'=c/\∃m,m<n/\I m s')\/(c'.quiet=true/\dI M A c' R s')) s)
  (n:Nat) (h:I n s):dI M A c R s:=by
 induction n using Nat.strongRecOn generalizing s with
 |ind n ih=>
  refine tree hcalm (mono (turn n s h) fun fin s' hf=>?_)
  refine(let G:=_;(?_:G));clear hcalm;clear turn;cases fin with
  |done f=>exact hf
  |again c'=>
   rcases hf with ⟨rfl,m,hm,hI⟩|hf
   ·exact⟨hq,ih m hm hI⟩
   ·exact hf
theorem exported(hg:A.guards=aa [])(h:Q false s):aG M A (XZ (.ref a)) Q s:=λΓ p hΓ hc=>by
 have hgs:Γ.code.guards++guardsOf Γ.below=[]:=hΓ.2.2.2.1 [] hg
 have key:∀x∈(Γ.code,p)::Γ.below,mO x.1=true/\x.1.isGuard=false:=λx m=>by
  have hmem:x.1∉guardsOf ((Γ.code,p)::Γ.below):=by simp only[guardsOf_cons,hgs];exact fu
  refine⟨?_,?_⟩
  ·rcases cT.mp m with rfl |m
   ·exact hc.1
   ·exact hc.2 x m
  ·cases q:x.1.isGuard with
   |false=>rfl
   |true=>exact absurd (GY.mpr ⟨pq m,q⟩) hmem
 have e:((Γ.code,p)::Γ.below).any (oC a)=false:=List.any_eq_false.mpr fun x m=>by rw[show oC a x=false from Li (key x m).1 (key x m).2];exact pd
 show Q (((Γ.code,p)::Γ.below).any (oC a)) s
 exact e.symm▸h
end X
namespace X
section
variable{M:Model}{A:aS}{s:Shared}{env:Env}
theorem spliced_cons(h:aG M A x (λv s₁=>aG M A (jt rest) (λvs s₂=>Q (v::vs) s₂) s₁) s):aG M A (jt ((false,x)::rest)) Q s:=by
 skip
 refine bind (mono h fun v s₁ h₁=>?_)
 exact bind (pure (bind (holding (mono h₁ fun vs s₂ h₂=>pure h₂))))
theorem evalArgs(hs:cJ es=true)(hk:fB ks=true)
  (h:aG M A (jt (cV pos (cN es env))) (λvs s₁=>aG M A (l8 ((cG pos (cH ks env)).map (·.2))) (λkv s₂=>Q ⟨vs,(i5 ks).zip kv⟩ s₂) s₁) s):
  aG M A (Xq f true (cV pos (cN es env)) (cG pos (cH ks env))) Q s:=by
 refine ax (mK (env:=env) (pos:=pos) hk) fun k1 k2=>?_
 have fin:∀vs s₁,aG M A (l8 ((cG pos (cH ks env)).map (·.2))) (λkv s₂=>Q ⟨vs,(i5 ks).zip kv⟩ s₂) s₁->aG M A (pC (vs++(none:Option Value).toList) (do
   if(cG pos (cH ks env)).all (·.1.isSome) then
    let kw:=((cG pos (cH ks env)).filterMap (·.1)).zip (<-l8 ((cG pos (cH ks env)).map (·.2)))
    return⟨<-gD vs,kw⟩
   let d <-mergedKeywords f (cG pos (cH ks env))
   let pos <-gD vs
   return⟨pos,<-pC (.ref d::pos) (keywordsIn f d)⟩)) Q s₁:=λvs s₁ h₁=>by
  refine holding ?_
  rw[k2,k1]
  simp only[if_true]
  exact bind (mono h₁ fun kv s₂ h₂=>bind (pure (pure h₂)))
 rw[jI hs] at h ⊢
 unfold Xq
 clear hs;cases es with
 |nil=>
  skip
  exact bind (mono h fun vs s₁ h₁=>bind (pure (fin vs s₁ h₁)))
 |cons a r=>
  skip
  exact bind (mono h fun vs s₁ h₁=>bind (pure (fin vs s₁ h₁)))
theorem callWith{P:Heap->Prop}{f:Value}{first:List Value}{pos:Pos}{es:List Expr}{ks:List il}{Q:Value->Shared->Prop}(hs:cJ es=true)(hk:fB ks=true)
  (hp:∀h,P h->∃k,(k=WM\/k=WN\/k=WL)/\iO M h (keeperOf f) k)
  (h:aG M A (jt (cV pos (cN es env))) (λvs s₁=>aG M A (l8 ((cG pos (cH ks env)).map (·.2))) (λkv s₂=>P s₂.heap/\aG M A (bO f (first++vs) ((i5 ks).zip kv)) Q s₂) s₁) s):
  aG M A (te pos f first (cV pos (cN es env)) (cG pos (cH ks env))) Q s:=by
 have hplain:((cV pos (cN es env)).any (·.1)||(cG pos (cH ks env)).any (·.1.isNone))=false:=by
  rw[jI hs,nw]
  refine⟨?_,?_⟩
  ·rw[yx]
   exact List.any_eq_false.mpr fun _ _=>pd
  ·have :=(mK (env:=env) (pos:=pos) hk).2
   rw[du] at this
   refine List.any_eq_false.mpr fun x m=>?_
   have :=this x m
   simpa[yJ,Xk] using this
 unfold te
 refine bind (holding (mono (evalArgs (Q:=λa s₁=>P s₁.heap/\aG M A (bO f (first++a.pos) a.kw) Q s₁) hs hk h) fun a s₁ h₁=>standAt ?_))
 refine e12 (hp _ h₁.1) fun k hk' L=>?_
 simp only[hplain]
 refine bind (up (L.here ?_))
 have tail:∀{t:cy Value},aG M A t Q s₁->aG M A (t >>=λr=>pC [r] point >>=λ_=>gD r) Q s₁:=
  fun ht=>bind (mono ht fun r s₂ hr=>bind (holding (up (y9 (show aG M A (gD r) Q s₂ from pure hr)))))
 have marked (mk:Value):aG M A (callMarked mk f (first++a.pos) a.kw) Q s₁:=by unfold callMarked;exact keep h₁.2
 clear L;rcases hk' with rfl |rfl |rfl <;> dsimp only <;> first |exact tail h₁.2 |(split <;> first |exact tail h₁.2 |exact tail (marked _))
theorem execs_cons{st:Stmt}(h:aG M A (exec st env) (λf s'=>match f with | .next=>aG M A (fy rest env) Q s' |f=>Q f s') s):aG M A (fy (st::rest) env) Q s:=by
 rw[PySem.execs_cons]
 refine bind (mono h fun f s' h'=>?_)
 cases f with
 |next=>exact h'
 |brk=>exact pure h'
 |cont=>exact pure h'
 |ret v=>exact pure h'
theorem If(h:aG M A (isTrue t env (eval t env)) (λk s₁=>if k then aG M A (fy b env) Q s₁ else aG M A (fy o env) Q s₁) s):aG M A (exec (.If t b o pos) env) Q s:=by
 simp only[exec_If]
 refine standAt (bind (mono h fun k s₁ h₁=>?_))
 cases k with
 |true=>exact h₁
 |false=>exact h₁
theorem Ret(h:aG M A (eval e env) (λv=>Q (.ret v)) s):aG M A (exec (.Return (aa e) pos) env) Q s:=by
 simp only[exec_Return_some]
 exact standAt (bind (mono h fun v s' h'=>pure h'))
theorem AssignName(h:aG M A (eval e env) (λv s₁=>aG M A (storeName env x v) (λ_=>Q .next) s₁) s)(hs:pO e (aa (.Name x px)) pos.line env=gD false):
  aG M A (exec (.Assign [.Name x px] e pos) env) Q s:=by
 rw[exec_Assign_Name env x px e pos hs]
 refine standAt (bind (mono h fun v s₁ h₁=>standAt (bind ?_)))
 unfold bindName
 exact bind (holding (up (y9 (bind (mono h₁ fun _ s₂ h₂=>up (y9 (pure h₂)))))))
theorem AssignAttr(h:aG M A (eval e env) (λv s₁=>aG M A (eval o env) (λov s₂=>aG M A (y0 ov x v) (λ_=>Q .next) s₂) s₁) s)
  (hs:pO e (aa (.Attribute o x ap)) pos.line env=gD false):aG M A (exec (.Assign [.Attribute o x ap] e pos) env) Q s:=by
 rw[plainObj_exec_Assign_Attribute o x ap e pos hs]
 refine standAt (bind (mono h fun v s₁ h₁=>bind ?_))
 simp only[assign_Attribute]
 exact bind (holding (mono h₁ fun ov s₂ h₂=>standAt (bind (holding (mono h₂ fun _ s₃ h₃=>up (H5 (pure h₃)))))))
theorem AssignSub(h:aG M A (eval e env) (λv s₁=>aG M A (eval o env) (λov s₂=>aG M A (eval i env) (λiv s₃=>aG M A (nU ov iv v) (λ_=>Q .next) s₃) s₂) s₁) s)
  (hs:pO e (aa (.Subscript o i ap)) pos.line env=gD false):aG M A (exec (.Assign [.Subscript o i ap] e pos) env) Q s:=by
 rw[exec_Assign_Subscript o i ap e pos hs]
 refine standAt (bind (mono h fun v s₁ h₁=>bind ?_))
 rw[assign_Subscript]
 exact bind (holding (mono h₁ fun ov s₂ h₂=>bind (holding (mono h₂ fun iv s₃ h₃=>standAt (bind (holding (mono h₃ fun _ s₄ h₄=>up (H5 (pure h₄)))))))))
theorem runOwn(h:dI M A c Q s):aG M A (Xr c env none) Q s:=by
 unfold Xr
 exact onRaise (run h)
theorem ExprS(h:aG (aH prog w) A (eval e env) (λ_=>Q .next) s)(hi:yW env=false)(hs:pO e none pos.line env=gD false):
  aG (aH prog w) A (exec (.Expr e pos) env) Q s:=by
 rw[exec_Expr env e pos hi hs]
 exact standAt (bind (mono h fun v s' h'=>up (wpAny_dropValue h')))
end
section
variable{prog:Program}{w:bD}{A:aS}{s:Shared}{env:Env}
theorem block(h:aG (aH prog w) A (fy body env) Q s):dI (aH prog w) A (.block body env) Q s:=by
 refine tree rfl ?_
 skip
 exact bind (onRaise (mono h fun f s' h'=>pure h'))
theorem TryF(h:aG (aH prog w) A (fy b env) (λf s₁=>f=.next/\aG (aH prog w) A (fy (f0::fr) env) (λg s₂=>g=.next/\Q .next s₂) s₁) s):
  aG (aH prog w) A (exec (.Try b [] [] (f0::fr) pos) env) Q s:=by
 simp only[arm_exec_Try]
 refine standAt ?_
 unfold tryStmt
 simp only[List.isEmpty_nil,if_true,List.isEmpty_cons,sE,if_false]
 refine bind (attempt (bind (attempt (mono h fun f s₁ h₁=>?_))))
 obtain⟨rfl,h₁⟩:=h₁
 refine up (tA ?_)
 refine bind (holding (runOwn (block (mono h₁ fun g s₂ h₂=>?_))))
 obtain⟨rfl,h₂⟩:=h₂
 exact pure h₂
theorem forLoop(I:Nat->Shared->Prop)
  (turn:∀n s,I n s->aG (aH prog w) A (j0 it) (λr s₁=>match r with
   |none=>R .next s₁
   |some v=>aG (aH prog w) A (pJ t it v) (λ_ s₁'=>
     aG (aH prog w) A (k9 t env v) (λ_ s₂=>aG (aH prog w) A (fy body env) (λf s₃=>match f with
      | .next | .cont=>∃m,m<n/\I m s₃
      | .brk=>R .next s₃
      | .ret v=>R (.ret v) s₃) s₂) s₁') s₁) s)
  (n:Nat) (h:I n s):dI (aH prog w) A (.forLoop t it body [] env) R s:=by
 refine Lj rfl rfl I (λn s hI=>?_) n h
 show aG _ A ((forTurn t it body [] env).onRaise (λx=>do noteFrame x env;theTreesLotGoes x)) _ s
 refine onRaise ?_
 simp only[forTurn]
 refine standAt (bind (onRaise (mono (turn n s hI) fun r s₁ h₁=>?_)))
 cases r with
 |none=>exact pure (.inr ⟨rfl,block (up (tA h₁))⟩)
 |some v=>
  refine bind (mono h₁ fun _ s₁' h₁'=>bind (mono h₁' fun _ s₂ h₂=>bind (mono h₂ fun f s₃ h₃=>?_)))
  cases f with
  |next=>exact pure (.inl ⟨rfl,h₃⟩)
  |cont=>exact pure (.inl ⟨rfl,h₃⟩)
  |brk=>exact pure h₃
  |ret v=>exact pure h₃
theorem For(h:aG (aH prog w) A (eval it env) (λx s₁=>aG (aH prog w) A (iw x) (λi s₂=>dI (aH prog w) A (.forLoop t i body [] env) Q s₂) s₁) s)
  (hs:∀x,XC it env x=gD x):aG (aH prog w) A (exec (.For t it body [] pos) env) Q s:=by
 simp only[exec_For]
 refine standAt (bind (mono h fun x s₁ h₁=>?_))
 rw[hs x]
 exact bind (pure (standAt (bind (holding (mono h₁ fun i s₂ h₂=>runOwn h₂)))))
theorem func(h:aG (aH prog w) (A.deeper env) (fy body env) (λf s'=>R (.ret (match f with | .ret v=>v |_=>.none)) s') s):dI (aH prog w) A (.func body env) R s:=by
 refine tree rfl ?_
 skip
 refine bind (up (y9 (bind (onRaise (mono h fun f s' h'=>?_)))))
 cases f <;> exact pure h'
theorem callDef(hroom:A.depth<pL)(ho:s.heap.get? a=aa o)(hdata:o.data=.func fd)(hlim:s.heap.NoLimit)
  (hcd:s.heap.CodeRec fd.code fd.qualname) (hbody:fd.body=.stmts body) (hbind:BindsTo s fd args binds) (hcell:∀x∈fd.scope.names,x.2≠.cell) (hloc:∀x∈binds,fd.scope.names.lookup x.1=aa .local)
  (h:∀h₀,h₀.Ns s.heap.objs.size (λx=>binds.reverse.lookup x)->(∀b o,s.heap.get? b=aa o->h₀.get? b=aa o)->
   aG (aH prog w) (A.deeper (nO fd s.heap.objs.size a)) (fy body (nO fd s.heap.objs.size a)) (λf s'=>R (.ret (match f with | .ret v=>v |_=>.none)) s') {s with heap:=h₀,toks:=s.toks+binds.length})
  (hco:fd.scope.isCoroutine=false) (hgen:fd.scope.isGenerator=false) (hk:fd.scope.kind=.function):dI (aH prog w) A (.call (.ref a) args) R s:=by
 refine tree rfl ?_
 show aG _ A.in1 (yR (.ref a) args) _ s
 simp only[yR]
 refine bind (up (gk ho ?_))
 refine e44 hcd fun c oc vs tq hc hoc hdc hq=>?_
 simp only[hdata,callFunction,hco,hgen,hbody,hc]
 have hc0:=hc
 refine bind (up (gY hoc hdc hq ?_))
 refine bind (pure ?_)
 refine bind (up (hbind _ _ _ _ ?_))
 refine bind (up (XU hcell hloc (λh₀ hns₀ hsb₀=>?_) hk))
 refine bind (up (wpAny_enterFrame (hlim.fresh _ hsb₀) hroom ?_))
 refine pure ⟨rfl,?_⟩
 have :=h h₀ hns₀ fun b o e=>hsb₀.extBut b o (fJ (bM e)) (cD _ e)
 unfold nO at this
 rw[hc] at this
 exact func this
end
end X
noncomputable def Be(T:aI)(C:FCtx)(n:Nat):List (Option Expr)->List Expr->aw->St->(List (Int×Value)->St->Prop)->Prop:=iN (λvs _ σ Q=>gd (cm vs) (Q [] σ)) fun k _ ih vs env σ Q=>ag k fun k=>ag (dF vs) fun v=>
 aR T C n k env σ fun kv σ=>aR T C n v.1 env σ fun vv σ=>ag (dy kv) fun i=>ag (bP gH vv) fun c=>ih v.2 env σ fun r σ=>Q ((i,c)::r) σ
def Lk(kvs:List (Int×Value))(Q:AV->St->Prop)(i:AV)(σ:St):Prop:=ag (dy i) fun i=>cu (valueAt (merged [] kvs) i) (λc=>gd (fY c) (Q (.pv (.const c)) σ)) (Q (.pv .none) σ)
def vy(T:aI)(C:FCtx)(n:Nat)(ks:List (Option Expr))(vs:List Expr)(a:Expr)(env:aw)(σ:St)(Q:AV->St->Prop):Prop:=
 gd (ks.all (·.isSome)&&a7 ks.length vs.length&&!ks.isEmpty&&dN ks.length 15) (Be T C n ks vs env σ fun kvs σ=>aR T C n a env σ (Lk kvs Q))
section
variable{F:Fs}{A:aS}{T:aI}{C:FCtx}{ev:Env}{env:aw}{c:Cf}{s:Shared}{n:Nat}
theorem Ll(I:IH F A T C ev n):∀{ks:List (Option Expr)} {vs:List Expr} {c:Cf} {s:Shared} {Q:List (Int×Value)->St->Prop},FInv F env c s->Be T C n ks vs env c.σ Q->
  am F.E.M A (evalPairs (pairTrees ks vs ev pos)) (λr s'=>∃d kvs,Ext c d/\FInv F env d s'/\Carries (lf F.E.prog F.E.w) r kvs/\Q kvs d.σ) aK s:=by
 intro v0
 induction v0 with
 |nil=>
  exact fun V h=>bH h fun e h=>by rw[cX e];exact pairTrees_nil_walk (i24 _ [] (Ext.refl _) V trivial h)
 |cons k ks ih=>
  exact fun{vs c s Q} V h=>aq h fun k' ek h=>aq h fun v ev h=>by
   rw[ek,eU ev]
   exact pairTrees_cons_walk (cK (I.e k' env c s _ V h) fun kv s1 d1 u1 x1 W1 r1 q=>cK (I.e v.1 env d1 s1 _ W1 q) fun vv s2 d2 u2 x2 W2 r2 q=>aq q fun i ei q=>aq q fun w ew q=>
    aT (ih W2 q) (λr s3 z0=>e24 z0 fun d3 kvs x3 W3 hc q=>r1.int_at ei fun _=>r2.cst_at ew fun _=>i24 d3 ((_,_)::kvs) (x1.trans (x2.trans x3)) W3 (sC (beq_self_eq_true (α:=Int) _) (sC rfl hc)) q) bb)
theorem Lm(X:Cx F A T C ev)(H:∀F':Fs,Cx F' A T C ev->IH F' A T C ev n)(V:FInv F env c s)(hl:a7 ap.endLine cp.line=true)(hs:cJ [a]=true)(h:vy T C n ks vs a env c.σ Q):
  Ev F A env (eval (.Call (.Attribute (.Dict ks vs dp) "get" ap) [a] [] cp) ev) c s Q:=by
 refine bH h fun hg h=>?_
 rw[bC,bC,bC,sF] at hg
 refine ax hg fun z0 g4=>?_;refine ax z0 fun z1 g3=>?_;refine ax z1 fun g1 g2=>?_
 have g2:=ce g2
 have g3:ks≠[]:=λe=>by replace g3:=e▸g3;exact bn g3.symm
 have g4:=dv g4
 have hemp:∀(t:Shared),t.heap.get? s.heap.objs.size=aa {cls:=.type "dict",data:=.dict #[]}->t.heap.DictOf (lf F.E.prog F.E.w) s.heap.objs.size []:=λt e=>
  (i36 _ _ _ e (bl rfl rfl rfl) rfl (λe m=>by simp at m) .nil G4)
 have he0:(s.heap.push {cls:=.type "dict",data:=.dict #[]}).get? s.heap.objs.size=aa {cls:=.type "dict",data:=.dict #[]}:=d9 _ rfl
 have V0:FInv F env c {s with heap:=s.heap.push {cls:=.type "dict",data:=.dict #[]}}:=V.more (λb o e=>cD _ e) (iV _ _) s.toks
 have H0:Hid [s.heap.objs.size] F c {s with heap:=s.heap.push {cls:=.type "dict",data:=.dict #[]}}:=by
  intro b m
  rw[List.mem_singleton.mp m]
  refine(g0 V.size (by skip;simp only[gB];exact jT _) V.h.fresh (λk e=>?_) (λe=>?_))
  ·refine e11 (V.h.at e) fun y hy=>?_
   exact absurd (bM hy) (iP _)
  ·refine e12 V.ns fun m hm _=>?_
   have :=hm.lt
   rw[<-e] at this
   exact iP _ this
 refine Au rfl hl hs rfl rfl (wpAny_Dict_walk (knd:=lf F.E.prog F.E.w) g1 g2 g3 g4 (aT (Ll (H (F.re c _) (X.re V0)) V0.re h) (λr s1 z2=>e24 z2 fun d kvs x1 V1 hc q=>(i13 kvs hc (hemp s1 ((H0.re V1).2 _ cM _ he0)) (λh' hm hb pl=>?_))) bb))
 have U1:=V0.un V1
 have H1:=(H0.re V1).1
 have hk1:∀b o,b∉[s.heap.objs.size]->s1.heap.get? b=aa o->h'.get? b=aa o:=λb o nb e=>(hb.2 b (λz=>nb (z▸cM))).trans e
 have V2:=U1.away H1 hk1 (iq hb.1.symm) (s1.toks+r.length)
 have H2:=H1.away (h':=h') (iq hb.1.symm) (s1.toks+r.length)
 refine e36 (id hm) fun o es ep ho hex hdat hkeys hp nd=>?_
 refine XD (T:="dict") (i12 o ho hex.1) PySem.F.plainAttrs_dict Xm PySem.F.type_dict_get (λb e=>by cases e;exact(i12 o ho hex.2.1)) ?_
 refine uF (K:=F.E.K) hs rfl ?_
 refine l5 (aT ((H (F.re d _) (X.re V2)).e a env d _ _ V2.re q) (λva s3 ⟨d3,ua,x3,V3,r3,q⟩=>?_) bb) (jH hs)
 refine nM (tz ⟨⟨V3.h.K,rfl⟩,?_⟩)
 have U3:=V2.un V3
 have ho3:s3.heap.get? s.heap.objs.size=aa o:=(H2.re V3).2 _ cM _ ho
 refine aq q fun i ei q=>r3.int_at ei fun ti=>?_
 have hsm:(s.heap.objs.size == y4)=false:=by
  have h1:=V.top.1.lt
  have h2:(1:Nat)<=mainGlobals:=by decide
  have h3:(s.heap.objs.size:Nat)≠1:=λe=>absurd h1 (by rw[show s.heap.objs.size=1 from e];exact Nat.not_lt.mpr h2)
  exact beq_false_of_ne h3
 have hm3:s3.heap.DictOf (lf F.E.prog F.E.w) s.heap.objs.size (merged [] kvs):=(i36 o es ep ho3 hex hdat hkeys hp nd)
 have hkey:(lf F.E.prog F.E.w).is i (.int i ti)=true:=beq_self_eq_true (α:=Int) i
 refine call_meetsIn Xm ⟨o,ho3,hex.1⟩ PySem.F.entry_dict_get (PySem.F.args_dict_get_2 _ _) (meets_dict_get (lf F.E.prog F.E.w) s.heap.objs.size hkey hsm) ⟨_,hm3.mapOf,?_⟩
 show PE F env c Q ((valueAt (merged [] kvs) i).getD .none) {s3 with toks:=s3.toks+1}
 exact cQ q (λw hv q=>bH q fun hw q=>by rw[hv];exact⟨d3,_,x1.trans x3,U3.toks _,.pv (.const hw),q⟩) fun hv q=>by rw[hv];exact⟨d3,_,x1.trans x3,U3.toks _,.pv .none,q⟩
end
structure XN where
 xm:List Str
 xf:List Str
def Bf(N:XN)(e:Expr):Bool:=kn (kh e) (λq=>mo N.xm q.2.1) (dZ (kj e) (mo N.xf))
def Bg(N:XN)(e:Expr):Option (Expr×List Expr×List il×Pos):=aA (lq e) fun q=>bW (Bf N q.1) (aa q)
theorem Ln(h:Bg N e=aa q):e=.Call q.1 q.2.1 q.2.2.1 q.2.2.2:=ay h fun c e h=>bU h fun _ h=>ac h▸mu e
def Bh(e:Expr):Option (Expr×Expr):=aA (zD e) fun q=>BoolOp.casesOn (motive:=λ_=>Option (Expr×Expr)) q.1 (mv q.2.1) none
theorem Lo(h:Bh e=aa r):∃p,e=.BoolOp .And [r.1,r.2] p:=ay h fun q e h=>by
 obtain⟨op,es,p⟩:=q
 cases op with
 |And=>exact⟨p,qk h▸Iw e⟩
 |Or=>exact aD h
mutual
noncomputable def xE(T U:aI)(N:XN)(C:FCtx):Nat->Expr->aw->St->(AV->St->Prop)->Prop
 |0,_,_,_,_=>False
 |n+1,e,env,σ,Q=>cu (Bg N e) (λc=>gd (cJ c.2.1&&fB c.2.2.1&&dN (c.2.1.length+c.2.2.1.length) 20) (cu (kh c.1)
   (λq=>gd (mz q.1&&a7 q.2.2.endLine c.2.2.2.line) (aR T C n q.1 env σ fun v σ=>ag (tN T σ v q.2.1) fun r=>lK T U N C n c.2.1 env σ fun vs σ=>jD T C n c.2.2.1 env σ fun kw σ=>eK U r.1 (r.2++vs) kw σ Q))
   (ag (jC c.1) fun x=>ag (mm T C env x.1) fun v=>ag (bP gH v) fun g=>lK T U N C n c.2.1 env σ fun vs σ=>jD T C n c.2.2.1 env σ fun kw σ=>eK U g vs kw σ Q)))
  (cu (Bh e) (λq=>aR T C n q.1 env σ fun v σ=>kk v fun k=>cB k (xE T U N C n q.2 env σ Q) (Q v σ)) (aR T C n e env σ Q))
noncomputable def lK(T U:aI)(N:XN)(C:FCtx):Nat->List Expr->aw->St->(List AV->St->Prop)->Prop
 |0,_,_,_,_=>False
 |n+1,es,env,σ,Q=>match es with
  | []=>Q [] σ
  |e::r=>xE T U N C n e env σ fun v σ=>lK T U N C n r env σ fun vs σ=>Q (v::vs) σ
end
def lL(N:XN)(e:Expr):Bool:=dZ (lq e) fun q=>Bf N q.1
theorem vz(h:lL N e=true):∃f as ks p,e=.Call f as ks p:=fO h fun q e _=>i41 _ _ _ _ (mu e)
structure Lp where
 ks:List (Option Expr)
 vs:List Expr
 dp:Pos
 m:Str
 ap:Pos
 a:Expr
 cp:Pos
def Bi(e:Expr):Option Lp:=aA (lq e) fun q=>bW (cm q.2.2.1) (aA (fA q.2.1) fun a=>aA (kh q.1) fun r=>aA (zE r.1) fun d=>aa ⟨d.1,d.2.1,d.2.2,r.2.1,r.2.2,a,q.2.2.2⟩)
theorem Lq(h:Bi e=aa g):e=.Call (.Attribute (.Dict g.ks g.vs g.dp) g.m g.ap) [g.a] [] g.cp:=
 ay h fun q e h=>bU h fun n h=>ay h fun a e1 h=>ay h fun r e2 h=>ay h fun d e3 h=>by rw[mu e,cX n,gn e1,og e2,Ix e3,<-ac h]
def Bj(t:Expr):Option (Expr×Expr×Expr):=aA (uj t) fun q=>aA (Ae q.2) fun r=>aa (q.1,r.1,r.2)
theorem Lr(h:Bj t=aa r):∃sp p,t=.Subscript r.1 (.Slice (aa r.2.1) (aa r.2.2) none sp) p:=
 ay h fun q e h=>ay h fun u e2 h=>e11 (Ac e) fun p e=>e11 (IS e2) fun sp e2=>i21 sp p (by rw[e,e2,<-ac h])
def vA(l h u v:AV)(σ:St)(K:St->Prop):Prop:=ag (dy l) fun l=>ag (dy h) fun h=>ag (eR u) fun k=>ag (eQ v) fun p=>ag (jB σ k) fun b=>ag (km σ (.pv p)) fun w=>
 (0<=l/\l<=h/\h<=(b.length:Int)/\b.length+w.length<=16777216)/\K (eT σ k (.ba (aZ b w l.toNat h.toNat)))
def vC(fin:aw->St->(Fl->aw->St->Prop)->Prop)(Q:Fl->aw->St->Prop)(f:Fl)(env:aw)(σ:St):Prop:=Fl.casesOn (motive:=λ_=>Prop) f (fin env σ fun g env σ=>Fl.casesOn (motive:=λ_=>Prop) g (Q .next env σ) False fun _=>False) False fun _=>False
def Bk(T U:aI)(N:XN)(C:FCtx)(n:Nat)(t e:Expr)(p:Pos)(env:aw)(σ:St)(Q:Fl->aw->St->Prop):Prop:=
 cu (Bi e)
    (λg=>ag (jC t) fun x=>gd (g.m == ("get" :Str)&&gp C x.1&&a7 g.ap.endLine g.cp.line&&cJ [g.a]) (vy T C n g.ks g.vs g.a env σ fun v σ=>Q .next (dH env x.1 v) σ))
    (cB (lL N e)
     (cu (jC t) (λx=>gd (gp C x.1) (xE T U N C n e env σ fun v σ=>Q .next (dH env x.1 v) σ))
      (ag (kh t) fun o=>xE T U N C n e env σ fun v σ=>aR T C n o.1 env σ fun u σ=>om T o.2.1 u v σ (Q .next env)))
     (cu (Bj t) (λq=>gd (!iB e) (aR T C n e env σ fun v σ=>aR T C n q.1 env σ fun u σ=>aR T C n q.2.1 env σ fun l σ=>aR T C n q.2.2 env σ fun h σ=>vA l h u v σ (Q .next env)))
      (gK T C n (.Assign [t] e p) env σ Q)))
mutual
noncomputable def xS(T U:aI)(N:XN)(C:FCtx):Nat->Stmt->aw->St->(Fl->aw->St->Prop)->Prop
 |0,_,_,_,_=>False
 |n+1,st,env,σ,Q=>match st with
  | .Expr e p=>cB (lL N e) (xE T U N C n e env σ fun _ σ=>Q .next env σ) (gK T C n (.Expr e p) env σ Q)
  | .Return e p=>cu e (λe=>xE T U N C n e env σ fun v σ=>Q (.ret v) env σ) (gK T C n (.Return none p) env σ Q)
  | .Assign ts e p=>ag (fA ts) fun t=>Bk T U N C n t e p env σ Q
  | .If t b o _=>jE T C n t env σ fun c σ=>cB c (bt T U N C n b env σ Q) (bt T U N C n o env σ Q)
  | .For t it b o _=>gd (cm o&&hN C t) (iD T C n t it env σ fun items src σ=>c9 (bt T U N C n b) t src (env.map (·.1)) items env σ Q)
  | .Try b hs o f _=>gd (cm hs&&cm o) (ag (dF f) fun f=>bt T U N C n b env σ (vC (bt T U N C n (f.1::f.2)) Q))
  |st=>gK T C n st env σ Q
noncomputable def bt(T U:aI)(N:XN)(C:FCtx):Nat->List Stmt->aw->St->(Fl->aw->St->Prop)->Prop
 |0,_,_,_,_=>False
 |n+1,cw,env,σ,Q=>match cw with
  | []=>Q .next env σ
  |s::r=>xS T U N C n s env σ (mB (λenv σ=>bt T U N C n r env σ Q) Q)
end
def xF(T U:aI)(N:XN)(C:FCtx)(body:List Stmt)(env:aw)(σ:St)(Q:AV->St->Prop):Prop:=
 bt T U N C 200 body env σ (on Q)
structure RoomX(A:aS)(b:Nat):Prop where
 room:Room A b
 guards:A.guards=aa []
theorem RoomX.le(R:RoomX A b)(h:a<=b):RoomX A a:=⟨R.room.le h,R.guards⟩
theorem RoomX.in1(R:RoomX A (b+1)):RoomX A.in1 b:=⟨R.room.in1,R.guards⟩
theorem RoomX.deep(R:RoomX A (b+1)):RoomX (A.deeper ev) b:=⟨R.room.deep,R.guards⟩
def Spec.SoundX(S:Spec)(E:Env0)(f:Value):Prop:=∀(A:aS) (s:Shared) (c:Cf) (vs:List AV) (us:List Value) (kw:List (Str×AV)) (ks:List (Str×Value)) (Q:AV->St->Prop),
 RoomX A S.need->HInv E c s.heap->All2 (Rp E c) vs us->KwRep E c kw ks->S.run vs kw c.σ Q->aG E.M A (bO f us ks) (Done E c s Q) s
structure qQ(E:Env0)(U:aI):Prop where
 fns:∀a S,U.fns.lookup a=aa S->S.SoundX E (.ref a)/\nQ E.K (.ref a)=true
 bls:∀n S,U.bls.lookup n=aa S->S.SoundX E (.builtin n)
 tys:∀n S,U.tys.lookup n=aa S->S.SoundX E (.type n)
 sets:∀(A:aS) (s:Shared) (K:Unit->Shared->Prop) (a sl:Addr) (b w:List UInt8) (v vl vu:Value) (lo hi:Int) (t:fj),A.guards=aa []->s.heap.get? a=aa (aU b)->(v=.bytes w.toArray t\/∃x,x≠a/\v=.ref x/\s.heap.get? x=aa (aU w))->
  s.heap.IsSliceOf sl vl vu .none->fg vl (aa lo)->fg vu (aa hi)->0<=lo->lo<=hi->hi<=b.length->b.length+w.length<=aW->
  (∀h' k,(∀b o,b≠a->s.heap.get? b=aa o->h'.get? b=aa o)->h'.get? a=aa (aU (aZ b w lo.toNat hi.toNat))->K () {s with heap:=h',toks:=k})->aG E.M A (nU (.ref a) (.ref sl) v) K s
theorem Lu(O:qQ E U)(h:qa U f=aa S):S.SoundX E f/\jG E.K f=true:=
 dE h (λa e h=>eqR (j6 e) (O.fns a S h)) fun _ h=>dE h (λn e h=>eqR (p7 e) ⟨O.bls n S h,rfl⟩) fun _ h=>ay h fun n e h=>eqR (ll e) ⟨O.tys n S h,rfl⟩
structure Cxx(F:Fs)(A:aS)(T U:aI)(C:FCtx)(ev:Env):Prop where
 cx:Cx F A T C ev
 x:qQ F.E U
 g:A.guards=aa []
 bud:U.bud=T.bud
def EvX(F:Fs)(A:aS)(env:aw)(t:cy Value)(c:Cf)(s:Shared)(Q:AV->St->Prop):Prop:=
 aG F.E.M A t (PE F env c Q) s
def EvSX(F:Fs)(A:aS)(t:cy kY)(c:Cf)(s:Shared)(Q:Fl->aw->St->Prop):Prop:=
 aG F.E.M A t (PS F c Q) s
section
variable{prog:Program}{w:bD}{A:aS}{s:Shared}{env:Env}
theorem Lv(hb:mz o=true)(hl:a7 apos.endLine pos.line=true)(hs:cJ es=true)(hk:fB ks=true)(hn:dN (es.length+ks.length) 20=true)
  (h:aG (aH prog w) A (eval o env) (λov s₁=>∀pl,aG (aH prog w) A (jZ ov name pl) (λfx s₂=>aG (aH prog w) A (te pos fx.1 fx.2 (cV pos (cN es env)) (cG pos (cH ks env))) Q s₂) s₁) s):
  aG (aH prog w) A (eval (.Call (.Attribute o name apos) es ks pos) env) Q s:=by
 have e:eval (.Call (.Attribute o name apos) es ks pos) env=(do
   let ov <-pE o name env (eval o env)
   Xs apos.atName
   nR o name apos pos env ov (es.length+ks.length) (cV pos (cN es env)) (cG pos (cH ks env))):=rfl
 rw[e,uD hb]
 refine X.bind (X.mono h fun ov s₁ h₁=>X.standAt ?_)
 unfold nR
 rw[uG hs hk hn]
 refine X.bind (X.holding (X.mono (h₁ _) fun fx s₂ h₂=>?_))
 refine X.bind ?_
 simp only[uH hl]
 exact X.pure h₂
end
section
variable{F:Fs}{A:aS}{T U:aI}{N:XN}{C:FCtx}{ev:Env}{env:aw}{c:Cf}{s:Shared}{Q:AV->St->Prop}
theorem EvX.lift(x:Ext c d)(h:EvX F A env t d s' Q):aG F.E.M A t (PE F env c Q) s':=
 X.mono h (PE.lift x)
theorem Lw(Y:Cxx F A T U C ev)(V:FInv F env c s)(rv:All2 (Rp F.E c) vs us)(rk:KwRep F.E c kw ks)(h:eK U f vs kw c.σ Q):
  jG F.E.K f=true/\EvX F A env (bO f us ks) c s Q:=by
 refine(let G:=_;(?_:G));refine e12 (kx h) fun S hS h=>?_
 refine ax (Lu Y.x hS) fun s1 s2=>?_
 refine⟨s2,?_⟩
 refine(let G1:=_;(?_:G1));refine ax (Spec.call_inv h) fun hn z7=>?_;refine e12 z7 fun l hc h=>?_
 unfold oa at hc
 replace hc:=b3 hc
 refine X.mono (s1 A s (c.cut l) vs us kw ks _ ⟨Y.cx.room.le (by have :=Y.bud;lia),Y.g⟩ (V.h.cut hc.2) (uz rv hc.1.1) (uA rk hc.1.2) h) fun v s' D=>V.after (D.frame V.h)
structure XH(F:Fs)(A:aS)(T U:aI)(N:XN)(C:FCtx)(ev:Env)(n:Nat):Prop where
 e:∀e env c s Q,FInv F env c s->xE T U N C n e env c.σ Q->EvX F A env (eval e ev) c s Q
 es:∀es pos env c s Q,cJ es=true->FInv F env c s->lK T U N C n es env c.σ Q->aG F.E.M A (jt (cV pos (cN es ev))) (mF F env c Q) s
theorem Lx(I:XH F A T U N C ev n):∀{es:List Expr} {pos:Pos} {Q:List AV->St->Prop},cJ es=true->FInv F env c s->lK T U N C (n+1) es env c.σ Q->
  aG F.E.M A (jt (cV pos (cN es ev))) (mF F env c Q) s:=by
 intro v0
 induction v0 with
 |nil=>
  intro pos Q _ V h
  exact X.up (nM ⟨c,[],Ext.refl c,V,.nil,h⟩)
 |cons e r ih=>
  intro pos Q hs V h
  have hr:=ou hs
  have he:cV pos (cN (e::r) ev)=(false,eval e ev)::cV pos (cN r ev):=by rw[jI hs,jI hr];rfl
  rw[he]
  refine X.spliced_cons (X.mono (I.e e env c s _ V h) fun v s' hp=>hp.casesOn fun d u x W ru q=>?_)
  exact X.mono (I.es r pos env d s' _ hr W q) fun vs s'' hp=>hp.casesOn fun d' rs x' W' rr q'=>⟨d',u::rs,x.trans x',W',.cons (ru.ext x') rr,q'⟩
theorem Bl(Y:Cxx F A T U C ev)(J:XH F A T U N C ev n)(I:IH F A T C ev n)(hs:cJ as=true)(hk:fB ks=true)(V:FInv F env c s)(rf:All2 (Rp F.E c) first fv)
  (h:lK T U N C n as env c.σ fun vs σ=>jD T C n ks env σ fun kw σ=>eK U g (first++vs) kw σ Q):
  EvX F A env (te pos g fv (cV pos (cN as ev)) (cG pos (cH ks ev))) c s Q:=by
 refine X.callWith (P:=λh=>F.E.K.In h/\jG F.E.K g=true) hs hk (λh Z=>At Z.2 h Z.1) ?_
 refine X.mono (J.es as pos env c s _ hs V h) fun vs s' hp=>hp.casesOn fun d rs x W rr q=>?_
 refine X.mono (X.up (I.k ks pos env d s' _ hk W q)) fun kv s'' hp=>hp.casesOn fun d' rk x' W' rk' q'=>?_
 have r1:All2 (Rp F.E d') (first++rs) (fv++vs):=All2.append (rf.ext (x.trans x')) (rr.ext x')
 refine ax (Lw Y W' r1 rk' q') fun k1 k2=>?_
 exact⟨⟨W'.h.K,k1⟩,EvX.lift (x.trans x') k2⟩
theorem Ly(Y:Cxx F A T U C ev)(J:XH F A T U N C ev n)(V:FInv F env c s)(h:xE T U N C (n+1) e env c.σ Q):EvX F A env (eval e ev) c s Q:=by
 have I:IH F A T C ev n:=ih n Y.cx
 refine cQ h (λz e h=>bH h fun hg h1=>ax (b3 hg) fun hsk hn=>?_) fun _ h=>cQ h (λz e h1=>e11 (Lo e) fun p e=>?_) fun _ h=>X.up (I.e _ env c s Q V h)
 ·refine eqR (Ln e) ?_
  refine cQ h1 (λy e h=>bH h fun hb h=>?_) fun _ h=>aq h fun y e h=>aq h fun v hx h=>aq h fun g hg h=>?_
  ·rw[og e]
   exact Lv (b2 hb).1 (b2 hb).2 hsk.1 hsk.2 hn (X.mono (X.up (I.e y.1 env c s _ V h)) fun v s₁ hp pl=>hp.casesOn fun d1 u x1 W1 r1 q=>aq q fun r hr q=>X.mono (X.up (Av Y.cx.ok.tab Y.cx.ok.bm W1 r1 hr)) fun fx s₂ z1=>e13 z1 fun t e1 e2 rf=>by
    obtain⟨g,fv⟩:=fx
    obtain rfl:g=r.1:=e2
    refine eqR e1 ?_
    exact EvX.lift x1 (Bl Y J I hsk.1 hsk.2 (W1.toks t) rf q))
  ·rw[lp e]
   have e:eval (.Call (.Name y.1 y.2) z.2.1 z.2.2.1 z.2.2.2) ev=(do te z.2.2.2 (<-eval (.Name y.1 y.2) ev) [] (cV z.2.2.2 (cN z.2.1 ev)) (cG z.2.2.2 (cH z.2.2.1 ev))):=rfl
   unfold EvX
   rw[e]
   refine X.bind (X.mono (X.up (qy (Q:=λv σ=>v=.pv (.const g)/\σ=c.σ) (c:=c) (A:=A) Y.cx.ok.tab Y.cx.env V (tI hg▸hx) ⟨rfl,rfl⟩)) fun v s₁ hp=>hp.casesOn fun d1 u x1 W1 r1 q=>?_)
   obtain⟨rfl,q2⟩:=q
   simp only[<-q2] at h
   exact r1.pv_inv.const_el fun _=>EvX.lift x1 (Bl (first:=[]) Y J I hsk.1 hsk.2 W1 .nil h)
 ·refine eqR e ?_
  refine X.bind (X.mono (X.up (I.e z.1 env c s _ V h1)) fun v s' hp=>hp.casesOn fun d u x W ru q=>X.standAt (X.bind (X.holding (X.mono (X.up (Aj ru q)) fun k s'' z2=>ax z2 fun q e1=>?_))))
  refine eqR e1 ?_
  cases k
  ·exact X.pure ⟨d,u,x,W,ru,q⟩
  ·exact EvX.lift x (J.e _ _ _ _ _ W q)
theorem xh(Y:Cxx F A T U C ev):∀n,XH F A T U N C ev n:=by
 intro v0
 induction v0 with
 |zero=>
  exact⟨λ_ _ _ _ _ _ h=>(by unfold xE at h;exact h.elim),λ_ _ _ _ _ _ _ _ h=>(by unfold lK at h;exact h.elim)⟩
 |succ n ih=>
  exact⟨λe env c s Q V h=>Ly Y (ih) V h,λes pos env c s Q hs V h=>Lx (ih) hs V h⟩
end
section
variable{F:Fs}{A:aS}{T U:aI}{N:XN}{C:FCtx}{ev:Env}{env:aw}{c:Cf}{s:Shared}{Q:Fl->aw->St->Prop}
structure mP(F:Fs)(A:aS)(T U:aI)(N:XN)(C:FCtx)(ev:Env)(n:Nat):Prop where
 s:∀st env c s Q,FInv F env c s->xS T U N C n st env c.σ Q->EvSX F A (exec st ev) c s Q
 ss:∀cw env c s Q,FInv F env c s->bt T U N C n cw env c.σ Q->EvSX F A (fy cw ev) c s Q
theorem EvSX.lift(x:Ext c d)(h:EvSX F A t d s' Q):aG F.E.M A t (PS F c Q) s':=
 X.mono h (PS.lift x)
theorem Cxx.re(Y:Cxx F A T U C ev)(V:FInv F env c s):Cxx (F.re c s) A T U C ev:=⟨Y.cx.re V,Y.x,Y.g,Y.bud⟩
theorem Lz(S:mP F A T U N C ev n)(V:FInv F env c s)(h:bt T U N C (n+1) cw env c.σ Q):EvSX F A (fy cw ev) c s Q:=by
 cases cw with
 |nil=>exact X.up (tA ⟨c,.next,env,Ext.refl c,V,.next,h⟩)
 |cons st r=>
  refine X.execs_cons (X.mono (S.s st env c s _ V h) fun f s' hp=>hp.casesOn fun d g e' x W rg q=>?_)
  clear hp;cases rg with
  |next=>exact EvSX.lift x (S.ss r _ _ _ _ W q)
  |cont=>exact⟨d,_,e',x,W,.cont,q⟩
  |ret ru=>exact⟨d,_,e',x,W,.ret ru,q⟩
theorem LA(Y:Cxx F A T U C ev)(V:FInv F env c s)(h:xS T U N C (n+1) (.Expr e pos) env c.σ Q):EvSX F A (exec (.Expr e pos) ev) c s Q:=by
 refine(let G:=_;(?_:G));cases hx:lL N e with
 |false=>exact X.up ((sh n Y.cx).s _ env c s Q V (iE hx h))
 |true=>
  obtain⟨f,as,ks,p,rfl⟩:=vz hx
  exact X.ExprS (X.mono ((xh Y n).e _ env c s _ V (hU hx h)) fun v s' hp=>hp.casesOn fun d u x W ru q=>⟨d,_,env,x,W,.next,q⟩) (quiet Y.cx) rfl
theorem LB(Y:Cxx F A T U C ev)(V:FInv F env c s)(h:xS T U N C (n+1) (.Return e pos) env c.σ Q):EvSX F A (exec (.Return e pos) ev) c s Q:=by
 cases e with
 |none=>exact X.up ((sh n Y.cx).s _ env c s Q V h)
 |some e=>exact X.Ret (X.mono ((xh Y n).e e env c s _ V h) fun v s' hp=>hp.casesOn fun d u x W ru q=>⟨d,_,env,x,W,.ret ru,q⟩)
theorem LC(Y:Cxx F A T U C ev)(hx:lL N e=true)(V:FInv F env c s)(hl:gp C x=true)(h:xE T U N C n e env c.σ fun v σ=>Q .next (dH env x v) σ):EvSX F A (exec (.Assign [.Name x px] e pos) ev) c s Q:=by
 obtain⟨f,as,ks,p,rfl⟩:=vz hx
 refine X.AssignName (X.mono ((xh Y n).e _ env c s _ V h) fun v s' hp=>hp.casesOn fun d b x1 W rb q=>X.up ?_) rfl
 exact lE Y.cx.env W (lu hl) rb fun s3 W3=>⟨d,_,_,x1,W3,.next,q⟩
theorem LD(Y:Cxx F A T U C ev)(V:FInv F env c s)(hg:(m == ("get" :Str)&&gp C x&&a7 ap.endLine cp.line&&cJ [a])=true)
  (h:vy T C n ks vs a env c.σ fun v σ=>Q .next (dH env x v) σ):EvSX F A (exec (.Assign [.Name x px] (.Call (.Attribute (.Dict ks vs dp) m ap) [a] [] cp) pos) ev) c s Q:=by
 rw[bC,bC,bC,beq_iff_eq] at hg
 refine(let G:=_;(?_:G));obtain⟨⟨⟨g1,g2⟩,g3⟩,g4⟩:=hg
 subst g1
 refine X.AssignName (X.mono (X.up (Lm Y.cx (λF' X'=>ih n X') V g3 g4 h)) fun v s' hp=>hp.casesOn fun d b x1 W rb q=>X.up ?_) rfl
 exact lE Y.cx.env W (lu g2) rb fun s3 W3=>⟨d,_,_,x1,W3,.next,q⟩
theorem LF(Y:Cxx F A T U C ev)(hx:lL N e=true)(V:FInv F env c s)(h:xE T U N C n e env c.σ fun v σ=>aR T C n o env σ fun u σ=>om T x u v σ (Q .next env)):EvSX F A (exec (.Assign [.Attribute o x ap] e pos) ev) c s Q:=by
 obtain⟨f,as,ks,p,rfl⟩:=vz hx
 exact X.AssignAttr (X.mono ((xh Y n).e _ env c s _ V h) fun v s₁ hp=>hp.casesOn fun d1 u1 x1 W1 r1 q=>X.mono (X.up ((ih n Y.cx).e o env d1 s₁ _ W1 q)) fun w s₂ hp=>hp.casesOn fun d2 u2 x2 W2 r2 q=>X.up (AT Y.cx x1 x2 W2 r2 r1 q fun _ h=>h)) rfl
theorem LG(Y:Cxx F A T U C ev)(S:mP F A T U N C ev n)(V:FInv F env c s)(h:jE T C n t env c.σ fun k σ=>cB k (bt T U N C n b env σ Q) (bt T U N C n o env σ Q)):EvSX F A (exec (.If t b o pos) ev) c s Q:=by
 refine X.If (X.mono (X.up ((ih n Y.cx).t t env c s _ V h)) fun k s' hp=>hp.casesOn fun d x W q=>?_)
 clear hp;cases k with
 |true=>exact EvSX.lift x (S.ss b _ _ _ _ W q)
 |false=>exact EvSX.lift x (S.ss o _ _ _ _ W q)
theorem LH(S:mP F A T U N C ev n)(V:FInv F env c s)(h:bt T U N C n b env c.σ (vC (bt T U N C n (f0::fr)) Q)):EvSX F A (exec (.Try b [] [] (f0::fr) pos) ev) c s Q:=by
 refine X.TryF (X.mono (S.ss b env c s _ V h) fun f s' hp=>hp.casesOn fun d g e' x W rg q=>?_)
 cases rg with
 |next=>
  refine⟨rfl,X.mono (S.ss (f0::fr) _ _ _ _ W q) fun f2 s2 hp=>hp.casesOn fun d2 g2 e2 x2 W2 rg2 q2=>?_⟩
  clear hp;cases rg2 with
  |next=>exact⟨rfl,d2,.next,e2,x.trans x2,W2,.next,q2⟩
  |_=>exact q2.elim
 |_=>exact q.elim
theorem LI(hij:i<=j)(h:b.length+w.length<=16777216):(aZ b w i j).length<=aW:=by
 unfold aZ
 rw[bB,bB,ip,jR]
 have h1:=Nat.min_le_left i b.length
 have h2:=Xc i b.length
 show _<=16777216
 omega
theorem LJ(W:HInv F.E d H)(r:RepP F.E.w.params d.I p v)(hv:v=.ref x)(hw:km d.σ (.pv p)=aa w)(ek:d.ρ k=aa x):False:=by
 have key:∀ob,d.I x=aa ob->False:=λob h=>by rw[W.out k x ek] at h;exact aD h
 exact dE (show dP (iY p) aa (mh p)=aa w from hw) (λb e _=>r.byt_at (M:=λv=>v=.ref x->False) e (λ_ _=>nofun) hv) fun _ hw=>r.bar_at (M:=λv=>v=.ref x->False) hw (λa i _ hv=>key _ (Xy hv▸i)) hv
inductive Bm(F:Fs)(env:aw)(c d2:Cf)(ao av:AV)(Q:Fl->aw->St->Prop)(iv:Value)(s5:Shared):Prop
 |mk (d3 d4:Cf) (al ah:AV) (vl vh:Value) (s4:Shared):iv=.ref s4.heap.objs.size->s5={s4 with heap:=s4.heap.push {cls:=.type "slice",data:=.fields #[vl,vh,.none]}}->Ext d2 d3->Ext d3 d4->FInv F env d4 s4->Rp F.E d3 al vl->Rp F.E d4 ah vh->
  vA al ah ao av d4.σ (Q .next env)->Bm F env c d2 ao av Q iv s5
theorem LK(Y:Cxx F A T U C ev){lo:Expr}(hc:iB e=false)(V:FInv F env c s)(h:aR T C n e env c.σ fun v σ=>aR T C n o env σ fun u σ=>aR T C n lo env σ fun l σ=>aR T C n hi env σ fun h σ=>vA l h u v σ (Q .next env)):
  EvSX F A (exec (.Assign [.Subscript o (.Slice (aa lo) (aa hi) none sp) p] e pos) ev) c s Q:=by
 have I:IH F A T C ev n:=ih n Y.cx
 refine X.AssignSub (X.mono (X.up (I.e e env c s _ V h)) fun v s1 hp=>hp.casesOn fun d1 av x1 W1 r1 q=>X.mono (X.up (I.e o env d1 s1 _ W1 q)) fun ov s2 hp=>hp.casesOn fun d2 ao x2 W2 r2 q=>?_) (qJ hc h)
 clear h V
 have key:am F.E.M A (eval (.Slice (aa lo) (aa hi) none sp) ev) (Bm F env c d2 ao av Q) aK s2:=
  HU (aT (I.e lo env d2 s2 _ W2 q) (λvl s3 hp=>hp.casesOn fun d3 al x3 W3 r3 qc=>aT (I.e hi env d3 s3 _ W3 qc) (λvh s4 hp=>hp.casesOn fun d4 ah x4 W4 r4 qd=>aN ⟨d3,d4,al,ah,vl,vh,s4,rfl,rfl,x3,x4,W4,r3,r4,qd⟩) bb) bb)
 refine X.mono (X.up key) fun iv s5 ⟨d3,d4,al,ah,vl,vh,s4,e1,e2,x3,x4,W4,r3,r4,qd⟩=>?_
 clear key q W1 W2
 clear hp;subst e1 e2
 refine aq qd fun l f1 qd=>aq qd fun hh f2 qd=>aq qd fun k f3 qd=>aq qd fun pv f4 qd=>aq qd fun b f5 qd=>aq qd fun w hw qd=>ax qd fun z0 q=>fM z0 fun g1 g2 g3 g4=>?_
 clear qd z0
 have hb:=mn f5
 have p3:fg vl (aa l):=r3.int_at f1 fun _=>.int _ _
 have p4:fg vh (aa hh):=r4.int_at f2 fun _=>.int _ _
 have r1:=r1.pvx f4
 have W5:=W4.more (h':=s4.heap.push {cls:=.type "slice",data:=.fields #[vl,vh,.none]}) (λb o e=>cD _ e) (iV _ _) s4.toks
 have hsl:=GK s4.heap vl vh .none
 have r1':Rp F.E d4 (.pv pv) v:=.pv (r1.mono (x2.trans (x3.trans x4)).I)
 generalize s4.heap.push {cls:=.type "slice",data:=.fields #[vl,vh,.none]}=H at hsl W5 ⊢
 refine(r2.ext (x3.trans x4)).loc_at f3 fun a ek=>?_
 refine e12 (W5.h.st k _ hb) fun a' ha' z7=>?_;obtain⟨ho,z⟩:=z7
 replace ha':=ek▸ha';have z1:=ac ha';clear ha';subst z1
 obtain⟨tk,hv⟩:=Jt W5 r1' hw
 have hv':v=.bytes w.toArray tk\/∃x,x≠a/\v=.ref x/\H.get? x=aa (aU w):=hv.imp id fun z2=>e12 z2 fun x hv hx=>(i13 x (λz=>LJ W5.h r1'.pv_inv hv hw (z▸ek)) hv hx)
 refine X.mono (X.grow (Y.x.sets A _ (λ_ s'=>∃h' k',s'={s4 with heap:=h',toks:=k'}/\(∀b o,b≠a->H.get? b=aa o->h'.get? b=aa o)/\h'.get? a=aa (aU (aZ b w l.toNat hh.toNat))) a _ b w v _ _ l hh tk Y.g ho hv' hsl p3 p4 g1 g2 g3 g4
  fun h' k' e1 e2=>(i23 h' k' rfl e1 e2))) fun _ s5 ⟨hz,h',k',e0,e1,e2⟩=>?_
 subst e0
 exact⟨{d4 with σ:=eT d4.σ k (.ba (aZ b w l.toNat hh.toNat))},.next,env,⟨λa o e=>x4.I a o (x3.I a o (x2.I a o (x1.I a o e))),λa o e=>x4.ρ a o (x3.ρ a o (x2.ρ a o (x1.ρ a o e)))⟩,W5.upd3 k' hz hb ek e1 ⟨e2,LI (Int.toNat_le_toNat g2) g4⟩,.next,q⟩
theorem LL(Y:Cxx F A T U C ev)(HS:∀F':Fs,Cxx F' A T U C ev->mP F' A T U N C ev n)(V:FInv F env c s)(hl:hN C t=true)(h:iD T C n t it env c.σ fun items src σ=>c9 (bt T U N C n b) t src (env.map (·.1)) items env σ Q):EvSX F A (exec (.For t it b [] pos) ev) c s Q:=by
 refine X.For (X.mono (X.up ((ih n Y.cx).i t it env c s _ V h)) fun x s1 h1=>X.mono (X.up h1) fun it' s2 hp=>hp.casesOn fun d items src wr J Own e1 x1 W2 R O HH hs hgo=>?_) (qH h)
 subst e1
 clear h1 h V
 generalize env.map (·.1)=ns at hgo
 refine X.forLoop (lG F d items src wr Own fun l env σ=>c9 (bt T U N C n b) t src ns l env σ Q) ?_ (items.length+1) ⟨0,env,d,rfl,iQ _,Ext.refl d,W2,O,HH,hs,hgo⟩
 clear hgo hs HH O W2
 intro m s' hI
 refine(let G:=_;(?_:G));obtain⟨i,env2,dd,rfl,hi,x2,V2,O2,H2,hs2,hgo⟩:=hI
 replace V2:=V2.cutE ns
 cases e:items.drop i with
 |nil=>
  cases uU hi e
  exact X.mono (X.up (uS V2 R x2 hs2 O2 H2 (K:=λs'=>PS F c Q .next s') fun s3 V3 H3 k3 z3=>⟨dd,.next,_,x1.trans x2,V3,.next,AW e hgo⟩)) fun r s1 z0=>ax z0 fun e1 h1=>by clear z0;subst e1;exact h1
 |cons x r=>
  obtain⟨hx,hr⟩:=uT e
  refine e12 (AU e hgo) fun env3 hb hgo=>?_
  have hlt:i<items.length:=(List.getElem?_eq_some_iff.mp hx).1
  refine X.mono (X.up (uR Y.cx.env Y.cx.room.handled V2 R x2 hs2 O2 H2 hx hb hl (K:=λs3=>aG F.E.M A (fy b ev) (λf s₃=>match(generalizing:=false) f with
      | .next | .cont=>∃m',m'<items.length+1-i/\lG F d items src wr Own (λl env σ=>c9 (bt T U N C n b) t src ns l env σ Q) m' s₃
      | .brk=>PS F c Q .next s₃
      | .ret v=>PS F c Q (.ret v) s₃) s3) fun s3 V3 O3 H3 k3 z3=>?_))
   fun r s1 z1=>e12 z1 fun v e1 h1=>by clear z1;subst e1;exact X.mono (X.up h1) fun _ s2 h2=>X.mono (X.up h2) fun _ s3 h3=>h3
  refine X.mono ((HS (F.re dd s3) (Y.re V3)).ss b env3 dd s3 _ V3.re hgo) fun f s4 hp=>hp.casesOn fun d4 g env4 x4 V4 rg q=>?_
  refine ax (H3.re V4) fun H4 k4=>?_
  have U4:=V3.un V4
  have O4:=R.frame _ _ _ O3 k4
  have nx:dQ d4.σ src/\c9 (bt T U N C n b) t src ns r env4 d4.σ Q->∃m',m'<items.length+1-i/\lG F d items src wr Own (λl env σ=>c9 (bt T U N C n b) t src ns l env σ Q) m' s4:=λq=>⟨items.length+1-(i+1),Hd (nH hi) (jT _),⟨i+1,env4,d4,rfl,hlt,x2.trans x4,U4,O4,H4,q.1,by rw[hr];exact q.2⟩⟩
  clear hp;cases rg with
  |next=>exact nx q
  |cont=>exact nx q
  |ret ru=>exact⟨d4,_,env4,x1.trans (x2.trans x4),U4,.ret ru,q⟩
theorem LM(Y:Cxx F A T U C ev)(V:FInv F env c s)(h:Bk T U N C n t e pos env c.σ Q):EvSX F A (exec (.Assign [t] e pos) ev) c s Q:=
 cQ h (λg hg h=>aq h fun x e1 h=>bH h fun g1 h=>by rw[Lq hg,lp e1];exact LD Y V g1 h) fun _ h=>by
  cases hx:lL N e with
  |true=>exact cQ (hU hx h) (λx e1 h=>bH h fun hl h=>by rw[lp e1];exact LC Y hx V hl h) fun _ h=>aq h fun o e1 h=>by rw[og e1];exact LF Y hx V h
  |false=>exact cQ (iE hx h) (λq hs h=>bH h fun hc h=>e21 (Lr hs) fun sp p e1=>by rw[e1];exact LK Y (nt hc) V h) fun _ h=>X.up ((sh n Y.cx).s _ env c s Q V h)
end
section
variable{A:aS}{T U:aI}{N:XN}{C:FCtx}{ev:Env}
theorem LN(Y:Cxx F A T U C ev)(HS:∀F':Fs,Cxx F' A T U C ev->mP F' A T U N C ev n){st:Stmt}(V:FInv F env c s)(h:xS T U N C (n+1) st env c.σ Q):EvSX F A (exec st ev) c s Q:=by
 cases st with
 |Expr e pos=>exact LA Y V h
 |Return e pos=>exact LB Y V h
 |Assign ts e pos=>exact aq h fun t h1 h=>by rw[gn h1];exact LM Y V h
 |If t b o pos=>exact LG Y (HS F Y) V h
 |For t it b o pos=>cases o with
  |nil=>exact bH h fun hl h=>LL Y HS V hl h
  |cons _ _=>exact h.elim
 |Try b hs o f pos=>cases hs with
  |cons _ _=>exact h.elim
  |nil=>cases o with
   |cons _ _=>exact h.elim
   |nil=>cases f with
    |nil=>exact h.elim
    |cons f0 fr=>exact LH (HS F Y) V h
 |_=>exact X.up ((sh n Y.cx).s _ env c s Q V h)
theorem LP:∀(n:Nat) {F:Fs},Cxx F A T U C ev->mP F A T U N C ev n:=by
 intro v0
 induction v0 with
 |zero=>
  intro F Y
  exact⟨λ_ _ _ _ _ _ h=>(show False from h).elim,λ_ _ _ _ _ _ h=>(show False from h).elim⟩
 |succ n ih=>
  intro F Y
  exact⟨λst env c s Q V h=>LN Y (λ_ Y'=>ih Y') V h,λcw env c s Q V h=>Lz (ih Y) V h⟩
end
def oE(T U:aI)(N:XN)(D:FnD)(vs:List AV)(kw:List (Str×AV))(σ:St)(Q:AV->St->Prop):Prop:=
 ag (lJ D.defs) fun ds=>ag (gL D.names ds vs kw) fun env=>xF T U N ⟨D.scope,[]⟩ D.body env σ Q
theorem LQ{E:Env0}{T U:aI}{N:XN}{a:Addr}{D:FnD}{S:Spec}(O:Ok E T)(XO:qQ E U)(hu:U.bud=T.bud)(hD:jK E.K a=aa D)(ok:D.ok=true)(hc:iF D=true)(hn:T.bud+1<=S.need)
  (hS:∀vs kw σ Q,S.run vs kw σ Q->oE T U N D vs kw σ Q):S.SoundX E (.ref a):=by
 intro A s c vs us kw ks Q R V rv rk h
 refine(let G:=_;(?_:G));refine e42 (qL hD ok) fun cls od sl fd f1 ff=>?_
 refine e12 (hE (hS _ _ _ _ h)) fun ds hds h=>?_
 refine e12 (hE h) fun env hb h=>?_
 have K:=V.K
 obtain⟨binds,B⟩:=vg K ff hc hds hb rv rk
 refine X.call (X.callDef (fd:=fd) (body:=D.body) (binds:=binds) (k7 (fw _ _) R.room.depth) (K _ _ f1) rfl (V.base.top _ V.keep).2.2 (yU K ff.f11) ff.f2 B.bind B.cell B.loc (λh0 hns keep=>?_) ff.f12 ff.f13 ff.f14)
 have N:=B.ent (s.toks+binds.length) hns keep
 have R':RoomX (A.deeper (nO fd s.heap.objs.size a)) T.bud:=RoomX.deep (R.le hn)
 exact X.mono ((LP 200 ⟨N.cx V O R'.room (vj ff),XO,R'.guards,hu⟩).ss D.body env c _ _ (N.inv V) h) fun f s' hp=>(i12 _ rfl (N.flow V (Ext.refl c) hp))
namespace X
section
variable{prog:Program}{w:bD}{A:aS}{s:Shared}{M:Model}
theorem here(L:iO M s.heap m r)(h:Q r s):aG M A m Q s:=up (L.here h)
theorem eqv(e:m=gD r)(h:Q r s):aG M A m Q s:=by rw[e];exact pure h
theorem ifF(hc:c=false)(h:aG M A b Q s):aG M A (if c=true then a else b) Q s:=by refine eqR hc ?_;exact h
theorem ifT(hc:c=true)(h:aG M A a Q s):aG M A (if c=true then a else b) Q s:=by refine eqR hc ?_;exact h
theorem builtin{id:String}(hcalm:bV.Bytes.decodersThatHold.contains id=false)(hb:ir gF id=aa b)
  (h:aG (aH prog w) (A.under (.builtin id args)) (b args) (λfin s'=>match fin with | .done f=>R f s' | .again c'=>c'.quiet=true/\dI (aH prog w) A c' R s') s):dI (aH prog w) A (.builtin id args) R s:=by
 refine tree (by show(!_)=true;rw[hcalm];rfl) ?_
 show aG _ _ (match ir gF id with |some b=>b args |none=>unsupported ((withoutEnding? id "#data").getD id)) _ s
 rw[hb];exact h
theorem callBuiltin{id:String}(hq:(nB id args).quiet=true)(hcalm:bV.Bytes.decodersThatHold.contains id=false)(hb:ir gF id=aa b)
  (h:aG (aH prog w) A.in1 (jq id args) (λ_ s₁=>aG (aH prog w) (A.under (.builtin id args)) (b args) (λfin s'=>match fin with | .done f=>R f s' | .again c'=>c'.quiet=true/\dI (aH prog w) A c' R s') s₁) s):
  dI (aH prog w) A (.call (.builtin id) args) R s:=by
 refine tree rfl ?_
 skip
 exact bind (mono h fun _ s₁ h₁=>pure (sC hq (builtin hcalm hb h₁)))
theorem typeCall{cls:Value}{rest:List Value}{kw:List (Str×Value)}{Q:Value->Shared->Prop}{c:Value}{tl:List Value}{newId:String}(h1:(cls == fL "type")=false)
  (h2:∀n,cls=.type n->((Xa n).bind (·.mro.findSome? fun t=>(Xa t).bind fun b=>if b.noNew then aa true else if b.attrs.any (·.1 == "__new__") then aa false else none)).getD false=false/\yT n ⟨rest,kw⟩=gD ())
  (hm:iO M s.heap (mroOf cls) (c::tl)) (hmade:iO M s.heap (Wj cls) (aa newId))
  (hnew:aG M A (bO (.builtin newId) (cls::rest) kw) (λobj s₁=>iO M s₁.heap (yX obj cls) true/\aG M A (pF obj "__init__" rest kw) (λr s₂=>r=aa .none/\Q obj s₂) s₁) s):
  aG M A (bV.«type.__call__» ⟨cls::rest,kw⟩) (λfin s'=>∃v,fin=.done (.ret v)/\Q v s') s:=by
 have tail:aG M A (do
   if(<-mroOf cls).isEmpty then rule "type.call.half-made";raiseError "TypeError" s!"cannot create '{← typeName cls}' instances"
   let new <-match <-Wj cls with
    |some id=>gD (Xx id)
    |none=>nP cls "__new__"
   let obj <-pC [new] (bO new (cls::rest) kw)
   if !(<-yX obj cls) then rule "type.call.new-gave-other-type";return <-ret obj
   match <-pC [obj] (pF obj "__init__" rest kw) with
   |none=>ret obj
   |some r=>
    if r != .none then
     rule "type.call.init-returned-value"
     raiseError "TypeError" s!"__init__() should return None, not '{← typeNameOf r}'"
    ret obj:cy Fin) (λfin s'=>∃v,fin=.done (.ret v)/\Q v s') s:=by
  refine bind (here hm ?_)
  refine ifF rfl ?_
  refine bind (here hmade ?_)
  refine bind (pure ?_)
  refine bind (holding (mono hnew fun obj s₁ z0=>ax z0 fun L h₁=>?_))
  refine bind (here L ?_)
  refine ifF rfl ?_
  refine bind (holding (mono h₁ fun r s₂ z1=>ax z1 fun e q=>?_))
  clear z1;refine eqR e ?_
  skip
  exact ifF rfl (pure (i12 _ rfl q))
 unfold bV.«type.__call__»
 skip
 refine ifF h1 ?_
 clear h1;clear hm;clear hmade;clear hnew;cases cls with
 |type n=>
  refine ax (h2 n rfl) fun h3 h4=>?_
  skip
  refine ifF h3 ?_
  refine bind (eqv h4 ?_)
  exact tail
 |_=>exact tail
end
end X
end Mine
end
noncomputable section
open PySem PySem.W PySem.Calls PyProof.Rows Builtin
namespace Mine
theorem Bn:bV.Bytes.decodersThatHold.contains "type.__call__" =false:=by decide+kernel
theorem LS(C:Addr)(rest:List Value)(kw:List (Str×Value)):(nB "type.__call__" ⟨.ref C::rest,kw⟩).guards=[]:=by kernel_rfl
theorem RoomX.make(R:RoomX A (b+1)):RoomX (A.under (.builtin "type.__call__" ⟨.ref C::rest,kw⟩)) b:=by
 refine⟨R.room.make,?_⟩
 show pushGuards (nB "type.__call__" ⟨.ref C::rest,kw⟩).guards A.guards=aa []
 rw[LS];exact R.guards
section
variable{prog:Program}{w:bD}{A:aS}{C:Addr}{R:kY->Shared->Prop}{h:Heap}{g:Array GenState}{d:Drawn}{t:Nat}{os:jU}
theorem X.makeCore(Y:Makes (aH prog w) h C)(hi:iO (aH prog w) h (fa (.ref C) "__init__") (aa init))
  (hb:∀self,iO (aH prog w) h (bindSpecial init self) (init,[self])) (hne:(aa init != aa (Xx "object.__init__"))=true\/(rest=[]/\kw=[]))
  (hq:aG (aH prog w) (A.under (.builtin "type.__call__" ⟨.ref C::rest,kw⟩)) (bO init (.ref (h.objs.size+1)::rest) kw) (λr s'=>r=.none/\R (.ret (.ref (h.objs.size+1))) s') ⟨(h.push gW).push (cW C h.objs.size),g,d,t,os⟩):
  dI (aH prog w) A (.call (.ref C) ⟨rest,kw⟩) R ⟨h,g,d,t,os⟩:=by
 have Y':=Y
 obtain⟨⟨oc,od,cd,sl,hC,e1,e2,e4⟩,made,base,self,top,call,typ⟩:=Y
 refine X.tree rfl ?_
 skip
 have step1:am (aH prog w) A.in1 (yR (.ref C) ⟨rest,kw⟩) (λfin s'=>fin=Fin.again (.call (.builtin "type.__call__") ⟨.ref C::rest,kw⟩)/\s'=⟨h,g,d,t,os⟩) aK ⟨h,g,d,t,os⟩:=by
  refine nd_load hC ?_
  show am _ _ (XB (.ref C) _) _ _ _
  unfold XB
  refine af (call.at ?_)
  dsimp only
  rw[tc_bind]
  refine af (aN (af (aN ?_)))
  exact aN (a:=Fin.again (.call (.builtin "type.__call__") ⟨.ref C::rest,kw⟩)) ⟨rfl,rfl⟩
 refine X.mono (X.up step1) fun fin s' z0=>ax z0 fun e es=>?_
 subst e es
 refine⟨rfl,X.callBuiltin (Ws _ (by decide+kernel)) Bn entry_typeCall (X.up (check_slot tc_kind tc_split typ (tc_args _ _ _) ?_))⟩
 have hm:iO (aH prog w) h (mroOf (.ref C)) cd.mro:=((yH (part:=none) hC).andThen .now).andThen .now
 obtain⟨c0,l0,hl⟩:∃c l,cd.mro=c::l:=by cases q:cd.mro with |nil=>replace e4:=q▸e4;cases e4 |cons c l=>exact⟨c,l,rfl⟩
 rw[hl] at hm
 refine X.mono (X.typeCall (Q:=λv s'=>R (.ret v) s') rfl (λn e=>by cases e) hm made ?_) fun fin s' ⟨v,e,q⟩=>by subst e;exact q
 refine X.up (nY (new_K Y' hi hne ?_))
 have k:∀b o,h.get? b=aa o->((h.push gW).push (cW C h.objs.size)).get? b=aa o:=λb o e=>cD _ (cD _ e)
 have hx:((h.push gW).push (cW C h.objs.size)).get? (h.objs.size+1)=aa (cW C h.objs.size):=by heap_get
 have t1:iO (aH prog w) ((h.push gW).push (cW C h.objs.size)) (nX (.ref (h.objs.size+1))) (.ref C):=(yH hx).andThen .now
 have s1:=self.keeps k
 have i1:=hi.keeps k
 have b1:=(hb (.ref (h.objs.size+1))).keeps k
 refine sC (t1.andThen s1) ?_
 unfold pF
 refine X.bind (X.here (t1.andThen i1) ?_)
 dsimp only
 refine X.holding (X.bind (X.here b1 ?_))
 dsimp only
 refine X.bind (X.mono hq fun v s' ⟨e,q⟩=>?_)
 subst e
 exact X.pure ⟨rfl,q⟩
end
section
variable{E:Env0}
theorem LU{C fI:Addr}{k kd:Nat}{init S:Spec}(hm:makesIn E.K C=true)(hi:jY E.K (.ref C) "__init__" =aa (aa (.ref fI)))(hf:nW E.K (.ref fI)=aa (.type "function"))(hI:init.SoundX E (.ref fI))(hn:init.need+1<=S.need)
  (hS:∀vs kw σ Q,S.run vs kw σ Q->qP init C k kd vs kw σ Q):S.SoundX E (.ref C):=by
 intro A s c vs us kw ks Q R V rv rk h
 have h:=hS _ _ _ _ h
 unfold qP at h
 split at h
 ·exact h.elim
 rename_i hkeys
 simp only[nw,nw] at hkeys
 have hne:k≠kd:=λq=>by have :=hkeys.2;replace this:=(mC q)▸this;exact bn this.symm
 refine e13 (Bc V (C:=C) hkeys.1.1 hkeys.1.2 hne) fun c1 e1 V1 x1=>?_
 obtain⟨hh,g,dr,t,os⟩:=s
 have e2:c1.σ=c.σ++[(kd,.attrs []),(k,.inst C kd)]:=by
  simp only[e1]
  show(c.σ++[(kd,.attrs [])])++[(k,.inst C kd)]=_
  simp only[dS];rfl
 replace h:=e2.symm▸h
 have kρ:c1.ρ k=aa (hh.objs.size+1):=by rw[e1];exact Cf.add_self ..
 have dρ:c1.ρ kd=aa hh.objs.size:=by rw[e1,Cf.add_ne _ _ _ (fh hne)];exact Cf.add_self ..
 have jρ:∀j b,j≠k->j≠kd->c1.ρ j=aa b->c.ρ j=aa b:=λj b n1 n2 q=>by rw[e1,Cf.add_ne _ _ _ n1,Cf.add_ne _ _ _ n2] at q;exact q
 have hz:((hh.push gW).push (cW C hh.objs.size)).objs.size=hh.objs.size+2:=by rw[gB,gB]
 refine X.call (X.makeCore (makes_of V.K hm) (HK V.K hi) (λself=>bind_fn V.K self hf) (.inl rfl) ?_)
 refine X.mono (hI _ ⟨_,g,dr,t,os⟩ c1 (.loc k::vs) (.ref (hh.objs.size+1)::us) kw ks _ (RoomX.make (R.le hn)) V1 (.cons (.loc kρ) (rv.ext x1)) (rk.ext x1) h) fun v s' D=>?_
 refine(let G:=_;(?_:G));obtain⟨d,r,x,W,rr,q,hsz,kept,hρ,hI',rest⟩:=D
 have hsz':hh.objs.size+2<=s'.heap.objs.size:=by rw[<-hz];exact hsz
 have up:∀{b},Mine.hsz ⟨(hh.push gW).push (cW C hh.objs.size),g,dr,t,os⟩<=b->hh.objs.size<=b:=λ{b} w=>by
  have w:((hh.push gW).push (cW C hh.objs.size)).objs.size<=b:=w
  rw[hz] at w
  exact bT (fw _ _) w
 split at q
 rotate_left
 ·exact q.elim
 replace rr:=rr.pv_inv
 cases rr.none_inv
 refine⟨rfl,_,rfl,d,.loc k,x1.trans x,W,.loc (x.ρ _ _ kρ),q,bT (fw _ _) hsz',λb o q n=>?_,λj b q=>?_,λb o q=>?_,rest⟩
 ·refine kept b o (cD _ (cD _ q)) fun j z=>?_
  by_cases n1:j=k
  ·refine(let G1:=_;(?_:G1));subst n1;replace z:=kρ▸z;have z0:=ac z;subst z0;exact absurd (bM q) (Nat.not_lt.mpr (jm _))
  ·by_cases n2:j=kd
   ·subst n2;replace z:=dρ▸z;have z1:=ac z;subst z1;exact absurd (bM q) (iP _)
   ·exact n j (jρ j b n1 n2 z)
 ·refine(let G2:=_;(?_:G2));refine(let G3:=_;(?_:G3));rcases hρ j b q with z |z
  ·by_cases n1:j=k
   ·subst n1;replace z:=kρ▸z;have z2:=ac z;subst z2;exact .inr (jm _)
   ·by_cases n2:j=kd
    ·subst n2;replace z:=dρ▸z;have z3:=ac z;subst z3;exact .inr (c8 _)
    ·exact .inl (jρ j b n1 n2 z)
  ·exact .inr (up z)
 ·rcases hI' b o q with w |w
  ·refine .inl ?_
   replace w:=e1▸w
   exact w
  ·exact .inr (up w)
end
section
variable{E:Env0}{c:Cf}{s:Shared}{Q:AV->St->Prop}
theorem Done.same(V:HInv E c s.heap)(rr:Rp E c r v)(q:Q r c.σ)(t:Nat):Done E c s Q v {s with toks:=t}:=
 ⟨c,r,Ext.refl c,V,rr,q,c8 _,λ_ _ e _=>e,λ_ _ e=>.inl e,λ_ _ e=>.inl e,rfl,rfl,rfl⟩
theorem Done.upd(V:HInv E c s.heap)(hk:aX c.σ k=aa o)(ha:c.ρ k=aa a)(hs:ii a s.heap h')(hr:ObjAt E.w.params c.I c.ρ h' a o')(rr:Rp E c r v)(q:Q r (eT c.σ k o'))(t:Nat):
  Done E c s Q v {s with heap:=h',toks:=t}:=
 ⟨{c with σ:=eT c.σ k o'},r,⟨λ_ _ e=>e,λ_ _ e=>e⟩,V.upd hk ha hs hr,rr,q,iq hs.1.symm,λb p e n=>(hs.2 b fun z=>n k (z▸ha)).trans e,λ_ _ e=>.inl e,λ_ _ e=>.inl e,rfl,rfl,rfl⟩
theorem Done.alloc(V:HInv E c s.heap)(hf:o.isFreed=false)(rr:Rp E (c.put s.heap.objs.size o) r v)(q:Q r c.σ)(t:Nat):Done E c s Q v {s with heap:=s.heap.push o,toks:=t}:=by
 refine⟨c.put s.heap.objs.size o,r,Cf.put_ext V.fresh,V.alloc hf,rr,q,by simp only[gB];exact jm _,λb p e _=>cD _ e,λ_ _ e=>.inl e,λb p e=>?_,rfl,rfl,rfl⟩
 by_cases z:b=s.heap.objs.size
 ·exact .inr (iq z.symm)
 ·rw[Cf.put_ne _ _ z] at e;exact .inl e
theorem Done.add(V:HInv E c s.heap)(hk:aX c.σ k=none)(hr:ObjAt E.w.params c.I (c.add k s.heap.objs.size o).ρ (s.heap.push x) s.heap.objs.size o)(q:Q (.loc k) (c.σ++[(k,o)]))(t:Nat):
  Done E c s Q (.ref s.heap.objs.size) {s with heap:=s.heap.push x,toks:=t}:=by
 refine⟨c.add k s.heap.objs.size o,.loc k,Cf.add_ext V hk,V.add hk hr,.loc (Cf.add_self ..),q,by simp only[gB];exact jm _,λb p e _=>cD _ e,λj b e=>?_,λb p e=>.inl e,rfl,rfl,rfl⟩
 by_cases z:j=k
 ·clear hk;clear hr;clear q;subst z;rw[Cf.add_self] at e;have z0:=ac e;refine eqL z0 ?_;exact .inr (c8 _)
 ·rw[Cf.add_ne _ _ _ z] at e;exact .inl e
end
section
variable{prog:Program}{w:bD}{A:aS}{E:Value->Shared->Prop}{s:Shared}{M:Model}
theorem ge:lh=aW:=ty
theorem kB(ho:s.heap.get? a=aa (aU b))(h:Q b.toArray s):am M A (yk (.ref a)) Q E s:=by
 unfold yk Gr
 exact af (af (gk ho (aN (aN h))))
theorem vD(ho:s.heap.get? a=aa (aU b))(hf:f b.toArray=b'.toArray)(hz:b'.length<=aW)
  (h:∀h',ii a s.heap h'->h'.get? a=aa (aU b')->Q () {s with heap:=h'}):am M A (sK (.ref a) f) Q E s:=by
 show am _ _ (y5 a f) _ _ _
 unfold y5
 refine af (gk ho ?_)
 skip
 refine af (wpAny_update ho ?_)
 have hS:(s.heap.update a (Hf f)).get? a=aa (aU b'):=by
  have :=pi (Hf f) ho rfl
  rw[this]
  show aa ({cls:=.type "bytearray",data:=.bytearray (f b.toArray)}:Obj)=_
  rw[hf]
 refine XT hS ?_ (h _ (pg ..) hS)
 show(if b'.toArray.size>lh then aa "bytearray:memory" else none)=none
 rw[if_neg]
 simp only[cb,ge]
 exact Nat.not_lt.mpr (aO (f2 1 [(1,v0,v1)] v0 v1 rfl (aF hz)))
theorem X.checkResize(hg:A.guards=aa [])(ho:s.heap.get? a=aa (aU b))(h:Q () s):aG M A (sH (.ref a)) Q s:=by
 unfold sH
 refine X.bind (X.mono (Q:=λr s'=>r=false/\s'=s) ?_ fun r s' z0=>ax z0 fun e es=>?_)
 ·refine X.bind (X.exported hg ?_)
  refine X.bind (X.up ?_)
  unfold yi
  exact af (gk ho (aN (X.pure ⟨rfl,rfl⟩)))
 ·clear ho;clear z0;refine eqR e ?_;refine eqR es ?_
  exact X.ifF rfl (X.pure h)
end
namespace BX
theorem calm_append:Bytes.decodersThatHold.contains "bytearray.append" =false:=by decide+kernel
theorem entry_append:ir gF "bytearray.append" =aa bV.«bytearray.append»:=l7 (by kernel_rfl)
theorem plain_append:plainId "bytearray.append" =true:=by decide+kernel
theorem kind_append:Hw "bytearray.append" =aa .method:=by decide+kernel
theorem split_append:splitId "bytearray.append" =aa ("bytearray","append"):=by decide+kernel
theorem calm_extend:Bytes.decodersThatHold.contains "bytearray.extend" =false:=by decide+kernel
theorem entry_extend:ir gF "bytearray.extend" =aa bV.«bytearray.extend»:=l7 (by kernel_rfl)
theorem plain_extend:plainId "bytearray.extend" =true:=by decide+kernel
theorem kind_extend:Hw "bytearray.extend" =aa .method:=by decide+kernel
theorem split_extend:splitId "bytearray.extend" =aa ("bytearray","extend"):=by decide+kernel
theorem sub_self:lg (.type "bytearray") (.type "bytearray")=pure true:=by rw[gE];kernel_rfl
end BX
section
variable{prog:Program}{w:bD}{A:aS}{E:Value->Shared->Prop}{s:Shared}{M:Model}
theorem Bo{T:String}
  (hk:Hw i=aa .method) (hs:splitId i=aa (owner,n)) (hT:s.TypeIs self T) (hi:lg (.type T) (.type owner)=pure true) (ha:dW i ⟨self::rest,[]⟩) (q:Q () s):
  am M A (jq i ⟨self::rest,[]⟩) Q E s:=by
 simp only[jq,hk,hs]
 refine af (md hT hi ?_)
 simp only[Wl,sE,if_false]
 cases hsig:Manifest.signature? i with
 |none=>exact aN q
 |some sig=>
  simp only[dW,hsig] at ha
  have h2:Wi i sig ⟨self::rest,[]⟩=pure ():=ha
  show am M A (Wi i sig ⟨self::rest,[]⟩) Q E s
  rw[h2];exact aN q
theorem gq(ho:s.heap.get? a=aa (aU b)):s.TypeIs (.ref a) "bytearray":=(i12 _ ho rfl)
theorem LV(a b:Value):dW "bytearray.append" ⟨[a,b],[]⟩:=by unfold dW;kernel_rfl
theorem LW(a b:Value):dW "bytearray.extend" ⟨[a,b],[]⟩:=by unfold dW;kernel_rfl
theorem LX(h0:0<=i)(h1:i<256)(h:Q i.toNat.toUInt8 s):am M A (Gq (.int i t)) Q E s:=by
 unfold Gq
 refine af (dY (rfl:asIndex (.int i t)=pure i) ?_)
 skip
 rw[if_neg (by simp only[ny,decide_eq_true_eq];lia)]
 exact aN h
theorem X.append(hg:A.guards=aa [])(ho:s.heap.get? a=aa (aU b))(h0:0<=i)(h1:i<256)(hz:b.length+1<=aW)
  (h:∀h',ii a s.heap h'->h'.get? a=aa (aU (b++[i.toNat.toUInt8]))->R (.ret .none) {s with heap:=h'}):dI (aH prog w) A (.call (.builtin "bytearray.append") ⟨[.ref a,.int i t],[]⟩) R s:=by
 have eF:am (aH prog w) A.in1 (jq "bytearray.append" ⟨[.ref a,.int i t],[]⟩) (λ_ s'=>s'=s) aK s:=by
  refine Bo (i:="bytearray.append") (self:=.ref a) (rest:=[.int i t]) BX.kind_append BX.split_append (gq ho) BX.sub_self ?_ ?_
  ·exact LV (.ref a) (.int i t)
  ·exact rfl
 refine X.callBuiltin (nT BX.plain_append _) BX.calm_append BX.entry_append (X.mono (X.up eF) fun _ s' e=>?_)
 clear eF;refine eqR e ?_
 rw[pc BX.plain_append _]
 show aG _ _ (Gq (.int i t) >>=λc=>_) _ _
 refine X.bind (X.up (LX h0 h1 ?_))
 refine X.bind (X.checkResize hg ho ?_)
 refine X.bind (X.up (vD ho (b':=b++[i.toNat.toUInt8]) (by simp) (by simpa using hz) fun h' e1 e2=>?_))
 exact X.pure (h h' e1 e2)
end
namespace BX
theorem look_bytes_buffer:fa (.type "bytes") "__buffer__" =pure (aa (.builtin "bytes.__buffer__")):=by rw[eB,eA];kernel_rfl
theorem look_bytes_release:fa (.type "bytes") "__release_buffer__" =pure none:=by rw[eB,eA];kernel_rfl
theorem look_ba_buffer:fa (.type "bytearray") "__buffer__" =pure (aa (.builtin "bytearray.__buffer__")):=by rw[eB,eA];kernel_rfl
theorem look_ba_release:fa (.type "bytearray") "__release_buffer__" =pure (aa (.builtin "bytearray.__release_buffer__")):=by rw[eB,eA];kernel_rfl
theorem sub_bytes:lg (.type "bytes") (.type "bytes")=pure true:=by rw[gE];kernel_rfl
theorem ends1:(("bytes.__buffer__" :String).endsWith ("." ++"__buffer__"))=true:=by decide+kernel
theorem drop1:(("bytes.__buffer__" :String).dropRight (("__buffer__" :String).length+1))="bytes":=by decide+kernel
theorem ends2:(("bytearray.__release_buffer__" :String).endsWith ("." ++"__release_buffer__"))=true:=by decide+kernel
theorem drop2:(("bytearray.__release_buffer__" :String).dropRight (("__release_buffer__" :String).length+1))="bytearray":=by decide+kernel
theorem ends3:(("bytearray.__buffer__" :String).endsWith ("." ++"__buffer__"))=true:=by decide+kernel
theorem drop3:(("bytearray.__buffer__" :String).dropRight (("__buffer__" :String).length+1))="bytearray":=by decide+kernel
end BX
section
variable{prog:Program}{w:bD}{A:aS}{E:Value->Shared->Prop}{s:Shared}{M:Model}
theorem LY{v:Value}{T name:String}{Q:Bool->Shared->Prop}(hT:s.TypeIs v T)(h1:fa (.type T) (name:Str)=pure none)(q:Q true s):am M A (yl v name) Q E s:=by
 unfold yl
 exact af (dC hT h1 (aN q))
theorem qR{v:Value}{T U id name:String}{Q:Bool->Shared->Prop}(hT:s.TypeIs v T)(h1:fa (.type T) (name:Str)=pure (aa (.builtin id)))(h2:id.endsWith ("." ++name)=true)(h3:id.dropRight (name.length+1)=U)(h4:lg (.type T) (.type U)=pure true)(q:Q true s):am M A (yl v name) Q E s:=by
 unfold yl
 refine af (dC hT h1 ?_)
 dsimp only
 rw[h2]
 refine jW (by rfl) ?_
 rw[h3]
 exact md hT h4 q
theorem LZ(q:Q false s):am M A (yj (.bytes x t)) Q E s:=by
 unfold yj
 exact af (LY (ix s x t) BX.look_bytes_release (aN q))
theorem qS{a:Addr}{b:List UInt8}{Q:Bool->Shared->Prop}(ho:s.heap.get? a=aa (aU b))(q:Q false s):am M A (yj (.ref a)) Q E s:=by
 unfold yj
 exact af (qR (gq ho) BX.look_ba_release BX.ends2 BX.drop2 BX.sub_self (aN q))
theorem Bp(q:Q (aa x) s):am M A (sG i (.bytes x t) f) Q E s:=by
 have hT:=ix s x t
 unfold sG
 refine af (dC hT BX.look_bytes_buffer ?_)
 refine af (qR hT BX.look_bytes_buffer BX.ends1 BX.drop1 BX.sub_bytes ?_)
 refine jW (by rfl) ?_
 refine af (dC hT BX.look_bytes_buffer ?_)
 refine af (LZ ?_)
 refine jW (by rfl) ?_
 refine af ?_
 unfold yk Gr
 exact af (aN (aN (aN q)))
theorem Ma(q:Q (aa (x,none)) s):am M A (Wq i (.bytes x t) 0) Q E s:=by
 have hT:=ix s x t
 unfold Wq
 refine af (HW ?_)
 unfold Bytes.takeBuffer?
 refine af (dC hT BX.look_bytes_buffer ?_)
 refine af (qR hT BX.look_bytes_buffer BX.ends1 BX.drop1 BX.sub_bytes ?_)
 refine jW (by rfl) ?_
 refine af (dC hT BX.look_bytes_buffer ?_)
 exact af (Bp (aN (aN q)))
theorem X.extend(hg:A.guards=aa [])(ho:s.heap.get? a=aa (aU b))(hz:b.length+x.length<=aW)
  (h:∀h',ii a s.heap h'->h'.get? a=aa (aU (b++x))->R (.ret .none) {s with heap:=h'}):dI (aH prog w) A (.call (.builtin "bytearray.extend") ⟨[.ref a,.bytes x.toArray t],[]⟩) R s:=by
 have eF:am (aH prog w) A.in1 (jq "bytearray.extend" ⟨[.ref a,.bytes x.toArray t],[]⟩) (λ_ s'=>s'=s) aK s:=by
  refine Bo (i:="bytearray.extend") (self:=.ref a) (rest:=[.bytes x.toArray t]) BX.kind_extend BX.split_extend (gq ho) BX.sub_self ?_ ?_
  ·exact LW (.ref a) (.bytes x.toArray t)
  ·exact rfl
 refine X.callBuiltin (nT BX.plain_extend _) BX.calm_extend BX.entry_extend (X.mono (X.up eF) fun _ s' e=>?_)
 subst s'
 rw[pc BX.plain_extend _]
 unfold bV.«bytearray.extend»
 refine X.bind (X.eqv (r:=(.ref a,.bytes x.toArray t)) rfl ?_)
 skip
 refine X.bind (X.up (dC (ix _ _ _) BX.look_bytes_buffer ?_))
 refine X.ifT (by rfl) ?_
 refine X.bind (X.up (lj ?_))
 refine X.bind (X.up (kB ho ?_))
 refine X.bind (X.up (Ma ?_))
 skip
 refine X.ifT (by rfl) ?_
 have tail:∀(f:Array UInt8->Array UInt8),f b.toArray=(b++x).toArray->aG (aH prog w) A.in1 (do sK (.ref a) f;ret .none) (λfin s'=>match fin with | .done f=>R f s' | .again c'=>c'.quiet=true/\dI (aH prog w) A c' R s') s:=λf hf=>by
  refine X.bind (X.up (vD ho (b':=b++x) hf (by simpa using hz) fun h' e1 e2=>?_))
  exact X.pure (h h' e1 e2)
 show aG _ _ (if(!x.toArray.isEmpty)=true then(sH (.ref a) >>=λ_=>_) else _) _ _
 split
 ·exact X.bind (X.checkResize hg ho (tail _ (by simp)))
 ·exact tail _ (by simp)
end
namespace BX
theorem ba_mro:mroOf (.type "bytearray")=pure [.type "bytearray",.type "object"]:=by rw[mroOf_type];kernel_rfl
theorem Mb:fa (.type "bytearray") "__new__" =pure (aa (.builtin "bytearray.__new__")):=by rw[eB,eA];kernel_rfl
theorem slot_init:jV "bytearray" "__init__" "bytearray.__init__":=
 .of (owner:="bytearray") (n:="__init__") (by rw[eB,eA];kernel_rfl) (by decide+kernel) (by decide+kernel) (by decide+kernel)
  (by first |exact .inl (by decide+kernel)|exact .inr (by decide+kernel)) (by rw[gE];kernel_rfl)
theorem called:TypeCalled "bytearray" "bytearray.__new__" "bytearray.__init__":=
 ⟨by decide+kernel,by decide+kernel,(i21 _ _ ba_mro),madeBy_type ba_mro Mb (by decide+kernel),by decide+kernel,sub_self,slot_init⟩
theorem typeCall0:yT "bytearray" ⟨[],[]⟩=pure ():=by kernel_rfl
theorem typeCall1(a:Value):yT "bytearray" ⟨[a],[]⟩=pure ():=by kernel_rfl
theorem newCall0:jq "bytearray.__new__" ⟨[.type "bytearray"],[]⟩=pure ():=by kernel_rfl
theorem newCall1(a:Value):jq "bytearray.__new__" ⟨[.type "bytearray",a],[]⟩=pure ():=by kernel_rfl
theorem entry_new:ir gF "bytearray.__new__" =aa bV.«list.__new__»:=by
 refine entryFor_alias (id':="list.__new__") ?_ ?_ ?_ ?_ <;> first |kernel_rfl |decide+kernel
theorem plain_new:plainId "bytearray.__new__" =true:=by decide+kernel
theorem entry_init:ir gF "bytearray.__init__" =aa bV.«bytearray.__init__»:=l7 (by kernel_rfl)
theorem calm_init:Bytes.decodersThatHold.contains "bytearray.__init__" =false:=by decide+kernel
theorem args_init0(a:Value):dW "bytearray.__init__" ⟨[a],[]⟩:=by unfold dW;kernel_rfl
theorem args_init1(a b:Value):dW "bytearray.__init__" ⟨[a,b],[]⟩:=by unfold dW;kernel_rfl
set_option maxRecDepth 1000000 in
set_option maxHeartbeats 4000000 in
theorem owner_new:("bytearray.__new__".splitOn ".__new__").headD "" ="bytearray":=by simp +decide [String.splitOn,String.splitOnAux]
theorem bind0:Wn "bytearray.__init__" "bytearray" ["source","encoding","errors"] [] []=pure [none,none,none]:=by kernel_rfl
theorem bind1(a:Value):Wn "bytearray.__init__" "bytearray" ["source","encoding","errors"] [a] []=pure [aa a,none,none]:=by kernel_rfl
theorem bytes_no_index:fa (.type "bytes") "__index__" =pure none:=by rw[eB,eA];kernel_rfl
end BX
section
variable{prog:Program}{w:bD}{A:aS}{E:Value->Shared->Prop}{s:Shared}
theorem Mc(args:List Value)(hc:jq "bytearray.__new__" ⟨.type "bytearray" ::args,[]⟩=pure ())
  (h:Q₁ (.ref s.heap.objs.size) {s with heap:=s.heap.push (aU [])}):
  la (aH prog w) A (.call (.builtin "bytearray.__new__") ⟨.type "bytearray" ::args,[]⟩) (wants Q₁ E) s:=by
 refine HA ?_
 skip
 refine af (dY hc (aN ⟨nT BX.plain_new _,codeAny_builtin_stack BX.entry_new rfl fun p st=>?_⟩))
 rw[pc BX.plain_new _]
 have hsub:=BX.sub_self
 have hown:=BX.owner_new
 obtain⟨hp,g,d,tk,os⟩:=s
 simp only[hown]
 wp_walk
 exact h
theorem X.makeBa{tk:Bool}(hct:yT "bytearray" ⟨args,[]⟩=gD ())(hcn:jq "bytearray.__new__" ⟨.type "bytearray" ::args,[]⟩=gD ())(ha:dW "bytearray.__init__" ⟨.ref s.heap.objs.size::args,[]⟩)
  (h:aG (aH prog w) A.in1.in1 (bV.«bytearray.__init__» ⟨.ref s.heap.objs.size::args,[]⟩) (λfin s'=>fin=.done (.ret .none)/\R (.ret (.ref s.heap.objs.size)) s') {s with heap:=s.heap.push (aU [])}):
  dI (aH prog w) A (.call (.type "bytearray") ⟨args,[]⟩) R s:=by
 refine X.tree rfl ?_
 skip
 refine X.pure ⟨Ws _ (by decide+kernel),X.builtin Bn F.entry_type_call ?_⟩
 simp only[aS.under_plain (weight_type_call_type "bytearray" args []) rfl]
 refine X.mono (X.typeCall (Q:=λv s'=>R (.ret v) s') (c:=.type "bytearray") (tl:=[.type "object"]) (newId:="bytearray.__new__") BX.called.notType (λn e=>by refine(let G:=_;(?_:G));cases e;exact⟨BX.called.canCreate,hct⟩) (pt BX.ba_mro) (pt BX.called.made) ?_) fun fin s' z0=>e12 z0 fun v e q=>by clear z0;refine eqR e ?_;exact q
 refine X.up (nY (pH (Mc (E:=aK) args hcn (Q₁:=λv s'=>v=.ref s.heap.objs.size/\s'={s with heap:=s.heap.push (aU [])}) ⟨rfl,rfl⟩) fun r s₁ hr=>?_))
 cases r with
 |error e=>exact hr.elim
 |ok fl=>
  cases fl with
  |ret obj=>
   obtain⟨e1,e2⟩:=hr
   refine eqR e1 ?_;refine eqR e2 ?_
   have ho:(s.heap.push (aU [])).get? s.heap.objs.size=aa (aU []):=d9 _ rfl
   have hT:({s with heap:=s.heap.push (aU [])}:Shared).TypeIs (.ref s.heap.objs.size) "bytearray":=(i12 _ ho rfl)
   refine sC (((yH (part:=none) ho).andThen .now).andThen (pt BX.sub_self)) ?_
   unfold pF
   refine X.bind (X.up (dC hT BX.slot_init.lookup ?_))
   refine X.holding (X.bind (X.eqv (BX.slot_init.bind _) ?_))
   skip
   refine X.bind (X.mono (Q:=λv s'=>v=.none/\R (.ret (.ref s.heap.objs.size)) s') (X.call ?_) fun v s' z1=>ax z1 fun e q=>?_)
   ·have eF:am (aH prog w) A.in1.in1 (jq "bytearray.__init__" ⟨.ref s.heap.objs.size::args,[]⟩) (λ_ s'=>s'={s with heap:=s.heap.push (aU [])}) aK {s with heap:=s.heap.push (aU [])}:=
     BX.slot_init.check _ _ _ _ _ _ _ _ hT ha rfl
    refine X.callBuiltin (args:=⟨.ref s.heap.objs.size::args,[]⟩) (nT BX.slot_init.plain _) BX.calm_init BX.entry_init (X.mono (X.up eF) fun _ s' e=>?_)
    subst s'
    rw[pc BX.slot_init.plain _]
    refine X.mono h fun fin s' z2=>ax z2 fun e q=>?_
    subst e
    exact(i13 _ rfl rfl q)
   ·subst e
    exact X.pure ⟨rfl,q⟩
  |_=>exact hr.elim
end
section
variable{prog:Program}{w:bD}{A:aS}{E:Value->Shared->Prop}{s:Shared}{M:Model}
theorem Me(h:Heap)(o:Obj)(f:Obj->Obj):(h.push o).update h.objs.size f=h.push (f o):=by
 obtain⟨objs,l⟩:=h
 show Heap.mk ((objs.push o).modify objs.size f) l=Heap.mk (objs.push (f o)) l
 congr 1
 refine Array.ext (by simp) fun i h1 h2=>?_
 rw[Array.getElem_modify]
 have h3:i<objs.size+1:=by simpa using h2
 by_cases q:i=objs.size
 ·clear h3;subst q;simp
 ·have :i<objs.size:=by lia
  rw[if_neg (fh q),Wg this,Wg this]
theorem oF{a:Addr}{b:List UInt8}{f:Array UInt8->Array UInt8}{b':List UInt8}{h0:Heap}{Q:Unit->Shared->Prop}(ho:s.heap=h0.push (aU b))(ha:a=h0.objs.size)(hf:f b.toArray=b'.toArray)(hz:b'.length<=aW)
  (h:Q () {s with heap:=h0.push (aU b')}):am M A (sK (.ref a) f) Q E s:=by
 have hg:s.heap.get? a=aa (aU b):=by simp only[ho,ha];exact d9 _ rfl
 show am _ _ (y5 a f) _ _ _
 unfold y5
 refine af (gk hg ?_)
 skip
 refine af (wpAny_update hg ?_)
 have hu:s.heap.update a (Hf f)=h0.push (aU b'):=by
  simp only[ho,ha]
  rw[Me]
  show h0.push {cls:=.type "bytearray",data:=.bytearray (f b.toArray)}=_
  rw[hf]
 rw[hu]
 refine XT (o:=aU b') (by simp only[ha];exact d9 _ rfl) ?_ h
 show(if b'.toArray.size>lh then aa "bytearray:memory" else none)=none
 rw[if_neg]
 simp only[cb,ge]
 exact Nat.not_lt.mpr (aO (f2 1 [(1,v0,v1)] v0 v1 rfl (aF hz)))
theorem X.init0{h0:Heap}(hg:A.guards=aa [])(ho:s.heap=h0.push (aU [])):aG M A (bV.«bytearray.__init__» ⟨[.ref h0.objs.size],[]⟩) (λfin s'=>fin=.done (.ret .none)/\s'={s with heap:=h0.push (aU [])}) s:=by
 have hg0:s.heap.get? h0.objs.size=aa (aU []):=by rw[ho];exact d9 _ rfl
 unfold bV.«bytearray.__init__»
 skip
 refine X.bind (X.up (qS hg0 ?_))
 refine X.ifF (by rfl) ?_
 refine X.bind (X.eqv BX.bind0 ?_)
 dsimp only
 refine X.bind (X.eqv (r:=()) rfl ?_)
 refine X.bind (X.eqv (r:=()) rfl ?_)
 refine X.bind (X.mono (Q:=λr s'=>r=false/\s'=s) ?_ fun r s' z0=>ax z0 fun e es=>?_)
 ·refine X.bind (X.exported hg ?_)
  refine X.bind (X.up ?_)
  unfold yi
  exact af (gk hg0 (aN (X.pure ⟨rfl,rfl⟩)))
 clear z0;subst r;subst s'
 refine X.ifF (by rfl) ?_
 refine X.bind (X.up (oF ho rfl (b':=[]) rfl (iQ _) ?_))
 exact X.pure ⟨rfl,rfl⟩
theorem X.init1{h0:Heap}{n:Int}{t:fj}(hg:A.guards=aa [])(ho:s.heap=h0.push (aU []))(h1:0<=n)(h2:n<=aW):aG M A (bV.«bytearray.__init__» ⟨[.ref h0.objs.size,.int n t],[]⟩) (λfin s'=>fin=.done (.ret .none)/\s'={s with heap:=h0.push (aU (fH n.toNat 0))}) s:=by
 have hg0:s.heap.get? h0.objs.size=aa (aU []):=by rw[ho];exact d9 _ rfl
 unfold bV.«bytearray.__init__»
 skip
 refine X.bind (X.up (qS hg0 ?_))
 refine X.ifF (by rfl) ?_
 refine X.bind (X.eqv (BX.bind1 _) ?_)
 skip
 refine X.bind (X.eqv (r:=()) rfl ?_)
 refine X.bind (X.eqv (r:=()) rfl ?_)
 refine X.bind (X.mono (Q:=λr s'=>r=false/\s'=s) ?_ fun r s' z0=>ax z0 fun e es=>?_)
 ·refine X.bind (X.exported hg ?_)
  refine X.bind (X.up ?_)
  unfold yi
  exact af (gk hg0 (aN (X.pure ⟨rfl,rfl⟩)))
 subst r;subst s'
 refine X.ifF (by rfl) ?_
 refine X.bind (X.up (oF ho rfl (b':=[]) rfl (iQ _) ?_))
 have ho1:({s with heap:=h0.push (aU [])}:Shared).heap=h0.push (aU []):=rfl
 refine X.bind (X.eqv (r:=none) rfl ?_)
 refine X.ifF (by rfl) ?_
 refine X.bind (X.eqv (r:=()) rfl ?_)
 refine X.bind (X.up (dC (pP _ n t) F.slot_int_index.lookup ?_))
 refine X.ifT (by rfl) ?_
 refine X.bind (X.attempt (X.eqv (r:=n) rfl ?_))
 skip
 have hb:(aW:Int)=16777216:=rfl
 refine X.ifF (by simp only[sI,Bool.not_eq_false',bC,decide_eq_true_eq];exact⟨f1 1 [(1,.n 0,v0)] (.g (.n (2^63))) v0 rfl h1,f2 1 [(1,v0,v1),(1,v1,.n 16777216)] (.p v0 (.n 1)) (.n (2^63)) rfl h2 (dR hb)⟩) ?_
 show aG _ _ (if n<0 then _ else _) _ _
 rw[if_neg (by exact Int.not_lt.mpr (f1 1 [(1,.n 0,v0)] (.n 0) v0 rfl h1))]
 show aG _ _ (if(n == 2^63-1)=true then _ else _) _ _
 rw[if_neg (by rw[beq_iff_eq];lia)]
 show aG _ _ (if Wr n.toNat=true then _ else _) _ _
 rw[if_neg (by unfold Wr;rw[decide_eq_true_eq,ge];lia)]
 refine X.bind (X.up (lj ?_))
 show aG _ _ (if n>0 then _ else _) _ _
 clear h1;clear hb;split
 ·refine X.bind (X.up (oF ho1 rfl (b':=fH n.toNat 0) (by simp) (by rw[nG];lia) ?_))
  exact X.pure ⟨rfl,rfl⟩
 ·have :n.toNat=0:=by omega
  rw[this]
  exact X.pure ⟨rfl,rfl⟩
theorem X.init2{h0:Heap}{x:List UInt8}{t:fj}(hg:A.guards=aa [])(ho:s.heap=h0.push (aU []))(hz:x.length<=aW):aG M A (bV.«bytearray.__init__» ⟨[.ref h0.objs.size,.bytes x.toArray t],[]⟩) (λfin s'=>fin=.done (.ret .none)/\s'={s with heap:=h0.push (aU x)}) s:=by
 have hg0:s.heap.get? h0.objs.size=aa (aU []):=by rw[ho];exact d9 _ rfl
 unfold bV.«bytearray.__init__»
 skip
 refine X.bind (X.up (qS hg0 ?_))
 refine X.ifF (by rfl) ?_
 refine X.bind (X.eqv (BX.bind1 _) ?_)
 skip
 refine X.bind (X.eqv (r:=()) rfl ?_)
 refine X.bind (X.eqv (r:=()) rfl ?_)
 refine X.bind (X.mono (Q:=λr s'=>r=false/\s'=s) ?_ fun r s' z0=>ax z0 fun e es=>?_)
 ·refine X.bind (X.exported hg ?_)
  refine X.bind (X.up ?_)
  unfold yi
  exact af (gk hg0 (aN (X.pure ⟨rfl,rfl⟩)))
 subst r;subst s'
 refine X.ifF (by rfl) ?_
 refine X.bind (X.up (oF ho rfl (b':=[]) rfl (iQ _) ?_))
 have ho1:({s with heap:=h0.push (aU [])}:Shared).heap=h0.push (aU []):=rfl
 refine X.bind (X.eqv (r:=none) rfl ?_)
 refine X.ifF (by rfl) ?_
 refine X.bind (X.eqv (r:=()) rfl ?_)
 refine X.bind (X.up (dC (ix _ _ t) BX.bytes_no_index ?_))
 refine X.ifF (by rfl) ?_
 refine X.bind (X.up (Bp ?_))
 skip
 refine X.bind (X.up (lj ?_))
 refine X.bind (X.up (oF ho1 rfl (b':=x) rfl hz ?_))
 exact X.pure ⟨rfl,rfl⟩
end
section
variable{prog:Program}{w:bD}{A:aS}{s:Shared}{R:kY->Shared->Prop}
theorem X.ba0(hg:A.guards=aa [])(h:R (.ret (.ref s.heap.objs.size)) {s with heap:=s.heap.push (aU [])}):dI (aH prog w) A (.call (.type "bytearray") ⟨[],[]⟩) R s:=by
 refine X.makeBa (tk:=true) BX.typeCall0 BX.newCall0 (BX.args_init0 _) (X.mono (X.init0 (h0:=s.heap) hg rfl) fun fin s' z0=>ax z0 fun e1 e2=>?_)
 clear z0;refine eqR e1 ?_;refine eqR e2 ?_;exact⟨rfl,h⟩
theorem X.ba1{n:Int}{t:fj}(hg:A.guards=aa [])(h1:0<=n)(h2:n<=aW)(h:R (.ret (.ref s.heap.objs.size)) {s with heap:=s.heap.push (aU (fH n.toNat 0))}):dI (aH prog w) A (.call (.type "bytearray") ⟨[.int n t],[]⟩) R s:=by
 refine X.makeBa (tk:=true) (BX.typeCall1 _) (BX.newCall1 _) (BX.args_init1 _ _) (X.mono (X.init1 (h0:=s.heap) hg rfl h1 h2) fun fin s' z0=>ax z0 fun e1 e2=>?_)
 clear z0;refine eqR e1 ?_;refine eqR e2 ?_;exact⟨rfl,h⟩
theorem X.ba2{x:List UInt8}{t:fj}(hg:A.guards=aa [])(hz:x.length<=aW)(h:R (.ret (.ref s.heap.objs.size)) {s with heap:=s.heap.push (aU x)}):dI (aH prog w) A (.call (.type "bytearray") ⟨[.bytes x.toArray t],[]⟩) R s:=by
 refine X.makeBa (tk:=true) (BX.typeCall1 _) (BX.newCall1 _) (BX.args_init1 _ _) (X.mono (X.init2 (h0:=s.heap) hg rfl hz) fun fin s' z0=>ax z0 fun e1 e2=>?_)
 clear z0;refine eqR e1 ?_;refine eqR e2 ?_;exact⟨rfl,h⟩
end
namespace BX
theorem slot_setitem:jV "bytearray" "__setitem__" "bytearray.__setitem__":=
 .of (owner:="bytearray") (n:="__setitem__") (by rw[eB,eA];kernel_rfl) (by decide+kernel) (by decide+kernel) (by decide+kernel)
  (by first |exact .inl (by decide+kernel)|exact .inr (by decide+kernel)) (by rw[gE];kernel_rfl)
theorem entry_setitem:ir gF "bytearray.__setitem__" =aa bV.«bytearray.__setitem__»:=l7 (by kernel_rfl)
theorem args_setitem(a b c:Value):dW "bytearray.__setitem__" ⟨[a,b,c],[]⟩:=by unfold dW;kernel_rfl
theorem calm_setitem:Bytes.decodersThatHold.contains "bytearray.__setitem__" =false:=by decide+kernel
theorem slice_no_index:fa (.type "slice") "__index__" =pure none:=by rw[eB,eA];kernel_rfl
theorem bytes_no_int:fa (.type "bytes") "__int__" =pure none:=by rw[eB,eA];kernel_rfl
theorem bytes_no_float:fa (.type "bytes") "__float__" =pure none:=by rw[eB,eA];kernel_rfl
theorem bytes_complex:lg (.type "bytes") (.type "complex")=pure false:=by rw[gE];kernel_rfl
theorem bytes_ba:lg (.type "bytes") (.type "bytearray")=pure false:=by rw[gE];kernel_rfl
end BX
section
variable{prog:Program}{w:bD}{A:aS}{E:Value->Shared->Prop}{s:Shared}{M:Model}
theorem vE{lo:Option Int}(hS:s.heap.IsSliceOf a l u .none)(hl:fg l lo)(hu:fg u hi)(h:Q (pK lo,pK hi,pK none) s):am M A (Wo (.ref a)) Q E s:=by
 obtain⟨o,ho,hc,hd⟩:=hS
 have hT:s.TypeIs (.ref a) "slice":=(i12 o ho hc)
 unfold Wo
 refine af (gY (x:=.none) ho hd rfl ?_)
 kby_none
 refine wpAny_ite (KBy.ite_no (show ¬((yN == rawInt 0)=true) from pd) ?_)
 refine af (gY (x:=l) ho hd rfl ?_)
 refine(let G:=_;(?_:G));cases hl <;> cases hu <;> (first
  |(kby_none;(refine af (gY (x:=.none) ho hd rfl ?_));kby_none)
  |(kby_none;(refine af (gY (x:=.int _ _) ho hd rfl ?_));kby_int)
  |(kby_int;(refine af (gY (x:=.none) ho hd rfl ?_));kby_none)
  |(kby_int;(refine af (gY (x:=.int _ _) ho hd rfl ?_));kby_int)) <;> exact aN h
theorem Mf{lo hi:Int}{n:Nat}(h0:0<=lo)(h1:lo<=hi)(h2:hi<=n):pM (aa lo) (aa hi) none n=(lo,hi,1):=by
 unfold pM
 have e1:¬lo<0:=Int.not_lt.mpr (f1 1 [(1,.n 0,v0)] (.n 0) v0 rfl h0)
 have e2:¬hi<0:=Int.not_lt.mpr (f2 1 [(1,.n 0,v0),(1,v0,v1)] (.n 0) v1 rfl h0 h1)
 simp only[Xj,Option.getD_some,e1,e2,if_false,if_true,Int.zero_lt_one,show(1:Int)>0 from by decide]
 rw[WB (by exact f3 1 [(1,v0,v1),(1,v1,v2)] v0 v2 rfl h1 h2:lo<=(n:Int)),WB h2,yu h0,yu (by exact f2 1 [(1,.n 0,v0),(1,v0,v1)] (.n 0) v1 rfl h0 h1)]
theorem X.setTail{lo:Int}(hg:A.guards=aa [])(ho:s.heap.get? a=aa (aU b))(h0:0<=lo)(h1:lo<=hi)(h2:hi<=b.length)(hz:b.length+wd.length<=aW)
  (h:∀h',ii a s.heap h'->h'.get? a=aa (aU (aZ b wd lo.toNat hi.toNat))->R (.done (.ret .none)) {s with heap:=h'}) (hn:n=b.toArray.size)
  (hk:k (lo,hi,1)=(do
   rule "bytearray.__setitem__.slice"
   if(wd.toArray.size:Int) != max lo hi-lo then sH (.ref a)
   sK (.ref a) fun b=>b.extract 0 lo.toNat++wd.toArray++b.extract (max lo hi).toNat b.size
   ret yN)):
  aG M A (sliceIndices (pK (aa lo)) (pK (aa hi)) (pK none) n >>=k) R s:=by
 refine X.bind (X.eqv (HN (aa lo) (aa hi) none n (λe=>nomatch e)) ?_)
 rw[Mf h0 h1 (by simp only[hn];simpa using h2),hk]
 refine X.bind (X.up (lj ?_))
 have tail:aG M A (do sK (.ref a) fun b=>b.extract 0 lo.toNat++wd.toArray++b.extract (max lo hi).toNat b.size;ret yN) R s:=by
  refine X.bind (X.up (vD ho (b':=aZ b wd lo.toNat hi.toNat) ?_ ?_ fun h' e1 e2=>?_))
  ·rw[yu h1]
   unfold aZ
   apply Array.toList_inj.mp
   simp only[Array.toList_append,Array.toList_extract,List.extract_eq_take_drop,cb]
   simp
   exact WZ (by simp)
  ·unfold aZ
   simp only[bB,bB,ip,jR]
   omega
  ·exact X.pure (h h' e1 e2)
 show aG _ _ (if _ then(sH (.ref a) >>=λ_=>_) else _) _ _
 split
 ·exact X.bind (X.checkResize hg ho tail)
 ·exact tail
end
section
variable{prog:Program}{w:bD}{A:aS}{E:Value->Shared->Prop}{s:Shared}{M:Model}
theorem X.setitemBody{lo:Int}(hg:A.guards=aa [])(ho:s.heap.get? a=aa (aU b))(hv:v=.bytes wd.toArray t\/∃x,x≠a/\v=.ref x/\s.heap.get? x=aa (aU wd))
  (hS:s.heap.IsSliceOf sl vl vu .none) (hl:fg vl (aa lo)) (hu:fg vu (aa hi)) (h0:0<=lo) (h1:lo<=hi) (h2:hi<=b.length) (hz:b.length+wd.length<=aW)
  (h:∀h' k,(∀c o,c≠a->s.heap.get? c=aa o->h'.get? c=aa o)->h'.get? a=aa (aU (aZ b wd lo.toNat hi.toNat))->R (.done (.ret .none)) {s with heap:=h',toks:=k}):
  aG (aH prog w) A (bV.«bytearray.__setitem__» ⟨[.ref a,.ref sl,v],[]⟩) R s:=by
 refine e13 (id hS) fun o hos hc hd=>?_
 have hT:s.TypeIs (.ref sl) "slice":=(i12 o hos hc)
 unfold bV.«bytearray.__setitem__»
 skip
 refine X.ifF (by rfl) ?_
 refine X.bind (X.up ?_)
 unfold ym
 refine af (dC hT BX.slice_no_index (aN ?_))
 skip
 refine X.bind (X.up (tB hT ?_))
 refine X.ifF (by rfl) ?_
 refine X.bind (X.up (vE hS hl hu ?_))
 skip
 rcases hv with rfl |⟨x,hx,rfl,hox⟩
 ·have hsr:pe (.ref a) (.bytes wd.toArray t)=false:=rfl
  rw[hsr]
  have key:am (aH prog w) A (yX (.bytes wd.toArray t) (.type "bytearray")) (λr s'=>r=false/\s'=s) aK s:=md (ix s _ t) BX.bytes_ba ⟨rfl,rfl⟩
  refine X.bind (X.mono (Q:=λr s'=>r=false/\s'=s) (X.up key) fun r s' z1=>ax z1 fun e es=>?_)
  subst r;subst s'
  refine X.ifT (by rfl) ?_
  have hTb:=ix s wd.toArray t
  refine X.bind (X.mono (Q:=λr s'=>r=false/\s'=s) (X.up ?_) fun r s' ⟨e,es⟩=>?_)
  ·refine af (af (dC hTb BX.bytes_no_index (aN ?_)))
   refine af (af (dC hTb BX.bytes_no_int (aN ?_)))
   refine af (af (dC hTb BX.bytes_no_float (aN ?_)))
   exact md hTb BX.bytes_complex ⟨rfl,rfl⟩
  subst r s'
  refine X.bind (X.eqv (r:=none) rfl ?_)
  refine X.ifF (by rfl) ?_
  refine X.bind (X.up (lj ?_))
  have hlt:=bM ho
  refine X.bind (X.mono (Q:=λr s'=>r=.ref s.heap.objs.size/\s'={s with heap:=s.heap.push (aU wd)}) (X.call (X.ba2 hg (aO (f5 1 [(1,.n 0,v0),(1,v0,v1),(1,v1,v2),(1,.p v2 v3,v4)] v3 v4 rfl h0 h1 h2 (aF hz))) (i13 _ rfl rfl rfl))) fun r s' z0=>ax z0 fun e es=>?_)
  subst r s'
  have ho1:(s.heap.push (aU wd)).get? a=aa (aU b):=cD _ ho
  have hox:(s.heap.push (aU wd)).get? s.heap.objs.size=aa (aU wd):=d9 _ rfl
  have hS1:(s.heap.push (aU wd)).IsSliceOf sl vl vu .none:=(i13 o (cD _ hos) hc hd)
  refine X.bind (X.holding (X.up (vE (s:={s with heap:=s.heap.push (aU wd)}) hS1 hl hu ?_)))
  skip
  refine X.bind (X.up (kB (s:={s with heap:=s.heap.push (aU wd)}) hox ?_))
  refine X.bind (X.up (kB (s:={s with heap:=s.heap.push (aU wd)}) ho1 ?_))
  exact X.setTail (s:={s with heap:=s.heap.push (aU wd)}) hg ho1 h0 h1 h2 hz (λh' e1 e2=>h h' s.toks (λc o n e=>(e1.2 c n).trans (cD _ e)) e2) rfl rfl
 ·have hsr:pe (.ref a) (.ref x)=false:=by
   show(a == x)=false
   simpa using fh hx
  rw[hsr]
  have key:am (aH prog w) A (yX (.ref x) (.type "bytearray")) (λr s'=>r=true/\s'=s) aK s:=md (gq hox) BX.sub_self ⟨rfl,rfl⟩
  refine X.bind (X.mono (Q:=λr s'=>r=true/\s'=s) (X.up key) fun r s' ⟨e,es⟩=>?_)
  subst r s'
  refine X.ifF (by rfl) ?_
  refine X.bind (X.up (kB hox ?_))
  refine X.bind (X.up (kB ho ?_))
  exact X.setTail hg ho h0 h1 h2 hz (λh' e1 e2=>h h' s.toks (λc o n e=>(e1.2 c n).trans e) e2) rfl rfl
theorem X.sets{lo:Int}{K:Unit->Shared->Prop}(hg:A.guards=aa [])(ho:s.heap.get? a=aa (aU b))(hv:v=.bytes wd.toArray t\/∃x,x≠a/\v=.ref x/\s.heap.get? x=aa (aU wd))
  (hS:s.heap.IsSliceOf sl vl vu .none) (hl:fg vl (aa lo)) (hu:fg vu (aa hi)) (h0:0<=lo) (h1:lo<=hi) (h2:hi<=b.length) (hz:b.length+wd.length<=aW)
  (h:∀h' k,(∀c o,c≠a->s.heap.get? c=aa o->h'.get? c=aa o)->h'.get? a=aa (aU (aZ b wd lo.toNat hi.toNat))->K () {s with heap:=h',toks:=k}):
  aG (aH prog w) A (nU (.ref a) (.ref sl) v) K s:=by
 have hT:=gq ho
 unfold nU
 refine X.holding ?_
 refine X.bind (X.up (XY hT (by decide) ?_))
 refine X.bind (X.mono (Q:=λr s'=>r=aa .none/\K () s') ?_ fun r s' z0=>ax z0 fun e q=>?_)
 ·unfold pF
  refine X.bind (X.up (dC hT BX.slot_setitem.lookup ?_))
  refine X.holding (X.bind (X.eqv (BX.slot_setitem.bind _) ?_))
  skip
  refine X.bind (X.mono (Q:=λv s'=>v=.none/\K () s') (X.call ?_) fun v s' z1=>ax z1 fun e q=>?_)
  ·have eF:am (aH prog w) A.in1 (jq "bytearray.__setitem__" ⟨[.ref a,.ref sl,v],[]⟩) (λ_ s'=>s'=s) aK s:=
    BX.slot_setitem.check _ _ _ _ _ _ _ _ hT (BX.args_setitem _ _ _) rfl
   refine X.callBuiltin (args:=⟨[.ref a,.ref sl,v],[]⟩) (nT BX.slot_setitem.plain _) BX.calm_setitem BX.entry_setitem (X.mono (X.up eF) fun _ s' e=>?_)
   subst s'
   rw[pc BX.slot_setitem.plain _]
   exact X.setitemBody hg ho hv hS hl hu h0 h1 h2 hz fun h' k e1 e2=>(i13 _ rfl rfl (h h' k e1 e2))
  ·clear z1;subst e
   exact X.pure ⟨rfl,q⟩
 ·clear z0;refine eqR e ?_
  exact X.pure q
end
theorem Spec.SoundC.up{E:Env0}{S:Spec}{f:Value}(h:S.SoundC E f):S.SoundX E f:=λA s c vs us kw ks Q R V rv rk q=>
 X.up (h.sound A s c vs us kw ks Q R.room V rv rk q)
theorem Spec.Sound.up{E:Env0}{S:Spec}{f:Value}(h:S.Sound E f):S.SoundX E f:=λA s c vs us kw ks Q R V rv rk q=>X.up (h A s c vs us kw ks Q R.room V rv rk q)
def vF(vs:List AV)(kw:List (Str×AV))(f:AV->Prop):Prop:=gd (cm kw) (ag (fA vs) f)
def vG(vs:List AV)(kw:List (Str×AV))(f:AV->AV->Prop):Prop:=ag (dF vs) fun q=>vF q.2 kw (f q.1)
def Bq(vs:List AV)(kw:List (Str×AV))(f:AV->AV->AV->Prop):Prop:=ag (dF vs) fun q=>vG q.2 kw (f q.1)
def gf{α:Type}(g:PV->Option α)(v:AV)(k:α->Prop):Prop:=ag (bP g v) k
section
variable{E:Env0}{c:Cf}{v:AV}{u:Value}{us:List Value}{ks:List (Str×Value)}{vs:List AV}{kw:List (Str×AV)}
@[elab_as_elim] theorem Br{f:AV->Prop}{M:List Value->List (Str×Value)->Prop}(rv:All2 (Rp E c) vs us)(rk:KwRep E c kw ks)(h:vF vs kw f)(g:∀a u,Rp E c a u->f a->M [u] []):M us ks:=
 bH h fun e h=>aq h fun a e1 h=>(cX e▸rk:KwRep E c [] ks).nil_el ((gn e1▸rv:All2 (Rp E c) [a] us).cons_el fun u m r1 r2=>r2.nil_el (g a u r1 h))
@[elab_as_elim] theorem vH{f:AV->AV->Prop}{M:List Value->List (Str×Value)->Prop}(rv:All2 (Rp E c) vs us)(rk:KwRep E c kw ks)(h:vG vs kw f)(g:∀a b u w,Rp E c a u->Rp E c b w->f a b->M [u,w] []):M us ks:=
 aq h fun q e h=>(eU e▸rv:All2 (Rp E c) (q.1::q.2) us).cons_el fun u m r1 r2=>Br (M:=λus ks=>M (u::us) ks) r2 rk h fun b w r2 h=>g q.1 b u w r1 r2 h
@[elab_as_elim] theorem Mg{f:AV->AV->AV->Prop}{M:List Value->List (Str×Value)->Prop}(rv:All2 (Rp E c) vs us)(rk:KwRep E c kw ks)(h:Bq vs kw f)(g:∀a b d u w x,Rp E c a u->Rp E c b w->Rp E c d x->f a b d->M [u,w,x] []):M us ks:=
 aq h fun q e h=>(eU e▸rv:All2 (Rp E c) (q.1::q.2) us).cons_el fun u m r1 r2=>vH (M:=λus ks=>M (u::us) ks) r2 rk h fun b d w x r2 r3 h=>g q.1 b d u w x r1 r2 r3 h
end
abbrev QA:=AV->St->Prop
noncomputable def kC(f:AV->St->QA->Prop):Spec:={need:=0,run:=λvs kw σ Q=>vF vs kw fun a=>f a σ Q}
noncomputable def i6(f:AV->AV->St->QA->Prop):Spec:={need:=0,run:=λvs kw σ Q=>vG vs kw fun a b=>f a b σ Q}
noncomputable def Bs(f:AV->AV->AV->St->QA->Prop):Spec:={need:=0,run:=λvs kw σ Q=>Bq vs kw fun a b d=>f a b d σ Q}
theorem lM{E:Env0}{f:AV->St->QA->Prop}{g:Value}(H:∀(A:aS) (s:Shared) (c:Cf) (Q:QA) (a:AV) (u:Value),Room A 0->HInv E c s.heap->Rp E c a u->f a c.σ Q->am E.M A (bO g [u]) (Done E c s Q) aK s):(kC f).Sound E g:=
 fun A s c _ _ _ _ Q R V rv rk h=>Br (M:=λus ks=>am E.M A (bO g us ks) (Done E c s Q) aK s) rv rk h fun a u r h=>H A s c Q a u R V r h
theorem mQ{E:Env0}{f:AV->AV->St->QA->Prop}{g:Value}(H:∀(A:aS) (s:Shared) (c:Cf) (Q:QA) (a b:AV) (u w:Value),Room A 0->HInv E c s.heap->Rp E c a u->Rp E c b w->f a b c.σ Q->am E.M A (bO g [u,w]) (Done E c s Q) aK s):(i6 f).Sound E g:=
 fun A s c _ _ _ _ Q R V rv rk h=>vH (f:=λa b=>f a b c.σ Q) (M:=λus ks=>am E.M A (bO g us ks) (Done E c s Q) aK s) rv rk h fun a b u w r r' h=>H A s c Q a b u w R V r r' h
theorem Mh{E:Env0}{f:AV->AV->AV->St->QA->Prop}{g:Value}(H:∀(A:aS) (s:Shared) (c:Cf) (Q:QA) (a b d:AV) (u w x:Value),Room A 0->HInv E c s.heap->Rp E c a u->Rp E c b w->Rp E c d x->f a b d c.σ Q->am E.M A (bO g [u,w,x]) (Done E c s Q) aK s):(Bs f).Sound E g:=
 fun A s c _ _ _ _ Q R V rv rk h=>Mg (f:=λa b d=>f a b d c.σ Q) (M:=λus ks=>am E.M A (bO g us ks) (Done E c s Q) aK s) rv rk h fun a b d u w x r r' r'' h=>H A s c Q a b d u w x R V r r' r'' h
theorem Bt{E:Env0}{f:AV->AV->St->QA->Prop}{g:Value}(H:∀(A:aS) (s:Shared) (c:Cf) (Q:QA) (a b:AV) (u w:Value),RoomX A 0->HInv E c s.heap->Rp E c a u->Rp E c b w->f a b c.σ Q->aG E.M A (bO g [u,w]) (Done E c s Q) s):(i6 f).SoundX E g:=
 fun A s c _ _ _ _ Q R V rv rk h=>vH (f:=λa b=>f a b c.σ Q) (M:=λus ks=>aG E.M A (bO g us ks) (Done E c s Q) s) rv rk h fun a b u w r r' h=>H A s c Q a b u w R V r r' h
def spAppend:Spec:=i6 fun a d σ Q=>ag (eR a) fun k=>ag (dy d) fun i=>ag (jB σ k) fun b=>(0<=i/\i<256/\b.length+1<=16777216)/\Q (.pv .none) (eT σ k (.ba (b++[i.toNat.toUInt8])))
def spExtend:Spec:=i6 fun a d σ Q=>ag (eR a) fun k=>ag (bP iY d) fun x=>ag (jB σ k) fun b=>b.length+x.length<=16777216/\Q (.pv .none) (eT σ k (.ba (b++x)))
noncomputable def vJ(k:Nat):Spec:={need:=0,run:=λvs kw σ Q=>gd (cm kw) (cB (cm vs) (cB (has (bF σ) k) False (Q (.loc k) (σ++[(k,.ba [])]))) (ag (fA vs) fun v=>ag (dy v) fun n=>(0<=n/\n<=16777216)/\Q (.pv (.barr (fH n.toNat 0))) σ))}
section
variable{E:Env0}
theorem qT{c:Cf}{h:Heap}{v:AV}{u:Value}{k:Nat}{b:List UInt8}{M:Value->Prop}(V:HInv E c h)(r:Rp E c v u)(e:eR v=aa k)(hb:jB c.σ k=aa b)(f:∀a,c.ρ k=aa a->h.get? a=aa (aU b)->b.length<=aW->M (.ref a)):M u:=
 r.loc_at e fun a ek=>e12 (V.st _ _ (mn hb)) fun a' ha' z=>f a ek (ac (ha'.symm.trans ek)▸z.1) z.2
theorem Mi:spAppend.SoundX E (.builtin "bytearray.append"):=Bt fun A s c Q a d u w R V r r' h=>aq h fun k e1 h=>aq h fun i e2 h=>aq h fun b e3 h=>qT (M:=λu=>aG E.M A (bO _ [u,w]) (Done E c s Q) s) V r e1 e3 fun a ek ho z=>r'.int_at e2 fun t=>
 X.call (X.append R.guards ho h.1.1 h.1.2.1 h.1.2.2 fun h' h1 h2=>i12 _ rfl (Done.upd (o':=.ba (b++[_])) V (mn e3) ek h1 ⟨h2,by rw[bB];exact h.1.2.2⟩ (.pv .none) h.2 s.toks))
theorem Mj:spExtend.SoundX E (.builtin "bytearray.extend"):=Bt fun A s c Q a d u w R V r r' h=>aq h fun k e1 h=>aq h fun x e2 h=>aq h fun b e3 h=>qT (M:=λu=>aG E.M A (bO _ [u,w]) (Done E c s Q) s) V r e1 e3 fun a ek ho z=>r'.byt_at e2 fun t _=>
 X.call (X.extend R.guards ho h.1 fun h' h1 h2=>i12 _ rfl (Done.upd (o':=.ba (b++_)) V (mn e3) ek h1 ⟨h2,by rw[bB];exact h.1⟩ (.pv .none) h.2 s.toks))
theorem Mk:(vJ k).SoundX E (.type "bytearray"):=by
 intro A s c vs us kw ks Q R V rv rk h
 refine bH h fun e h=>(cX e▸rk:KwRep E c [] ks).nil_el ?_
 cases e1:cm vs with
 |true=>
  cases e2:has (bF c.σ) k with
  |true=>exact(hU e2 (hU e1 h)).elim
  |false=>exact(cX e1▸rv:All2 (Rp E c) [] us).nil_el (X.call (X.ba0 R.guards (i12 _ rfl (Done.add (x:=aU []) (o:=.ba []) V (mG fun m=>bn (e2.symm.trans (has_iff.mpr m))) ⟨d9 _ rfl,iQ _⟩ (iE e2 (hU e1 h)) s.toks))))
 |false=>
  exact aq (iE e1 h) fun v e2 h=>aq h fun n e3 h=>(gn e2▸rv:All2 (Rp E c) [v] us).cons_el fun u m r1 r2=>r2.nil_el (r1.int_at e3 fun t=>X.call (X.ba1 R.guards h.1.1 h.1.2 (i12 _ rfl (Done.alloc V rfl (.pv (.barr (Cf.put_self ..) (by
   rw[nG];exact Int.toNat_le.mpr h.1.2))) h.2 s.toks))))
end
end Mine
end
noncomputable section
open PySem PySem.W PySem.Calls PyProof.Rows
namespace Mine
noncomputable def oG:Ctx:=⟨.builtin "claim.caller" {},none,none,[],none⟩
theorem Ml:vx oG:=⟨by decide+kernel,λx m=>absurd m fu⟩
section
variable{prog:Program}{w:bD}{t:cy Fin}{s:Shared}
theorem Mm{R:Result->Shared->Prop}(hreg:s.asleep)(h:aG (aH prog w) pG t (λfin s'=>∃f,fin=.done f/\(R (.ok f) s'/\HJ s'.gens=false)) s):
  ∃n r s' s'',runN (denote gF) prog w n s ⟨t,.builtin "claim.caller" {},lb,[]⟩=.halted (outcomeOf r) s'/\
   schedN (denote gF) prog w n (.single s ⟨t,.builtin "claim.caller" {},lb,[]⟩)=.halted (outcomeOf r) s'/\s'.forget=s''.forget/\R r s'':=by
 have h0:yL (aH prog w) oG t (cy.finPost (aH prog w) oG fun r s'=>R r s'/\HJ s'.gens=false) (λe _ s'=>R (.error e) s'/\HJ s'.gens=false) lb s:=by
  refine nJ _ oG t (λfin p' s' h'=>?_) (λ_ _ _ h'=>h'.elim) lb s (h oG lb caller_in Ml)
  obtain⟨f,rfl,hf⟩:=h'
  exact hf
 refine e44 (wp_halts_full (M:=aH prog w) (R:=R) hreg h0) fun n r s₁ s₂ hs hn hfo hR=>?_
 exact(i44 n r s₂ s₁ hn hs hfo hR)
theorem Mn{c:ClaimW}{tree:List Value->cy Fin}{w:bD}{s:Shared}{free:Addr->Prop}{gens:Prop}{kept:Heap->Prop}(hz:s.asleep)(hgens:s.gens=#[])
  (hspec:∀args,c.pre args=true->Xz args=true->∀ord:List DictEntry->List DictEntry,(∀l,(ord l).Perm l)->
   ∃vs s₁,layAllW c.records (classAt s.heap) w.params ord args s=aa (vs,s₁)/\
    aG (aH c.prog w) pG (tree vs) (λfin s'=>∃f,fin=.done f/\(c.Ends s args vs s₁ (.ok f) s'/\s'.os=s.os/\AllBare s'.gens/\kept s'.heap)) s₁):
  c.CallFrom (λvs=>⟨tree vs,.builtin "claim.caller" {},lb,[]⟩) w free gens kept s:=by
 intro args hpre hlay ord hord
 refine(let G:=_;(?_:G));refine e22 (hspec args hpre hlay ord hord) fun vs s₁ hlaid hcode=>?_
 have hal:=layAllW_rest _ _ _ hlaid
 refine e46 (Mm (prog:=c.prog) (w:=w) (t:=tree vs) (s:=s₁) (R:=λr s'=>c.Ends s args vs s₁ r s'/\s'.os=s.os/\kept s'.heap)
  (Shared.asleep_of_life hal.2.2.2 hz) (X.mono hcode fun fin s' z0=>e15 z0 fun f e h1 h2 h3 h4=>(i13 f e (bl h1 h2 h4) (leftWithCleanup_false_of_bare h3)))) fun k r s' s'' hrun hsched hfo hcase hos hkp=>?_
 refine fN (Shared.forget_eq hfo) fun eh _ _ eo _=>?_
 have hcase:=hcase.congr eh
 have hkp:kept s'.heap:=by simp only[eh];exact hkp
 replace hos:=eo.symm▸hos
 have hlife:s'.heap.life=s.heap.life:=(runN_life _ _ _ hrun).trans hal.2.2.2
 refine⟨vs,s₁,hlaid,k,_,s',hsched,?_,(λ_ i x hx=>by rw[hgens] at hx;simp at hx),hkp,by rw[hlife],Shared.rest_eq hos⟩
 refine(let G1:=_;(?_:G1));clear hrun;clear hsched;rcases hcase with ⟨v,rfl,d1,d2,d3,d4,d5⟩|⟨e,ob,cls,rfl,d1,d2,d3,d4,d5⟩
 ·exact .inl (i16 v rfl d1 d2 d3 (λb o y _=>d4 b o y) d5)
 ·exact .inr (i36 e ob cls rfl d1 d2 d3 d4 (λb o y _=>d5 b o y))
end
end Mine
end
noncomputable section
open PySem PySem.W PySem.Calls PyProof.Rows PySem.Builtin
namespace Mine
namespace BF
theorem slot_getitem:jV "bytearray" "__getitem__" "bytearray.__getitem__":=
 .of (owner:="bytearray") (n:="__getitem__") (by rw[eB,eA];kernel_rfl) (by decide+kernel) (by decide+kernel) (by decide+kernel)
  (by first |exact .inl (by decide+kernel)|exact .inr (by decide+kernel)) (by rw[gE];kernel_rfl)
theorem entry_getitem:ir gF "bytearray.__getitem__" =aa bV.«bytearray.__getitem__»:=l7 (by kernel_rfl)
theorem args_getitem(a b:Value):dW "bytearray.__getitem__" ⟨[a,b],[]⟩:=by unfold dW;kernel_rfl
theorem slot_len:jV "bytearray" "__len__" "bytearray.__len__":=
 .of (owner:="bytearray") (n:="__len__") (by rw[eB,eA];kernel_rfl) (by decide+kernel) (by decide+kernel) (by decide+kernel)
  (by first |exact .inl (by decide+kernel)|exact .inr (by decide+kernel)) (by rw[gE];kernel_rfl)
end BF
section
variable{prog:Program}{w:bD}{A:aS}{E:Value->Shared->Prop}{s:Shared}{K:Value->Shared->Prop}
theorem Bu(hz:b.length<=aW)(h:cI b i=aa u):sI i=true/\(tw i b.toArray.size).bind (b.toArray[·]?)=aa u:=by
 unfold aW at hz
 have hs:b.toArray.size=b.length:=cb
 refine(let G:=_;(?_:G));rcases uM h with ⟨h1,h2,h3⟩|⟨h1,h2,h3⟩
 ·refine⟨by simp only[sI,bC,decide_eq_true_eq];exact⟨f1 1 [(1,.n 0,v0)] (.g (.n (2^63))) v0 rfl h1,f2 1 [(1,v0,.n 16777216),(1,.p v1 (.n 1),v0)] (.p v1 (.n 1)) (.n (2^63)) rfl (aF hz) h2⟩,?_⟩
  rw[hs,Jn h1 h2];simpa using h3
 ·refine⟨by simp only[sI,bC,decide_eq_true_eq];exact⟨f2 1 [(1,v0,.n 16777216),(1,.g v0,v1)] (.g (.n (2^63))) v1 rfl (aF hz) h2,f1 1 [(1,.p v0 (.n 1),.n 0)] (.p v0 (.n 1)) (.n (2^63)) rfl h1⟩,?_⟩
  rw[hs,Jo h1 h2];simpa using h3
theorem itemB(hz:b.length<=aW)(h:cI b i=aa u)(q:∀t' k,K (.int (u.toNat:Int) t') {s with toks:=k}):am (aH prog w) A (jr (.bytes b.toArray t1) (.int i t)) K E s:=by
 refine ax (Bu hz h) fun h1 h2=>?_
 exact getItem_gives (ix s _ t1) (by decide) Ww FB.entry_bytes_getitem (FB.args_bytes_getitem_2 _ _) (gives_bytes_getitem _ i t1 t u h1 h2) (q _ _)
theorem item(ho:s.heap.get? a=aa (aU b))(hz:b.length<=aW)(h:cI b i=aa u)(q:∀t' k,K (.int (u.toNat:Int) t') {s with toks:=k}):am (aH prog w) A (jr (.ref a) (.int i t)) K E s:=by
 refine ax (Bu hz h) fun h1 h2=>?_
 have hT:s.TypeIs (.ref a) "bytearray":=(i12 _ ho rfl)
 refine XQ hT (by decide) BF.slot_getitem (iS BF.slot_getitem hT BF.entry_getitem ?_ (BF.args_getitem _ _))
 show am _ _ (ym (.int i t) >>=λr=>_) _ _ s
 refine af ?_
 unfold ym
 refine af (dC (pP s i t) F.slot_int_index.lookup ?_)
 show am _ _ (if(!sI i)=true then _ else pure (aa i)) _ _ s
 rw[h1]
 refine aN ?_
 skip
 refine af ?_
 unfold yk Gr
 refine af (af (gk ho (aN (aN ?_))))
 skip
 rw[h2]
 exact af (y7 (aN (i12 _ rfl (q _ _))))
end
namespace BF
theorem ba_no_bytes:fa (.type "bytearray") "__bytes__" =pure none:=by rw[eB,eA];kernel_rfl
theorem ba_buffer:fa (.type "bytearray") "__buffer__" =pure (aa (.builtin "bytearray.__buffer__")):=by rw[eB,eA];kernel_rfl
theorem ba_release:fa (.type "bytearray") "__release_buffer__" =pure (aa (.builtin "bytearray.__release_buffer__")):=by rw[eB,eA];kernel_rfl
theorem ba_ba:lg (.type "bytearray") (.type "bytearray")=pure true:=by rw[gE];kernel_rfl
theorem check_fb2:checkBoundCall "int.from_bytes" ⟨[.type "int",v,.str o u],[]⟩=pure ():=by first |kernel_rfl |rfl
end BF
theorem Bv(b:List UInt8):aP b=KFB.value (KBw.bInts b.toArray).reverse:=by
 unfold aP KFB.value
 rw[List.foldl_reverse]
 show _=(b.map _).foldr _ _
 rw[List.foldr_map]
section
variable{prog:Program}{w:bD}{M:Model}{A:aS}{E:Value->Shared->Prop}{s:Shared}{Kf:Frag}
theorem Mo(ho:s.heap.get? a=aa (aU b))(hl:b.length<=8)(h:P (.done (.ret (.int (aP b) s.toks))) {s with toks:=s.toks+1}):
  am M A (bV.«int.from_bytes» ⟨[.type "int",.ref a,.str "little" u],[]⟩) P E s:=by
 have hT:=gq ho
 have hv:((b.reverse.foldl (λ(acc:Nat) (b:UInt8)=>acc*256+b.toNat) 0:Nat):Int)=aP b:=by
  simp only[Bv]
  simp only[KFB.fold_cast,List.map_reverse]
  rfl
 have hn:b.reverse.foldl (λ(acc:Nat) (b:UInt8)=>acc*256+b.toNat) 0<2^64:=by
  have h1:=KFB.fold_lt b.reverse 0
  simp only[nI,Nat.one_mul,GS] at h1
  have h2:256^b.length<=256^8:=Nat.pow_le_pow_right (by decide) hl
  exact dx (f3 1 [(1,.p v0 (.n 1),v1),(1,v1,v2)] (.p v0 (.n 1)) v2 rfl (dD h1) (aF h2))
 unfold bV.«int.from_bytes»
 refine af (dY (a:=true) KFB.type_int ?_)
 refine po (by rfl) ?_
 refine af (dY (a:=true) F.conv_sub_int ?_)
 refine po (by rfl) ?_
 refine af (dY (a:=[aa (.ref a),aa (.str (dU "little") u),none]) (by kernel_rfl) ?_)
 refine af (dY (a:=dU "little") (by kernel_rfl) ?_)
 refine af (dY (a:=false) rfl ?_)
 refine af (dY (a:=true) (by kernel_rfl) ?_)
 refine af (aT (Q:=λr s'=>r=b.toArray/\s'=s) (E:=E) ?_ (λr s' z0=>ax z0 fun e es=>?_) bb)
 ·refine af (dC hT BF.ba_no_bytes ?_)
  refine af (af (gk ho (aN ?_)))
  refine GP (by rfl) ?_
  refine af (dC hT BF.ba_buffer ?_)
  refine af (dC hT BF.ba_release ?_)
  refine af (md hT BF.ba_ba ?_)
  refine po (by rfl) ?_
  refine af (af (gk ho (aN ?_)))
  exact aN ⟨rfl,rfl⟩
 clear z0;subst r;subst s'
 show am _ _ (mkIntGrown (b.reverse.foldl (λ(acc:Int) (b:UInt8)=>acc*256+(b.toNat:Int)) ((0:Nat):Int)) >>=λv=>_) _ _ _
 rw[KFB.foldI_eq]
 refine af (KFB.grown hn ?_)
 rw[hv]
 refine GP (by decide+kernel) ?_
 exact af (aN (aN h))
theorem Mp{K:Value->Shared->Prop}(hx:s.heap.get? x=aa kZ)(hv:v=.bytes b.toArray t\/∃a,v=.ref a/\s.heap.get? a=aa (aU b))(hl:b.length<=8)
  (h:∀t' k,K (.int (aP b) t') {s with toks:=k}):am (aH prog w) A (bO (.ref x) [v,.str "little" t1]) K E s:=by
 refine nY (HA ?_)
 skip
 simp only[yR]
 refine af (gk hx ?_)
 simp only[kZ,show(fL "builtin_function_or_method" == fL "method" ||fL "builtin_function_or_method" == fL "builtin_function_or_method" ||fL "builtin_function_or_method" == fL "method-wrapper")=true by decide,if_true]
 refine GP (by decide) ?_
 refine af (dY (a:=()) BF.check_fb2 ?_)
 refine af (aN (aN ?_))
 refine⟨KFB.quiet_fb,Hz KFB.entry_fb ?_⟩
 refine(let G:=_;(?_:G));rcases hv with rfl |⟨a,rfl,ho⟩
 ·refine KFB.tree_little (by simpa using hl) ?_
  rw[<-Bv]
  exact h _ _
 ·exact Mo ho hl (h _ _)
theorem Mq(X:Kf.In s.heap)
  (e:yV Kf (.type "int") (.type "type") (dU "from_bytes")=aa (.get (.builtin "classmethod_descriptor.__get__") (.builtin "int.from_bytes") .none (.type "int")))
  (h:∀k,Kv (.ref s.heap.objs.size,[]) {s with heap:=s.heap.push kZ,toks:=k}):am (aH prog w) A (jZ (.type "int") "from_bytes" pl) Kv E s:=by
 have hstub:HM (.type "int")=pure none:=by unfold HM;dsimp only;rw[show Manifest.isStub "int" =false by decide+kernel];rfl
 have ht:nX (.type "int")=pure (.type "type"):=by first |rfl |kernel_rfl
 have L0:iO (aH prog w) s.heap (nX (.type "int")) (.type "type"):=pt ht
 have hg:jY Kf (.type "type") "__getattribute__" =aa (aa (.builtin "type.__getattribute__")):=type_tga
 unfold jZ specialOf
 refine af (af (L0.here ((HK X hg).here ?_)))
 dsimp only
 rw[if_pos canon_tga]
 refine af (aT (Q:=λv=>Kv (v,[])) (E:=E) ?_ (λ_ _ z=>aN z) bb)
 have LO:iO (aH prog w) s.heap (HM (.type "int")) none:=pt hstub
 refine cls_open X LO L0 hg (looks_hook X (r:=none) (by rfl)) (by show subIn Kf _ _=_;rfl) e ?_
 skip
 exact af (iT (iS KFB.slot_get KFB.type_fb KFB.entry_get (KFB.run_get (i12 _ rfl (aN (aN (h _))))) (KFB.args_get _ _ _)))
end
section
variable{prog:Program}{w:bD}{M:Model}{A:aS}{E:Value->Shared->Prop}{s:Shared}{Kf:Frag}
theorem Mr(b:List UInt8)(lo hi:Option Int):KBy.picked b.toArray lo hi=(Mine.slice lo hi b).toArray:=by
 simp only[KBc.picked_eq,ow]
 have e1:lo.elim 0 (clipAt b.length)=tp lo b.length:=by
  have :=HI lo hi b.length
  rw[XI] at this
  have :=congrArg gj this
  exact GO this
 have e2:hi.elim b.length (clipAt b.length)=kms_hi hi b.length:=by
  have :=HI lo hi b.length
  simp only[XI] at this
  have :=congrArg (λx=>x.2.1) this
  exact GO this
 simp only[cb]
 simp only[e1,e2]
theorem Ms{lo:Option Int}{K:Value->Shared->Prop}(ho:s.heap.get? a=aa (aU b))(hz:b.length<=aW)(hs:s.heap.IsSliceOf sl vl vu .none)(hl:fg vl lo)(hu:fg vu hi)
  (h:∀k,K (.ref s.heap.objs.size) {s with heap:=s.heap.push (aU (Mine.slice lo hi b)),toks:=k}):am (aH prog w) A (jr (.ref a) (.ref sl)) K E s:=by
 have hT:=gq ho
 refine e13 (id hs) fun o hos hc hd=>?_
 have hTs:s.TypeIs (.ref sl) "slice":=(i12 o hos hc)
 refine XQ hT (by decide) BF.slot_getitem (iS BF.slot_getitem hT BF.entry_getitem ?_ (BF.args_getitem _ _))
 unfold bV.«bytearray.__getitem__»
 refine af (dY (a:=(.ref a,[.ref sl])) rfl ?_)
 refine af ?_
 unfold ym
 refine af (dC hTs BX.slice_no_index (aN ?_))
 refine af (tB hTs ?_)
 refine po (by rfl) ?_
 refine af (vE hs hl hu ?_)
 dsimp only
 refine af (kB ho ?_)
 refine af (dY (HN lo hi none b.toArray.size (λe=>nomatch e)) ?_)
 refine af ?_
 unfold Bytes.newBytearray
 have e:Bytes.sliced b.toArray (pM lo hi none b.toArray.size).1 (pM lo hi none b.toArray.size).2.1 (pM lo hi none b.toArray.size).2.2=(Mine.slice lo hi b).toArray:=Mr b lo hi
 rw[e]
 refine nZ (aN (i12 _ rfl (h _))) ?_
 show(Mine.slice lo hi b).toArray.size<=lh
 simp only[ge,cb]
 exact bT (uO lo hi b) hz
theorem Mt{K:Value->Shared->Prop}(ha:s.heap.get? a=aa (bQ vs n))(hb:s.heap.get? b=aa (bQ us m))(hz:vs.length+us.length<=aW)
  (h:∀k,K (.ref s.heap.objs.size) {s with heap:=s.heap.push (bQ (vs++us) 0),toks:=k}):am (aH prog w) A (tj .Add (.ref a) (.ref b)) K E s:=by
 refine P.add_list (items:=vs.toArray) (items2:=us.toArray) ha hb ?_ (by simp only[cb,cb,ge];exact hz)
 have :vs.toArray++us.toArray=(vs++us).toArray:=by simp
 rw[this]
 exact h _
theorem Bw{K:Frag}(h:jF K C m=aa f):jY K (.ref C) m=aa (aa (.ref f))/\isFn K (.ref f)=true:=⟨(qv h).1,(qv h).2.2⟩
theorem Mu{K:Value->Shared->Prop}(X:Kf.In s.heap)(I:InstAt s.heap a (cW C d) C (aa (eS es n)))(e:jF Kf C "__len__" =aa f)
  (h:∀t,am (aH prog w) A.in1 (bO (.ref f) [.ref a]) (λv s'=>∃i t,v=.int i t/\0<=i/\i<2^63/\∀t' k,K (.int i t') {s' with toks:=k}) aK {s with toks:=t}):am (aH prog w) A (bO (.builtin "len") [.ref a]) K E s:=by
 refine ax (Bw e) fun hs hf=>?_
 refine Calls.call_function_entry kind_len plain_len entry_len (args_len1 _) ?_
 unfold bV.«len»
 refine af (m:=oneArg "len" _) (aN ?_)
 refine af (m:=pF (.ref a) (dU "__len__")) (special_fn X I hs (beq_iff_eq.mp hf) (aT (h s.toks) (λr s' z0=>e24 z0 fun i t e h0 h1 q=>?_) fun _ _ y=>y.elim))
 clear z0;refine eqR e ?_
 refine af (iT (aN ?_))
 refine af (y6 ?_)
 skip
 rw[if_neg (by exact Int.not_lt.mpr (f1 1 [(1,.n 0,v0)] (.n 0) v0 rfl h0))]
 show am _ _ (if i>=2^63 then _ else _) _ _ _
 rw[if_neg (by exact Int.not_le.mpr (f1 1 [(1,.p v0 (.n 1),.n (2^63))] (.p v0 (.n 1)) (.n (2^63)) rfl h1))]
 exact af (y7 (aN (i12 _ rfl (q _ _))))
theorem Mv{K:Value->Shared->Prop}(X:Kf.In s.heap)(I:InstAt s.heap a (cW C d) C (aa (eS es n)))(e:jF Kf C "__str__" =aa f)(hu:A.units+40<cLine)
  (h:∀A' t,(A'=A\/A'=A.in1\/A'=A.in1.in1)->am (aH prog w) A' (bO (.ref f) [.ref a]) (λv s'=>∃x t,v=.str x t/\∀k,K (.str x t) {s' with toks:=k}) aK {s with toks:=t}):am (aH prog w) A (bO (.type "str") [.ref a]) K E s:=by
 refine ax (Bw e) fun hs hf=>?_
 refine kso_call (by show A.units+1+1<cLine;exact dx (f2 1 [(1,.p (.p v0 (.n 40)) (.n 1),v1)] (.p (.p (.p v0 (.n 1)) (.n 1)) (.n 1)) v1 rfl (a:=↑A.units) (b:=↑cLine) (dD hu))) X I hs hf (aT (h _ s.toks (.inr (.inr rfl))) (λr s' z0=>e22 z0 fun x t e q=>?_) fun _ _ y=>y.elim)
 clear z0;refine eqR e ?_
 exact q _
theorem Mw{a:Addr}{vs:List Value}{n:Nat}{i:Int}{t:fj}{v:Value}{K:Unit->Shared->Prop}(ho:s.heap.get? a=aa (bQ vs n))(hz:vs.length<=aW)(h0:0<=i)(h1:i<vs.length)
  (h:∀h' n' k,ii a s.heap h'->h'.get? a=aa (bQ (vs.set i.toNat v) n')->K () {s with heap:=h',toks:=k}):am (aH prog w) A (nU (.ref a) (.int i t) v) K E s:=by
 have hl:s.heap.IsList a vs.toArray:=⟨_,ho,rfl,n,rfl⟩
 unfold nU
 refine iT ?_
 refine af (XY hl.typeIs (by decide) ?_)
 refine af (HX (name:=dU "__setitem__") hl.typeIs XJ
  (iS XJ hl.typeIs entry_list_setitem ?_ (args_list_setitem _ _ _)))
 have hfit:i<2^63:=by unfold aW at hz;exact f2 1 [(1,v0,.n 16777216),(1,.p v1 (.n 1),v0)] (.p v1 (.n 1)) (.n (2^63)) rfl (aF hz) h1
 show am _ _ (Wm (.int i t) >>=_) _ _ s
 refine af (wpAny_listSubscript_int (fitsIndex_of h0 hfit) ?_)
 clear hz;clear hfit;obtain⟨j,rfl⟩:=ij h0
 have hj:j<vs.length:=dx (f2 1 [(1,.p v0 (.n 1),v1)] (.p v0 (.n 1)) v1 rfl h1)
 have hx':vs.toArray[j]? =aa vs[j]:=by simp[hj]
 skip
 refine af (af (wpAny_seqItemAt ho rfl (aN ?_)))
 rw[hx']
 skip
 have hfin:(s.heap.update a (ta (·.setIfInBounds j v))).get? a=aa (bQ (vs.set j v) n):=by
  rw[pi _ ho rfl]
  show aa ({cls:=.type "list",data:=.seq (vs.toArray.setIfInBounds j v) (if((vs.toArray.setIfInBounds j v).size == vs.toArray.size)=true then n else n+1)}:Obj)=_
  rw[if_pos (by simp)]
  simp
 refine af (wpAny_setSeqItemAt ho rfl ?_)
 have fin:=h _ n s.toks (pg s.heap a (ta (·.setIfInBounds j v))) hfin
 first
  |exact af (aN (aN (i12 .none rfl (aN fin))))
  |exact aN (i12 .none rfl (aN fin))
theorem Mx:∀(vs:List Value) (lo k:Nat),lo<=k+vs.length->((vs.zipIdx k).filterMap fun(x:Value×Nat)=>if(decide ((lo:Int)<=(x.2:Int))&&decide ((x.2:Int)<((k+vs.length:Nat):Int))&&((x.2:Int)-lo)%1 == 0)=true then none else aa x.1)=vs.take (lo-k):=by
 intro v0
 induction v0 with
 |nil=>intro lo k _;simp
 |cons v r ih=>
  intro lo k h
  rw[W7,sR]
  have ih:=ih lo (k+1) (by simp only[ft] at h;exact aO (f3 1 [(1,v0,.p v1 (.p v2 (.n 1)))] v0 (.p (.p v1 (.n 1)) v2) rfl (a:=↑lo) (b:=↑k) (c:=↑r.length) (aF h)))
  have hl:k+(v::r).length=k+1+r.length:=by simp only[ft];exact iz (f2 1 [] (.p v0 (.p v1 (.n 1))) (.p (.p v0 (.n 1)) v1) rfl (a:=↑k) (b:=↑r.length)) (f2 1 [] (.p (.p v0 (.n 1)) v1) (.p v0 (.p v1 (.n 1))) rfl (a:=↑k) (b:=↑r.length))
  rw[hl,ih]
  skip
  by_cases q:lo<=k
  ·have q1:decide ((lo:Int)<=(k:Int))=true:=by simpa using q
   have q2:decide ((k:Int)<((k+1+r.length:Nat):Int))=true:=by simp only[decide_eq_true_eq];exact f2 1 [(1,.n 0,v1)] (.p v0 (.n 1)) (.p (.p v0 (.n 1)) v1) rfl (a:=↑k) (b:=↑r.length) aY
   have q3:(((k:Int)-lo)%1 == 0)=true:=by rw[yq];rfl
   rw[q1,q2,q3]
   have e1:lo-(k+1)=0:=by omega
   have e2:lo-k=0:=by omega
   rw[e1,e2]
   rfl
  ·have q1:decide ((lo:Int)<=(k:Int))=false:=by simpa using q
   rw[q1]
   have e2:lo-k=(lo-(k+1))+1:=iz (f4 1 [(1,v2,.m v0 v1),(1,.m v0 (.p v1 (.n 1)),v3)] v2 (.p v3 (.n 1)) rfl (gl (aO (f2 1 [(1,.p v1 (.n 1),v0)] v1 v0 rfl (a:=↑lo) (b:=↑k) (zk q)))) jx) (f4 1 [(1,.m v0 v1,v2),(1,v3,.m v0 (.p v1 (.n 1)))] (.p v3 (.n 1)) v2 rfl jx (gl (aO (f2 1 [(1,.p v1 (.n 1),v0)] (.p v1 (.n 1)) v0 rfl (a:=↑lo) (b:=↑k) (zk q)))))
   rw[e2]
   rfl
theorem My{lo:Int}{K:Unit->Shared->Prop}(ho:s.heap.get? a=aa (bQ vs n))(hz:vs.length<=aW)(hS:s.heap.IsSliceOf sl vl .none .none)(pl:fg vl (aa lo))(h0:0<=lo)(h1:lo<=vs.length)
  (h:∀h' n' k,(∀b o,b≠a->s.heap.get? b=aa o->h'.get? b=aa o)->h'.get? a=aa (bQ (vs.take lo.toNat) n')->K () {s with heap:=h',toks:=k}):am (aH prog w) A (delItem (.ref a) (.ref sl)) K E s:=by
 have hl:s.heap.IsList a vs.toArray:=⟨_,ho,rfl,n,rfl⟩
 refine e13 (id hS) fun o hos hc hd=>?_
 have hTs:s.TypeIs (.ref sl) "slice":=(i12 o hos hc)
 obtain⟨j,rfl⟩:=ij h0
 have hb:pM (aa (j:Int)) none none vs.toArray.size=((j:Int),(vs.length:Int),1):=by
  rw[HI]
  simp only[cb,tp,kms_hi]
  rw[if_neg (by exact Int.not_lt.mpr (f1 1 [(1,.n 0,v0)] (.n 0) v0 rfl h0)),sP,pz (aO (f2 1 [(1,v1,v0)] v1 v0 rfl h1))]
 refine wpAny_delItem_slot hl.typeIs (by decide) Xo (iS Xo hl.typeIs PySem.F.entry_list_delitem ?_ (PySem.F.args_list_delitem_2 _ _))
 unfold bV.«list.__delitem__»
 refine af (dY (a:=(.ref a,[.ref sl])) rfl ?_)
 refine af ?_
 unfold Wm
 refine af (dC hTs BX.slice_no_index (aN ?_))
 refine af (tB hTs ?_)
 refine po (by rfl) ?_
 refine af ?_
 rw[listSliceParts_eq]
 refine af (gY hos hd (x:=.none) rfl (af (HY .none ?_)))
 refine po (by rfl) ?_
 refine af (gY hos hd (x:=vl) rfl (af (HY pl ?_)))
 refine af (gY hos hd (x:=.none) rfl (af (HY .none (aN ?_))))
 refine af (m:=yg (.ref a)) ?_
 unfold yg
 refine af (H6 ho rfl (aN ?_))
 refine af (dY (HN (aa (j:Int)) none none vs.toArray.size (λe=>nomatch e)) ?_)
 rw[hb]
 refine af (lj ?_)
 have hf:=Mx vs j 0 (aO (f2 1 [(1,v1,v0)] v1 (.p (.n 0) v0) rfl h1))
 simp only[nI,Xf] at hf
 refine af (wpAny_updateSeq (n:=n) (xs:=vs.toArray) ho rfl ?_ (by simp only[cb,ge];exact hz) ?_)
 ·refine af (y6 (aN (i12 _ rfl (?_))))
  refine h _ (if(vs.take j).length == vs.length then n else n+1) s.toks (λb o' nb e=>((pg s.heap a _).2 b nb).trans e) ?_
  rw[pi _ ho rfl]
  skip
  let G:List Value->Option Obj:=λl=>aa {cls:=.type "list",data:=.seq l.toArray (if(l.toArray.size == vs.toArray.size)=true then n else n+1)}
  refine(congrArg G hf:_).trans ?_
  show aa ({cls:=.type "list",data:=.seq (vs.take j).toArray (if((vs.take j).toArray.size == vs.toArray.size)=true then n else n+1)}:Obj)=_
  simp only[sP,cb,cb]
 ·show(List.filterMap _ (vs.zipIdx 0)).toArray.size<=lh+1
  rw[cb,ge]
  refine bT (List.length_filterMap_le _ _) ?_
  rw[WU]
  exact aO (f2 1 [(1,v0,v1)] v0 (.p v1 (.n 1)) rfl (aF hz))
end
theorem Mz(E:Env0)(e:yV E.K (.type "int") (.type "type") (dU "from_bytes")=aa (.get (.builtin "classmethod_descriptor.__get__") (.builtin "int.from_bytes") .none (.type "int"))):Ay E where
 slot:=BF.slot_getitem.lookup
 slotB:=Ww.lookup
 item:=λA s Ex K a b i t u ho hz h q=>item ho hz h q
 itemB:=λA s Ex K b i t t1 u hz h q=>itemB hz h q
 slice:=λA s Ex K a sl b vl vu lo hi ho hz hs hl hu h=>Ms ho hz hs hl hu h
 cat:=λA s Ex K a b vs us n m ha hb hz h=>Mt ha hb hz h
 fromb:=λA s Ex K x v b t hx hv hl t1 h=>Mp hx hv hl h
 getfb:=λA s Ex K pl X h=>Mq X e h
 lenI:=λA s Ex K a d C f es n X I h1 h2 h=>Mu X I h1 h
 strI:=λA s Ex K a d C f es n X I h1 h2 hu h=>Mv X I h1 hu h
 seti:=λA s Ex K a vs n i t v ho hz h0 h1 h=>Mw ho hz h0 h1 h
 dels:=λA s Ex K a sl vs n vl lo ho hz hS pl h0 h1 h=>My ho hz hS pl h0 h1 h
noncomputable def qU:List DictEntry->Option (List (Int×fK))
 | []=>aa []
 |e::r=>match e.key,e.val with
  | .int i _,.str x _=>match e.hash == hashInt i with
   |true=>(qU r).map ((i,x)::·)
   |false=>none
  |_,_=>none
def Bx(d:Data):Option (Array DictEntry×Nat):=cq fun h=>Gt d h fun es n=>aa (es,n)
theorem MA(h:Bx d=aa q):d=.dict q.1 q.2:=cF h fun i h=>Gt (motive:=λd=>∀i,(Gt d i fun es n=>aa (es,n))=aa q->d=.dict q.1 q.2) d i (λ_ _ _ h=>ac h▸rfl) i h
def By(K:Frag)(a:Addr):Option (List (Int×fK)):=aA (bN a K) fun o=>aA (Bx o.data) fun q=>bW (o.cls == .type "dict" &&iA o.dict&&cm o.slots.toList&&dN q.1.size 1000&&!(a7 a y4))
 (aA (qU q.1.toList) fun d=>bW (decide (d.map (·.1)).Nodup) (aa d))
section
variable{prog:Program}{w:bD}
theorem MB:∀{l:List DictEntry} {d:List (Int×fK)},qU l=aa d->(∀e∈l,∃k t,e.key=.int k t/\e.hash=hashInt k)/\l.length=d.length/\
  (∀i x,d.lookup i=aa x->∃t,(l.find? fun e=>yM i e.key).map (·.val)=aa (.str x t))/\∃kvs:List (Int×Value),kvs.map (·.1)=d.map (·.1)/\Pairs (lf prog w) l kvs:=by
 intro v0
 induction v0 with
 |nil=>
  intro d h
  have z0:=ac h;refine eqL z0 ?_
  exact⟨λ_ m=>absurd m fu,rfl,λi x hx=>(by exact aD hx),([]:List (Int×Value)),rfl,Pairs.nil⟩
 |cons e r ih=>
  intro d h
  refine(let G:=_;(?_:G));obtain⟨eh,ek,ev⟩:=e
  unfold qU at h
  dsimp only at h
  split at h
  ·rename_i v1 v2 i t x t'
   set_option smartUnfolding false in refine n3 h fun q h=>?_
   obtain⟨d',hd',rfl⟩:=Option.map_eq_some_iff.mp h
   refine fM (ih hd') fun h1 h2 h3 z7=>?_;refine e12 z7 fun kvs h4 h5=>?_
   refine⟨λe m=>?_,by simp only[ft,ft,h2],λj y hj=>?_,(i,_)::kvs,by simp only[ey,ey,h4],.cons ?_ rfl h5⟩
   ·refine(let G1:=_;(?_:G1));rcases cT.mp m with rfl |m
    ·exact(i22 _ _ rfl (beq_iff_eq.mp q))
    ·exact h1 e m
   ·simp only[cr] at hj
    simp only[WQ]
    by_cases z:j=i
    ·clear q;clear G;subst z
     rw[beq_self_eq_true] at hj
     have z2:=ac hj;refine eqL z2 ?_
     have :yM j (.int j t)=true:=by skip;exact beq_self_eq_true j
     skip
     rw[this]
     exact⟨_,rfl⟩
    ·have z1:(j == i)=false:=by simpa using z
     rw[z1] at hj
     have :yM j (.int i t)=false:=by show(i == j)=false;simpa using fh z
     skip
     rw[this]
     exact h3 j y hj
   ·skip
    exact beq_self_eq_true i
  ·exact aD h
end
theorem MC(h:By E.K a=aa d):Az E a d:=by
 refine ay h fun o ho h=>ay h fun w ew h=>bU h fun qq h=>ay h fun d' hd h=>bU h fun nd h=>?_
 rw[ac h] at hd nd
 clear h
 obtain⟨es,ep⟩:=w
 refine ax (b4 qq) fun z0 q4=>ax z0 fun z0 q3=>ax z0 fun z0 q2'=>?_
 have z1:=b2 z0
 have ho:bN a E.K=aa ⟨.type "dict",none,.dict es ep,#[]⟩:=by
  obtain⟨c,od,dt,sl⟩:=o
  rw[ho,show c=_ from beq_iff_eq.mp z1.1,show od=_ from ls z1.2,show dt=_ from MA ew,show sl=#[] from Array.toList_inj.mp (cX q2')]
 refine fM (MB (prog:=E.prog) (w:=E.w) hd) fun h1 h2 h3 z7=>?_;obtain⟨kvs,h4,h5⟩:=z7
 have hk:∀e∈es,∃k t,e.key=.int k t/\e.hash=hashInt k:=λe m=>h1 e (by simpa using m)
 refine⟨(i12 _ ho rfl),λA s Ex K i t x X hx q=>?_,λA s Ex K X q=>?_⟩
 ·have hm:s.heap.IntMap a (λk=>findBy yM es k):=(i35 _ es ep (X _ _ ho) rfl rfl hk (λ_=>rfl))
  refine(let G1:=_;(?_:G1));refine e11 (h3 i x hx) fun t' ht'=>?_
  refine wpAny_getItem_intMap hm (v:=.str x t') ?_ (q _ _)
  unfold findBy
  rw[<-Wd]
  exact ht'
 ·have hD:s.heap.DictOf (lf E.prog E.w) a kvs:=by
   refine(i36 _ es ep (X _ _ ho) (bl rfl rfl (?_)) rfl (?_) h5 (?_))
   ·rfl
   ·intro e m
    refine e22 (hk e m) fun k t e1 e2=>?_
    refine(i12 k (?_) e2)
    rw[e1]
    skip
    exact beq_self_eq_true k
   ·simp only[h4];exact of_decide_eq_true nd
  have hl:kvs.length=d.length:=by
   have :=congrArg ae h4
   simpa using this
  have hz:=dv q3
  simp only[<-lZ,h2] at hz
  have he:(!kvs.isEmpty)= !d.isEmpty:=by
   clear hd;clear nd;clear h2;clear h3;clear h4;clear h5;clear hz;cases kvs <;> cases d <;> first |rfl |exact bn hl |exact aD hl |refine(let G2:=_;(?_:G2));cases hl
  refine wpAny_truthy_dict (knd:=lf E.prog E.w) ?_ hD (by rw[hl];exact f1 1 [(1,v0,.n 1000)] (.p v0 (.n 1)) (.n (2^63)) rfl (aF hz)) (by simp only[he];exact q _)
  simp only[sF] at q4
  show(a == y4)=false
  cases z:(a == y4) with
  |false=>rfl
  |true=>rw[beq_iff_eq.mp z,Ha] at q4;exact bn q4.symm
def MD(σ:St)(v:AV):Option Nat:=dP (qn σ v) (λl=>aa l.length) (aA (km σ v) fun b=>aa b.length)
def spLen:Spec:=kC fun v σ Q=>ag (MD σ v) fun n=>Q (.pv (.int n)) σ
section
variable{E:Env0}{A:aS}{s:Shared}{c:Cf}
theorem ME(a:Value):dW "bytearray.__len__" ⟨[a],[]⟩:=by unfold dW;kernel_rfl
theorem MF:ir gF "bytearray.__len__" =aa bV.«bytearray.__len__»:=l7 (by kernel_rfl)
theorem MG{K:Value->Shared->Prop}(ho:s.heap.get? a=aa (bQ vs n))(hz:vs.length<=aW)(h:∀t k,K (.int (vs.length:Int) t) {s with toks:=k}):am E.M A (bO (.builtin "len") [.ref a]) K Ex s:=by
 have hb:aW=16777216:=rfl
 refine call_len_list (items:=vs.toArray) ⟨_,ho,rfl,n,rfl⟩ ?_ ?_
 ·rw[cb];exact f2 1 [(1,v0,v1),(1,v1,.n 16777216)] (.p v0 (.n 1)) (.n (2^63)) rfl (aF hz) (eO hb)
 ·rw[cb];exact h _ _
theorem MH{K:Value->Shared->Prop}(ho:s.heap.get? a=aa (aU b))(hz:b.length<=aW)(h:∀t k,K (.int (b.length:Int) t) {s with toks:=k}):am E.M A (bO (.builtin "len") [.ref a]) K Ex s:=by
 have hb:aW=16777216:=rfl
 refine call_len_slot (n:=(b.length:Int)) (gq ho) BF.slot_len (λQ' q=>?_) (Int.not_lt.mpr (f1 1 [(1,.n 0,v0)] (.n 0) v0 rfl aY)) (Int.not_le.mpr (f2 1 [(1,v0,v1),(1,v1,.n 16777216)] (.p v0 (.n 1)) (.n (2^63)) rfl (aF hz) (eO hb))) (h _ _)
 refine iS BF.slot_len (gq ho) MF ?_ (ME _)
 unfold bV.«bytearray.__len__»
 refine af (dY (a:=(dw a,([]:List Value))) rfl ?_)
 refine af (kB ho ?_)
 have e:((b.toArray.size:Nat):Int)=(b.length:Int):=by rw[cb]
 show am _ _ (retInt (b.toArray.size:Nat)) _ _ _
 rw[cb]
 exact af (y7 (aN (i12 _ rfl q)))
theorem MI:spLen.Sound E (.builtin "len"):=lM fun A s c Q a u R V r h=>aq h fun n hn h=>
 dE hn (λl e hn=>uN V r e fun x vs m ho rl z eu=>eqR eu (MG ho (rl.1▸z) fun t k=>by rw[<-rl.1,ac hn];exact Done.same V (.pv .int) h k))
  fun _ hn=>ay hn fun b e hn=>qA V r e (λt z eu=>eqR eu (call_len_gives (n:=_) (ix _ _ _) FB.slot_bytes_len FB.entry_bytes_len (FB.args_bytes_len_1 _) (gives_bytes_len _ _) (Int.not_lt.mpr (ee _))
   (Int.not_le.mpr (pk (Int.ofNat_le.mpr (show b.toArray.size<=16777216 from z)) (by decide))) (by rw[cb,ac hn];exact Done.same V (.pv .int) h _))) fun x ho z eu=>eqR eu (MH ho z fun t k=>ac hn▸Done.same V (.pv .int) h k)
end
noncomputable def Bz(p:PV):Option String:=PV.casesOn (motive_1:=λ_=>Option String) p none (λ_=>aa "bool") (λ_=>aa "int") (λ_=>aa "str") (λ_=>none) (λ_=>none) (λ_=>none) (λ_=>none) (λ_=>aa "list") (λ_ _=>none)
def oH(σ:St)(v:AV):Option String:=dP (eQ v) Bz (aA (eR v) fun k=>aA (lm σ k) fun _=>aa "list")
noncomputable def gN(X T:String):Bool:=X == T||(X == "bool" &&T == "int")
noncomputable def qV(T:String):Bool:=["int","bool","str","bytes","bytearray","list","tuple","dict"].any (·== T)
def BA(p:PV):Option String:=aA (gH p) fun v=>aA (mi v) fun T=>bW (qV T) (aa T)
noncomputable def BB:List PV->Option (List String):=iN (aa []) fun p _ ih=>aA (BA p) fun T=>aA ih fun l=>aa (T::l)
def spIsinst:Spec:=i6 fun v w σ Q=>ag (oH σ v) fun X=>ag (eQ w) fun p=>cu (BA p) (λT=>Q (.pv (.bool (gN X T))) σ) (ag (j5 p) fun ps=>ag (BB ps) fun Ts=>Q (.pv (.bool (Ts.any (gN X)))) σ)
theorem MJ:(["int","bool","str","list"].all fun X=>["int","bool","str","bytes","bytearray","list","tuple","dict"].all fun T=>(fastBuiltinMro X).map (·.contains (fL T)) == aa (gN X T))=true:=by decide+kernel
theorem MK{T:String}(hX:X∈["int","bool","str","list"])(hT:qV T=true):lg (.type X) (.type T)=pure (gN X T):=by
 have h:=du.mp MJ X hX
 refine e12 (yw.mp hT) fun T' m e=>?_
 rw[beq_iff_eq] at e
 clear hT;subst e
 have h:=du.mp h _ m
 rw[beq_iff_eq] at h
 rw[gE]
 refine e12 (Option.map_eq_some_iff.mp h) fun l hl hc=>?_
 rw[hl]
 show pure (l.contains (.type T'))=_
 rw[hc]
section
variable{E:Env0}
@[elab_as_elim] theorem BC{c:Cf}{s:Shared}(V:HInv E c s.heap){v:AV}{u:Value}{X:String}{M:Value->String->Prop}(r:Rp E c v u)(h:oH c.σ v=aa X)(fb:∀b,M (.bool b) "bool")(fi:∀i t,M (.int i t) "int")(fs:∀x t,M (.str x t) "str")
  (fl:∀a vs n,s.heap.get? a=aa (bQ vs n)->M (.ref a) "list"):M u X:=
 dE h (λp e h=>RepP.casesOn (motive:=λp u _=>Bz p=aa X->M u X) (r.pvx e) aD (λh=>ac h▸fb _) (λh=>ac h▸fi _ _) (λh=>ac h▸fs _ _) (λ_=>aD) (λ_ _=>aD) (λ_=>aD) (λ_ _ _ _=>aD) (λi _ _ _ h=>ac h▸fl _ _ _ (V.keep _ _ i)) (λ_ _ _ _ _=>aD) h)
  fun _ h=>ay h fun k e h=>ay h fun l e1 h=>ac h▸r.loc_at e fun a ek=>e12 (V.st k _ (j9 e1)) fun b hb z=>e23 z fun vs n ho _ _=>fl _ _ _ (ac (hb.symm.trans ek)▸ho)
theorem BD{c:Cf}{s:Shared}(V:HInv E c s.heap){v:AV}{u:Value}{X:String}(r:Rp E c v u)(h:oH c.σ v=aa X):s.TypeIs u X:=BC V r h (λ_=>rfl) (λ_ _=>pP _ _ _) (λ_ _=>HQ _ _ _) fun _ _ _ ho=>i12 _ ho rfl
theorem qW{T:String}(h:gN X T=false):(fL X == fL T)=false:=by
 unfold gN at h
 rw[nw] at h
 have h1:=h.1
 clear h;cases q:(fL X == fL T) with
 |false=>rfl
 |true=>
  have :=cE q
  cases this
  rw[beq_self_eq_true] at h1;exact bn h1.symm
theorem ML{T:String}(hT:qV T=true):nX (.type T)=pure (.type "type"):=by
 refine e12 (yw.mp hT) fun T' m e=>?_
 rw[beq_iff_eq] at e
 clear hT;subst e
 simp only[cT,fu,or_false] at m
 rcases m with rfl |rfl |rfl |rfl |rfl |rfl |rfl |rfl <;> rfl
theorem BE{c:Cf}{s:Shared}(V:HInv E c s.heap){v:AV}{u:Value}{X T:String}(r:Rp E c v u)(h:oH c.σ v=aa X)(hT:qV T=true):Answers (λs=>s.TypeIs u X) u (.type T) (gN X T):=by
 have tt:=ML hT
 refine(BC (M:=λu X=>(X∈["int","bool","str","list"]->lg (.type X) (.type T)=pure (gN X T))->Answers (λs=>s.TypeIs u X) u (.type T) (gN X T)) V r h (λb hs=>?_) (λi t hs=>?_) (λx t hs=>?_) fun a vs n _ hs=>?_) fun m=>MK m hT
 all_goals
  replace hs:=hs (by decide)
  cases q:gN _ T with
  |true=>exact Answers.of_true tt (q▸hs)
  |false=>first |exact Answers.of_false_bool (qW q) tt (q▸hs)|exact Answers.of_false_int (qW q) tt (q▸hs)|exact Answers.of_false_str (qW q) tt (q▸hs)|exact Answers.of_false_list (qW q) tt (q▸hs)
theorem MM{c:Cf}{s:Shared}(V:HInv E c s.heap){v:AV}{u:Value}{X:String}(r:Rp E c v u)(h:oH c.σ v=aa X):∀{ps:List PV} {Ts:List String} {cs:List Value},BB ps=aa Ts->All2 (RepP E.w.params c.I) ps cs->AnswersAll (λs=>s.TypeIs u X) u cs (Ts.map (gN X)):=by
 intro v0
 induction v0 with
 |nil=>exact fun e rp=>rp.nil_el (ac e▸trivial)
 |cons p r' ih=>
  exact fun e rp=>rp.cons_el fun u' cs r1 r2=>ay e fun T e1 e=>ay e fun l e2 e=>ay e1 fun w e3 e1=>ay e1 fun T' e4 e1=>bU e1 fun hT e1=>r1.cst_at e3 fun _=>ac e▸ac e1▸eqR (ll e4) ⟨BE V r h hT,ih e2 r2⟩
theorem MN:spIsinst.Sound E (.builtin "isinstance"):=mQ fun A s c Q v w u u' R V r r' h=>aq h fun X hX h=>aq h fun p e h=>
 cQ h (λT e1 h=>ay e1 fun y e2 e1=>ay e1 fun T' e3 e1=>bU e1 fun hT e1=>(r'.pvx e).cst_at e2 fun _=>by
  rw[ll e3,ac e1]
  rw[ac e1] at hT
  exact call_isinstance (S:=λA R s=>s.TypeIs u X/\∀tk,R (.ok (.ret (.bool (gN X T)))) {s with toks:=tk}) (λprog w A R s hs=>isinstance_outer (BE V r hX hT 0 0 prog w A R s hs) (X3 hs.1)) ⟨BD V r hX,λtk=>Done.same V (.pv .bool) h tk⟩)
  fun _ h=>aq h fun ps e1 h=>aq h fun Ts e2 h=>(r'.pvx e).tup_at e1 fun a cs i z rr=>
   call_isinstance (isinstance_tuple (MM V r hX e2 rr)) (bl (BD V r hX) (V.keep _ _ i) fun tk=>Done.same V (.pv .bool) (show Q (.pv (.bool ((Ts.map (gN X)).any id))) c.σ from(yx▸h)) tk)
end
def spInt:Spec:=kC fun a σ Q=>gf fP a fun n=>Q (.pv (.int n)) σ
def MO(p:PV):Option Bool:=dP (bX p) (λn=>aa (!(decide (n=0)))) (iX p)
def spBool:Spec:=kC fun a σ Q=>gf MO a fun b=>Q (.pv (.bool b)) σ
def spMax:Spec:=i6 fun a b σ Q=>gf bX a fun a=>gf bX b fun b=>Q (.pv (.int (max a b))) σ
def spOrd:Spec:=kC fun a σ Q=>gf eP a fun x=>ag (fA x.cps.toList) fun c=>Q (.pv (.int (c:Int))) σ
def spAppendL:Spec:=i6 fun a b σ Q=>ag (eR a) fun k=>ag (eQ b) fun p=>ag (lm σ k) fun l=>l.length+1<=16777216/\Q (.pv .none) (eT σ k (.list (l++[p])))
section
variable{E:Env0}{c:Cf}{s:Shared}{Q:AV->St->Prop}
theorem Done.grown(V:HInv E c s.heap)(k:∀b o,s.heap.get? b=aa o->h'.get? b=aa o)(hz:s.heap.objs.size<=h'.objs.size)(rr:Rp E c r v)(q:Q r c.σ)(t:Nat):Done E c s Q v {s with heap:=h',toks:=t}:=
 ⟨c,r,Ext.refl c,V.more k,rr,q,hz,λb o e _=>k b o e,λ_ _ e=>.inl e,λ_ _ e=>.inl e,rfl,rfl,rfl⟩
theorem MP:spInt.Sound E (.type "int"):=lM fun A s c Q a u R V r h=>aq h fun n e h=>r.onv e fun p rp e=>ur rp e (λt=>call_int_int (Done.same V (.pv .int) h s.toks))
 fun b en=>call_int_bool (by cases b <;> exact Done.same V (.pv .int) (en▸h) (s.toks+1))
theorem MQ:spBool.Sound E (.type "bool"):=lM fun A s c Q a u R V r h=>aq h fun b e h=>r.onv e fun p rp e=>dE e (λn e1 e=>rp.int_at e1 fun t=>call_bool_int ((ac e:(n != 0)=b)▸Done.same V (.pv .bool) h s.toks))
 fun _ e=>rp.boo_at e (call_bool_bool (Done.same V (.pv .bool) h s.toks))
theorem MR:spMax.Sound E (.builtin "max"):=mQ fun A s c Q _ _ u w R V r r' h=>aq h fun a e1 h=>aq h fun b e2 h=>r.int_at e1 fun t=>r'.int_at e2 fun t'=>by
 have main:am E.M A (bO (.builtin "max") [.int a t,.int b t']) (λv s'=>∃h' tk,s'={s with heap:=h',toks:=tk}/\(∀b o,s.heap.get? b=aa o->h'.get? b=aa o)/\Rp E c (.pv (.int (max a b))) v) aK s:=by
  refine max_two_ints R.handled fun h' tk k=>(i23 h' tk rfl k (?_))
  by_cases q:b>a
  ·rw[if_pos q,yu (nD q)];exact .pv .int
  ·rw[if_neg q,Int.max_eq_left (Int.not_lt.mp q)];exact .pv .int
 refine aT (iW main) (λv s' ⟨hz,h',tk,e,k,rr⟩=>?_) bb
 subst e
 exact Done.grown V k hz rr h tk
theorem MS:spOrd.Sound E (.builtin "ord"):=lM fun A s c Q a u R V r h=>aq h fun x e h=>aq h fun k hk hq=>r.str_at e fun t=>by
 clear e
 obtain⟨cps⟩:=x
 rw[show cps=#[k] from Array.toList_inj.mp (gn hk)]
 exact PySem.P.ord_of_char (Done.same V (.pv .int) hq (s.toks+1))
theorem spAppendL_sound:spAppendL.Sound E (.builtin "list.append"):=mQ fun A s c Q a1 a2 u w R V r r' h=>aq h fun k e1 h=>aq h fun p e2 h=>aq h fun l e3 h=>r.loc_at e1 fun a ek=>e12 (V.st _ _ (j9 e3)) fun a' ha' z7=>e23 z7 fun vs n ho rl z=>by
 rw[ac (ha'.symm.trans ek)] at ho
 have hl:=j9 e3
 have hz:=h.1
 have q:=h.2
 refine call_meets Xn (s:=s) (id:="list.append") (i12 _ ho rfl) PySem.F.entry_list_append (PySem.F.args_list_append_2 _ _) (list_append a vs.toArray n w (by simp only[cb,ge,<-rl.1];exact z)) ⟨ho,?_⟩
 have hnew:(s.heap.update a (ta fun x=>x.push w)).get? a=aa (bQ (vs++[w]) (n+1)):=by
  rw[pi _ ho rfl]
  show aa ({cls:=.type "list",data:=.seq (vs.toArray.push w) (if((vs.toArray.push w).size == vs.toArray.size)=true then n else n+1)}:Obj)=_
  rw[if_neg (by simp)]
  simp
 refine Done.upd (o':=.list (l++[p])) V hl ek (pg ..) (i23 _ _ hnew (All2.append rl (.cons (r'.pvx e2) .nil)) (?_)) (.pv .none) q s.toks
 rw[bB];exact hz
end
noncomputable def be:Nat->Int->List UInt8
 |0,_=>[]
 |n+1,x=>(x.fmod 256).toNat.toUInt8::be n (x.fdiv 256)
def spToBytes:Spec:=Bs fun a b d σ Q=>gf bX a fun x=>gf bX b fun k=>gf eP d fun w=>gd (w == ("little" :fK)) ((0<=k/\k<=8/\0<=x/\x<256^k.toNat)/\Q (.pv (.bytes (be k.toNat x))) σ)
noncomputable def oI:List PV->Option (List fK):=iN (aa []) fun p _ ih=>aA (eP p) fun x=>aA ih fun r=>aa (x::r)
def spJoin:Spec:=i6 fun a b σ Q=>gf eP a fun x=>gf gm b fun l=>ag (oI l) fun xs=>JoinOk x xs=true/\Q (.pv (.str (Hm x xs))) σ
noncomputable def oJ:List PV->Option (List Nat):=iN (aa []) fun p _ ih=>aA (bX p) fun i=>bW (decide (0<=i/\i<=1000000)) (aA ih fun r=>aa (i.toNat::r))
def spSum:Spec:=kC fun a σ Q=>gf gm a fun l=>ag (oJ l) fun ns=>gd (dN l.length 1000000) (Q (.pv (.int ((ns.foldl (· +·) 0:Nat):Int))) σ)
theorem MT:∀(k:Nat) (x:Int),(be k x).map (λc=>((c.toNat:Nat):Int))=WI k x:=by
 intro v0
 induction v0 with
 |zero=>
  intro _
  exact rfl
 |succ k ih=>
  intro x
  show _::(be k (x.fdiv 256)).map _=x%256::WI k (x/256)
  rw[ih]
  have e1:x.fmod 256=x%256:=by rw[sM];decide
  have e2:x.fdiv 256=x/256:=by rw[yr];decide
  rw[e1,e2]
  congr 1
  have h1:=jQ x (show(256:Int)≠0 by decide)
  have h2:=jP x (show(0:Int)<256 by decide)
  have :((x%256).toNat.toUInt8).toNat=(x%256).toNat:=by
   skip
   rw[Xv]
   exact s9 (by lia)
  show(((x%256).toNat.toUInt8.toNat:Nat):Int)=_
  rw[this]
  exact dM (f2 1 [(1,v1,v0)] v1 v0 rfl (dO (f1 1 [(1,.n 0,v0)] (.n 0) v0 rfl (a:=x%256) h1))) (f2 1 [(1,v0,v1)] v0 v1 rfl iU)
theorem BG:∀{a b:List UInt8},a.map (λc=>((c.toNat:Nat):Int))=b.map (λc=>((c.toNat:Nat):Int))->a=b
 | [],[],_=>rfl
 | [],_::_,h=>nomatch h
 |_::_,[],h=>nomatch h
 |x::a,y::b,h=>by
  simp only[ey,ey] at h
  injection h with h1 h2
  simp only[BG h2,jo.inj (GO h1)]
theorem MU:∀(k:Nat) (x:Int),(be k x).length=k:=by
 intro v0
 induction v0 with
 |zero=>
  intro _
  exact rfl
 |succ k ih=>
  intro x
  exact congrArg (· +1) (ih _)
section
variable{E:Env0}
theorem MV:spToBytes.Sound E (.builtin "int.to_bytes"):=Mh fun A s c Q _ _ _ u1 u2 u3 R V r1 r2 r3 h=>aq h fun x e1 h=>aq h fun k e2 h=>aq h fun w e3 h=>bH h fun hw h=>r1.int_at e1 fun t1=>r2.int_at e2 fun t2=>r3.str_at e3 fun t3=>by
 rw[beq_iff_eq.mp hw]
 clear e1 e2 e3 r1 r2 r3
 have h0:=h.1.1;have h1:=h.1.2.1;have h2:=h.1.2.2.1;have h3:=h.1.2.2.2;have q:=h.2
 obtain⟨j,rfl⟩:=ij h0
 simp only[sP] at h3 q
 have hj:j<=8:=Int.ofNat_le.mp h1
 clear h0 h1
 refine KTBy.to_little (k:=j) (B:=256^j) (by omega) rfl h2 h3 fun b t' k' e1 e2=>?_
 have hb:b=(be j x).toArray:=Array.toList_inj.mp (BG (Gw e1 (MT j x).symm))
 clear e1;refine eqR hb ?_
 exact Done.same V (.pv (.bytes (by rw[MU];exact bT hj (by decide)))) q k'
theorem MW:∀{l:List PV} {xs:List fK} {vs:List Value},oI l=aa xs->All2 (RepP P I) l vs->∃ps:List (fK×fj),strValues ps=vs/\ps.map (·.1)=xs:=by
 intro v0
 induction v0 with
 |nil=>exact fun e r=>r.nil_el (ac e▸i12 [] rfl rfl)
 |cons p l ih=>exact fun e r=>r.cons_el fun v vs r1 r2=>ay e fun x e1 e=>ay e fun ys e2 e=>e12 (ih e2 r2) fun ps h1 h2=>r1.str_at e1 fun t=>ac e▸i12 ((x,t)::ps) (congrArg (Value.str x t::·) h1) (congrArg (x::·) h2)
theorem MX:spJoin.Sound E (.builtin "str.join"):=mQ fun A s c Q _ _ u w R V r r' h=>aq h fun x e h=>aq h fun l e1 h=>aq h fun xs hx h=>r.str_at e fun t=>r'.onv e1 fun p rp e2=>rp.lst_at e2 fun a vs n i z rr=>e12 (MW hx rr) fun ps k1 k2=>
 SC.join (l:=ps) ⟨_,V.keep _ _ i,rfl,_,congrArg (λx=>yo (c7 x) n) k1.symm⟩ k2 h.1 fun t' k=>Done.same V (.pv .str) h.2 k
theorem MY:∀{l:List PV} {ns:List Nat} {vs:List Value},oJ l=aa ns->All2 (RepP P I) l vs->∃ps:List (Int×fj),ps.map (λp=>Ho p.1 p.2)=vs/\ps.map (·.1)=ns.map (λn:Nat=>(n:Int))/\∀n∈ns,n<=1000000:=by
 intro v0
 induction v0 with
 |nil=>exact fun e r=>r.nil_el (ac e▸i13 [] rfl rfl fun _ m=>absurd m fu)
 |cons p l ih=>
  exact fun e r=>r.cons_el fun v vs r1 r2=>ay e fun i e1 e=>bU e fun hd e=>ay e fun ys e2 e=>e13 (ih e2 r2) fun ps h1 h2 h3=>r1.int_at e1 fun t=>ac e▸i13 ((i,t)::ps) (congrArg (Ho i t::·) h1)
   (congr (congrArg List.cons (l4 (of_decide_eq_true hd).1).symm) h2) (List.forall_mem_cons.mpr ⟨Int.toNat_le.mpr (of_decide_eq_true hd).2,h3⟩)
theorem BH(xs:Array (Int×fj)):∀(k:Nat),k<=xs.size->preSum (nS xs) k=((xs.toList.take k).map (·.1)).sum:=by
 intro v0
 induction v0 with
 |zero=>intro _;simp[preSum]
 |succ k ih=>
  intro h
  have hk:k<xs.toList.length:=by simp only[lZ];exact dx (f2 1 [(1,.p v0 (.n 1),v1)] (.p v0 (.n 1)) v1 rfl (aF h))
  simp only[List.take_add_one,eH hk]
  simp only[Option.toList_some,WV,List.sum_append,ey,GU,sZ,List.sum_nil]
  show preSum (nS xs) k+nS xs k=_
  rw[ih (aO (f2 1 [(1,.p v0 (.n 1),v1)] v0 v1 rfl (aF h)))]
  have :nS xs k=xs.toList[k].1:=by
   unfold nS
   rw[<-Gm,eH hk]
   rfl
  simp only[this]
  exact dM (f2 1 [] (.p v1 v0) (.p v1 (.p v0 (.n 0))) rfl) (f2 1 [] (.p v1 (.p v0 (.n 0))) (.p v1 v0) rfl)
theorem MZ(ns:List Nat):(ns.map (λn:Nat=>(n:Int))).sum=((ns.foldl (· +·) 0:Nat):Int):=by
 have :∀(ns:List Nat) (a:Nat),(ns.foldl (· +·) a:Nat)=a+ns.sum:=by
  intro ns
  induction ns with
  |nil=>intro a;simp
  |cons n ns ih=>intro a;simp only[GQ,ih,sZ];exact iz (f3 1 [] (.p (.p v0 v1) v2) (.p v0 (.p v1 v2)) rfl (a:=↑a) (b:=↑n) (c:=↑ns.sum)) (f3 1 [] (.p v0 (.p v1 v2)) (.p (.p v0 v1) v2) rfl (a:=↑a) (b:=↑n) (c:=↑ns.sum))
 simp only[this,nI]
 induction ns with
 |nil=>rfl
 |cons n ns ih=>simp only[ey,sZ,sZ,ih];push_cast;rfl
theorem M0(ns:List Nat)(B:Nat)(h:∀n∈ns,n<=B)(k:Nat):((ns.take k).map (λn:Nat=>(n:Int))).sum<=k*B/\0<=((ns.take k).map (λn:Nat=>(n:Int))).sum:=by
 induction ns generalizing k with
 |nil=>simp;exact gU (ee k) (ee B)
 |cons n ns ih=>
  cases k with
  |zero=>simp
  |succ k=>
   refine ax (ih (λm hm=>h m (cU _ hm)) k) fun i1 i2=>?_
   have hn:=h n cM
   simp only[List.take_succ_cons,ey,sZ]
   have e:((k+1:Nat):Int)*B=k*B+B:=by push_cast;simp only[nC,ik]
   simp only[e]
   constructor <;> lia
theorem M3:spSum.Sound E (.builtin "sum"):=lM fun A s c Q _ u R V r h=>aq h fun l el h=>aq h fun ns hn h=>bH h fun hz h=>r.onv el fun p rp e2=>rp.lst_at e2 fun a vs n i _ rr=>e13 (MY hn rr) fun ps e1 e2 e3=>by
 have l:=rr.1
 clear rr hn
 subst e1
 have hz:=dv hz
 have hlen:ps.length=ns.length:=by have :=congrArg ae e2;simpa using this
 have hlp:ps.length<=1000000:=by simp only[dT] at l;exact aO (f2 1 [(1,v0,.n 1000000),(1,v1,v0)] v1 (.n 1000000) rfl (aF hz) (fZ l))
 have hps:∀k,((ps.toArray.toList.take k).map (·.1)).sum=((ns.take k).map (λn:Nat=>(n:Int))).sum:=λk=>by
  simp only[GV,GV]
  show(gi k (ps.map _)).sum=_
  rw[e2]
 have hl:s.heap.IsList _ (intItems ps.toArray):=⟨_,V.keep _ _ i,rfl,_,(by unfold intItems;rw[List.map_toArray]:yo _ _=yo _ _)⟩
 have main:=sum_intList (prog:=E.prog) (w:=E.w) (A:=A) (E:=aK) (s:=s) (xs:=ps.toArray) (Q:=λv s'=>∃h' tk t',v=.int ((ns.foldl (· +·) 0:Nat):Int) t'/\s'={s with heap:=h',toks:=tk}/\∀b o,s.heap.get? b=aa o->h'.get? b=aa o) R.handled hl ?_ ?_
 ·refine aT (iW main) (λv s' ⟨hz,h',tk,t',e,es,k⟩=>?_) bb
  refine eqR e ?_;subst es
  exact Done.grown V k hz (.pv .int) h tk
 ·intro j hj
  replace hj:=cb▸hj
  rw[BH _ _ (by simp only[cb];exact hj),hps]
  refine ax (M0 ns 1000000 e3 (j+1)) fun i1 i2=>?_
  refine⟨?_,?_⟩
  ·have hj':j<ps.length:=hj
   have e5:nS ps.toArray j=((ns[j]'(by omega):Nat):Int):=by
    unfold nS
    have :(ps.map (·.1))[j]? =(ns.map (λn:Nat=>(n:Int)))[j]?:=by rw[e2]
    simp only[io,io,eH (show j<ns.length by omega)] at this
    simp only[yD,this]
    rfl
   have e6:=e3 (ns[j]'(by omega)) (yE _)
   simp only[e5]
   constructor <;> lia
  ·have :((j+1:Nat):Int)*(1000000:Nat)<=1000000000000:=by
    have :((j+1:Nat):Int)<=1000000:=f2 1 [(1,v0,.n 1000000),(1,.p v1 (.n 1),v0)] (.p v1 (.n 1)) (.n 1000000) rfl (a:=↑ps.length) (b:=↑j) (aF hlp) (dD hj)
    have :=pn this (show(0:Int)<=(1000000:Nat) by exact f1 1 [] (.n 0) (.n 1000000) rfl (a:=0))
    exact f1 1 [(1,v0,.s 1000000 (.n 1000000))] v0 (.n 1000000000000) rfl this
   constructor <;> lia
 ·intro h' tk t' k
  refine(i33 h' tk t' (?_) rfl k)
  rw[BH _ _ (c8 _),hps,cb,hlen,WY,MZ]
end
namespace BF
theorem ba_no_index:fa (.type "bytearray") "__index__" =pure none:=by rw[eB,eA];kernel_rfl
end BF
section
variable{prog:Program}{w:bD}{A:aS}{E:Value->Shared->Prop}{s:Shared}{M:Model}
theorem M4(ho:s.heap.get? a=aa (aU b))(q:Q (aa b.toArray) s):am M A (sG i (.ref a) f) Q E s:=by
 have hT:=gq ho
 unfold sG
 refine af (dC hT BX.look_ba_buffer ?_)
 refine af (qR hT BX.look_ba_buffer BX.ends3 BX.drop3 BX.sub_self ?_)
 refine jW (by rfl) ?_
 refine af (dC hT BX.look_ba_buffer ?_)
 refine af (qS ho ?_)
 refine jW (by rfl) ?_
 exact af (kB ho (aN q))
theorem M5(ho:s.heap.get? a=aa (aU b))(hz:b.length<=aW)(hQ:∀t k,Q (.bytes b.toArray t) {s with toks:=k}):
  la (aH prog w) A (.call (.builtin "bytes.__new__") ⟨[.type "bytes",.ref a],[]⟩) (wants Q E) s:=by
 refine HA ?_
 skip
 refine af (dY (F.bm_newCall _) (aN ⟨nT F.bm_plain _,Hz F.bm_entry ?_⟩))
 rw[pc F.bm_plain _]
 have hT:=gq ho
 unfold bV.«bytes.__new__»
 refine af (dY (a:=true) rfl ?_)
 refine jW (by rfl) ?_
 refine af (dY F.bm_sub ?_)
 refine jW (by rfl) ?_
 refine af (dY (F.bm_bind _) ?_)
 refine af (dY (a:=()) rfl ?_)
 refine af (dY (a:=()) rfl ?_)
 refine jW (by rfl) ?_
 refine af (dC hT BF.ba_no_bytes ?_)
 refine af (af ?_)
 skip
 refine af (gk ho ?_)
 refine aN (aN ?_)
 refine jW (by rfl) ?_
 refine af (dC hT BF.ba_no_index ?_)
 refine bm_if_true (by rfl) ?_
 first
  |skip
  |(refine af ?_;show am _ _ (sG "bytes.__new__" (.ref a) true >>=_) _ _ _)
 refine af (M4 ho ?_)
 refine af (lj ?_)
 refine af (wpAny_mkBytes ?_ (by simp only[cb,ge];exact hz))
 skip
 refine bm_if_true (by decide) ?_
 first
  |exact aN (hQ _ _)
  |exact af (aN (aN (hQ _ _)))
theorem BJ(ho:s.heap.get? a=aa (aU b))(hz:b.length<=aW)(hQ:∀t k,Q (.bytes b.toArray t) {s with toks:=k}):am (aH prog w) A (bO (.type "bytes") [.ref a]) Q E s:=by
 refine callType_codes (Q₁:=λobj s₁=>s₁.TypeIs obj "bytes"/\Q obj s₁) GH (F.bm_typeCall _) F.entry_object_init
  (M5 ho hz fun t k=>⟨ix _ _ _,hQ t k⟩) fun obj s₁ h₁=>?_
 exact(bl h₁.1 (F.args_object_init_2 obj _) (object_init_meets GH.init.lookup GH.made (by decide) prog w A.in1 _ s₁ (bl h₁.1 rfl h₁.2)))
end
def spBytes:Spec:=kC fun v σ Q=>ag (dP (bP mh v) aa (aA (eR v) (jB σ))) fun b=>Q (.pv (.bytes b)) σ
section
variable{E:Env0}
theorem M6:spBytes.Sound E (.type "bytes"):=lM fun A s c Q v u R V r h=>aq h fun b e h=>
 dE e (λx e1 e=>r.onv e1 fun p rp e1=>rp.bar_at e1 fun a i z=>BJ (V.keep _ _ i) z fun t k=>Done.same V (.pv (.bytes z)) (by rw[ac e];exact h) k)
  fun _ e=>ay e fun k e1 e=>qT (M:=λu=>am E.M A (bO _ [u]) (Done E c s Q) aK s) V r e1 e fun a ek ho z=>BJ ho z fun t k=>Done.same V (.pv (.bytes z)) h k
end
theorem M7:∀(l:List Nat) (acc:Array UInt8),l.foldl (λacc y=>acc++(bd y).toArray) acc=acc++(l.flatMap bd).toArray:=by
 intro v0
 induction v0 with
 |nil=>intro acc;simp
 |cons c l ih=>intro acc;simp only[GQ,ih,nE];simp
theorem M8{β:Type}{n:Nat}{f:Nat->β->cy (ForInStep β)}{b0 b1:β}(h0:∀i,f i b0=pure (.yield b1))(h1:∀i,f i b1=pure (.done b1)):(lc [0:n+1] b0 f:cy β)=pure b1:=by
 simp only[Hk]
 have hs:([0:n+1]:tg).size=n+1:=by simp[Hl]
 show lc (yG 0 ([0:n+1]:tg).size 1) b0 f=_
 rw[hs,G5,nF,h0]
 show lc (yG (0+1) n 1) b1 f=pure b1
 clear hs;cases n with
 |zero=>rfl
 |succ n=>
  rw[G5,nF,h1]
  rfl
theorem M9:(lc [0:0] b0 f:cy β)=pure b0:=by
 simp only[Hk]
 have hs:([0:0]:tg).size=0:=by simp[Hl]
 show lc (yG 0 ([0:0]:tg).size 1) b0 f=_
 rw[hs]
 rfl
section
variable{M:Model}{A:aS}{E:Value->Shared->Prop}{s:Shared}
theorem Na{id:String}{errors:Option fK}{self:Value}{x:fK}(h:∀c∈x.cps.toList,Hj c=false)(hz:(x.cps.toList.flatMap bd).length<=aW):
  _codecs.encodeNarrow id _codecs.utf8Codec errors self x=pure (x.cps.toList.flatMap bd).toArray:=by
 obtain⟨⟨l⟩⟩:=x
 unfold _codecs.encodeNarrow
 have hsz:({cps:={toList:=l}}:fK).length=l.length:=cb
 rw[hsz]
 cases l with
 |nil=>
  dsimp only[WT]
  rw[M9]
  rfl
 |cons c r=>
  have hb:_codecs.utf8Codec.bad c=false:=h c cM
  have hall:((c::r).toArray.findIdx? _codecs.utf8Codec.bad)=none:=by
   rw[Array.findIdx?_eq_none_iff]
   intro y hy
   exact h y (by simpa using hy)
  dsimp only[ft]
  rw[M8 (b1:=((c::r).length,((c::r).flatMap bd).toArray,{}))]
  ·rfl
  ·intro i
   dsimp only
   rw[if_neg (by decide)]
   have e1:(#[].extract 0 0:Array Nat)=#[]:=rfl
   have e2:({toList:=c::r}:Array Nat)[0]? =aa c:=rfl
   rw[e2]
   dsimp only
   rw[hb]
   have e3:({toList:=c::r}:Array Nat).extract 0 ({toList:=c::r}:Array Nat).size=(c::r).toArray:=by simp
   simp only[e3,hall,Xj,Bool.not_false,if_true]
   have e4:((c::r).toArray.extract 0 (c::r).toArray.size)=(c::r).toArray:=by simp
   have e5:=M7 (c::r) #[]
   rw[<-Array.foldl_toList]
   show pure (GI (0+(c::r).toArray.size,(c::r).foldl (λacc y=>acc++(bd y).toArray) #[],_))=_
   rw[e5]
   simp
  ·intro i
   skip
   have hz:((c::r).flatMap bd).length<=aW:=hz
   rw[if_neg (by simp only[cb,ge];exact Nat.not_lt.mpr hz)]
   have e2:({toList:=c::r}:Array Nat)[(c::r).length]? =none:=by simp
   simp only[e2]
theorem Nb(h:∀c∈x.cps.toList,Hj c=false)(hz:(x.cps.toList.flatMap bd).length<=aW)
  (hq:∀t' k,Q (.bytes (x.cps.toList.flatMap bd).toArray t') {s with toks:=k}):am (aH prog w) A (bO (.builtin "str.encode") [.str x t,.str "utf-8" u]) Q E s:=by
 refine iS Xp (HQ _ _ _) PySem.F.entry_str_encode ?_ (PySem.F.args_str_encode_2 _ _)
 have e:«str.encode» ⟨[.str x t,.str "utf-8" u],[]⟩=(do ret (<-_codecs.encodeRoad "str.encode" (.str x t) x (dU "utf-8") none)):=by kernel_rfl
 rw[e,encodeRoad_utf8,Na h hz]
 refine af (af (aN (wpAny_mkBytes (aN (i12 _ rfl (hq _ _))) ?_)))
 simp only[cb,ge]
 exact hz
end
noncomputable def dh(c:Nat):Bool:=a7 c 97||(a7 c 90||(a7 c 126||a7 c 233))
theorem BK{P:Nat->Prop}(a:P 97)(b:P 90)(c:P 126)(d:P 233){x:Nat}(h:dh x=true):P x:=
 have k {n:Nat} (p:P n) (e:a7 x n=true):P x:=ce e▸p
 (Bool.or_eq_true_iff.mp h).elim (k a) fun h=>(Bool.or_eq_true_iff.mp h).elim (k b) fun h=>(Bool.or_eq_true_iff.mp h).elim (k c) (k d)
def spEncode:Spec:=i6 fun a b σ Q=>gf eP a fun x=>gf eP b fun w=>gd (w == ("utf-8" :fK)) ((x.cps.toList.all dh=true/\x.cps.size<=1000000)/\Q (.pv (.bytes (x.cps.toList.flatMap bd))) σ)
theorem Nc:∀(l:List Nat),(l.flatMap bd).length<=4*l.length:=by
 intro v0
 induction v0 with
 |nil=>
  exact c8 _
 |cons c l ih=>
  simp only[nE,bB,ft]
  have :=ih
  have h:(bd c).length<=4:=by
   unfold bd
   split
   ·exact dv rfl
   ·split
    ·exact dv rfl
    ·split
     ·exact dv rfl
     ·exact dv rfl
  exact aO (f3 1 [(1,v0,.s 4 v1),(1,v2,.n 4)] (.p v2 v0) (.s 4 (.p v1 (.n 1))) rfl (a:=↑(dg bd l).length) (b:=↑l.length) (c:=↑(bd c).length) (aF ih) (aF h))
section
variable{E:Env0}
theorem Nd:spEncode.Sound E (.builtin "str.encode"):=mQ fun A s c Q _ _ u u' R V r r' h=>aq h fun x e h=>aq h fun w e1 h=>bH h fun hw h=>r.str_at e fun t=>r'.str_at e1 fun t'=>by
 rw[beq_iff_eq.mp hw]
 clear e e1 r r'
 have h1:=h.1.1;have h2:=h.1.2;have q:=h.2
 have hz:(x.cps.toList.flatMap bd).length<=aW:=by
  have h3:=Nc x.cps.toList
  have h4:x.cps.toList.length=x.cps.size:=lZ
  unfold aW
  exact aO (f3 1 [(4,v0,.n 1000000),(1,v1,.s 4 v2),(4,v2,v0)] v1 (.n 16777216) rfl (a:=↑x.cps.size) (b:=↑(dg bd x.cps.toList).length) (c:=↑x.cps.toList.length) (aF h2) (aF h3) (eO h4))
 refine Nb (λk m=>?_) hz fun t k=>Done.same V (.pv (.bytes hz)) q k
 exact BK (P:=λc=>Hj c=false) rfl rfl rfl rfl (du.mp h1 k m)
end
theorem u8(h:n<256):(n.toUInt8).toNat=n:=by
 skip
 rw[Xv]
 exact s9 h
theorem BL{pre post:List UInt8}{u:List UInt8}{k:Nat}{x:UInt8}(h:u[k]? =aa x):(pre++(u++post)).toArray[pre.length+k]? =aa x:=by
 rw[yD,sT (fw _ _),G9]
 rw[sS]
 ·exact h
 ·exact(List.getElem?_eq_some_iff.mp h).1
theorem BM{pre post:List UInt8}{u:List UInt8}{x:UInt8}(h:u[0]? =aa x):(pre++(u++post)).toArray.getD pre.length 0=x:=by
 have :=BL (pre:=pre) (post:=post) h
 simp only[Nat.add_zero] at this
 rw[Array.getD_eq_getD_getElem?,this]
 rfl
theorem vK{pre post:List UInt8}{x:UInt8}(h:x.toNat<0x80):sJ (pre++([x]++post)).toArray pre.length=(.char x.toNat,pre.length+1):=
 have e:=BM (pre:=pre) (post:=post) (u:=[x]) (x:=x) rfl
 (if_pos (e.symm▸h)).trans (congrArg (λy:UInt8=>(Gp y.toNat,pre.length+1)) e)
theorem Nf{pre post:List UInt8}{c:Nat}(h:dh c=true):sJ (pre++(bd c++post)).toArray pre.length=(.char c,pre.length+(bd c).length):=by
 refine BK (P:=λc=>sJ (pre++(bd c++post)).toArray pre.length=(.char c,pre.length+(bd c).length)) (vK (x:=97) (by decide)) (vK (x:=90) (by decide)) (vK (x:=126) (by decide)) ?_ h
 have key:∀o:Option UInt8,o=aa 169->(match(match o with
   |none=>.error ((pre++([195,169]++post)).toArray.size,"unexpected end of data")
   |some x=>if(decide (0x80<=x.toNat)&&decide (x.toNat<=0xBF))=true then .ok (3*64+x.toNat%64) else .error (pre.length+1,"invalid continuation byte"):Except (Nat×String) Nat) with
  | .ok v=>(Gp v,pre.length+1+1)
  | .error (stop,reason)=>(.bad pre.length stop reason,stop))=(Gp 233,pre.length+2):=λo e=>eqR e rfl
 unfold sJ
 refine eqR (BM (pre:=pre) (post:=post) (u:=[195,169]) (x:=195) rfl) ?_
 exact key _ (BL (u:=[195,169]) (k:=1) (x:=169) rfl)
theorem vL(c:Nat):1<=(bd c).length:=by
 unfold bd
 by_cases a:c<128
 ·exact eqR (if_pos a) (c8 1)
 refine eqR (if_neg a) ?_
 by_cases b:c<2048
 ·exact eqR (if_pos b) (dv rfl)
 refine eqR (if_neg b) ?_
 by_cases d:c<65536
 ·exact eqR (if_pos d) (dv rfl)
 exact eqR (if_neg d) (dv rfl)
theorem BN{β:Type}{f:Nat->β->cy (ForInStep β)}{I:Nat->β->Prop}{li:Nat}(h1:∀k b i,I (k+1) b->∃b',f i b=pure (.yield b')/\I k b')(h0:∀b i,I 0 b->f i b=pure (.done b)):
  ∀(m i0 k:Nat) (b:β),I k b->k<=m->∃b',(lc (yG i0 m li) b f:cy β)=pure b'/\I 0 b'
 |0,i0,k,b,hI,hk=>by
  have :k=0:=iz (f1 1 [(1,v0,.n 0)] v0 (.n 0) rfl (aF hk)) (f1 1 [(1,.n 0,v0)] (.n 0) v0 rfl aY)
  refine(let G:=_;(?_:G));subst this
  exact(i12 b rfl hI)
 |m+1,i0,k,b,hI,hk=>by
  rw[G5,nF]
  refine(let G1:=_;(?_:G1));cases k with
  |zero=>exact(i12 b (by rw[h0 b i0 hI];rfl) hI)
  |succ k=>
   refine e12 (h1 k b i0 hI) fun b' e hI'=>?_
   obtain⟨b'',e'',hI''⟩:=BN h1 h0 m (i0+li) k b' hI' (aO (f2 1 [(1,.p v0 (.n 1),.p v1 (.n 1))] v0 v1 rfl (aF hk)))
   exact(i12 b'' (by rw[e];exact e'') hI'')
theorem Ng{β γ:Type}{x:cy β}{P:β->Prop}{k:β->cy γ}{R:cy γ->Prop}(h:∃b',x=pure b'/\P b')(hk:∀b',P b'->R (k b')):R (x >>=k):=by
 refine e12 h fun b' e hP=>?_
 rw[e]
 exact hk b' hP
def BO(cs:List Nat)(k:Nat)(b:Nat×Array Nat×_codecs.Faults):Prop:=∃(pre:List UInt8) (done rest:List Nat),rest.length=k/\rest.all dh=true/\cs.flatMap bd=pre++rest.flatMap bd/\done++rest=cs/\b=(pre.length,done.toArray,{})
theorem Nh{id:String}{errors:Option fK}{cs:List Nat}(h:cs.all dh=true)(hz:cs.length<=aW):
  _codecs.runDecoder id _codecs.utf8Decoder errors true (cs.flatMap bd).toArray 0 []=pure (cs.toArray,(cs.flatMap bd).length):=by
 unfold _codecs.runDecoder
 have hl:cs.length<=(cs.flatMap bd).length:=by
  clear hz h
  induction cs with
  |nil=>exact c8 _
  |cons c cs ih=>
   simp only[nE,bB,ft]
   have :=vL c
   exact aO (f3 1 [(1,v0,v1),(1,.n 1,v2)] (.p v0 (.n 1)) (.p v2 v1) rfl (aF ih) (aF this))
 dsimp only
 rw[Hk]
 have hs:([0:(cs.flatMap bd).toArray.size]:tg).size=(cs.flatMap bd).length:=by simp[Hl]
 rw[hs]
 refine Ng (R:=λz=>z=pure (cs.toArray,(cs.flatMap bd).length)) (P:=BO cs 0)
  (BN (I:=BO cs) ?_ ?_ _ _ cs.length _ (i35 ([]) ([]) cs rfl h rfl rfl rfl) hl) ?_
 ·rintro k b i ⟨pre,done,rest,e1,e2,e3,e4,rfl⟩
  refine(let G:=_;(?_:G));clear hl;clear hs;cases rest with
  |nil=>first |exact bn e1 |exact aD e1 |cases e1
  |cons c rest=>
   simp only[sQ,bC] at e2
   have hd:done.length<=cs.length:=by simp only[<-e4,bB];exact aO (f2 1 [(1,.n 0,v0)] v1 (.p v1 v0) rfl aY)
   have hlt:pre.length<(cs.flatMap bd).length:=by
    simp only[e3,bB,nE,bB]
    have :=vL c
    exact dx (f3 1 [(1,.n 1,v0),(1,.n 0,v2)] (.p v1 (.n 1)) (.p v1 (.p v0 v2)) rfl (aF this) aY)
   refine⟨(pre.length+(bd c).length,done.toArray++[c].toArray,{}),?_,pre++bd c,done++[c],rest,Xg e1,e2.2,?_,?_,?_⟩
   ·skip
    rw[if_neg (by simp only[cb,ge];exact Nat.not_lt.mpr (aO (f3 1 [(1,v0,v1),(1,v2,v0)] v2 v1 rfl (aF hz) (aF hd)))),if_neg (by simp only[cb];exact Nat.not_le.mpr (dx (f2 1 [(1,.p v0 (.n 1),v1)] (.p v0 (.n 1)) v1 rfl (dD hlt))))]
    have ef:_codecs.utf8Decoder.find true (cs.flatMap bd).toArray pre.length=_codecs.Found.text [c] (pre.length+(bd c).length):=by
     show(match sJ (cs.flatMap bd).toArray pre.length with |(.char c,nx)=>_codecs.Found.char c nx |(.bad _ stop reason,_)=>_)=_
     simp only[e3,nE,Nf e2.1]
     rfl
    rw[ef]
   ·simp only[e3,nE,dS]
   ·simp only[<-e4,dS];rfl
   ·rw[bB];simp
 ·rintro b i ⟨pre,done,rest,e1,e2,e3,e4,rfl⟩
  have :rest=[]:=List.length_eq_zero_iff.mp e1
  subst this
  rw[im] at e4
  subst e4
  skip
  rw[if_neg (by simp only[cb,ge];exact Nat.not_lt.mpr (aO (f2 1 [(1,v0,v1)] v0 v1 rfl (aF hz)))),if_pos (by simp only[cb,e3];simp)]
 ·rintro b ⟨pre,done,rest,e1,e2,e3,e4,rfl⟩
  have :rest=[]:=List.length_eq_zero_iff.mp e1
  subst this
  rw[im] at e4
  subst e4
  rw[e3]
  skip
  simp only[List.flatMap_nil,im]
def spDecode:Spec:=i6 fun a d σ Q=>gf iY a fun b=>gf eP d fun w=>gd (w == ("utf-8" :fK)) (∃cs:List Nat,(cs.all dh=true/\b=cs.flatMap bd)/\Q (.pv (.str ⟨cs.toArray⟩)) σ)
theorem Ni:«bytes.decode» ⟨[.bytes (c::cs).toArray t,.str "utf-8" u],[]⟩=(mkStr (dU "utf-8") >>=λ_=>mkStr (dU "utf-8") >>=λe=>mkStr (dU "bytes.decode") >>=λd=>
  call (.builtin "_codecs.decode.text") [.bytes (c::cs).toArray t,e,.none,d] >>=λv=>ret v):=by kernel_rfl
theorem Nj:«bytes.decode» ⟨[.bytes #[] t,.str "utf-8" u],[]⟩=(do rule "bytes.decode.empty";retStr fK.empty):=by kernel_rfl
theorem Nk(a b:Value):dW "bytes.decode" ⟨[a,b],[]⟩:=by unfold dW;kernel_rfl
section
variable{prog:Program}{w:bD}{A:aS}{E:Value->Shared->Prop}{s:Shared}
theorem Nl{cs:List Nat}{t u:fj}{Q:Value->Shared->Prop}(h:cs.all dh=true)(hz:(cs.flatMap bd).length<=aW)(hq:∀t' k,Q (.str ⟨cs.toArray⟩ t') {s with toks:=k}):
  am (aH prog w) A (bO (.builtin "bytes.decode") [.bytes (cs.flatMap bd).toArray t,.str "utf-8" u]) Q E s:=by
 have hl:cs.length<=(cs.flatMap bd).length:=by
  clear hz h hq
  induction cs with
  |nil=>exact c8 _
  |cons c cs ih=>
   simp only[nE,bB,ft]
   have :=vL c
   exact aO (f3 1 [(1,v0,v1),(1,.n 1,v2)] (.p v0 (.n 1)) (.p v2 v1) rfl (aF ih) (aF this))
 refine iS Wv (ix _ _ _) FB.entry_bytes_decode ?_ (Nk _ _)
 have hd:∀id,_codecs.runDecoder id _codecs.utf8Decoder none true (cs.flatMap bd).toArray 0 []=pure (({cps:=cs.toArray}:fK).cps,(cs.flatMap bd).length):=λid=>Nh h (bT hl hz)
 clear h;cases e:cs.flatMap bd with
 |nil=>
  have :cs=[]:=by
   simp only[e] at hl
   exact List.length_eq_zero_iff.mp (Nat.le_zero.mp hl)
  subst this
  rw[Nj]
  refine af (lj ?_)
  exact af (y8 (aN (i12 _ rfl (hq _ _))) (iQ _))
 |cons c r=>
  replace hd:=e▸hd
  rw[Ni]
  refine af (y8 ?_ (by decide))
  refine af (y8 ?_ (by decide))
  refine af (y8 ?_ (by decide))
  refine af (call_function_meets KBd.kind_text KBd.plain_text KBd.entry_text (KBd.args_text _ _ _ _) (KBd.meets_text hd) ⟨?_,aN (i12 _ rfl (hq _ _))⟩)
  skip
  simp only[cb,ge]
  exact bT hl hz
end
section
variable{E:Env0}
theorem Nm:spDecode.Sound E (.builtin "bytes.decode"):=mQ fun A s c Q _ _ u u' R V r r' h=>aq h fun b e h=>aq h fun w e1 h=>bH h fun hw h=>r.byt_at e fun t z=>r'.str_at e1 fun t'=>e12 h fun cs z0 q=>by
 rw[beq_iff_eq.mp hw,z0.2]
 exact Nl z0.1 (z0.2▸z) fun t k=>Done.same V (.pv .str) q k
end
namespace BI
theorem slot_next:jV "bytearray_iterator" "__next__" "bytearray_iterator.__next__":=
 .of (owner:="bytearray_iterator") (n:="__next__") (by rw[eB,eA];kernel_rfl) (by decide+kernel) (by decide+kernel) (by decide+kernel)
  (by first |exact .inl (by decide+kernel)|exact .inr (by decide+kernel)) (by rw[gE];kernel_rfl)
theorem slot_self:jV "bytearray_iterator" "__iter__" "bytearray_iterator.__iter__":=
 .of (owner:="bytearray_iterator") (n:="__iter__") (by rw[eB,eA];kernel_rfl) (by decide+kernel) (by decide+kernel) (by decide+kernel)
  (by first |exact .inl (by decide+kernel)|exact .inr (by decide+kernel)) (by rw[gE];kernel_rfl)
theorem slot_iter:jV "bytearray" "__iter__" "bytearray.__iter__":=
 .of (owner:="bytearray") (n:="__iter__") (by rw[eB,eA];kernel_rfl) (by decide+kernel) (by decide+kernel) (by decide+kernel)
  (by first |exact .inl (by decide+kernel)|exact .inr (by decide+kernel)) (by rw[gE];kernel_rfl)
theorem entry_next:ir gF "bytearray_iterator.__next__" =aa bV.«bytearray_iterator.__next__»:=l7 (by kernel_rfl)
theorem entry_iter:ir gF "bytearray.__iter__" =aa bV.«bytearray.__iter__»:=l7 (by kernel_rfl)
theorem entry_self:ir gF "bytearray_iterator.__iter__" =aa bV.«dict_keyiterator.__iter__»:=by
 refine entryFor_alias (id':="dict_keyiterator.__iter__") ?_ ?_ ?_ ?_ <;> first |kernel_rfl |decide+kernel
theorem args_next(a:Value):dW "bytearray_iterator.__next__" ⟨[a],[]⟩:=by unfold dW;kernel_rfl
theorem args_self(a:Value):dW "bytearray_iterator.__iter__" ⟨[a],[]⟩:=by unfold dW;kernel_rfl
theorem args_iter(a:Value):dW "bytearray.__iter__" ⟨[a],[]⟩:=by unfold dW;kernel_rfl
end BI
def lN(h:Heap)(a x:Addr)(i:Nat):Prop:=∃o,h.get? a=aa o/\o.cls=.type "bytearray_iterator"/\o.data=.fields #[.ref x,.int i 0]
theorem lO{s:Shared}{a x:Addr}{i:Nat}(y:lN s.heap a x i):s.TypeIs (.ref a) "bytearray_iterator":=let⟨o,ho,hc,_⟩:=y;(i12 o ho hc)
section
variable{prog:Program}{w:bD}{A:aS}{E:Value->Shared->Prop}{s:Shared}{b:List UInt8}{x:Addr}
theorem Nn(ho:s.heap.get? x=aa (aU b))(hQ:Q (.ref s.heap.objs.size) {s with heap:=s.heap.push {cls:=.type "bytearray_iterator",data:=.fields #[.ref x,.int 0 0]}}):am (aH prog w) A (iw (.ref x)) Q E s:=by
 refine XW (gq ho) BI.slot_iter (iS BI.slot_iter (gq ho) BI.entry_iter ?_ (BI.args_iter _))
 show am _ _ (do ret (<-newFields "bytearray_iterator" [.ref x,rawInt 0])) _ _ s
 exact af (nZ (aN ⟨_,rfl,"bytearray_iterator",_,(i12 _ (d9 _ rfl) rfl),BI.slot_next.lookup,hQ⟩))
theorem No{it:Addr}{i:Nat}{Q:Value->Shared->Prop}(hit:lN s.heap it x i)(h:Q (.ref it) s):am (aH prog w) A (iw (.ref it)) Q E s:=by
 refine XW (lO hit) BI.slot_self (iS BI.slot_self (lO hit) BI.entry_self ?_ (BI.args_self _))
 skip
 exact aN ⟨_,rfl,"bytearray_iterator",_,lO hit,BI.slot_next.lookup,h⟩
theorem Np{it:Addr}{i:Nat}{c:UInt8}{Q:Option Value->Shared->Prop}(hb:s.heap.get? x=aa (aU b))(hit:lN s.heap it x i)(hx:b[i]? =aa c)
  (hQ:∀h',lN h' it x (i+1)->ii it s.heap h'->Q (aa (.int (c.toNat:Int) s.toks)) {s with heap:=h',toks:=s.toks+1}):am (aH prog w) A (j0 (.ref it)) Q E s:=by
 refine e13 (id hit) fun o ho hc hd=>?_
 unfold j0
 refine af (HW (HX (name:=dU "__next__") (lO hit) BI.slot_next
  (iS BI.slot_next (lO hit) BI.entry_next ?_ (BI.args_next _))))
 unfold bV.«bytearray_iterator.__next__»
 refine af (dY (a:=(dw it,([]:List Value))) rfl ?_)
 refine af (gY ho hd (x:=.ref x) rfl ?_)
 refine af (gk hb ?_)
 refine af (gY ho hd (x:=.int i 0) rfl ?_)
 have e:b.toArray[(i:Int).toNat]? =aa c:=by simp only[sP];simpa using hx
 show am _ _ (match b.toArray[(i:Int).toNat]? with |some c=>_ |none=>_) _ _ _
 rw[e]
 refine af (wpAny_setField ho hd (by simp) (af (y7 (aN (i12 _ rfl (aN (hQ _ ?_ (pg ..))))))))
 exact(i13 _ (pi _ ho (Obj.isFreed_of_fields (Xh hd _))) ((Obj.cls_mapFields ..).trans hc) (by
  rw[Xh hd];simp[rawInt]))
theorem Nq{it:Addr}{i:Nat}{Q:Option Value->Shared->Prop}(hh:A.handled=none)(hb:s.heap.get? x=aa (aU b))(hit:lN s.heap it x i)(hx:b[i]? =none)
  (hQ:∀h',Wx it s.heap h'->Q none {s with heap:=h'}):am (aH prog w) A (j0 (.ref it)) Q E s:=by
 refine e13 (id hit) fun o ho hc hd=>?_
 unfold j0
 refine af (HW (HX (name:=dU "__next__") (lO hit) BI.slot_next
  (iS BI.slot_next (lO hit) BI.entry_next ?_ (BI.args_next _))))
 unfold bV.«bytearray_iterator.__next__»
 refine af (dY (a:=(dw it,([]:List Value))) rfl ?_)
 refine af (gY ho hd (x:=.ref x) rfl ?_)
 refine af (gk hb ?_)
 refine af (gY ho hd (x:=.int i 0) rfl ?_)
 have e:b.toArray[(i:Int).toNat]? =none:=by simp only[sP];simpa using hx
 skip
 simp only[e]
 refine af (lj (af (wpAny_setField ho hd (by simp) (af (y6 ?_)))))
 skip
 refine af ?_
 simp only[newExc,newTuple]
 refine af (nZ ?_ (by size_fits))
 refine af (m:=firstArgMember _ _) (dY (a:=yN) (by first |rfl |(simp only[firstArgMember];rfl)) ?_)
 refine nZ ?_ (by size_fits)
 simp only[raiseNew]
 refine af (wpAny_handled ?_)
 rw[show A.in1.handled=none from hh]
 refine af (aN (wpAny_throw ?_))
 refine af (md (T:="StopIteration") (b:=true) (i12 _ (d9 _ rfl) rfl) isSubtype_stop ?_)
 exact aN (hQ _ (((pg ..).extBut.push _).push _))
end
theorem Nr(hh:A.handled=none)(I x:Addr)(hne:x≠I)(b:List UInt8):
  Walks prog w A I [I,x] [I] b.length (λi v=>∃c u,b[i]? =aa c/\v=.int (c.toNat:Int) u) (λi h=>lN h I x i/\h.get? x=aa (aU b)) where
 sub:=λ_ hb=>cT.mpr (.inl (List.mem_singleton.mp hb))
 frame:=λ_ _ _ st hk=>⟨let⟨o,ho,r⟩:=st.1;(i12 o (hk I (by simp) o ho) r),hk x (by simp) _ st.2⟩
 item:=λi s Q E hi st hQ=>by
  refine Np st.2 st.1 (c:=b[i]) (by simp[hi]) fun h' hit' hs'=>?_
  exact hQ _ h' (s.toks+1) (i22 _ _ (by simp[hi]) rfl) ⟨hit',(hs'.2 x hne).trans st.2⟩ fun b o hb e=>hs'.extBut b o (λh=>hb (by simp[h])) e
 done:=λs Q E st hQ=>Nq hh st.2 st.1 (by simp) fun h' he'=>hQ h' s.toks fun b o hb e=>he' b o (λh=>hb (by simp[h])) e
 self:=λ_ _ _ _ st hQ=>No st.1 hQ
def vM(b:List UInt8)(i:Nat)(v:Value):Prop:=∃c u,b[i]? =aa c/\v=.int (c.toNat:Int) u
section
variable{prog:Program}{w:bD}{A:aS}{E:Value->Shared->Prop}{s:Shared}{b:List UInt8}{x:Addr}
theorem Nt(hh:A.handled=none)(ho:s.heap.get? x=aa (aU b))(S:Addr)(res:Value)(c₀:Nat)(hS:s.heap.get? S=aa {cls:=.type "list",data:=.seq #[] c₀})
  (hR:∀h' tk acc' c',(∀b o,b≠S->s.heap.get? b=aa o->h'.get? b=aa o)->h'.get? S=aa {cls:=.type "list",dict:=none,data:=.seq acc' c',slots:=#[]}->
   ItemsOf (vM b) acc' b.length->R (.ok (.ret res)) {s with heap:=h',toks:=tk}) (hn:b.length<=lh):
  am (aH prog w) A.in1 (Go (.ref S) (.ref x) res)
   (λfin s'=>match fin with | .done f=>R (.ok f) s' | .again c'=>c'.quiet=true/\la (aH prog w) A c' R s') (λe s'=>R (.error e) s') s:=by
 have hT:=gq ho
 have hxS:S≠x:=λe=>by refine(let G:=_;(?_:G));subst e;rw[hS] at ho;exact absurd (show fL "list" =fL "bytearray" from congrArg Obj.cls (ac ho)) (by decide)
 have hSI:S≠s.heap.objs.size:=fJ (bM hS)
 have hxI:x≠s.heap.objs.size:=fJ (bM ho)
 have hSf:S∉[s.heap.objs.size,x]:=λhm=>by
  rcases cT.mp hm with e |hm
  ·exact hSI e
  ·exact hxS (List.mem_singleton.mp hm)
 unfold Go
 refine af (tB hT ?_)
 have h1:bV.List.listSameRef (.ref S) (.ref x)=false:=by
  show(S == x)=false
  simpa using hxS
 have h2:(fL "bytearray" == fL "list")=false:=by decide
 have h3:(fL "bytearray" == fL "tuple")=false:=by decide
 simp only[h1,h2,h3,Bool.or_false,sE,if_false]
 refine af (Nn ho ?_)
 have ho1:(s.heap.push {cls:=.type "bytearray_iterator",data:=.fields #[.ref x,.int 0 0]}).get? x=aa (aU b):=cD _ ho
 have hT1:({s with heap:=s.heap.push {cls:=.type "bytearray_iterator",data:=.fields #[.ref x,.int 0 0]}}:Shared).TypeIs (.ref x) "bytearray":=(i12 _ ho1 rfl)
 refine af (iT ?_)
 unfold bV.List.listLengthHint
 refine af (dC hT1 BF.slot_len.lookup ?_)
 wp_delta
 refine af (md hT1 BX.sub_self ?_)
 skip
 refine af (tB hT1 ?_)
 refine aN ?_
 rw[if_neg (by decide)]
 have hst:lN (s.heap.push {cls:=.type "bytearray_iterator",data:=.fields #[.ref x,.int 0 0]}) s.heap.objs.size x 0/\(s.heap.push {cls:=.type "bytearray_iterator",data:=.fields #[.ref x,.int 0 0]}).get? x=aa (aU b):=⟨(i13 _ (d9 _ rfl) rfl rfl),ho1⟩
 refine aN ⟨nT F.plain_extend_loop _,codeAny_extend_loopS (Nr (A:=A.in1) hh s.heap.objs.size x hxI b).toS hn _ hSf _ b.length 0 _ _ _ rfl (iQ _) hst (cD _ hS) (ItemsOf.nil _) fun s' acc' c' hm hS' hacc=>?_⟩
 rw[Moved.eq_with hm]
 refine hR s'.heap s'.toks acc' c' (λb ob hb e=>hm.heap b ob (λhmem=>?_) (cD _ e)) hS' hacc
 rcases cT.mp hmem with e' |hmem
 ·exact hb e'
 ·exact absurd (bM e) (by rw[List.mem_singleton.mp hmem];exact iP _)
theorem Nu(hh:A.handled=none)(ho:s.heap.get? x=aa (aU b))(hn:b.length<=lh)
  (hQ:∀h' tk acc' c',(∀b o,s.heap.get? b=aa o->h'.get? b=aa o)->
   h'.get? s.heap.objs.size=aa {cls:=.type "list",dict:=none,data:=.seq acc' c',slots:=#[]}->ItemsOf (vM b) acc' b.length->Q (.ref s.heap.objs.size) {s with heap:=h',toks:=tk}):
  am (aH prog w) A (bO (.type "list") [.ref x]) Q E s:=by
 refine callType_codes (Q₁:=λobj s₁=>obj=.ref s.heap.objs.size/\s₁={s with heap:=s.heap.push {cls:=.type "list",data:=.seq #[]}}) F.called_list (F.typeCall_list_1 _) F.entry_list_init
  (code_list_new _ ⟨rfl,rfl⟩) fun obj s₁ h₁=>?_
 obtain⟨rfl,rfl⟩:=h₁
 have hS:(s.heap.push {cls:=.type "list",data:=.seq #[]}).get? s.heap.objs.size=aa {cls:=.type "list",data:=.seq #[]}:=d9 _ rfl
 refine(bl (i12 _ hS rfl) (F.args_list_init_2 _ _) (?_))
 show am _ _ (do let old <-yg (.ref s.heap.objs.size);bV.List.listUpdate (.ref s.heap.objs.size) (λ_=>#[]);letGo old.toList.reverse;Go (.ref s.heap.objs.size) (.ref x) .none) _ _ _
 refine af ?_
 unfold yg
 refine af (H6 hS rfl (aN ?_))
 refine af (m:=updateSeq s.heap.objs.size (λ_=>#[])) (wpAny_updateSeq hS rfl ?_)
 have hS₂:=pi (ta (λ_=>(#[]:Array Value))) hS rfl
 have hxS:x≠s.heap.objs.size:=fJ (bM ho)
 have oth:∀b o,b≠s.heap.objs.size->(s.heap.push {cls:=.type "list",data:=.seq #[]}).get? b=aa o->((s.heap.push {cls:=.type "list",data:=.seq #[]}).update s.heap.objs.size (ta (λ_=>(#[]:Array Value)))).get? b=aa o:=
  fun b o hb e=>(Heap.get?_update_other _ _ (fh hb)).trans e
 refine af (y6 ?_)
 refine Nt (A:=A.in1) hh (oth x _ hxS (cD _ ho)) s.heap.objs.size .none _ hS₂ (λh' tk acc' c' hk hS' hacc=>?_) hn
 exact⟨rfl,hQ h' tk acc' c' (λb o e=>hk b o (fJ (bM e)) (oth b o (fJ (bM e)) (cD _ e))) hS' hacc⟩
end
def spList:Spec:=kC fun v σ Q=>ag (eR v) fun k=>ag (jB σ k) fun b=>Q (.pv (.list (b.map fun c=>.int (c.toNat:Int)))) σ
section
variable{E:Env0}
theorem HInv.know(V:HInv E c h)(he:h.get? a=aa o)(hI:c.I a=none)(hρ:∀k,c.ρ k≠aa a):HInv E (c.put a o) h/\Ext c (c.put a o):=by
 have x:=Cf.put_ext (o:=o) hI
 refine⟨⟨V.base.mono x.I,λb p e=>?_,λk p e=>?_,V.dom,λk b e=>?_,V.inj⟩,x⟩
 ·by_cases q:b=a
  ·clear hI;subst q;rw[c.put_self] at e;have z0:=ac e;refine eqL z0 ?_;exact he
  ·rw[c.put_ne o q] at e;exact V.keep b p e
 ·refine e12 (V.st k p e) fun b hb r=>?_
  exact(i12 b hb (r.mono x.I x.ρ rfl))
 ·rw[c.put_ne o (λq:b=a=>hρ k (by rw[<-q];exact e))];exact V.out k b e
theorem Done.made(V:HInv E c s.heap)(k:∀b o,s.heap.get? b=aa o->h'.get? b=aa o)(hz:s.heap.objs.size<=h'.objs.size)(he:h'.get? s.heap.objs.size=aa o)(rr:Rp E (c.put s.heap.objs.size o) r v)(q:Q r c.σ)(t:Nat):
  Done E c s Q v {s with heap:=h',toks:=t}:=by
 refine ax (HInv.know (V.more k) he V.fresh (λk e=>by refine e11 (V.at e) fun y hy=>?_;exact absurd (bM hy) (iP _))) fun W x=>?_
 refine⟨c.put s.heap.objs.size o,r,x,W,rr,q,hz,λb p e _=>k b p e,λ_ _ e=>.inl e,λb p e=>?_,rfl,rfl,rfl⟩
 by_cases z:b=s.heap.objs.size
 ·exact .inr (iq z.symm)
 ·rw[Cf.put_ne _ _ z] at e;exact .inl e
theorem Nv:spList.Sound E (.type "list"):=lM fun A s c Q v u R V r h=>aq h fun k e1 h=>aq h fun b hb h=>qT (M:=λu=>am E.M A (bO _ [u]) (Done E c s Q) aK s) V r e1 hb fun a ek ho z=>by
 have main:=Nu (prog:=E.prog) (w:=E.w) (A:=A) (E:=aK) (s:=s) (Q:=λv s'=>∃h' tk acc' c',v=.ref s.heap.objs.size/\s'={s with heap:=h',toks:=tk}/\(∀b o,s.heap.get? b=aa o->h'.get? b=aa o)/\
  h'.get? s.heap.objs.size=aa {cls:=.type "list",dict:=none,data:=.seq acc' c',slots:=#[]}/\ItemsOf (vM b) acc' b.length) R.handled ho (by simp only[ge];exact z) fun h' tk acc' c' k e i=>(i45 h' tk acc' c' rfl rfl k e i)
 refine aT (iW main) (λv s' ⟨hz,h',tk,acc',c',e1,e2,k,e3,i1,i2⟩=>?_) bb
 refine eqR e1 ?_;subst e2
 refine Done.made V k hz e3 (.pv (.list (vs:=acc'.toList) (n:=c') ?_ ?_ ?_ fun i p v h1 h2=>?_)) h tk
 ·rw[Cf.put_self]
 ·rw[dT];exact z
 ·rw[dT];exact i1.symm.trans lZ.symm
 ·replace h1:=(io)▸h1
  obtain⟨o1,ho1,rfl⟩:=Option.map_eq_some_iff.mp h1
  replace h2:=(Gm)▸h2
  refine e21 (i2 i v h2) fun o2 t2 z8=>?_;clear h2;obtain⟨ho2,rfl⟩:=z8
  replace ho2:=ho1▸ho2
  have z1:=ac ho2;clear ho2;refine eqR z1 ?_
  exact .int
end
namespace BX
theorem plain_ba:PlainAttrs "bytearray":=⟨(i12 ("bytearray.__getattribute__") (by rw[eB,eA];kernel_rfl) (by decide+kernel)),by rw[eB,eA];kernel_rfl⟩
theorem slot_extend:jV "bytearray" "extend" "bytearray.extend":=
 .of (owner:="bytearray") (n:="extend") (by rw[eB,eA];kernel_rfl) (by decide+kernel) (by decide+kernel) (by decide+kernel)
  (by first |exact .inl (by decide+kernel)|exact .inr (by decide+kernel)) (by rw[gE];kernel_rfl)
theorem slot_append:jV "bytearray" "append" "bytearray.append":=
 .of (owner:="bytearray") (n:="append") (by rw[eB,eA];kernel_rfl) (by decide+kernel) (by decide+kernel) (by decide+kernel)
  (by first |exact .inl (by decide+kernel)|exact .inr (by decide+kernel)) (by rw[gE];kernel_rfl)
theorem type_extend:nX (.builtin "bytearray.extend")=pure (.type "method_descriptor"):=by show builtinType _=_;rw[XA];kernel_rfl
theorem type_append:nX (.builtin "bytearray.append")=pure (.type "method_descriptor"):=by show builtinType _=_;rw[XA];kernel_rfl
end BX
noncomputable def vO:List (Nat×List (fK×String)):=
 [(0,[("encode","str.encode"),("join","str.join")]),(1,[("decode","bytes.decode")]),(2,[("extend","bytearray.extend"),("append","bytearray.append")]),(3,[("append","list.append")]),(5,[("to_bytes","int.to_bytes")])]
theorem Nw{β:Type}{l:List (fK×β)}{m:fK}{r:β}(h:l.lookup m=aa r):(m,r)∈l:=by
 induction l with
 |nil=>exact aD h
 |cons p l ih=>
  obtain⟨y,u⟩:=p
  simp only[cr] at h
  cases q:m == y with
  |true=>replace h:=q▸h;have z0:=ac h;refine eqL z0 ?_;rw[beq_iff_eq.mp q];exact cM
  |false=>replace h:=q▸h;exact cU _ (ih h)
theorem Nx{β:Type}{l:List (Nat×β)}{m:Nat}{r:β}(h:l.lookup m=aa r):(m,r)∈l:=by
 induction l with
 |nil=>exact aD h
 |cons p l ih=>
  obtain⟨y,u⟩:=p
  simp only[cr] at h
  cases q:m == y with
  |true=>replace h:=q▸h;have z0:=ac h;refine eqL z0 ?_;rw[beq_iff_eq.mp q];exact cM
  |false=>replace h:=q▸h;exact cU _ (ih h)
theorem Ny{T:aI}(e:T.bmeth=vO):uI T:=by
 intro k m id h
 unfold fo at h
 replace h:=e▸h
 refine e12 (Option.bind_eq_some_iff.mp h) fun l h1 h2=>?_
 have m1:=Nx h1
 have m2:=Nw h2
 unfold vO at m1
 simp only[cT,fu,or_false,pB] at m1
 clear h;clear h1;clear h2;rcases m1 with ⟨rfl,rfl⟩|⟨rfl,rfl⟩|⟨rfl,rfl⟩|⟨rfl,rfl⟩|⟨rfl,rfl⟩ <;> simp only[cT,fu,or_false,pB] at m2
 ·rcases m2 with ⟨rfl,rfl⟩|⟨rfl,rfl⟩
  ·exact(bl Xl Xp PySem.F.type_str_encode)
  ·exact(bl Xl PySem.F.slot_str_join PySem.F.type_str_join)
 ·obtain⟨rfl,rfl⟩:=m2
  exact(bl FB.plainAttrs_bytes Wv FB.type_bytes_decode)
 ·rcases m2 with ⟨rfl,rfl⟩|⟨rfl,rfl⟩
  ·exact(bl BX.plain_ba BX.slot_extend BX.type_extend)
  ·exact(bl BX.plain_ba BX.slot_append BX.type_append)
 ·obtain⟨rfl,rfl⟩:=m2
  exact(bl PySem.F.plainAttrs_list Xn PySem.F.type_list_append)
 ·obtain⟨rfl,rfl⟩:=m2
  exact(bl PySem.F.plainAttrs_int PySem.F.slot_int_to_bytes PySem.F.type_int_to_bytes)
theorem Nz:fa (.type "dict") "__getitem__" =pure (aa (.builtin "dict.__getitem__")):=slot_dict_getitem.lookup
def bls0:List (String×Spec):=[("len",spLen),("isinstance",spIsinst),("max",spMax),("ord",spOrd),("sum",spSum),("list.append",spAppendL),("str.join",spJoin),("str.encode",spEncode),("bytes.decode",spDecode),("int.to_bytes",spToBytes)]
def tys0:List (String×Spec):=[("int",spInt),("bool",spBool),("bytes",spBytes),("list",spList)]
theorem qX{β:Type}{l:List (String×β)}{m:String}{r:β}(h:l.lookup m=aa r):(m,r)∈l:=by
 induction l with
 |nil=>exact aD h
 |cons p l ih=>
  obtain⟨y,u⟩:=p
  simp only[cr] at h
  cases q:m == y with
  |true=>replace h:=q▸h;have z0:=ac h;refine eqL z0 ?_;rw[beq_iff_eq.mp q];exact cM
  |false=>replace h:=q▸h;exact cU _ (ih h)
theorem NA{E:Env0}(n:String)(S:Spec)(h:bls0.lookup n=aa S):S.Sound E (.builtin n):=by
 have m:=qX h
 unfold bls0 at m
 simp only[cT,fu,or_false,pB] at m
 clear h;rcases m with ⟨rfl,rfl⟩|⟨rfl,rfl⟩|⟨rfl,rfl⟩|⟨rfl,rfl⟩|⟨rfl,rfl⟩|⟨rfl,rfl⟩|⟨rfl,rfl⟩|⟨rfl,rfl⟩|⟨rfl,rfl⟩|⟨rfl,rfl⟩
 ·exact MI
 ·exact MN
 ·exact MR
 ·exact MS
 ·exact M3
 ·exact spAppendL_sound
 ·exact MX
 ·exact Nd
 ·exact Nm
 ·exact MV
theorem NB{E:Env0}(n:String)(S:Spec)(h:tys0.lookup n=aa S):S.Sound E (.type n):=by
 have m:=qX h
 unfold tys0 at m
 simp only[cT,fu,or_false,pB] at m
 clear h;rcases m with ⟨rfl,rfl⟩|⟨rfl,rfl⟩|⟨rfl,rfl⟩|⟨rfl,rfl⟩
 ·exact MP
 ·exact MQ
 ·exact M6
 ·exact Nv
end Mine
end
noncomputable section
open PySem PySem.W PySem.Calls PyProof.Rows
set_option maxHeartbeats 8000000
namespace Mine
section
open PySem PySem.W
set_option linter.all false
abbrev pw:Program:=X2
abbrev vn:Value:=.none
abbrev vi(x:Int)(t:Nat):Value:=.int x t
abbrev vs(x:String)(t:Nat):Value:=.str (dU x) t
abbrev vr(a:Nat):Value:=.ref a
noncomputable def ot(l:List Value):Obj:=⟨.type "tuple",none,.seq ⟨l⟩ 0,#[]⟩
noncomputable def of(c:Value)(l:List Value):Obj:=⟨c,none,.fields ⟨l⟩,#[]⟩
noncomputable def qY:Nat->List String->List Value
 |_,[]=>[]
 |t,x::r=>vs x t::qY (t+1) r
noncomputable def de(P:bq)(k:String)(t:Nat)(v:Value):DictEntry:=⟨PyData.keyHash P (dU k),vs k t,v⟩
def dr(P:bq)(k:String)(t a:Nat):DictEntry:=de P k t (vr a)
def ds(P:bq)(k:String)(t:Nat)(x:String)(u:Nat):DictEntry:=de P k t (vs x u)
def di(P:bq)(k:String)(t:Nat)(x:Int)(u:Nat):DictEntry:=de P k t (vi x u)
noncomputable def cd(name:String)(bases mro:List Value)(ns:Addr)(q:String)(hd:Bool)(sl:List Str)(sub:List Value)(ab:Bool)(co:Option Bool)(del:Bool):ClassData:=
 {name:=dU name,bases,mro,ns,qualname:=dU q,hasDict:=hd,slotNames:=sl,subclasses:=sub,abstract:=ab,collection:=co,hasDel:=del}
noncomputable def cS(i:Nat):Stmt:=(pw.main.body[i]?).getD (.Pass ⟨0,0,0,0⟩)
def ak(i j:Nat):Stmt:=match cS i with
 | .ClassDef _ _ _ b _ _ _ _ _ _ _=>(b[j]?).getD (.Pass ⟨0,0,0,0⟩)
 |s=>s
noncomputable def qZ(st:Stmt)(q:String)(g:Addr)(cl:List (Str×Addr))(dV kV doc pm:Value)(an:Option Addr)(code ct:Value)(bi:Addr):FuncData:=match st with
 | .FunctionDef name args body _ _ _ scope _ _ _=>{name,qualname:=dU q,params:=args,body:=.stmts body,scope,globals:=g,closure:=cl,defaults:=dV,kwdefaults:=kV,doc,pyModule:=pm,annotations:=an,code,closureTuple:=ct,builtins:=bi}
 |_=>lb
def BP(nm:Str)(ql:String)(line n fl:Int)(a t u:Nat)(y1 y2 y3:Value)(k:Nat):Obj:=
 of (.type "code") [.str nm t,vs ql (t+1),vs "/claim/cut.py" (t+2),vi line 0,vi n 0,vi 0 0,vi 0 0,vi fl 0,vr a,.bool true,vi 181 0,vr u,vn,y1,y2,y3,vi k 0,vi line 0,vs "/claim/cut.py" (k+1)]
noncomputable def BQ(st:Stmt):Str:=match st with
 | .FunctionDef name _ _ _ _ _ _ _ _ _=>name
 |_=>lb
def dX(st:Stmt)(ql:String)(a t:Nat)(w:Bool)(names:List String)(tn:Nat)(free:List String)(tf:Nat)(x0:List String)(t0:Nat)(line n fl:Int)(k:Nat)(cl:List (Str×Addr))(dV kV doc pm:Value)(an:Option Addr)(ct:Value):List Obj:=
 [ot (qY t0 x0),of vn []]++(match w with |true=>[ot (qY tn names),ot (qY tf free)]|false=>[])++
 (match w with
  |true=>[⟨vn,none,.func (qZ st ql 0 [] vn vn vn vn none vn vn 0),#[]⟩,BP (BQ st) ql line n fl a t (a+1) (vr (a+2)) (vr (a+3)) (vr (a+4)) k,⟨.type "function",none,.func (qZ st ql 3 cl dV kV doc pm an (vr (a+5)) ct 0),#[]⟩]
  |false=>[⟨vn,none,.func (qZ st ql 0 [] vn vn vn vn none vn vn 0),#[]⟩,BP (BQ st) ql line n fl a t (a+1) vn vn (vr (a+2)) k,⟨.type "function",none,.func (qZ st ql 3 cl dV kV doc pm an (vr (a+3)) ct 0),#[]⟩])
abbrev aL:Value:=vs "flatbuffers.flexbuffers" 194
def dG(st:Stmt)(ql:String)(a t:Nat)(names:List String)(tn:Nat)(line n fl:Int)(k:Nat):List Obj:=
 dX st ql a t true names tn [] 0 [] 0 line n fl k [] vn vn vn aL none vn
noncomputable def grow(t:BT)(n:Nat):List Obj->BT
 | []=>t
 |o::r=>grow (t.ins n o) (n+1) r
noncomputable def i7(t:BT):List (Nat×Obj)->BT
 | []=>t
 |(a,o)::r=>i7 (t.set a fun _=>o) r
def T0(P:bq):BT:=grow (i7 (grow .nil 0 (jp P).objs.toList) []) 11 [ot [],of vn [],of (.type "code") [vs "<module>" 182,vs "<module>" 183,vs "/claim/cut.py" 184,vi 1 0,vi 0 0,vi 0 0,vi 0 0,vi 0 0,vr 11,.bool false,vi 181 0,vr 12,vn,vn,vn,vn,vi 185 0,vi 1 0,vs "/claim/cut.py" 186],⟨(.type "frame"),none,.plain,⟨[aa (vr 13),aa (vr 3),aa (vr 3),none,aa (vs "__main__" 164),none,aa (vr 0)]⟩⟩]
def NC(P:bq):List Obj:=
 dX (cS 0) "_wall" 15 187 true ["k"] 190 [] 0 [] 0 1 1 3 191 [] vn vn vn (vs "__main__" 164) none vn++
 [ot [.type "Exception"],
 of (.type "builtin_function_or_method") [.builtin "type.__prepare__",.type "type"],
 ⟨(.type "dict"),none,(.dict ⟨[de P "__module__" 203 aL,ds P "__qualname__" 205 "StructError" 204,di P "__firstlineno__" 207 5 206,dr P "__static_attributes__" 208 29]⟩ 4),#[]⟩,
 ot [],
 of vn [],
 of (.type "code") [vs "StructError" 198,vs "StructError" 199,vs "/claim/cut.py" 200,vi 5 0,vi 0 0,vi 0 0,vi 0 0,vi 0 0,vr 25,.bool false,vi 181 0,vr 26,vn,vn,vn,vn,vi 201 0,vi 5 0,vs "/claim/cut.py" 202],
 ⟨(.type "frame"),none,.plain,⟨[aa (vr 27),aa (vr 3),aa (vr 24),none,aa aL,none,aa (vr 0)]⟩⟩,
 ot [],
 ⟨(.type "dict"),none,(.dict ⟨[de P "__module__" 203 aL,di P "__firstlineno__" 207 5 206,dr P "__static_attributes__" 208 29,dr P "__weakref__" 210 32,de P "__doc__" 211 vn]⟩ 3),#[]⟩,
 ⟨(.type "type"),none,(.cls (cd "StructError" [.type "Exception"] [vr 31,.type "Exception",.type "BaseException",.type "object"] 30 "StructError" true [] [] false (none) false)),⟨[aa (vr 22),none,aa (vs "StructError" 196),aa (vs "StructError" 204),aa (.builtin "Exception.__new__"),aa (.bool true)]⟩⟩,
 of (.type "getset_descriptor") [vs "__weakref__" 209,vr 31,.builtin "ExceptionGroup.__weakref__",vn],
 of (.type "super") [vr 31,vr 31,vr 31],
 of (.type "builtin_function_or_method") [.builtin "object.__init_subclass__",vr 31],
 ot [],
 of (.type "builtin_function_or_method") [.builtin "type.__prepare__",.type "type"],
 ⟨(.type "dict"),none,(.dict ⟨[de P "__module__" 223 aL,ds P "__qualname__" 225 "BitWidth" 224,di P "__firstlineno__" 227 7 226,di P "W8" 229 0 228,di P "W16" 231 1 230,di P "W32" 233 2 232,di P "W64" 235 3 234,dr P "U" 254 50,dr P "I" 273 60,dr P "B" 292 70,dr P "__static_attributes__" 293 72]⟩ 11),#[]⟩,
 ot [],
 of vn [vi 14 0,vi 4 0,vr 47,vi 28 0,vi 4 0,vr 57,vi 33 0,vi 4 0,vr 67],
 of (.type "code") [vs "BitWidth" 218,vs "BitWidth" 219,vs "/claim/cut.py" 220,vi 7 0,vi 0 0,vi 0 0,vi 0 0,vi 0 0,vr 38,.bool false,vi 181 0,vr 39,vn,vn,vn,vn,vi 221 0,vi 7 0,vs "/claim/cut.py" 222],
 ⟨(.type "frame"),none,.plain,⟨[aa (vr 40),aa (vr 3),aa (vr 37),none,aa aL,none,aa (vr 0)]⟩⟩]++
 dX (ak 3 4) "BitWidth.U" 42 236 true ["value"] 239 [] 0 [] 0 13 1 3 240 [] vn vn vn aL (aa 51) vn++
 [⟨(.type "dict"),none,(.dict ⟨[de P "__module__" 243 aL,ds P "__name__" 246 "U" 245,ds P "__qualname__" 249 "BitWidth.U" 248,de P "__doc__" 251 vn,dr P "__annotations__" 253 51]⟩ 5),#[]⟩,
 ⟨(.type "staticmethod"),(aa 49),(.fields ⟨[vr 48,.bool false]⟩),⟨[]⟩⟩,
 ⟨(.type "dict"),none,(.dict ⟨[]⟩ 0),#[]⟩]++
 dX (ak 3 5) "BitWidth.I" 52 255 true ["value"] 258 [] 0 [] 0 27 1 3 259 [] vn vn vn aL (aa 61) vn++
 [⟨(.type "dict"),none,(.dict ⟨[de P "__module__" 262 aL,ds P "__name__" 265 "I" 264,ds P "__qualname__" 268 "BitWidth.I" 267,de P "__doc__" 270 vn,dr P "__annotations__" 272 61]⟩ 5),#[]⟩,
 ⟨(.type "staticmethod"),(aa 59),(.fields ⟨[vr 58,.bool false]⟩),⟨[]⟩⟩,
 ⟨(.type "dict"),none,(.dict ⟨[]⟩ 0),#[]⟩]++
 dX (ak 3 6) "BitWidth.B" 62 274 true ["byte_width"] 277 [] 0 [] 0 32 1 3 278 [] vn vn vn aL (aa 71) vn++
 [⟨(.type "dict"),none,(.dict ⟨[de P "__module__" 281 aL,ds P "__name__" 284 "B" 283,ds P "__qualname__" 287 "BitWidth.B" 286,de P "__doc__" 289 vn,dr P "__annotations__" 291 71]⟩ 5),#[]⟩,
 ⟨(.type "staticmethod"),(aa 69),(.fields ⟨[vr 68,.bool false]⟩),⟨[]⟩⟩,
 ⟨(.type "dict"),none,(.dict ⟨[]⟩ 0),#[]⟩,
 ot [],
 ⟨(.type "dict"),none,(.dict ⟨[de P "__module__" 223 aL,di P "__firstlineno__" 227 7 226,di P "W8" 229 0 228,di P "W16" 231 1 230,di P "W32" 233 2 232,di P "W64" 235 3 234,dr P "U" 254 50,dr P "I" 273 60,dr P "B" 292 70,dr P "__static_attributes__" 293 72,dr P "__dict__" 295 75,dr P "__weakref__" 297 76,de P "__doc__" 298 vn]⟩ 4),#[]⟩,
 ⟨(.type "type"),none,(.cls (cd "BitWidth" [.type "object"] [vr 74,.type "object"] 73 "BitWidth" true [] [] false (none) false)),⟨[none,none,aa (vs "BitWidth" 216),aa (vs "BitWidth" 224),aa (.builtin "object.__new__"),aa (.bool true)]⟩⟩,
 of (.type "getset_descriptor") [vs "__dict__" 294,vr 74,.builtin "function.__dict__",.builtin "function.__dict__#set"],
 of (.type "getset_descriptor") [vs "__weakref__" 296,vr 74,.builtin "ExceptionGroup.__weakref__",vn],
 of (.type "super") [vr 74,vr 74,vr 74],
 of (.type "builtin_function_or_method") [.builtin "object.__init_subclass__",vr 74]]
def U0(P:bq):List (Nat×Obj):=[
 (2,⟨vn,none,(.dict ⟨[di P "type.__subclasses__.Exception.0" 212 31 0,di P "type.__subclasses__.Exception.n" 213 1 0]⟩ 2),#[]⟩),
 (3,⟨(.type "dict"),none,(.dict ⟨[de P "__name__" 165 aL,de P "__doc__" 166 vn,de P "__package__" 167 vn,de P "__loader__" 168 (.builtin "__main__.__loader__#opaque"),de P "__spec__" 169 vn,dr P "__annotations__" 170 6,dr P "__builtins__" 171 4,ds P "__file__" 173 "/claim/cut.py" 172,de P "__cached__" 174 vn,dr P "_wall" 193 21,dr P "StructError" 215 31,dr P "BitWidth" 300 74]⟩ 12),#[]⟩),
 (12,of vn [vi 1 0,vi 0 0,vr 20,vi 5 0,vi 0 0,vr 27,vi 7 0,vi 0 0,vr 40])]
def T1(P:bq):BT:=grow (i7 (T0 P) (U0 P)) 15 (NC P)
noncomputable def ND(P:bq):List Obj:=
 [⟨(.type "dict"),none,(.dict ⟨[⟨1,vi 1 301,(vs "b" 302)⟩,⟨2,vi 2 303,(vs "h" 304)⟩,⟨4,vi 4 305,(vs "i" 306)⟩,⟨8,vi 8 307,(vs "q" 308)⟩]⟩ 4),#[]⟩,
 ⟨(.type "dict"),none,(.dict ⟨[⟨1,vi 1 314,(vs "B" 315)⟩,⟨2,vi 2 316,(vs "H" 317)⟩,⟨4,vi 4 318,(vs "I" 319)⟩,⟨8,vi 8 320,(vs "Q" 321)⟩]⟩ 4),#[]⟩]
def U1(P:bq):List (Nat×Obj):=[
 (3,⟨(.type "dict"),none,(.dict ⟨[de P "__name__" 165 aL,de P "__doc__" 166 vn,de P "__package__" 167 vn,de P "__loader__" 168 (.builtin "__main__.__loader__#opaque"),de P "__spec__" 169 vn,dr P "__annotations__" 170 6,dr P "__builtins__" 171 4,ds P "__file__" 173 "/claim/cut.py" 172,de P "__cached__" 174 vn,dr P "_wall" 193 21,dr P "StructError" 215 31,dr P "BitWidth" 300 74,dr P "I" 313 79,dr P "U" 326 80]⟩ 14),#[]⟩)]
def T2(P:bq):BT:=grow (i7 (T1 P) (U1 P)) 79 (ND P)
def NE(P:bq):List Obj:=
 dG (cS 6) "_Unpack" 81 327 ["fmt","buf","signed","number"] 330 37 2 3 334++
 dX (cS 7) "_UnpackVector" 88 337 false [] 0 [] 0 [] 0 43 3 3 340 [] vn vn vn aL none vn++
 dG (cS 8) "_Pack" 93 343 ["fmt","value","byte_width","signed","low"] 346 50 3 3 351++
 dG (cS 9) "_Mutate" 100 354 ["fmt","buf","value","byte_width","value_bit_width"] 357 56 5 3 362++
 dG (cS 10) "_PaddingBytes" 107 365 ["buf_size","scalar_size"] 368 61 2 3 370++
 dG (cS 11) "_LowerBound" 114 373 ["values","value","pred","first","last","count","i","step"] 376 63 3 3 384++
 dG (cS 12) "_BinarySearch" 121 387 ["values","value","pred","index"] 390 77 3 3 394++
 [ot [],
 of (.type "builtin_function_or_method") [.builtin "type.__prepare__",.type "type"],
 ⟨(.type "dict"),none,(.dict ⟨[de P "__module__" 404 aL,ds P "__qualname__" 406 "Type" 405,di P "__firstlineno__" 408 82 407,di P "NULL" 410 0 409,di P "INT" 412 1 411,di P "UINT" 414 2 413,di P "FLOAT" 416 3 415,di P "KEY" 418 4 417,di P "STRING" 420 5 419,di P "INDIRECT_INT" 422 6 421,di P "INDIRECT_UINT" 424 7 423,di P "INDIRECT_FLOAT" 426 8 425,di P "MAP" 428 9 427,di P "VECTOR" 430 10 429,di P "VECTOR_INT" 432 11 431,di P "VECTOR_UINT" 434 12 433,di P "VECTOR_FLOAT" 436 13 435,di P "VECTOR_KEY" 438 14 437,di P "VECTOR_STRING_DEPRECATED" 440 15 439,di P "VECTOR_INT2" 442 16 441,di P "VECTOR_UINT2" 444 17 443,di P "VECTOR_FLOAT2" 446 18 445,di P "VECTOR_INT3" 448 19 447,di P "VECTOR_UINT3" 450 20 449,di P "VECTOR_FLOAT3" 452 21 451,di P "VECTOR_INT4" 454 22 453,di P "VECTOR_UINT4" 456 23 455,di P "VECTOR_FLOAT4" 458 24 457,di P "BLOB" 460 25 459,di P "BOOL" 462 26 461,di P "VECTOR_BOOL" 464 36 463,dr P "Of" 483 143,dr P "Pack" 503 153,dr P "Unpack" 522 163,dr P "IsInline" 541 173,dr P "IsTypedVector" 560 183,dr P "IsTypedVectorElementType" 579 193,dr P "ToTypedVectorElementType" 598 203,dr P "IsFixedTypedVector" 617 213,dr P "IsFixedTypedVectorElementType" 636 223,dr P "ToFixedTypedVectorElementType" 656 233,dr P "ToTypedVector" 678 244,dr P "__static_attributes__" 679 246]⟩ 43),#[]⟩,
 ot [],
 of vn [vi 113 0,vi 4 0,vr 140,vi 119 0,vi 4 0,vr 150,vi 123 0,vi 4 0,vr 160,vi 127 0,vi 4 0,vr 170,vi 131 0,vi 4 0,vr 180,vi 135 0,vi 4 0,vr 190,vi 139 0,vi 4 0,vr 200,vi 145 0,vi 4 0,vr 210,vi 149 0,vi 4 0,vr 220,vi 153 0,vi 4 0,vr 230,vi 160 0,vi 4 0,vr 241],
 of (.type "code") [vs "Type" 399,vs "Type" 400,vs "/claim/cut.py" 401,vi 82 0,vi 0 0,vi 0 0,vi 0 0,vi 0 0,vr 131,.bool false,vi 181 0,vr 132,vn,vn,vn,vn,vi 402 0,vi 82 0,vs "/claim/cut.py" 403],
 ⟨(.type "frame"),none,.plain,⟨[aa (vr 133),aa (vr 3),aa (vr 130),none,aa aL,none,aa (vr 0)]⟩⟩]++
 dX (ak 13 28) "Type.Of" 135 465 true ["number"] 468 [] 0 [] 0 112 1 3 469 [] vn vn vn aL (aa 144) vn++
 [⟨(.type "dict"),none,(.dict ⟨[de P "__module__" 472 aL,ds P "__name__" 475 "Of" 474,ds P "__qualname__" 478 "Type.Of" 477,de P "__doc__" 480 vn,dr P "__annotations__" 482 144]⟩ 5),#[]⟩,
 ⟨(.type "staticmethod"),(aa 142),(.fields ⟨[vr 141,.bool false]⟩),⟨[]⟩⟩,
 ⟨(.type "dict"),none,(.dict ⟨[]⟩ 0),#[]⟩]++
 dX (ak 13 29) "Type.Pack" 145 484 true ["type_","bit_width"] 487 [] 0 [] 0 118 2 3 489 [] vn vn vn aL (aa 154) vn++
 [⟨(.type "dict"),none,(.dict ⟨[de P "__module__" 492 aL,ds P "__name__" 495 "Pack" 494,ds P "__qualname__" 498 "Type.Pack" 497,de P "__doc__" 500 vn,dr P "__annotations__" 502 154]⟩ 5),#[]⟩,
 ⟨(.type "staticmethod"),(aa 152),(.fields ⟨[vr 151,.bool false]⟩),⟨[]⟩⟩,
 ⟨(.type "dict"),none,(.dict ⟨[]⟩ 0),#[]⟩]++
 dX (ak 13 30) "Type.Unpack" 155 504 true ["packed_type"] 507 [] 0 [] 0 122 1 3 508 [] vn vn vn aL (aa 164) vn++
 [⟨(.type "dict"),none,(.dict ⟨[de P "__module__" 511 aL,ds P "__name__" 514 "Unpack" 513,ds P "__qualname__" 517 "Type.Unpack" 516,de P "__doc__" 519 vn,dr P "__annotations__" 521 164]⟩ 5),#[]⟩,
 ⟨(.type "staticmethod"),(aa 162),(.fields ⟨[vr 161,.bool false]⟩),⟨[]⟩⟩,
 ⟨(.type "dict"),none,(.dict ⟨[]⟩ 0),#[]⟩]++
 dX (ak 13 31) "Type.IsInline" 165 523 true ["type_"] 526 [] 0 [] 0 126 1 3 527 [] vn vn vn aL (aa 174) vn++
 [⟨(.type "dict"),none,(.dict ⟨[de P "__module__" 530 aL,ds P "__name__" 533 "IsInline" 532,ds P "__qualname__" 536 "Type.IsInline" 535,de P "__doc__" 538 vn,dr P "__annotations__" 540 174]⟩ 5),#[]⟩,
 ⟨(.type "staticmethod"),(aa 172),(.fields ⟨[vr 171,.bool false]⟩),⟨[]⟩⟩,
 ⟨(.type "dict"),none,(.dict ⟨[]⟩ 0),#[]⟩]++
 dX (ak 13 32) "Type.IsTypedVector" 175 542 true ["type_"] 545 [] 0 [] 0 130 1 3 546 [] vn vn vn aL (aa 184) vn++
 [⟨(.type "dict"),none,(.dict ⟨[de P "__module__" 549 aL,ds P "__name__" 552 "IsTypedVector" 551,ds P "__qualname__" 555 "Type.IsTypedVector" 554,de P "__doc__" 557 vn,dr P "__annotations__" 559 184]⟩ 5),#[]⟩,
 ⟨(.type "staticmethod"),(aa 182),(.fields ⟨[vr 181,.bool false]⟩),⟨[]⟩⟩,
 ⟨(.type "dict"),none,(.dict ⟨[]⟩ 0),#[]⟩]++
 dX (ak 13 33) "Type.IsTypedVectorElementType" 185 561 true ["type_"] 564 [] 0 [] 0 134 1 3 565 [] vn vn vn aL (aa 194) vn++
 [⟨(.type "dict"),none,(.dict ⟨[de P "__module__" 568 aL,ds P "__name__" 571 "IsTypedVectorElementType" 570,ds P "__qualname__" 574 "Type.IsTypedVectorElementType" 573,de P "__doc__" 576 vn,dr P "__annotations__" 578 194]⟩ 5),#[]⟩,
 ⟨(.type "staticmethod"),(aa 192),(.fields ⟨[vr 191,.bool false]⟩),⟨[]⟩⟩,
 ⟨(.type "dict"),none,(.dict ⟨[]⟩ 0),#[]⟩]++
 dX (ak 13 34) "Type.ToTypedVectorElementType" 195 580 true ["type_"] 583 [] 0 [] 0 138 1 3 584 [] vn vn vn aL (aa 204) vn++
 [⟨(.type "dict"),none,(.dict ⟨[de P "__module__" 587 aL,ds P "__name__" 590 "ToTypedVectorElementType" 589,ds P "__qualname__" 593 "Type.ToTypedVectorElementType" 592,de P "__doc__" 595 vn,dr P "__annotations__" 597 204]⟩ 5),#[]⟩,
 ⟨(.type "staticmethod"),(aa 202),(.fields ⟨[vr 201,.bool false]⟩),⟨[]⟩⟩,
 ⟨(.type "dict"),none,(.dict ⟨[]⟩ 0),#[]⟩]++
 dX (ak 13 35) "Type.IsFixedTypedVector" 205 599 true ["type_"] 602 [] 0 [] 0 144 1 3 603 [] vn vn vn aL (aa 214) vn++
 [⟨(.type "dict"),none,(.dict ⟨[de P "__module__" 606 aL,ds P "__name__" 609 "IsFixedTypedVector" 608,ds P "__qualname__" 612 "Type.IsFixedTypedVector" 611,de P "__doc__" 614 vn,dr P "__annotations__" 616 214]⟩ 5),#[]⟩,
 ⟨(.type "staticmethod"),(aa 212),(.fields ⟨[vr 211,.bool false]⟩),⟨[]⟩⟩,
 ⟨(.type "dict"),none,(.dict ⟨[]⟩ 0),#[]⟩]++
 dX (ak 13 36) "Type.IsFixedTypedVectorElementType" 215 618 true ["type_"] 621 [] 0 [] 0 148 1 3 622 [] vn vn vn aL (aa 224) vn++
 [⟨(.type "dict"),none,(.dict ⟨[de P "__module__" 625 aL,ds P "__name__" 628 "IsFixedTypedVectorElementType" 627,ds P "__qualname__" 631 "Type.IsFixedTypedVectorElementType" 630,de P "__doc__" 633 vn,dr P "__annotations__" 635 224]⟩ 5),#[]⟩,
 ⟨(.type "staticmethod"),(aa 222),(.fields ⟨[vr 221,.bool false]⟩),⟨[]⟩⟩,
 ⟨(.type "dict"),none,(.dict ⟨[]⟩ 0),#[]⟩]++
 dX (ak 13 37) "Type.ToFixedTypedVectorElementType" 225 637 true ["type_","fixed_type"] 640 [] 0 [] 0 152 1 3 642 [] vn vn vn aL (aa 234) vn++
 [⟨(.type "dict"),none,(.dict ⟨[de P "__module__" 645 aL,ds P "__name__" 648 "ToFixedTypedVectorElementType" 647,ds P "__qualname__" 651 "Type.ToFixedTypedVectorElementType" 650,de P "__doc__" 653 vn,dr P "__annotations__" 655 234]⟩ 5),#[]⟩,
 ⟨(.type "staticmethod"),(aa 232),(.fields ⟨[vr 231,.bool false]⟩),⟨[]⟩⟩,
 ⟨(.type "dict"),none,(.dict ⟨[]⟩ 0),#[]⟩,
 ot [vi 0 657]]++
 dX (ak 13 38) "Type.ToTypedVector" 236 658 true ["element_type","fixed_len","offset"] 661 [] 0 [] 0 159 2 3 664 [] (vr 235) vn vn aL (aa 245) vn++
 [⟨(.type "dict"),none,(.dict ⟨[de P "__module__" 667 aL,ds P "__name__" 670 "ToTypedVector" 669,ds P "__qualname__" 673 "Type.ToTypedVector" 672,de P "__doc__" 675 vn,dr P "__annotations__" 677 245]⟩ 5),#[]⟩,
 ⟨(.type "staticmethod"),(aa 243),(.fields ⟨[vr 242,.bool false]⟩),⟨[]⟩⟩,
 ⟨(.type "dict"),none,(.dict ⟨[]⟩ 0),#[]⟩,
 ot []]
def NF(P:bq):List Obj:=
 [⟨(.type "dict"),none,(.dict ⟨[de P "__module__" 404 aL,di P "__firstlineno__" 408 82 407,di P "NULL" 410 0 409,di P "INT" 412 1 411,di P "UINT" 414 2 413,di P "FLOAT" 416 3 415,di P "KEY" 418 4 417,di P "STRING" 420 5 419,di P "INDIRECT_INT" 422 6 421,di P "INDIRECT_UINT" 424 7 423,di P "INDIRECT_FLOAT" 426 8 425,di P "MAP" 428 9 427,di P "VECTOR" 430 10 429,di P "VECTOR_INT" 432 11 431,di P "VECTOR_UINT" 434 12 433,di P "VECTOR_FLOAT" 436 13 435,di P "VECTOR_KEY" 438 14 437,di P "VECTOR_STRING_DEPRECATED" 440 15 439,di P "VECTOR_INT2" 442 16 441,di P "VECTOR_UINT2" 444 17 443,di P "VECTOR_FLOAT2" 446 18 445,di P "VECTOR_INT3" 448 19 447,di P "VECTOR_UINT3" 450 20 449,di P "VECTOR_FLOAT3" 452 21 451,di P "VECTOR_INT4" 454 22 453,di P "VECTOR_UINT4" 456 23 455,di P "VECTOR_FLOAT4" 458 24 457,di P "BLOB" 460 25 459,di P "BOOL" 462 26 461,di P "VECTOR_BOOL" 464 36 463,dr P "Of" 483 143,dr P "Pack" 503 153,dr P "Unpack" 522 163,dr P "IsInline" 541 173,dr P "IsTypedVector" 560 183,dr P "IsTypedVectorElementType" 579 193,dr P "ToTypedVectorElementType" 598 203,dr P "IsFixedTypedVector" 617 213,dr P "IsFixedTypedVectorElementType" 636 223,dr P "ToFixedTypedVectorElementType" 656 233,dr P "ToTypedVector" 678 244,dr P "__static_attributes__" 679 246,dr P "__dict__" 681 249,dr P "__weakref__" 683 250,de P "__doc__" 684 vn]⟩ 4),#[]⟩,
 ⟨(.type "type"),none,(.cls (cd "Type" [.type "object"] [vr 248,.type "object"] 247 "Type" true [] [] false (none) false)),⟨[none,none,aa (vs "Type" 397),aa (vs "Type" 405),aa (.builtin "object.__new__"),aa (.bool true)]⟩⟩,
 of (.type "getset_descriptor") [vs "__dict__" 680,vr 248,.builtin "function.__dict__",.builtin "function.__dict__#set"],
 of (.type "getset_descriptor") [vs "__weakref__" 682,vr 248,.builtin "ExceptionGroup.__weakref__",vn],
 of (.type "super") [vr 248,vr 248,vr 248],
 of (.type "builtin_function_or_method") [.builtin "object.__init_subclass__",vr 248]]
def U2(P:bq):List (Nat×Obj):=[
 (3,⟨(.type "dict"),none,(.dict ⟨[de P "__name__" 165 aL,de P "__doc__" 166 vn,de P "__package__" 167 vn,de P "__loader__" 168 (.builtin "__main__.__loader__#opaque"),de P "__spec__" 169 vn,dr P "__annotations__" 170 6,dr P "__builtins__" 171 4,ds P "__file__" 173 "/claim/cut.py" 172,de P "__cached__" 174 vn,dr P "_wall" 193 21,dr P "StructError" 215 31,dr P "BitWidth" 300 74,dr P "I" 313 79,dr P "U" 326 80,dr P "_Unpack" 336 87,dr P "_UnpackVector" 342 92,dr P "_Pack" 353 99,dr P "_Mutate" 364 106,dr P "_PaddingBytes" 372 113,dr P "_LowerBound" 386 120,dr P "_BinarySearch" 396 127,dr P "Type" 686 248]⟩ 22),#[]⟩),
 (12,of vn [vi 1 0,vi 0 0,vr 20,vi 5 0,vi 0 0,vr 27,vi 7 0,vi 0 0,vr 40,vi 37 0,vi 0 0,vr 86,vi 43 0,vi 0 0,vr 91,vi 50 0,vi 0 0,vr 98,vi 56 0,vi 0 0,vr 105,vi 61 0,vi 0 0,vr 112,vi 63 0,vi 0 0,vr 119,vi 77 0,vi 0 0,vr 126,vi 82 0,vi 0 0,vr 133])]
def T3(P:bq):BT:=grow (i7 (T2 P) (U2 P)) 81 (NE P++NF P)
def NG(P:bq):List Obj:=
 [ot [],
 of (.type "builtin_function_or_method") [.builtin "type.__prepare__",.type "type"],
 ⟨(.type "dict"),none,(.dict ⟨[de P "__module__" 695 aL,ds P "__qualname__" 697 "Buf" 696,di P "__firstlineno__" 699 178 698,dr P "__init__" 708 266,dr P "__getitem__" 716 273,dr P "__repr__" 723 280,dr P "Part" 732 287,dr P "Put" 742 294,dr P "Find" 751 301,dr P "Slice" 759 308,dr P "Indirect" 768 315,dr P "__static_attributes__" 772 316]⟩ 12),#[]⟩,
 ot [],
 of vn [vi 180 0,vi 4 0,vr 265,vi 185 0,vi 4 0,vr 272,vi 191 0,vi 4 0,vr 279,vi 194 0,vi 4 0,vr 286,vi 197 0,vi 4 0,vr 293,vi 200 0,vi 4 0,vr 300,vi 206 0,vi 4 0,vr 307,vi 209 0,vi 4 0,vr 314],
 of (.type "code") [vs "Buf" 690,vs "Buf" 691,vs "/claim/cut.py" 692,vi 178 0,vi 0 0,vi 0 0,vi 0 0,vi 0 0,vr 256,.bool false,vi 181 0,vr 257,vn,vn,vn,vn,vi 693 0,vi 178 0,vs "/claim/cut.py" 694],
 ⟨(.type "frame"),none,.plain,⟨[aa (vr 258),aa (vr 3),aa (vr 255),none,aa aL,none,aa (vr 0)]⟩⟩]++
 dG (ak 15 0) "Buf.__init__" 260 700 ["self","buf","offset"] 703 180 3 3 706++
 dG (ak 15 1) "Buf.__getitem__" 267 709 ["self","key"] 712 185 2 3 714++
 dG (ak 15 2) "Buf.__repr__" 274 717 ["self"] 720 191 1 3 721++
 dG (ak 15 3) "Buf.Part" 281 724 ["self","start","stop"] 727 194 3 3 730++
 dG (ak 15 4) "Buf.Put" 288 733 ["self","start","stop","value"] 736 197 4 3 740++
 dG (ak 15 5) "Buf.Find" 295 743 ["self","sub","k"] 746 200 2 3 749++
 dG (ak 15 6) "Buf.Slice" 302 752 ["self","offset"] 755 206 2 3 757++
 dG (ak 15 7) "Buf.Indirect" 309 760 ["self","offset","byte_width"] 763 209 3 3 766++
 [ot [vs "_buf" 769,vs "_length" 770,vs "_offset" 771],
 ⟨(.type "dict"),none,(.dict ⟨[de P "__module__" 695 aL,di P "__firstlineno__" 699 178 698,dr P "__init__" 708 266,dr P "__getitem__" 716 273,dr P "__repr__" 723 280,dr P "Part" 732 287,dr P "Put" 742 294,dr P "Find" 751 301,dr P "Slice" 759 308,dr P "Indirect" 768 315,dr P "__static_attributes__" 772 316,dr P "__dict__" 774 319,dr P "__weakref__" 776 320,de P "__doc__" 777 vn]⟩ 4),#[]⟩,
 ⟨(.type "type"),none,(.cls (cd "Buf" [.type "object"] [vr 318,.type "object"] 317 "Buf" true [] [] false (none) false)),⟨[none,none,aa (vs "Buf" 688),aa (vs "Buf" 696),aa (.builtin "object.__new__"),aa (.bool true)]⟩⟩,
 of (.type "getset_descriptor") [vs "__dict__" 773,vr 318,.builtin "function.__dict__",.builtin "function.__dict__#set"],
 of (.type "getset_descriptor") [vs "__weakref__" 775,vr 318,.builtin "ExceptionGroup.__weakref__",vn],
 of (.type "super") [vr 318,vr 318,vr 318],
 of (.type "builtin_function_or_method") [.builtin "object.__init_subclass__",vr 318],
 ot [],
 of (.type "builtin_function_or_method") [.builtin "type.__prepare__",.type "type"],
 ⟨(.type "dict"),none,(.dict ⟨[de P "__module__" 787 aL,ds P "__qualname__" 789 "Object" 788,di P "__firstlineno__" 791 211 790,dr P "__init__" 800 336,dr P "ByteWidth" 808 344,dr P "__static_attributes__" 811 345]⟩ 6),#[]⟩,
 ot [],
 of vn [vi 213 0,vi 4 0,vr 335,vi 218 0,vi 4 0,vr 342],
 of (.type "code") [vs "Object" 782,vs "Object" 783,vs "/claim/cut.py" 784,vi 211 0,vi 0 0,vi 0 0,vi 0 0,vi 0 0,vr 326,.bool false,vi 181 0,vr 327,vn,vn,vn,vn,vi 785 0,vi 211 0,vs "/claim/cut.py" 786],
 ⟨(.type "frame"),none,.plain,⟨[aa (vr 328),aa (vr 3),aa (vr 325),none,aa aL,none,aa (vr 0)]⟩⟩]++
 dG (ak 16 0) "Object.__init__" 330 792 ["self","buf","byte_width"] 795 213 3 3 798++
 dG (ak 16 1) "Object.ByteWidth" 337 801 ["self"] 804 217 1 3 805++
 [of (.type "property") [vr 343,vn,vn,vn,vs "ByteWidth" 808,.bool false],
 ot [vs "_buf" 809,vs "_byte_width" 810],
 ⟨(.type "dict"),none,(.dict ⟨[de P "__module__" 787 aL,di P "__firstlineno__" 791 211 790,dr P "__init__" 800 336,dr P "ByteWidth" 808 344,dr P "__static_attributes__" 811 345,dr P "__dict__" 813 348,dr P "__weakref__" 815 349,de P "__doc__" 816 vn]⟩ 4),#[]⟩,
 ⟨(.type "type"),none,(.cls (cd "Object" [.type "object"] [vr 347,.type "object"] 346 "Object" true [] [vr 386] false (none) false)),⟨[none,none,aa (vs "Object" 780),aa (vs "Object" 788),aa (.builtin "object.__new__"),aa (.bool true)]⟩⟩,
 of (.type "getset_descriptor") [vs "__dict__" 812,vr 347,.builtin "function.__dict__",.builtin "function.__dict__#set"],
 of (.type "getset_descriptor") [vs "__weakref__" 814,vr 347,.builtin "ExceptionGroup.__weakref__",vn],
 of (.type "super") [vr 347,vr 347,vr 347],
 of (.type "builtin_function_or_method") [.builtin "object.__init_subclass__",vr 347],
 ot [vr 347],
 of (.type "builtin_function_or_method") [.builtin "type.__prepare__",.type "type"],
 ⟨(.type "dict"),none,(.dict ⟨[de P "__module__" 826 aL,ds P "__qualname__" 828 "Sized" 827,di P "__firstlineno__" 830 220 829,dr P "__init__" 842 368,dr P "SizeBytes" 850 376,dr P "__len__" 857 383,dr P "__static_attributes__" 859 384,dr P "__classcell__" 860 355]⟩ 8),#[]⟩,
 ⟨(.type "cell"),none,(.cell (aa (vr 386))),#[]⟩,
 ot [],
 of vn [vi 222 0,vi 4 0,vr 367,vi 230 0,vi 4 0,vr 374,vi 233 0,vi 4 0,vr 382],
 of (.type "code") [vs "Sized" 821,vs "Sized" 822,vs "/claim/cut.py" 823,vi 220 0,vi 0 0,vi 0 0,vi 0 0,vi 0 0,vr 356,.bool false,vi 181 0,vr 357,vn,vn,vn,vn,vi 824 0,vi 220 0,vs "/claim/cut.py" 825],
 ⟨(.type "frame"),none,.plain,⟨[aa (vr 358),aa (vr 3),aa (vr 354),none,aa aL,none,aa (vr 0)]⟩⟩,
 ot [vi 0 831],
 ot [vr 355]]++
 dX (ak 17 0) "Sized.__init__" 362 832 true ["self","buf","byte_width","size"] 836 [] 0 ["__class__"] 835 222 4 3 840 [(dU "__class__",355)] (vr 360) vn vn aL none (vr 361)++
 dG (ak 17 1) "Sized.SizeBytes" 369 843 ["self"] 846 229 1 3 847++
 [of (.type "property") [vr 375,vn,vn,vn,vs "SizeBytes" 850,.bool false]]++
 dG (ak 17 2) "Sized.__len__" 377 851 ["self"] 854 233 1 3 855++
 [ot [vs "_size" 858],
 ⟨(.type "dict"),none,(.dict ⟨[de P "__module__" 826 aL,di P "__firstlineno__" 830 220 829,dr P "__init__" 842 368,dr P "SizeBytes" 850 376,dr P "__len__" 857 383,dr P "__static_attributes__" 859 384,de P "__doc__" 861 vn]⟩ 3),#[]⟩,
 ⟨(.type "type"),none,(.cls (cd "Sized" [vr 347] [vr 386,vr 347,.type "object"] 385 "Sized" true [] [vr 413,vr 454] false (none) false)),⟨[aa (vr 352),none,aa (vs "Sized" 819),aa (vs "Sized" 827),aa (.builtin "object.__new__"),aa (.bool true)]⟩⟩,
 of (.type "super") [vr 386,vr 386,vr 386],
 of (.type "builtin_function_or_method") [.builtin "object.__init_subclass__",vr 386],
 ot [vr 386],
 of (.type "builtin_function_or_method") [.builtin "type.__prepare__",.type "type"]]
def NH(P:bq):List Obj:=
 [⟨(.type "dict"),none,(.dict ⟨[de P "__module__" 871 aL,ds P "__qualname__" 873 "Blob" 872,di P "__firstlineno__" 875 235 874,dr P "Bytes" 883 403,dr P "__repr__" 890 410,dr P "__static_attributes__" 891 411]⟩ 6),#[]⟩,
 ot [],
 of vn [vi 238 0,vi 4 0,vr 401,vi 241 0,vi 4 0,vr 409],
 of (.type "code") [vs "Blob" 866,vs "Blob" 867,vs "/claim/cut.py" 868,vi 235 0,vi 0 0,vi 0 0,vi 0 0,vi 0 0,vr 392,.bool false,vi 181 0,vr 393,vn,vn,vn,vn,vi 869 0,vi 235 0,vs "/claim/cut.py" 870],
 ⟨(.type "frame"),none,.plain,⟨[aa (vr 394),aa (vr 3),aa (vr 391),none,aa aL,none,aa (vr 0)]⟩⟩]++
 dG (ak 18 0) "Blob.Bytes" 396 876 ["self"] 879 237 1 3 880++
 [of (.type "property") [vr 402,vn,vn,vn,vs "Bytes" 883,.bool false]]++
 dG (ak 18 1) "Blob.__repr__" 404 884 ["self"] 887 241 1 3 888++
 [ot [],
 ⟨(.type "dict"),none,(.dict ⟨[de P "__module__" 871 aL,di P "__firstlineno__" 875 235 874,dr P "Bytes" 883 403,dr P "__repr__" 890 410,dr P "__static_attributes__" 891 411,de P "__doc__" 892 vn]⟩ 2),#[]⟩,
 ⟨(.type "type"),none,(.cls (cd "Blob" [vr 386] [vr 413,vr 386,vr 347,.type "object"] 412 "Blob" true [] [] false (none) false)),⟨[aa (vr 389),none,aa (vs "Blob" 864),aa (vs "Blob" 872),aa (.builtin "object.__new__"),aa (.bool true)]⟩⟩,
 of (.type "super") [vr 413,vr 413,vr 413],
 of (.type "builtin_function_or_method") [.builtin "object.__init_subclass__",vr 413],
 ot [vr 386],
 of (.type "builtin_function_or_method") [.builtin "type.__prepare__",.type "type"],
 ⟨(.type "dict"),none,(.dict ⟨[de P "__module__" 902 aL,ds P "__qualname__" 904 "String" 903,di P "__firstlineno__" 906 243 905,dr P "Bytes" 914 430,dr P "Mutate" 924 437,dr P "__str__" 931 444,dr P "__repr__" 938 451,dr P "__static_attributes__" 939 452]⟩ 8),#[]⟩,
 ot [],
 of vn [vi 246 0,vi 4 0,vr 428,vi 249 0,vi 4 0,vr 436,vi 259 0,vi 4 0,vr 443,vi 262 0,vi 4 0,vr 450],
 of (.type "code") [vs "String" 897,vs "String" 898,vs "/claim/cut.py" 899,vi 243 0,vi 0 0,vi 0 0,vi 0 0,vi 0 0,vr 419,.bool false,vi 181 0,vr 420,vn,vn,vn,vn,vi 900 0,vi 243 0,vs "/claim/cut.py" 901],
 ⟨(.type "frame"),none,.plain,⟨[aa (vr 421),aa (vr 3),aa (vr 418),none,aa aL,none,aa (vr 0)]⟩⟩]++
 dG (ak 19 0) "String.Bytes" 423 907 ["self"] 910 245 1 3 911++
 [of (.type "property") [vr 429,vn,vn,vn,vs "Bytes" 914,.bool false]]++
 dG (ak 19 1) "String.Mutate" 431 915 ["self","value","encoded","n"] 918 249 2 3 922++
 dG (ak 19 2) "String.__str__" 438 925 ["self"] 928 259 1 3 929++
 dG (ak 19 3) "String.__repr__" 445 932 ["self"] 935 262 1 3 936++
 [ot [],
 ⟨(.type "dict"),none,(.dict ⟨[de P "__module__" 902 aL,di P "__firstlineno__" 906 243 905,dr P "Bytes" 914 430,dr P "Mutate" 924 437,dr P "__str__" 931 444,dr P "__repr__" 938 451,dr P "__static_attributes__" 939 452,de P "__doc__" 940 vn]⟩ 2),#[]⟩,
 ⟨(.type "type"),none,(.cls (cd "String" [vr 386] [vr 454,vr 386,vr 347,.type "object"] 453 "String" true [] [] false (none) false)),⟨[aa (vr 416),none,aa (vs "String" 895),aa (vs "String" 903),aa (.builtin "object.__new__"),aa (.bool true)]⟩⟩,
 of (.type "super") [vr 454,vr 454,vr 454],
 of (.type "builtin_function_or_method") [.builtin "object.__init_subclass__",vr 454]]
def U3(P:bq):List (Nat×Obj):=[
 (3,⟨(.type "dict"),none,(.dict ⟨[de P "__name__" 165 aL,de P "__doc__" 166 vn,de P "__package__" 167 vn,de P "__loader__" 168 (.builtin "__main__.__loader__#opaque"),de P "__spec__" 169 vn,dr P "__annotations__" 170 6,dr P "__builtins__" 171 4,ds P "__file__" 173 "/claim/cut.py" 172,de P "__cached__" 174 vn,dr P "_wall" 193 21,dr P "StructError" 215 31,dr P "BitWidth" 300 74,dr P "I" 313 79,dr P "U" 326 80,dr P "_Unpack" 336 87,dr P "_UnpackVector" 342 92,dr P "_Pack" 353 99,dr P "_Mutate" 364 106,dr P "_PaddingBytes" 372 113,dr P "_LowerBound" 386 120,dr P "_BinarySearch" 396 127,dr P "Type" 686 248,dr P "Type_flexbuffers" 687 248,dr P "Buf" 779 318,dr P "Object" 818 347,dr P "Sized" 863 386,dr P "Blob" 894 413,dr P "String" 942 454]⟩ 28),#[]⟩),
 (12,of vn [vi 1 0,vi 0 0,vr 20,vi 5 0,vi 0 0,vr 27,vi 7 0,vi 0 0,vr 40,vi 37 0,vi 0 0,vr 86,vi 43 0,vi 0 0,vr 91,vi 50 0,vi 0 0,vr 98,vi 56 0,vi 0 0,vr 105,vi 61 0,vi 0 0,vr 112,vi 63 0,vi 0 0,vr 119,vi 77 0,vi 0 0,vr 126,vi 82 0,vi 0 0,vr 133,vi 178 0,vi 0 0,vr 258,vi 211 0,vi 0 0,vr 328,vi 220 0,vi 0 0,vr 358,vi 235 0,vi 0 0,vr 394,vi 243 0,vi 0 0,vr 421])]
def T4(P:bq):BT:=grow (i7 (T3 P) (U3 P)) 253 (NG P++NH P)
def NI(P:bq):List Obj:=
 [ot [vr 347],
 of (.type "builtin_function_or_method") [.builtin "type.__prepare__",.type "type"],
 ⟨(.type "dict"),none,(.dict ⟨[de P "__module__" 950 aL,ds P "__qualname__" 952 "Key" 951,di P "__firstlineno__" 954 264 953,dr P "__init__" 964 472,dr P "Bytes" 972 480,dr P "__len__" 979 487,dr P "__str__" 986 494,dr P "__repr__" 993 501,dr P "__static_attributes__" 994 502,dr P "__classcell__" 995 460]⟩ 10),#[]⟩,
 ⟨(.type "cell"),none,(.cell (aa (vr 504))),#[]⟩,
 ot [],
 of vn [vi 266 0,vi 4 0,vr 471,vi 271 0,vi 4 0,vr 478,vi 274 0,vi 4 0,vr 486,vi 277 0,vi 4 0,vr 493,vi 280 0,vi 4 0,vr 500],
 of (.type "code") [vs "Key" 945,vs "Key" 946,vs "/claim/cut.py" 947,vi 264 0,vi 0 0,vi 0 0,vi 0 0,vi 0 0,vr 461,.bool false,vi 181 0,vr 462,vn,vn,vn,vn,vi 948 0,vi 264 0,vs "/claim/cut.py" 949],
 ⟨(.type "frame"),none,.plain,⟨[aa (vr 463),aa (vr 3),aa (vr 459),none,aa aL,none,aa (vr 0)]⟩⟩,
 ot [vr 460]]++
 dX (ak 20 0) "Key.__init__" 466 955 true ["self","buf","byte_width"] 959 [] 0 ["__class__"] 958 266 3 3 962 [(dU "__class__",460)] vn vn vn aL none (vr 465)++
 dG (ak 20 1) "Key.Bytes" 473 965 ["self"] 968 270 1 3 969++
 [of (.type "property") [vr 479,vn,vn,vn,vs "Bytes" 972,.bool false]]++
 dG (ak 20 2) "Key.__len__" 481 973 ["self"] 976 274 1 3 977++
 dG (ak 20 3) "Key.__str__" 488 980 ["self"] 983 277 1 3 984++
 dG (ak 20 4) "Key.__repr__" 495 987 ["self"] 990 280 1 3 991++
 [ot [],
 ⟨(.type "dict"),none,(.dict ⟨[de P "__module__" 950 aL,di P "__firstlineno__" 954 264 953,dr P "__init__" 964 472,dr P "Bytes" 972 480,dr P "__len__" 979 487,dr P "__str__" 986 494,dr P "__repr__" 993 501,dr P "__static_attributes__" 994 502,de P "__doc__" 996 vn]⟩ 3),#[]⟩,
 ⟨(.type "type"),none,(.cls (cd "Key" [vr 347] [vr 504,vr 347,.type "object"] 503 "Key" true [] [] false (none) false)),⟨[aa (vr 457),none,aa (vs "Key" 943),aa (vs "Key" 951),aa (.builtin "object.__new__"),aa (.bool true)]⟩⟩,
 of (.type "super") [vr 504,vr 504,vr 504],
 of (.type "builtin_function_or_method") [.builtin "object.__init_subclass__",vr 504],
 ot [vr 386],
 of (.type "builtin_function_or_method") [.builtin "type.__prepare__",.type "type"],
 ⟨(.type "dict"),none,(.dict ⟨[de P "__module__" 1006 aL,ds P "__qualname__" 1008 "Vector" 1007,di P "__firstlineno__" 1010 282 1009,dr P "__getitem__" 1020 520,dr P "Value" 1027 526,dr P "__repr__" 1034 533,dr P "__static_attributes__" 1035 534]⟩ 7),#[]⟩,
 ot [],
 of vn [vi 284 0,vi 4 0,vr 519,vi 292 0,vi 4 0,vr 524,vi 295 0,vi 4 0,vr 532],
 of (.type "code") [vs "Vector" 1001,vs "Vector" 1002,vs "/claim/cut.py" 1003,vi 282 0,vi 0 0,vi 0 0,vi 0 0,vi 0 0,vr 510,.bool false,vi 181 0,vr 511,vn,vn,vn,vn,vi 1004 0,vi 282 0,vs "/claim/cut.py" 1005],
 ⟨(.type "frame"),none,.plain,⟨[aa (vr 512),aa (vr 3),aa (vr 509),none,aa aL,none,aa (vr 0)]⟩⟩]++
 dG (ak 21 0) "Vector.__getitem__" 514 1011 ["self","index","packed_type","buf"] 1014 284 2 3 1018++
 dX (ak 21 1) "Vector.Value" 521 1021 false [] 0 [] 0 [] 0 291 1 3 1024 [] vn vn vn aL none vn++
 [of (.type "property") [vr 525,vn,vn,vn,vs "Value" 1027,.bool false]]++
 dG (ak 21 2) "Vector.__repr__" 527 1028 ["self"] 1031 295 1 3 1032++
 [ot [],
 ⟨(.type "dict"),none,(.dict ⟨[de P "__module__" 1006 aL,di P "__firstlineno__" 1010 282 1009,dr P "__getitem__" 1020 520,dr P "Value" 1027 526,dr P "__repr__" 1034 533,dr P "__static_attributes__" 1035 534,de P "__doc__" 1036 vn]⟩ 2),#[]⟩,
 ⟨(.type "type"),none,(.cls (cd "Vector" [vr 386] [vr 536,vr 386,vr 347,.type "object"] 535 "Vector" true [] [vr 652] false (none) false)),⟨[aa (vr 507),none,aa (vs "Vector" 999),aa (vs "Vector" 1007),aa (.builtin "object.__new__"),aa (.bool true)]⟩⟩,
 of (.type "super") [vr 536,vr 536,vr 536],
 of (.type "builtin_function_or_method") [.builtin "object.__init_subclass__",vr 536],
 ot [vr 386],
 of (.type "builtin_function_or_method") [.builtin "type.__prepare__",.type "type"],
 ⟨(.type "dict"),none,(.dict ⟨[de P "__module__" 1046 aL,ds P "__qualname__" 1048 "TypedVector" 1047,di P "__firstlineno__" 1050 297 1049,dr P "__init__" 1063 555,dr P "Bytes" 1071 563,dr P "ElementType" 1079 571,dr P "__getitem__" 1088 578,dr P "Value" 1095 584,dr P "__repr__" 1102 591,dr P "__static_attributes__" 1104 592,dr P "__classcell__" 1105 542]⟩ 11),#[]⟩,
 ⟨(.type "cell"),none,(.cell (aa (vr 594))),#[]⟩,
 ot [],
 of vn [vi 299 0,vi 4 0,vr 554,vi 306 0,vi 4 0,vr 561,vi 310 0,vi 4 0,vr 569,vi 313 0,vi 4 0,vr 577,vi 320 0,vi 4 0,vr 582,vi 336 0,vi 4 0,vr 590],
 of (.type "code") [vs "TypedVector" 1041,vs "TypedVector" 1042,vs "/claim/cut.py" 1043,vi 297 0,vi 0 0,vi 0 0,vi 0 0,vi 0 0,vr 543,.bool false,vi 181 0,vr 544,vn,vn,vn,vn,vi 1044 0,vi 297 0,vs "/claim/cut.py" 1045],
 ⟨(.type "frame"),none,.plain,⟨[aa (vr 545),aa (vr 3),aa (vr 541),none,aa aL,none,aa (vr 0)]⟩⟩,
 ot [vi 0 1051],
 ot [vr 542]]++
 dX (ak 22 0) "TypedVector.__init__" 549 1052 true ["self","buf","byte_width","element_type","size"] 1056 [] 0 ["__class__"] 1055 299 5 3 1061 [(dU "__class__",542)] (vr 547) vn vn aL none (vr 548)++
 dG (ak 22 1) "TypedVector.Bytes" 556 1064 ["self"] 1067 305 1 3 1068++
 [of (.type "property") [vr 562,vn,vn,vn,vs "Bytes" 1071,.bool false]]++
 dG (ak 22 2) "TypedVector.ElementType" 564 1072 ["self"] 1075 309 1 3 1076++
 [of (.type "property") [vr 570,vn,vn,vn,vs "ElementType" 1079,.bool false]]++
 dG (ak 22 3) "TypedVector.__getitem__" 572 1080 ["self","index","buf"] 1083 313 2 3 1086++
 dX (ak 22 4) "TypedVector.Value" 579 1089 false [] 0 [] 0 [] 0 319 1 3 1092 [] vn vn vn aL none vn++
 [of (.type "property") [vr 583,vn,vn,vn,vs "Value" 1095,.bool false]]++
 dG (ak 22 5) "TypedVector.__repr__" 585 1096 ["self"] 1099 336 1 3 1100++
 [ot [vs "_element_type" 1103],
 ⟨(.type "dict"),none,(.dict ⟨[de P "__module__" 1046 aL,di P "__firstlineno__" 1050 297 1049,dr P "__init__" 1063 555,dr P "Bytes" 1071 563,dr P "ElementType" 1079 571,dr P "__getitem__" 1088 578,dr P "Value" 1095 584,dr P "__repr__" 1102 591,dr P "__static_attributes__" 1104 592,de P "__doc__" 1106 vn]⟩ 3),#[]⟩,
 ⟨(.type "type"),none,(.cls (cd "TypedVector" [vr 386] [vr 594,vr 386,vr 347,.type "object"] 593 "TypedVector" true [] [] false (none) false)),⟨[aa (vr 539),none,aa (vs "TypedVector" 1039),aa (vs "TypedVector" 1047),aa (.builtin "object.__new__"),aa (.bool true)]⟩⟩,
 of (.type "super") [vr 594,vr 594,vr 594],
 of (.type "builtin_function_or_method") [.builtin "object.__init_subclass__",vr 594]]
def NJ(P:bq):List Obj:=
 [ot [vr 536],
 of (.type "builtin_function_or_method") [.builtin "type.__prepare__",.type "type"],
 ⟨(.type "dict"),none,(.dict ⟨[de P "__module__" 1116 aL,ds P "__qualname__" 1118 "Map" 1117,di P "__firstlineno__" 1120 338 1119,dr P "CompareKeys" 1140 612,dr P "__getitem__" 1149 620,dr P "Keys" 1159 628,dr P "Values" 1167 636,dr P "Value" 1174 642,dr P "__repr__" 1181 649,dr P "__static_attributes__" 1182 650]⟩ 10),#[]⟩,
 ot [],
 of vn [vi 341 0,vi 4 0,vr 609,vi 348 0,vi 4 0,vr 619,vi 357 0,vi 4 0,vr 626,vi 363 0,vi 4 0,vr 634,vi 367 0,vi 4 0,vr 640,vi 372 0,vi 4 0,vr 648],
 of (.type "code") [vs "Map" 1111,vs "Map" 1112,vs "/claim/cut.py" 1113,vi 338 0,vi 0 0,vi 0 0,vi 0 0,vi 0 0,vr 600,.bool false,vi 181 0,vr 601,vn,vn,vn,vn,vi 1114 0,vi 338 0,vs "/claim/cut.py" 1115],
 ⟨(.type "frame"),none,.plain,⟨[aa (vr 602),aa (vr 3),aa (vr 599),none,aa aL,none,aa (vr 0)]⟩⟩]++
 dX (ak 23 0) "Map.CompareKeys" 604 1121 true ["a","b"] 1124 [] 0 [] 0 340 2 3 1126 [] vn vn vn aL (aa 613) vn++
 [⟨(.type "dict"),none,(.dict ⟨[de P "__module__" 1129 aL,ds P "__name__" 1132 "CompareKeys" 1131,ds P "__qualname__" 1135 "Map.CompareKeys" 1134,de P "__doc__" 1137 vn,dr P "__annotations__" 1139 613]⟩ 5),#[]⟩,
 ⟨(.type "staticmethod"),(aa 611),(.fields ⟨[vr 610,.bool false]⟩),⟨[]⟩⟩,
 ⟨(.type "dict"),none,(.dict ⟨[]⟩ 0),#[]⟩]++
 dG (ak 23 1) "Map.__getitem__" 614 1141 ["self","key","index"] 1144 348 2 3 1147++
 dG (ak 23 2) "Map.Keys" 621 1150 ["self","byte_width","buf"] 1153 356 1 3 1156++
 [of (.type "property") [vr 627,vn,vn,vn,vs "Keys" 1159,.bool false]]++
 dG (ak 23 3) "Map.Values" 629 1160 ["self"] 1163 362 1 3 1164++
 [of (.type "property") [vr 635,vn,vn,vn,vs "Values" 1167,.bool false]]++
 dX (ak 23 4) "Map.Value" 637 1168 false [] 0 [] 0 [] 0 366 1 3 1171 [] vn vn vn aL none vn++
 [of (.type "property") [vr 641,vn,vn,vn,vs "Value" 1174,.bool false]]++
 dG (ak 23 5) "Map.__repr__" 643 1175 ["self"] 1178 372 1 3 1179++
 [ot [],
 ⟨(.type "dict"),none,(.dict ⟨[de P "__module__" 1116 aL,di P "__firstlineno__" 1120 338 1119,dr P "CompareKeys" 1140 612,dr P "__getitem__" 1149 620,dr P "Keys" 1159 628,dr P "Values" 1167 636,dr P "Value" 1174 642,dr P "__repr__" 1181 649,dr P "__static_attributes__" 1182 650,de P "__doc__" 1183 vn]⟩ 2),#[]⟩,
 ⟨(.type "type"),none,(.cls (cd "Map" [vr 536] [vr 652,vr 536,vr 386,vr 347,.type "object"] 651 "Map" true [] [] false (none) false)),⟨[aa (vr 597),none,aa (vs "Map" 1109),aa (vs "Map" 1117),aa (.builtin "object.__new__"),aa (.bool true)]⟩⟩,
 of (.type "super") [vr 652,vr 652,vr 652],
 of (.type "builtin_function_or_method") [.builtin "object.__init_subclass__",vr 652]]
def U4(P:bq):List (Nat×Obj):=[
 (3,⟨(.type "dict"),none,(.dict ⟨[de P "__name__" 165 aL,de P "__doc__" 166 vn,de P "__package__" 167 vn,de P "__loader__" 168 (.builtin "__main__.__loader__#opaque"),de P "__spec__" 169 vn,dr P "__annotations__" 170 6,dr P "__builtins__" 171 4,ds P "__file__" 173 "/claim/cut.py" 172,de P "__cached__" 174 vn,dr P "_wall" 193 21,dr P "StructError" 215 31,dr P "BitWidth" 300 74,dr P "I" 313 79,dr P "U" 326 80,dr P "_Unpack" 336 87,dr P "_UnpackVector" 342 92,dr P "_Pack" 353 99,dr P "_Mutate" 364 106,dr P "_PaddingBytes" 372 113,dr P "_LowerBound" 386 120,dr P "_BinarySearch" 396 127,dr P "Type" 686 248,dr P "Type_flexbuffers" 687 248,dr P "Buf" 779 318,dr P "Object" 818 347,dr P "Sized" 863 386,dr P "Blob" 894 413,dr P "String" 942 454,dr P "Key" 998 504,dr P "Vector" 1038 536,dr P "TypedVector" 1108 594,dr P "Map" 1185 652]⟩ 32),#[]⟩),
 (12,of vn [vi 1 0,vi 0 0,vr 20,vi 5 0,vi 0 0,vr 27,vi 7 0,vi 0 0,vr 40,vi 37 0,vi 0 0,vr 86,vi 43 0,vi 0 0,vr 91,vi 50 0,vi 0 0,vr 98,vi 56 0,vi 0 0,vr 105,vi 61 0,vi 0 0,vr 112,vi 63 0,vi 0 0,vr 119,vi 77 0,vi 0 0,vr 126,vi 82 0,vi 0 0,vr 133,vi 178 0,vi 0 0,vr 258,vi 211 0,vi 0 0,vr 328,vi 220 0,vi 0 0,vr 358,vi 235 0,vi 0 0,vr 394,vi 243 0,vi 0 0,vr 421,vi 264 0,vi 0 0,vr 463,vi 282 0,vi 0 0,vr 512,vi 297 0,vi 0 0,vr 545,vi 338 0,vi 0 0,vr 602]),
 (347,⟨(.type "type"),none,(.cls (cd "Object" [.type "object"] [vr 347,.type "object"] 346 "Object" true [] [vr 386,vr 504] false (none) false)),⟨[none,none,aa (vs "Object" 780),aa (vs "Object" 788),aa (.builtin "object.__new__"),aa (.bool true)]⟩⟩),
 (386,⟨(.type "type"),none,(.cls (cd "Sized" [vr 347] [vr 386,vr 347,.type "object"] 385 "Sized" true [] [vr 413,vr 454,vr 536,vr 594] false (none) false)),⟨[aa (vr 352),none,aa (vs "Sized" 819),aa (vs "Sized" 827),aa (.builtin "object.__new__"),aa (.bool true)]⟩⟩)]
def T5(P:bq):BT:=grow (i7 (T4 P) (U4 P)) 457 (NI P++NJ P)
def NK(P:bq):List Obj:=
 [ot [],
 of (.type "builtin_function_or_method") [.builtin "type.__prepare__",.type "type"],
 ⟨(.type "dict"),none,(.dict ⟨[de P "__module__" 1193 aL,ds P "__qualname__" 1195 "Ref" 1194,di P "__firstlineno__" 1197 374 1196,dr P "PackedType" 1220 670,dr P "__init__" 1231 678,dr P "__repr__" 1238 685,dr P "_Bytes" 1246 693,dr P "_ConvertError" 1254 700,dr P "_Indirect" 1261 707,dr P "IsNull" 1269 715,dr P "IsBool" 1277 723,dr P "AsBool" 1285 731,dr P "MutateBool" 1293 738,dr P "IsNumeric" 1301 746,dr P "IsInt" 1309 754,dr P "AsInt" 1317 762,dr P "MutateInt" 1325 769,dr P "IsFloat" 1333 777,dr P "IsKey" 1341 785,dr P "AsKeyBytes" 1349 793,dr P "AsKey" 1357 801,dr P "IsString" 1365 809,dr P "AsStringBytes" 1373 817,dr P "AsString" 1381 825,dr P "MutateString" 1389 832,dr P "IsBlob" 1397 840,dr P "AsBlob" 1405 848,dr P "IsVector" 1413 856,dr P "AsVector" 1421 864,dr P "IsTypedVector" 1429 872,dr P "AsTypedVector" 1437 880,dr P "IsFixedTypedVector" 1445 888,dr P "AsFixedTypedVector" 1455 896,dr P "IsMap" 1463 904,dr P "AsMap" 1471 912,dr P "Value" 1479 920,dr P "__static_attributes__" 1484 921]⟩ 37),#[]⟩,
 ot [],
 of vn [vi 377 0,vi 4 0,vr 667,vi 381 0,vi 4 0,vr 677,vi 387 0,vi 4 0,vr 684,vi 391 0,vi 4 0,vr 691,vi 394 0,vi 4 0,vr 699,vi 397 0,vi 4 0,vr 706,vi 401 0,vi 4 0,vr 713,vi 405 0,vi 4 0,vr 721,vi 409 0,vi 4 0,vr 729,vi 415 0,vi 4 0,vr 737,vi 419 0,vi 4 0,vr 744,vi 423 0,vi 4 0,vr 752,vi 427 0,vi 4 0,vr 760,vi 455 0,vi 4 0,vr 768,vi 468 0,vi 4 0,vr 775,vi 472 0,vi 4 0,vr 783,vi 476 0,vi 4 0,vr 791,vi 483 0,vi 4 0,vr 799,vi 490 0,vi 4 0,vr 807,vi 494 0,vi 4 0,vr 815,vi 498 0,vi 4 0,vr 823,vi 506 0,vi 4 0,vr 831,vi 510 0,vi 4 0,vr 838,vi 514 0,vi 4 0,vr 846,vi 521 0,vi 4 0,vr 854,vi 525 0,vi 4 0,vr 862,vi 532 0,vi 4 0,vr 870,vi 536 0,vi 4 0,vr 878,vi 543 0,vi 4 0,vr 886,vi 547 0,vi 4 0,vr 894,vi 555 0,vi 4 0,vr 902,vi 559 0,vi 4 0,vr 910,vi 566 0,vi 4 0,vr 918],
 of (.type "code") [vs "Ref" 1188,vs "Ref" 1189,vs "/claim/cut.py" 1190,vi 374 0,vi 0 0,vi 0 0,vi 0 0,vi 0 0,vr 658,.bool false,vi 181 0,vr 659,vn,vn,vn,vn,vi 1191 0,vi 374 0,vs "/claim/cut.py" 1192],
 ⟨(.type "frame"),none,.plain,⟨[aa (vr 660),aa (vr 3),aa (vr 657),none,aa aL,none,aa (vr 0)]⟩⟩]++
 dX (ak 24 0) "Ref.PackedType" 662 1198 true ["buf","parent_width","packed_type","byte_width","type_"] 1201 [] 0 [] 0 376 3 3 1206 [] vn vn vn aL (aa 671) vn++
 [⟨(.type "dict"),none,(.dict ⟨[de P "__module__" 1209 aL,ds P "__name__" 1212 "PackedType" 1211,ds P "__qualname__" 1215 "Ref.PackedType" 1214,de P "__doc__" 1217 vn,dr P "__annotations__" 1219 671]⟩ 5),#[]⟩,
 ⟨(.type "staticmethod"),(aa 669),(.fields ⟨[vr 668,.bool false]⟩),⟨[]⟩⟩,
 ⟨(.type "dict"),none,(.dict ⟨[]⟩ 0),#[]⟩]++
 dG (ak 24 1) "Ref.__init__" 672 1221 ["self","buf","parent_width","byte_width","type_"] 1224 381 5 3 1229++
 dG (ak 24 2) "Ref.__repr__" 679 1232 ["self"] 1235 387 1 3 1236++
 dG (ak 24 3) "Ref._Bytes" 686 1239 ["self"] 1242 390 1 3 1243++
 [of (.type "property") [vr 692,vn,vn,vn,vs "_Bytes" 1246,.bool false]]++
 dG (ak 24 4) "Ref._ConvertError" 694 1247 ["self","target_type"] 1250 394 2 3 1252++
 dG (ak 24 5) "Ref._Indirect" 701 1255 ["self"] 1258 397 1 3 1259++
 dG (ak 24 6) "Ref.IsNull" 708 1262 ["self"] 1265 400 1 3 1266++
 [of (.type "property") [vr 714,vn,vn,vn,vs "IsNull" 1269,.bool false]]++
 dG (ak 24 7) "Ref.IsBool" 716 1270 ["self"] 1273 404 1 3 1274++
 [of (.type "property") [vr 722,vn,vn,vn,vs "IsBool" 1277,.bool false]]++
 dG (ak 24 8) "Ref.AsBool" 724 1278 ["self"] 1281 408 1 3 1282++
 [of (.type "property") [vr 730,vn,vn,vn,vs "AsBool" 1285,.bool false]]++
 dG (ak 24 9) "Ref.MutateBool" 732 1286 ["self","value"] 1289 415 2 3 1291++
 dG (ak 24 10) "Ref.IsNumeric" 739 1294 ["self"] 1297 418 1 3 1298++
 [of (.type "property") [vr 745,vn,vn,vn,vs "IsNumeric" 1301,.bool false]]++
 dG (ak 24 11) "Ref.IsInt" 747 1302 ["self"] 1305 422 1 3 1306++
 [of (.type "property") [vr 753,vn,vn,vn,vs "IsInt" 1309,.bool false]]++
 dG (ak 24 12) "Ref.AsInt" 755 1310 ["self"] 1313 426 1 3 1314++
 [of (.type "property") [vr 761,vn,vn,vn,vs "AsInt" 1317,.bool false]]++
 dG (ak 24 13) "Ref.MutateInt" 763 1318 ["self","value"] 1321 455 2 3 1323++
 dG (ak 24 14) "Ref.IsFloat" 770 1326 ["self"] 1329 467 1 3 1330++
 [of (.type "property") [vr 776,vn,vn,vn,vs "IsFloat" 1333,.bool false]]++
 dG (ak 24 15) "Ref.IsKey" 778 1334 ["self"] 1337 471 1 3 1338++
 [of (.type "property") [vr 784,vn,vn,vn,vs "IsKey" 1341,.bool false]]++
 dG (ak 24 16) "Ref.AsKeyBytes" 786 1342 ["self"] 1345 475 1 3 1346++
 [of (.type "property") [vr 792,vn,vn,vn,vs "AsKeyBytes" 1349,.bool false]]++
 dG (ak 24 17) "Ref.AsKey" 794 1350 ["self"] 1353 482 1 3 1354++
 [of (.type "property") [vr 800,vn,vn,vn,vs "AsKey" 1357,.bool false]]++
 dG (ak 24 18) "Ref.IsString" 802 1358 ["self"] 1361 489 1 3 1362++
 [of (.type "property") [vr 808,vn,vn,vn,vs "IsString" 1365,.bool false]]++
 dG (ak 24 19) "Ref.AsStringBytes" 810 1366 ["self"] 1369 493 1 3 1370++
 [of (.type "property") [vr 816,vn,vn,vn,vs "AsStringBytes" 1373,.bool false]]++
 dG (ak 24 20) "Ref.AsString" 818 1374 ["self"] 1377 497 1 3 1378++
 [of (.type "property") [vr 824,vn,vn,vn,vs "AsString" 1381,.bool false]]++
 dG (ak 24 21) "Ref.MutateString" 826 1382 ["self","value"] 1385 506 2 3 1387++
 dG (ak 24 22) "Ref.IsBlob" 833 1390 ["self"] 1393 509 1 3 1394++
 [of (.type "property") [vr 839,vn,vn,vn,vs "IsBlob" 1397,.bool false]]++
 dG (ak 24 23) "Ref.AsBlob" 841 1398 ["self"] 1401 513 1 3 1402++
 [of (.type "property") [vr 847,vn,vn,vn,vs "AsBlob" 1405,.bool false]]++
 dG (ak 24 24) "Ref.IsVector" 849 1406 ["self"] 1409 520 1 3 1410++
 [of (.type "property") [vr 855,vn,vn,vn,vs "IsVector" 1413,.bool false]]++
 dG (ak 24 25) "Ref.AsVector" 857 1414 ["self"] 1417 524 1 3 1418++
 [of (.type "property") [vr 863,vn,vn,vn,vs "AsVector" 1421,.bool false]]++
 dG (ak 24 26) "Ref.IsTypedVector" 865 1422 ["self"] 1425 531 1 3 1426++
 [of (.type "property") [vr 871,vn,vn,vn,vs "IsTypedVector" 1429,.bool false]]++
 dG (ak 24 27) "Ref.AsTypedVector" 873 1430 ["self"] 1433 535 1 3 1434++
 [of (.type "property") [vr 879,vn,vn,vn,vs "AsTypedVector" 1437,.bool false]]++
 dG (ak 24 28) "Ref.IsFixedTypedVector" 881 1438 ["self"] 1441 542 1 3 1442++
 [of (.type "property") [vr 887,vn,vn,vn,vs "IsFixedTypedVector" 1445,.bool false]]
def NL(P:bq):List Obj:=
 dG (ak 24 29) "Ref.AsFixedTypedVector" 889 1446 ["self","element_type","size"] 1449 546 1 3 1452++
 [of (.type "property") [vr 895,vn,vn,vn,vs "AsFixedTypedVector" 1455,.bool false]]++
 dG (ak 24 30) "Ref.IsMap" 897 1456 ["self"] 1459 554 1 3 1460++
 [of (.type "property") [vr 903,vn,vn,vn,vs "IsMap" 1463,.bool false]]++
 dG (ak 24 31) "Ref.AsMap" 905 1464 ["self"] 1467 558 1 3 1468++
 [of (.type "property") [vr 911,vn,vn,vn,vs "AsMap" 1471,.bool false]]++
 dG (ak 24 32) "Ref.Value" 913 1472 ["self"] 1475 565 1 3 1476++
 [of (.type "property") [vr 919,vn,vn,vn,vs "Value" 1479,.bool false],
 ot [vs "_buf" 1480,vs "_byte_width" 1481,vs "_parent_width" 1482,vs "_type" 1483],
 ⟨(.type "dict"),none,(.dict ⟨[de P "__module__" 1193 aL,di P "__firstlineno__" 1197 374 1196,dr P "PackedType" 1220 670,dr P "__init__" 1231 678,dr P "__repr__" 1238 685,dr P "_Bytes" 1246 693,dr P "_ConvertError" 1254 700,dr P "_Indirect" 1261 707,dr P "IsNull" 1269 715,dr P "IsBool" 1277 723,dr P "AsBool" 1285 731,dr P "MutateBool" 1293 738,dr P "IsNumeric" 1301 746,dr P "IsInt" 1309 754,dr P "AsInt" 1317 762,dr P "MutateInt" 1325 769,dr P "IsFloat" 1333 777,dr P "IsKey" 1341 785,dr P "AsKeyBytes" 1349 793,dr P "AsKey" 1357 801,dr P "IsString" 1365 809,dr P "AsStringBytes" 1373 817,dr P "AsString" 1381 825,dr P "MutateString" 1389 832,dr P "IsBlob" 1397 840,dr P "AsBlob" 1405 848,dr P "IsVector" 1413 856,dr P "AsVector" 1421 864,dr P "IsTypedVector" 1429 872,dr P "AsTypedVector" 1437 880,dr P "IsFixedTypedVector" 1445 888,dr P "AsFixedTypedVector" 1455 896,dr P "IsMap" 1463 904,dr P "AsMap" 1471 912,dr P "Value" 1479 920,dr P "__static_attributes__" 1484 921,dr P "__dict__" 1486 924,dr P "__weakref__" 1488 925,de P "__doc__" 1489 vn]⟩ 4),#[]⟩,
 ⟨(.type "type"),none,(.cls (cd "Ref" [.type "object"] [vr 923,.type "object"] 922 "Ref" true [] [] false (none) false)),⟨[none,none,aa (vs "Ref" 1186),aa (vs "Ref" 1194),aa (.builtin "object.__new__"),aa (.bool true)]⟩⟩,
 of (.type "getset_descriptor") [vs "__dict__" 1485,vr 923,.builtin "function.__dict__",.builtin "function.__dict__#set"],
 of (.type "getset_descriptor") [vs "__weakref__" 1487,vr 923,.builtin "ExceptionGroup.__weakref__",vn],
 of (.type "super") [vr 923,vr 923,vr 923],
 of (.type "builtin_function_or_method") [.builtin "object.__init_subclass__",vr 923]]
def U5(P:bq):List (Nat×Obj):=[
 (3,⟨(.type "dict"),none,(.dict ⟨[de P "__name__" 165 aL,de P "__doc__" 166 vn,de P "__package__" 167 vn,de P "__loader__" 168 (.builtin "__main__.__loader__#opaque"),de P "__spec__" 169 vn,dr P "__annotations__" 170 6,dr P "__builtins__" 171 4,ds P "__file__" 173 "/claim/cut.py" 172,de P "__cached__" 174 vn,dr P "_wall" 193 21,dr P "StructError" 215 31,dr P "BitWidth" 300 74,dr P "I" 313 79,dr P "U" 326 80,dr P "_Unpack" 336 87,dr P "_UnpackVector" 342 92,dr P "_Pack" 353 99,dr P "_Mutate" 364 106,dr P "_PaddingBytes" 372 113,dr P "_LowerBound" 386 120,dr P "_BinarySearch" 396 127,dr P "Type" 686 248,dr P "Type_flexbuffers" 687 248,dr P "Buf" 779 318,dr P "Object" 818 347,dr P "Sized" 863 386,dr P "Blob" 894 413,dr P "String" 942 454,dr P "Key" 998 504,dr P "Vector" 1038 536,dr P "TypedVector" 1108 594,dr P "Map" 1185 652,dr P "Ref" 1491 923]⟩ 33),#[]⟩),
 (12,of vn [vi 1 0,vi 0 0,vr 20,vi 5 0,vi 0 0,vr 27,vi 7 0,vi 0 0,vr 40,vi 37 0,vi 0 0,vr 86,vi 43 0,vi 0 0,vr 91,vi 50 0,vi 0 0,vr 98,vi 56 0,vi 0 0,vr 105,vi 61 0,vi 0 0,vr 112,vi 63 0,vi 0 0,vr 119,vi 77 0,vi 0 0,vr 126,vi 82 0,vi 0 0,vr 133,vi 178 0,vi 0 0,vr 258,vi 211 0,vi 0 0,vr 328,vi 220 0,vi 0 0,vr 358,vi 235 0,vi 0 0,vr 394,vi 243 0,vi 0 0,vr 421,vi 264 0,vi 0 0,vr 463,vi 282 0,vi 0 0,vr 512,vi 297 0,vi 0 0,vr 545,vi 338 0,vi 0 0,vr 602,vi 374 0,vi 0 0,vr 660])]
def T6(P:bq):BT:=grow (i7 (T5 P) (U5 P)) 655 (NK P++NL P)
def NM(P:bq):List Obj:=
 [ot [],
 of (.type "builtin_function_or_method") [.builtin "type.__prepare__",.type "type"],
 ⟨(.type "dict"),none,(.dict ⟨[de P "__module__" 1499 aL,ds P "__qualname__" 1501 "Value" 1500,di P "__firstlineno__" 1503 589 1502,dr P "Null" 1521 943,dr P "Bool" 1540 953,dr P "Int" 1560 963,dr P "UInt" 1580 973,dr P "Key" 1599 983,dr P "__init__" 1609 991,dr P "Value" 1617 999,dr P "Type" 1625 1007,dr P "MinBitWidth" 1633 1015,dr P "StoredPackedType" 1642 1023,dr P "ElemWidth" 1655 1031,dr P "StoredWidth" 1664 1039,dr P "__repr__" 1671 1046,dr P "__str__" 1678 1053,dr P "__static_attributes__" 1682 1054]⟩ 18),#[]⟩,
 ot [],
 of vn [vi 592 0,vi 4 0,vr 940,vi 596 0,vi 4 0,vr 950,vi 600 0,vi 4 0,vr 960,vi 604 0,vi 4 0,vr 970,vi 608 0,vi 4 0,vr 980,vi 611 0,vi 4 0,vr 990,vi 617 0,vi 4 0,vr 997,vi 621 0,vi 4 0,vr 1005,vi 625 0,vi 4 0,vr 1013,vi 628 0,vi 4 0,vr 1022,vi 631 0,vi 4 0,vr 1030,vi 641 0,vi 4 0,vr 1038,vi 646 0,vi 4 0,vr 1045,vi 649 0,vi 4 0,vr 1052],
 of (.type "code") [vs "Value" 1494,vs "Value" 1495,vs "/claim/cut.py" 1496,vi 589 0,vi 0 0,vi 0 0,vi 0 0,vi 0 0,vr 931,.bool false,vi 181 0,vr 932,vn,vn,vn,vn,vi 1497 0,vi 589 0,vs "/claim/cut.py" 1498],
 ⟨(.type "frame"),none,.plain,⟨[aa (vr 933),aa (vr 3),aa (vr 930),none,aa aL,none,aa (vr 0)]⟩⟩]++
 dX (ak 25 0) "Value.Null" 935 1504 true [] 0 [] 0 [] 0 591 0 3 1507 [] vn vn vn aL (aa 944) vn++
 [⟨(.type "dict"),none,(.dict ⟨[de P "__module__" 1510 aL,ds P "__name__" 1513 "Null" 1512,ds P "__qualname__" 1516 "Value.Null" 1515,de P "__doc__" 1518 vn,dr P "__annotations__" 1520 944]⟩ 5),#[]⟩,
 ⟨(.type "staticmethod"),(aa 942),(.fields ⟨[vr 941,.bool false]⟩),⟨[]⟩⟩,
 ⟨(.type "dict"),none,(.dict ⟨[]⟩ 0),#[]⟩]++
 dX (ak 25 1) "Value.Bool" 945 1522 true ["value"] 1525 [] 0 [] 0 595 1 3 1526 [] vn vn vn aL (aa 954) vn++
 [⟨(.type "dict"),none,(.dict ⟨[de P "__module__" 1529 aL,ds P "__name__" 1532 "Bool" 1531,ds P "__qualname__" 1535 "Value.Bool" 1534,de P "__doc__" 1537 vn,dr P "__annotations__" 1539 954]⟩ 5),#[]⟩,
 ⟨(.type "staticmethod"),(aa 952),(.fields ⟨[vr 951,.bool false]⟩),⟨[]⟩⟩,
 ⟨(.type "dict"),none,(.dict ⟨[]⟩ 0),#[]⟩]++
 dX (ak 25 2) "Value.Int" 955 1541 true ["value","bit_width"] 1544 [] 0 [] 0 599 2 3 1546 [] vn vn vn aL (aa 964) vn++
 [⟨(.type "dict"),none,(.dict ⟨[de P "__module__" 1549 aL,ds P "__name__" 1552 "Int" 1551,ds P "__qualname__" 1555 "Value.Int" 1554,de P "__doc__" 1557 vn,dr P "__annotations__" 1559 964]⟩ 5),#[]⟩,
 ⟨(.type "staticmethod"),(aa 962),(.fields ⟨[vr 961,.bool false]⟩),⟨[]⟩⟩,
 ⟨(.type "dict"),none,(.dict ⟨[]⟩ 0),#[]⟩]++
 dX (ak 25 3) "Value.UInt" 965 1561 true ["value","bit_width"] 1564 [] 0 [] 0 603 2 3 1566 [] vn vn vn aL (aa 974) vn++
 [⟨(.type "dict"),none,(.dict ⟨[de P "__module__" 1569 aL,ds P "__name__" 1572 "UInt" 1571,ds P "__qualname__" 1575 "Value.UInt" 1574,de P "__doc__" 1577 vn,dr P "__annotations__" 1579 974]⟩ 5),#[]⟩,
 ⟨(.type "staticmethod"),(aa 972),(.fields ⟨[vr 971,.bool false]⟩),⟨[]⟩⟩,
 ⟨(.type "dict"),none,(.dict ⟨[]⟩ 0),#[]⟩]++
 dX (ak 25 4) "Value.Key" 975 1581 true ["offset"] 1584 [] 0 [] 0 607 1 3 1585 [] vn vn vn aL (aa 984) vn++
 [⟨(.type "dict"),none,(.dict ⟨[de P "__module__" 1588 aL,ds P "__name__" 1591 "Key" 1590,ds P "__qualname__" 1594 "Value.Key" 1593,de P "__doc__" 1596 vn,dr P "__annotations__" 1598 984]⟩ 5),#[]⟩,
 ⟨(.type "staticmethod"),(aa 982),(.fields ⟨[vr 981,.bool false]⟩),⟨[]⟩⟩,
 ⟨(.type "dict"),none,(.dict ⟨[]⟩ 0),#[]⟩]++
 dG (ak 25 5) "Value.__init__" 985 1600 ["self","value","type_","min_bit_width"] 1603 611 4 3 1607++
 dG (ak 25 6) "Value.Value" 992 1610 ["self"] 1613 616 1 3 1614++
 [of (.type "property") [vr 998,vn,vn,vn,vs "Value" 1617,.bool false]]++
 dG (ak 25 7) "Value.Type" 1000 1618 ["self"] 1621 620 1 3 1622++
 [of (.type "property") [vr 1006,vn,vn,vn,vs "Type" 1625,.bool false]]++
 dG (ak 25 8) "Value.MinBitWidth" 1008 1626 ["self"] 1629 624 1 3 1630++
 [of (.type "property") [vr 1014,vn,vn,vn,vs "MinBitWidth" 1633,.bool false],
 ot [vi 0 1634]]++
 dX (ak 25 9) "Value.StoredPackedType" 1017 1635 true ["self","parent_bit_width"] 1638 [] 0 [] 0 628 2 3 1640 [] (vr 1016) vn vn aL none vn++
 [ot [vi 0 1643]]++
 dX (ak 25 10) "Value.ElemWidth" 1025 1644 true ["self","buf_size","elem_index","byte_width","offset_loc","bit_width"] 1647 [] 0 [] 0 631 3 3 1653 [] (vr 1024) vn vn aL none vn++
 [ot [vi 0 1656]]++
 dX (ak 25 11) "Value.StoredWidth" 1033 1657 true ["self","parent_bit_width"] 1660 [] 0 [] 0 641 2 3 1662 [] (vr 1032) vn vn aL none vn++
 dG (ak 25 12) "Value.__repr__" 1040 1665 ["self"] 1668 646 1 3 1669++
 dG (ak 25 13) "Value.__str__" 1047 1672 ["self"] 1675 649 1 3 1676++
 [ot [vs "_min_bit_width" 1679,vs "_type" 1680,vs "_value" 1681],
 ⟨(.type "dict"),none,(.dict ⟨[de P "__module__" 1499 aL,di P "__firstlineno__" 1503 589 1502,dr P "Null" 1521 943,dr P "Bool" 1540 953,dr P "Int" 1560 963,dr P "UInt" 1580 973,dr P "Key" 1599 983,dr P "__init__" 1609 991,dr P "Value" 1617 999,dr P "Type" 1625 1007,dr P "MinBitWidth" 1633 1015,dr P "StoredPackedType" 1642 1023,dr P "ElemWidth" 1655 1031,dr P "StoredWidth" 1664 1039,dr P "__repr__" 1671 1046,dr P "__str__" 1678 1053,dr P "__static_attributes__" 1682 1054,dr P "__dict__" 1684 1057,dr P "__weakref__" 1686 1058,de P "__doc__" 1687 vn]⟩ 4),#[]⟩,
 ⟨(.type "type"),none,(.cls (cd "Value" [.type "object"] [vr 1056,.type "object"] 1055 "Value" true [] [] false (none) false)),⟨[none,none,aa (vs "Value" 1492),aa (vs "Value" 1500),aa (.builtin "object.__new__"),aa (.bool true)]⟩⟩,
 of (.type "getset_descriptor") [vs "__dict__" 1683,vr 1056,.builtin "function.__dict__",.builtin "function.__dict__#set"],
 of (.type "getset_descriptor") [vs "__weakref__" 1685,vr 1056,.builtin "ExceptionGroup.__weakref__",vn],
 of (.type "super") [vr 1056,vr 1056,vr 1056],
 of (.type "builtin_function_or_method") [.builtin "object.__init_subclass__",vr 1056],
 ot [],
 of (.type "builtin_function_or_method") [.builtin "type.__prepare__",.type "type"],
 ⟨(.type "dict"),none,(.dict ⟨[de P "__module__" 1698 aL,ds P "__qualname__" 1700 "Pool" 1699,di P "__firstlineno__" 1702 652 1701,dr P "__init__" 1709 1074,dr P "FindOrInsert" 1721 1081,dr P "Clear" 1728 1088,dr P "Elements" 1736 1096,dr P "__static_attributes__" 1738 1097]⟩ 8),#[]⟩,
 ot [],
 of vn [vi 654 0,vi 4 0,vr 1073,vi 657 0,vi 4 0,vr 1080,vi 666 0,vi 4 0,vr 1087,vi 670 0,vi 4 0,vr 1094],
 of (.type "code") [vs "Pool" 1693,vs "Pool" 1694,vs "/claim/cut.py" 1695,vi 652 0,vi 0 0,vi 0 0,vi 0 0,vi 0 0,vr 1064,.bool false,vi 181 0,vr 1065,vn,vn,vn,vn,vi 1696 0,vi 652 0,vs "/claim/cut.py" 1697],
 ⟨(.type "frame"),none,.plain,⟨[aa (vr 1066),aa (vr 3),aa (vr 1063),none,aa aL,none,aa (vr 0)]⟩⟩]++
 dG (ak 27 0) "Pool.__init__" 1068 1703 ["self"] 1706 654 1 3 1707++
 dG (ak 27 1) "Pool.FindOrInsert" 1075 1710 ["self","data","offset","do","index","_"] 1713 657 3 3 1719++
 dG (ak 27 2) "Pool.Clear" 1082 1722 ["self"] 1725 666 1 3 1726++
 dG (ak 27 3) "Pool.Elements" 1089 1729 ["self"] 1732 669 1 3 1733
def NN(P:bq):List Obj:=
 [of (.type "property") [vr 1095,vn,vn,vn,vs "Elements" 1736,.bool false],
 ot [vs "_pool" 1737],
 ⟨(.type "dict"),none,(.dict ⟨[de P "__module__" 1698 aL,di P "__firstlineno__" 1702 652 1701,dr P "__init__" 1709 1074,dr P "FindOrInsert" 1721 1081,dr P "Clear" 1728 1088,dr P "Elements" 1736 1096,dr P "__static_attributes__" 1738 1097,dr P "__dict__" 1740 1100,dr P "__weakref__" 1742 1101,de P "__doc__" 1743 vn]⟩ 4),#[]⟩,
 ⟨(.type "type"),none,(.cls (cd "Pool" [.type "object"] [vr 1099,.type "object"] 1098 "Pool" true [] [] false (none) false)),⟨[none,none,aa (vs "Pool" 1691),aa (vs "Pool" 1699),aa (.builtin "object.__new__"),aa (.bool true)]⟩⟩,
 of (.type "getset_descriptor") [vs "__dict__" 1739,vr 1099,.builtin "function.__dict__",.builtin "function.__dict__#set"],
 of (.type "getset_descriptor") [vs "__weakref__" 1741,vr 1099,.builtin "ExceptionGroup.__weakref__",vn],
 of (.type "super") [vr 1099,vr 1099,vr 1099],
 of (.type "builtin_function_or_method") [.builtin "object.__init_subclass__",vr 1099]]
def U6(P:bq):List (Nat×Obj):=[
 (3,⟨(.type "dict"),none,(.dict ⟨[de P "__name__" 165 aL,de P "__doc__" 166 vn,de P "__package__" 167 vn,de P "__loader__" 168 (.builtin "__main__.__loader__#opaque"),de P "__spec__" 169 vn,dr P "__annotations__" 170 6,dr P "__builtins__" 171 4,ds P "__file__" 173 "/claim/cut.py" 172,de P "__cached__" 174 vn,dr P "_wall" 193 21,dr P "StructError" 215 31,dr P "BitWidth" 300 74,dr P "I" 313 79,dr P "U" 326 80,dr P "_Unpack" 336 87,dr P "_UnpackVector" 342 92,dr P "_Pack" 353 99,dr P "_Mutate" 364 106,dr P "_PaddingBytes" 372 113,dr P "_LowerBound" 386 120,dr P "_BinarySearch" 396 127,dr P "Type" 686 248,dr P "Type_flexbuffers" 687 248,dr P "Buf" 779 318,dr P "Object" 818 347,dr P "Sized" 863 386,dr P "Blob" 894 413,dr P "String" 942 454,dr P "Key" 998 504,dr P "Vector" 1038 536,dr P "TypedVector" 1108 594,dr P "Map" 1185 652,dr P "Ref" 1491 923,dr P "Value" 1689 1056,dr P "Value_flexbuffers" 1690 1056,dr P "Pool" 1745 1099]⟩ 36),#[]⟩),
 (12,of vn [vi 1 0,vi 0 0,vr 20,vi 5 0,vi 0 0,vr 27,vi 7 0,vi 0 0,vr 40,vi 37 0,vi 0 0,vr 86,vi 43 0,vi 0 0,vr 91,vi 50 0,vi 0 0,vr 98,vi 56 0,vi 0 0,vr 105,vi 61 0,vi 0 0,vr 112,vi 63 0,vi 0 0,vr 119,vi 77 0,vi 0 0,vr 126,vi 82 0,vi 0 0,vr 133,vi 178 0,vi 0 0,vr 258,vi 211 0,vi 0 0,vr 328,vi 220 0,vi 0 0,vr 358,vi 235 0,vi 0 0,vr 394,vi 243 0,vi 0 0,vr 421,vi 264 0,vi 0 0,vr 463,vi 282 0,vi 0 0,vr 512,vi 297 0,vi 0 0,vr 545,vi 338 0,vi 0 0,vr 602,vi 374 0,vi 0 0,vr 660,vi 589 0,vi 0 0,vr 933,vi 652 0,vi 0 0,vr 1066])]
def T7(P:bq):BT:=grow (i7 (T6 P) (U6 P)) 928 (NM P++NN P)
def NO(P:bq):List Obj:=
 [ot [],
 of (.type "builtin_function_or_method") [.builtin "type.__prepare__",.type "type"],
 ⟨(.type "dict"),none,(.dict ⟨[de P "__module__" 1753 aL,ds P "__qualname__" 1755 "Builder" 1754,di P "__firstlineno__" 1757 672 1756,dr P "__init__" 1768 1118,dr P "__len__" 1775 1125,dr P "StringPool" 1783 1133,dr P "KeyPool" 1791 1141,dr P "Clear" 1798 1148,dr P "Finish" 1807 1155,dr P "_ReadKey" 1816 1162,dr P "_Align" 1825 1169,dr P "_Write" 1835 1176,dr P "_WriteVector" 1845 1183,dr P "_WriteOffset" 1855 1190,dr P "_WriteAny" 1865 1197,dr P "_WriteBlob" 1878 1204,dr P "_WriteScalarVector" 1889 1211,dr P "_CreateVector" 1909 1219,dr P "_PushIndirect" 1919 1226,dr P "String" 1931 1233,dr P "Blob" 1939 1240,dr P "Key" 1950 1247,dr P "Null" 1958 1255,dr P "Bool" 1966 1262,dr P "Int" 1977 1270,dr P "IndirectInt" 1987 1278,dr P "UInt" 1997 1286,dr P "IndirectUInt" 2007 1294,dr P "_StartVector" 2014 1301,dr P "_EndVector" 2025 1308,dr P "VectorFromElements" 2035 1315,dr P "TypedVectorFromElements" 2044 1323,dr P "FixedTypedVectorFromElements" 2055 1331,dr P "_StartMap" 2062 1338,dr P "_EndMap" 2077 1345,dr P "MapFromElements" 2085 1352,dr P "_AddAs" 2094 1359,dr P "Add" 2105 1366,dr P "LastValue" 2113 1374,dr P "ReuseValue" 2121 1381,dr P "__static_attributes__" 2131 1382]⟩ 41),#[]⟩,
 ot [],
 of vn [vi 674 0,vi 4 0,vr 1117,vi 684 0,vi 4 0,vr 1124,vi 688 0,vi 4 0,vr 1131,vi 692 0,vi 4 0,vr 1139,vi 695 0,vi 4 0,vr 1147,vi 698 0,vi 4 0,vr 1154,vi 711 0,vi 4 0,vr 1161,vi 715 0,vi 4 0,vr 1168,vi 720 0,vi 4 0,vr 1175,vi 723 0,vi 4 0,vr 1182,vi 726 0,vi 4 0,vr 1189,vi 731 0,vi 4 0,vr 1196,vi 738 0,vi 4 0,vr 1203,vi 749 0,vi 4 0,vr 1210,vi 752 0,vi 4 0,vr 1218,vi 791 0,vi 4 0,vr 1225,vi 794 0,vi 4 0,vr 1232,vi 804 0,vi 4 0,vr 1239,vi 807 0,vi 4 0,vr 1246,vi 825 0,vi 4 0,vr 1254,vi 830 0,vi 4 0,vr 1261,vi 833 0,vi 4 0,vr 1269,vi 837 0,vi 4 0,vr 1277,vi 840 0,vi 4 0,vr 1285,vi 843 0,vi 4 0,vr 1293,vi 846 0,vi 4 0,vr 1300,vi 849 0,vi 4 0,vr 1307,vi 855 0,vi 4 0,vr 1314,vi 863 0,vi 4 0,vr 1322,vi 866 0,vi 4 0,vr 1330,vi 869 0,vi 4 0,vr 1337,vi 872 0,vi 4 0,vr 1344,vi 890 0,vi 4 0,vr 1351,vi 893 0,vi 4 0,vr 1358,vi 896 0,vi 4 0,vr 1365,vi 921 0,vi 4 0,vr 1372,vi 924 0,vi 4 0,vr 1380],
 of (.type "code") [vs "Builder" 1748,vs "Builder" 1749,vs "/claim/cut.py" 1750,vi 672 0,vi 0 0,vi 0 0,vi 0 0,vi 0 0,vr 1107,.bool false,vi 181 0,vr 1108,vn,vn,vn,vn,vi 1751 0,vi 672 0,vs "/claim/cut.py" 1752],
 ⟨(.type "frame"),none,.plain,⟨[aa (vr 1109),aa (vr 3),aa (vr 1106),none,aa aL,none,aa (vr 0)]⟩⟩,
 ot [.bool false,.bool true,vi 0 1758]]++
 dX (ak 28 0) "Builder.__init__" 1112 1759 true ["self","share_strings","share_keys","force_min_bit_width"] 1762 [] 0 [] 0 674 4 3 1766 [] (vr 1111) vn vn aL none vn++
 dG (ak 28 1) "Builder.__len__" 1119 1769 ["self"] 1772 684 1 3 1773++
 dG (ak 28 2) "Builder.StringPool" 1126 1776 ["self"] 1779 687 1 3 1780++
 [of (.type "property") [vr 1132,vn,vn,vn,vs "StringPool" 1783,.bool false]]++
 dG (ak 28 3) "Builder.KeyPool" 1134 1784 ["self"] 1787 691 1 3 1788++
 [of (.type "property") [vr 1140,vn,vn,vn,vs "KeyPool" 1791,.bool false]]++
 dG (ak 28 4) "Builder.Clear" 1142 1792 ["self"] 1795 695 1 3 1796++
 dG (ak 28 5) "Builder.Finish" 1149 1799 ["self","value","byte_width"] 1802 698 1 3 1805++
 dG (ak 28 6) "Builder._ReadKey" 1156 1808 ["self","offset","key"] 1811 711 2 3 1814++
 dG (ak 28 7) "Builder._Align" 1163 1817 ["self","alignment","byte_width"] 1820 715 2 3 1823++
 dG (ak 28 8) "Builder._Write" 1170 1826 ["self","fmt","value","byte_width"] 1829 720 4 3 1833++
 dG (ak 28 9) "Builder._WriteVector" 1177 1836 ["self","fmt","values","byte_width"] 1839 723 4 3 1843++
 dG (ak 28 10) "Builder._WriteOffset" 1184 1846 ["self","offset","byte_width","relative_offset"] 1849 726 3 3 1853++
 dG (ak 28 11) "Builder._WriteAny" 1191 1856 ["self","value","byte_width","fmt"] 1859 731 3 3 1863++
 dG (ak 28 12) "Builder._WriteBlob" 1198 1866 ["self","data","append_zero","type_","bit_width","byte_width","loc"] 1869 738 4 3 1876++
 dG (ak 28 13) "Builder._WriteScalarVector" 1205 1879 ["self","element_type","byte_width","elements","fixed"] 1882 749 5 3 1887++
 [ot [vn]]++
 dX (ak 28 14) "Builder._CreateVector" 1213 1890 true ["self","elements","typed","fixed","keys","length","bit_width","prefix_elems","vector_type","i","e","byte_width","loc","type_"] 1893 [] 0 [] 0 752 5 3 1907 [] (vr 1212) vn vn aL none vn++
 dG (ak 28 15) "Builder._PushIndirect" 1220 1910 ["self","value","type_","bit_width"] 1913 791 4 3 1917++
 dG (ak 28 16) "Builder.String" 1227 1920 ["self","value","reset_to","encoded","loc","prev_loc"] 1923 794 2 3 1929++
 dG (ak 28 17) "Builder.Blob" 1234 1932 ["self","value"] 1935 804 2 3 1937++
 dG (ak 28 18) "Builder.Key" 1241 1940 ["self","value","encoded","loc","prev_loc"] 1943 807 2 3 1948++
 [ot [vn]]++
 dX (ak 28 19) "Builder.Null" 1249 1951 true ["self","key"] 1954 [] 0 [] 0 825 2 3 1956 [] (vr 1248) vn vn aL none vn++
 dG (ak 28 20) "Builder.Bool" 1256 1959 ["self","value"] 1962 830 2 3 1964++
 [ot [vi 0 1967]]++
 dX (ak 28 21) "Builder.Int" 1264 1968 true ["self","value","byte_width","bit_width"] 1971 [] 0 [] 0 833 3 3 1975 [] (vr 1263) vn vn aL none vn++
 [ot [vi 0 1978]]++
 dX (ak 28 22) "Builder.IndirectInt" 1272 1979 true ["self","value","byte_width"] 1982 [] 0 [] 0 837 3 3 1985 [] (vr 1271) vn vn aL none vn++
 [ot [vi 0 1988]]++
 dX (ak 28 23) "Builder.UInt" 1280 1989 true ["self","value","byte_width"] 1992 [] 0 [] 0 840 3 3 1995 [] (vr 1279) vn vn aL none vn++
 [ot [vi 0 1998]]++
 dX (ak 28 24) "Builder.IndirectUInt" 1288 1999 true ["self","value","byte_width"] 2002 [] 0 [] 0 843 3 3 2005 [] (vr 1287) vn vn aL none vn++
 dG (ak 28 25) "Builder._StartVector" 1295 2008 ["self"] 2011 846 1 3 2012++
 dG (ak 28 26) "Builder._EndVector" 1302 2015 ["self","start","typed","fixed","vec"] 2018 849 4 3 2023++
 dG (ak 28 27) "Builder.VectorFromElements" 1309 2026 ["self","elements","start","e"] 2029 855 2 3 2033++
 [ot [vn]]++
 dX (ak 28 28) "Builder.TypedVectorFromElements" 1317 2036 true ["self","elements","element_type"] 2039 [] 0 [] 0 863 3 3 2042 [] (vr 1316) vn vn aL none vn++
 [ot [vn,vi 0 2045]]++
 dX (ak 28 29) "Builder.FixedTypedVectorFromElements" 1325 2046 true ["self","elements","element_type","byte_width"] 2049 [] 0 [] 0 866 4 3 2053 [] (vr 1324) vn vn aL none vn++
 dG (ak 28 30) "Builder._StartMap" 1332 2056 ["self"] 2059 869 1 3 2060++
 dX (ak 28 31) "Builder._EndMap" 1339 2063 true ["self","start","stack","key","pairs","pair","keys","values"] 2066 ["self"] 2074 [] 0 872 2 3 2075 [] vn vn vn aL none vn++
 dG (ak 28 32) "Builder.MapFromElements" 1346 2078 ["self","elements"] 2081 890 2 3 2083++
 dG (ak 28 33) "Builder._AddAs" 1353 2086 ["self","type_","value"] 2089 893 3 3 2092++
 dG (ak 28 34) "Builder.Add" 1360 2095 ["self","value","start","k","v"] 2098 896 2 3 2103++
 dG (ak 28 35) "Builder.LastValue" 1367 2106 ["self"] 2109 920 1 3 2110++
 [of (.type "property") [vr 1373,vn,vn,vn,vs "LastValue" 2113,.bool false]]++
 dG (ak 28 36) "Builder.ReuseValue" 1375 2114 ["self","value"] 2117 924 2 3 2119++
 [ot [vs "_buf" 2122,vs "_finished" 2123,vs "_force_min_bit_width" 2124,vs "_key_pool" 2125,vs "_share_keys" 2126,vs "_share_strings" 2127,vs "_stack" 2128,vs "_string_pool" 2129,vs "finished" 2130],
 ⟨(.type "dict"),none,(.dict ⟨[de P "__module__" 1753 aL,di P "__firstlineno__" 1757 672 1756,dr P "__init__" 1768 1118,dr P "__len__" 1775 1125,dr P "StringPool" 1783 1133,dr P "KeyPool" 1791 1141,dr P "Clear" 1798 1148,dr P "Finish" 1807 1155,dr P "_ReadKey" 1816 1162,dr P "_Align" 1825 1169,dr P "_Write" 1835 1176,dr P "_WriteVector" 1845 1183,dr P "_WriteOffset" 1855 1190,dr P "_WriteAny" 1865 1197,dr P "_WriteBlob" 1878 1204,dr P "_WriteScalarVector" 1889 1211,dr P "_CreateVector" 1909 1219,dr P "_PushIndirect" 1919 1226,dr P "String" 1931 1233,dr P "Blob" 1939 1240,dr P "Key" 1950 1247,dr P "Null" 1958 1255,dr P "Bool" 1966 1262,dr P "Int" 1977 1270,dr P "IndirectInt" 1987 1278,dr P "UInt" 1997 1286,dr P "IndirectUInt" 2007 1294,dr P "_StartVector" 2014 1301,dr P "_EndVector" 2025 1308,dr P "VectorFromElements" 2035 1315,dr P "TypedVectorFromElements" 2044 1323,dr P "FixedTypedVectorFromElements" 2055 1331,dr P "_StartMap" 2062 1338,dr P "_EndMap" 2077 1345,dr P "MapFromElements" 2085 1352,dr P "_AddAs" 2094 1359,dr P "Add" 2105 1366,dr P "LastValue" 2113 1374,dr P "ReuseValue" 2121 1381,dr P "__static_attributes__" 2131 1382,dr P "__dict__" 2133 1385,dr P "__weakref__" 2135 1386,de P "__doc__" 2136 vn]⟩ 4),#[]⟩,
 ⟨(.type "type"),none,(.cls (cd "Builder" [.type "object"] [vr 1384,.type "object"] 1383 "Builder" true [] [] false (none) false)),⟨[none,none,aa (vs "Builder" 1746),aa (vs "Builder" 1754),aa (.builtin "object.__new__"),aa (.bool true)]⟩⟩,
 of (.type "getset_descriptor") [vs "__dict__" 2132,vr 1384,.builtin "function.__dict__",.builtin "function.__dict__#set"]]
def NP(P:bq):List Obj:=
 [of (.type "getset_descriptor") [vs "__weakref__" 2134,vr 1384,.builtin "ExceptionGroup.__weakref__",vn],
 of (.type "super") [vr 1384,vr 1384,vr 1384],
 of (.type "builtin_function_or_method") [.builtin "object.__init_subclass__",vr 1384]]++
 dG (cS 29) "GetRoot" 1389 2139 ["buf","byte_width"] 2142 926 1 3 2144++
 dG (cS 30) "Dumps" 1396 2147 ["obj","fbb"] 2150 931 1 3 2152++
 dG (cS 31) "Loads" 1403 2155 ["buf"] 2158 935 1 3 2159++
 [⟨(.type "list"),none,(.seq ⟨[vs "a" 2164,vs "Z" 2165,vs "~" 2166,vs "é" 2167]⟩ 0),#[]⟩]++
 dX (cS 34) "_law_text" 1411 2169 false [] 0 [] 0 [] 0 939 1 3 2172 [] vn vn vn (vs "law_jd0011_02" 2162) none vn++
 dX (cS 35) "_law_size" 1416 2175 false [] 0 [] 0 [] 0 941 1 3 2178 [] vn vn vn (vs "law_jd0011_02" 2162) none vn++
 dX (cS 36) "_law_value" 1421 2181 true ["number","kind"] 2184 [] 0 [] 0 943 1 3 2186 [] vn vn vn (vs "law_jd0011_02" 2162) none vn++
 dX (cS 37) "_law_alike" 1428 2189 true ["found","due","one","other"] 2192 [] 0 [] 0 952 2 3 2196 [] vn vn vn (vs "law_jd0011_02" 2162) none vn++
 dX (cS 38) "law" 1435 2199 false [] 0 [] 0 [] 0 959 1 3 2202 [] vn vn vn (vs "law_jd0011_02" 2162) none vn
def U7(P:bq):List (Nat×Obj):=[
 (3,⟨(.type "dict"),none,(.dict ⟨[ds P "__name__" 165 "law_jd0011_02" 2162,de P "__doc__" 166 vn,de P "__package__" 167 vn,de P "__loader__" 168 (.builtin "__main__.__loader__#opaque"),de P "__spec__" 169 vn,dr P "__annotations__" 170 6,dr P "__builtins__" 171 4,ds P "__file__" 173 "/claim/cut.py" 172,de P "__cached__" 174 vn,dr P "_wall" 193 21,dr P "StructError" 215 31,dr P "BitWidth" 300 74,dr P "I" 313 79,dr P "U" 326 80,dr P "_Unpack" 336 87,dr P "_UnpackVector" 342 92,dr P "_Pack" 353 99,dr P "_Mutate" 364 106,dr P "_PaddingBytes" 372 113,dr P "_LowerBound" 386 120,dr P "_BinarySearch" 396 127,dr P "Type" 686 248,dr P "Type_flexbuffers" 687 248,dr P "Buf" 779 318,dr P "Object" 818 347,dr P "Sized" 863 386,dr P "Blob" 894 413,dr P "String" 942 454,dr P "Key" 998 504,dr P "Vector" 1038 536,dr P "TypedVector" 1108 594,dr P "Map" 1185 652,dr P "Ref" 1491 923,dr P "Value" 1689 1056,dr P "Value_flexbuffers" 1690 1056,dr P "Pool" 1745 1099,dr P "Builder" 2138 1384,dr P "GetRoot" 2146 1395,dr P "Dumps" 2154 1402,dr P "Loads" 2161 1409,dr P "_law_letters" 2168 1410,dr P "_law_text" 2174 1415,dr P "_law_size" 2180 1420,dr P "_law_value" 2188 1427,dr P "_law_alike" 2198 1434,dr P "law" 2204 1439]⟩ 46),#[]⟩),
 (12,of vn [vi 1 0,vi 0 0,vr 20,vi 5 0,vi 0 0,vr 27,vi 7 0,vi 0 0,vr 40,vi 37 0,vi 0 0,vr 86,vi 43 0,vi 0 0,vr 91,vi 50 0,vi 0 0,vr 98,vi 56 0,vi 0 0,vr 105,vi 61 0,vi 0 0,vr 112,vi 63 0,vi 0 0,vr 119,vi 77 0,vi 0 0,vr 126,vi 82 0,vi 0 0,vr 133,vi 178 0,vi 0 0,vr 258,vi 211 0,vi 0 0,vr 328,vi 220 0,vi 0 0,vr 358,vi 235 0,vi 0 0,vr 394,vi 243 0,vi 0 0,vr 421,vi 264 0,vi 0 0,vr 463,vi 282 0,vi 0 0,vr 512,vi 297 0,vi 0 0,vr 545,vi 338 0,vi 0 0,vr 602,vi 374 0,vi 0 0,vr 660,vi 589 0,vi 0 0,vr 933,vi 652 0,vi 0 0,vr 1066,vi 672 0,vi 0 0,vr 1109,vi 926 0,vi 0 0,vr 1394,vi 931 0,vi 0 0,vr 1401,vi 935 0,vi 0 0,vr 1408,vi 939 0,vi 0 0,vr 1414,vi 941 0,vi 0 0,vr 1419,vi 943 0,vi 0 0,vr 1426,vi 952 0,vi 0 0,vr 1433,vi 959 0,vi 0 0,vr 1438])]
def T8(P:bq):BT:=grow (i7 (T7 P) (U7 P)) 1104 (NO P++NP P)
noncomputable def gg:Env:={scope:=pw.main.scope,locals:=mainNs,globals:=mainNs,cells:=[],code:=.ref 13,frame:=aa 14}
def hC:Code:=.body (Hv pw) gg
abbrev hB:List Frame:=[topFrame ⟨0,0,0,0⟩]
noncomputable def dm(T:BT)(n k:Nat)(os:jU):SharedT:=⟨T,n,{},⟨[]⟩,{},k,os⟩
noncomputable def cw(i n:Nat):List Stmt:=(pw.main.body.drop i).take n
abbrev hV:=@PySem.W.Fast.tw10110043849684766642
abbrev hW:=PySem.W.Fast.tw14364793385576792824
theorem P0(w:bD):(λos=>hV hW pw (w) 11 (aa (.ref 6)) 1 953 (dm (T0 (w).params) 15 187 os) (iu (cw 0 4) gg hC ⟨0,0,0,0⟩ hB))=
  fun os=>aa (.next,dm (T1 (w).params) 79 301 os,hC,⟨7,0,34,94⟩):=by kernel_rfl
theorem NQ(w:bD):(λos=>hV hW pw (w.withFollow "special-get-raises" false) 11 (aa (.ref 6)) 1 125 (dm (T1 (w.withFollow "special-get-raises" false).params) 79 301 os) (iu (cw 4 2) gg hC ⟨7,0,34,94⟩ hB))=
  fun os=>aa (.next,dm (T2 (w.withFollow "special-get-raises" false).params) 81 327 os,hC,⟨36,0,36,1⟩):=by kernel_rfl
theorem NR(w:bD):(λos=>hV hW pw (w.withFollow "special-get-raises" true) 11 (aa (.ref 6)) 1 125 (dm (T1 (w.withFollow "special-get-raises" true).params) 79 301 os) (iu (cw 4 2) gg hC ⟨7,0,34,94⟩ hB))=
  fun os=>aa (.next,dm (T2 (w.withFollow "special-get-raises" true).params) 81 327 os,hC,⟨36,0,36,1⟩):=by kernel_rfl
theorem P1(w:bD):(λos=>hV hW pw w 11 (aa (.ref 6)) 1 125 (dm (T1 w.params) 79 301 os) (iu (cw 4 2) gg hC ⟨7,0,34,94⟩ hB))=
  fun os=>aa (.next,dm (T2 w.params) 81 327 os,hC,⟨36,0,36,1⟩):=
 byRow2 "special-get-raises" (P:=λw=>(λos=>hV hW pw w 11 (aa (.ref 6)) 1 125 (dm (T1 w.params) 79 301 os) (iu (cw 4 2) gg hC ⟨7,0,34,94⟩ hB))=
  fun os=>aa (.next,dm (T2 w.params) 81 327 os,hC,⟨36,0,36,1⟩)) NQ NR w
theorem P2(w:bD):(λos=>hV hW pw (w) 11 (aa (.ref 6)) 1 2491 (dm (T2 (w).params) 81 327 os) (iu (cw 6 8) gg hC ⟨36,0,36,1⟩ hB))=
  fun os=>aa (.next,dm (T3 (w).params) 253 687 os,hC,⟨82,0,176,69⟩):=by kernel_rfl
theorem P3(w:bD):(λos=>hV hW pw (w) 11 (aa (.ref 6)) 1 1919 (dm (T3 (w).params) 253 687 os) (iu (cw 14 6) gg hC ⟨82,0,176,69⟩ hB))=
  fun os=>aa (.next,dm (T4 (w).params) 457 943 os,hC,⟨243,0,263,61⟩):=by kernel_rfl
theorem P4(w:bD):(λos=>hV hW pw (w) 11 (aa (.ref 6)) 1 2163 (dm (T4 (w).params) 457 943 os) (iu (cw 20 4) gg hC ⟨243,0,263,61⟩ hB))=
  fun os=>aa (.next,dm (T5 (w).params) 655 1186 os,hC,⟨338,0,373,58⟩):=by kernel_rfl
theorem P5(w:bD):(λos=>hV hW pw (w) 11 (aa (.ref 6)) 1 2813 (dm (T5 (w).params) 655 1186 os) (iu (cw 24 1) gg hC ⟨338,0,373,58⟩ hB))=
  fun os=>aa (.next,dm (T6 (w).params) 928 1492 os,hC,⟨374,0,588,54⟩):=by kernel_rfl
theorem P6(w:bD):(λos=>hV hW pw (w) 11 (aa (.ref 6)) 1 1865 (dm (T6 (w).params) 928 1492 os) (iu (cw 25 3) gg hC ⟨374,0,588,54⟩ hB))=
  fun os=>aa (.next,dm (T7 (w).params) 1104 1746 os,hC,⟨652,0,671,16⟩):=by kernel_rfl
theorem P7(w:bD):(λos=>hV hW pw (w) 11 (aa (.ref 6)) 1 1883 (dm (T7 (w).params) 1104 1746 os) (iu (cw 28 11) gg hC ⟨652,0,671,16⟩ hB))=
  fun os=>aa (.next,dm (T8 (w).params) 1440 2205 os,hC,⟨959,0,993,41⟩):=by kernel_rfl
def hq:Program:={pw with main:={pw.main with body:=[cS 38]}}
noncomputable def mR:List Str:=(pw.boundNames).filter fun n=>n != dU "law"
def A0(P:bq):Heap:=⟨⟨(jp P).objs.toList++[ot [],of vn [],of (.type "code") [vs "<module>" 182,vs "<module>" 183,vs "/claim/cut.py" 184,vi 1 0,vi 0 0,vi 0 0,vi 0 0,vi 0 0,vr 11,.bool false,vi 181 0,vr 12,vn,vn,vn,vn,vi 185 0,vi 1 0,vs "/claim/cut.py" 186],⟨(.type "frame"),none,.plain,⟨[aa (vr 13),aa (vr 3),aa (vr 3),none,aa (vs "__main__" 164),none,aa (vr 0)]⟩⟩]⟩,{}⟩
theorem pre(w:bD)(os:jU):topGo nV pw w 11 (aa (.ref 6)) 12 ⟨jp w.params,⟨[]⟩,yO,yP,os⟩ (topStub pw)=
  aa (⟨A0 w.params,⟨[]⟩,{},187,os⟩,⟨denote nV hC,hC,⟨0,0,0,0⟩,hB⟩):=by kernel_rfl
theorem block(w:bD)(os:jU):segRun nV pw w 11 (aa (.ref 6)) 1 1 ⟨A0 w.params,⟨[]⟩,{},187,os⟩ (blockOf (Hv pw) gg hC ⟨0,0,0,0⟩ hB)=
  aa (.next,(dm (T0 w.params) 15 187 os).abs,hC,⟨0,0,0,0⟩):=by kernel_rfl
theorem size(w:bD):((jp w.params).isNs mainGlobals&&(⟨[]⟩:Array GenState).size == 0,(jp w.params).objs.size,(jp w.params).nsMap mainGlobals "__annotations__")=(true,11,aa (.ref 6)):=by kernel_rfl
theorem NS:opening pw=plainProg pw.main.scope.names:=by kernel_rfl
theorem NT(s:Shared):fenceModules? pw s=aa s:=by kernel_rfl
theorem fin(w:bD)(os:jU):topRun nV pw w 11 (aa (.ref 6)) 2 (dm (T8 w.params) 1440 2205 os).abs ⟨doneF .next,hC,⟨959,0,993,41⟩,hB⟩=aa (dm (T8 w.params) 1440 2205 os).abs:=by rfl
theorem kD{w:bD}{n:Nat}{s s':SharedT}{l:List Stmt}{p p':Pos}(h:hV hW pw w 11 (aa (.ref 6)) 1 n s (iu l gg hC p hB)=aa (.next,s',hC,p')):
  segRun nV pw w 11 (aa (.ref 6)) 1 n s.abs (iu l gg hC p hB)=aa (.next,s'.abs,hC,p'):=by
 refine segRun_of ?_
 rw[PySem.W.Fast.te10110043849684766642,PySem.W.Fast.te14364793385576792824]
 exact h
theorem NU:Hv pw=cw 0 4++(cw 4 2++(cw 6 8++(cw 14 6++(cw 20 4++(cw 24 1++(cw 25 3++(cw 28 11++[]))))))):=by kernel_rfl
theorem run(w:bD)(os:jU):topRun nV pw w 11 (aa (.ref 6)) (12+(1+(953+(125+(2491+(1919+(2163+(2813+(1865+(1883+2)))))))))) ⟨jp w.params,⟨[]⟩,yO,yP,os⟩ (topStub pw)=aa (dm (T8 w.params) 1440 2205 os).abs:=by
 exact go_top (pre w os) (piece_block (block w os) (by
  rw[NU]
  exact l9 (kD (congrFun (P0 w) os)) (l9 (kD (congrFun (P1 w) os)) (l9 (kD (congrFun (P2 w) os)) (l9 (kD (congrFun (P3 w) os)) (l9 (kD (congrFun (P4 w) os)) (l9 (kD (congrFun (P5 w) os)) (l9 (kD (congrFun (P6 w) os)) (l9 (kD (congrFun (P7 w) os)) (piece_nil (fin w os)))))))))))
def H1(P:bq):Heap:=absHeap (T8 P) 1440 {}
def Sf(P:bq)(os:jU):Shared:=⟨H1 P,⟨[]⟩,{},2205,os⟩
theorem NV(w:bD):(λos=>(staticsOk (HG pw.main.body) (jp w.params) (H1 w.params)&&namesBound pw (H1 w.params)&&gensDone ⟨H1 w.params,⟨[]⟩,{},2205,os⟩&&laidKept (jp w.params) (H1 w.params)))=λ_=>true:=by kernel_rfl
theorem NW(w:bD):(λos=>PySem.W.Fast.tw4187177175401517315 hq mR (HG pw.main.body) (λ_=>true) true (Sf w.params os))=λ_=>openGood hq mR:=by kernel_rfl
def lawD:DefRec:=match cS 38 with
 | .FunctionDef n a b _ _ _ sc _ _ pos=>⟨n,a,b,sc,pos⟩
 |_=>⟨lb,⟨[],[],none,[],[],none,[]⟩,[],⟨.function,[],false,false,[]⟩,⟨0,0,0,0⟩⟩
theorem hdef2:defOf hq (dU "law")=aa (lawD,[]):=by kernel_rfl
theorem theDef:pw.theDef (dU "law")=aa (lawD.params,lawD.body,lawD.scope):=by kernel_rfl
theorem kww:kwWritten? lawD.params.kwonlyargs lawD.params.kw_defaults=aa []:=by kernel_rfl
abbrev rw2:OpenRow:=yK.row
theorem oks:(chainsOk hq&&opensWell rw2.prog&&(frees rw2.toRowW&&rw2.within.isEmpty))=true:=by kernel_rfl
theorem promised:rw2.toRowW.promised:=⟨[WData.list []],by kernel_rfl,by kernel_rfl⟩
theorem rbare:rw2.prog.bare:=by
 show pw.bare
 exact⟨by kernel_rfl,by kernel_rfl,by kernel_rfl,by kernel_rfl,by kernel_rfl,by decide+kernel⟩
theorem NX:PySem.W.Fast.tw9446332074065402090 yK=true:=by kernel_rfl
theorem wsaid:OpenLaw.wellSaid yK=true:=by rw[PySem.W.Fast.te9446332074065402090];exact NX
theorem NY(T:BT)(n k:Nat)(os:jU):(dm T n k os).abs=⟨absHeap T n {},⟨[]⟩,{},k,os⟩:=rfl
theorem NZ(w:bD)(os:jU):topRun nV pw w 11 (aa (.ref 6)) (12+(1+(953+(125+(2491+(1919+(2163+(2813+(1865+(1883+2)))))))))) ⟨jp w.params,⟨[]⟩,yO,yP,os⟩ (topStub pw)=aa ⟨H1 w.params,⟨[]⟩,{},2205,os⟩:=by
 rw[run,NY]
 unfold H1
 with_reducible rfl
theorem headLeft(H:Hook)(lookC:∀w os,H.obs ⟨H1 w.params,⟨[]⟩,{},2205,os⟩=H.val w):LeftO rw2.prog hq mR (λ_=>true) H.obs H.val 60000 true:=by
 refine LeftO.of_pieces (H₀:=jp) (H₁:=H1) (gs₀:=⟨[]⟩) (gs₁:=⟨[]⟩) (d₀:=yO) (d₁:={}) (k₀:=yP) (k₁:=2205) (m₀:=11) (ann:=aa (.ref 6)) (M:=12+(1+(953+(125+(2491+(1919+(2163+(2813+(1865+(1883+2))))))))))
  (boot_open NS (by decide) NT) size NZ (by decide) (λw=>?_)
 funext os
 have a:=congrFun (NV w) os
 have b:openSeen hq mR (HG pw.main.body) (λ_=>true) true ⟨H1 w.params,⟨[]⟩,{},2205,os⟩=openGood hq mR:=by
  rw[PySem.W.Fast.te4187177175401517315]
  exact congrFun (NW w) os
 exact looks_pair a (looks_pair b (lookC w os))
end
end Mine
end
noncomputable section
open PySem PySem.W PySem.Calls PyProof.Rows
namespace Mine
noncomputable abbrev gO:Addr:=318
noncomputable abbrev oK:Addr:=386
noncomputable abbrev eV:Addr:=454
noncomputable abbrev eW:Addr:=536
noncomputable abbrev gP:Addr:=923
noncomputable abbrev gQ:Addr:=1056
noncomputable abbrev gr:Addr:=1099
noncomputable abbrev d6:Addr:=1384
noncomputable abbrev BR:Addr:=48
noncomputable abbrev BS:Addr:=58
noncomputable abbrev BU:Addr:=87
noncomputable abbrev BV:Addr:=99
noncomputable abbrev BW:Addr:=106
noncomputable abbrev BY:Addr:=113
noncomputable abbrev BZ:Addr:=141
noncomputable abbrev B0:Addr:=151
noncomputable abbrev B1:Addr:=161
noncomputable abbrev B2:Addr:=171
noncomputable abbrev B3:Addr:=266
noncomputable abbrev B4:Addr:=273
noncomputable abbrev B5:Addr:=287
noncomputable abbrev B6:Addr:=294
noncomputable abbrev B7:Addr:=308
noncomputable abbrev B8:Addr:=315
noncomputable abbrev q7:Addr:=336
noncomputable abbrev B9:Addr:=343
noncomputable abbrev oM:Addr:=368
noncomputable abbrev Ca:Addr:=375
noncomputable abbrev Cb:Addr:=383
noncomputable abbrev Cd:Addr:=429
noncomputable abbrev Ce:Addr:=437
noncomputable abbrev Cg:Addr:=444
noncomputable abbrev Ch:Addr:=520
noncomputable abbrev Ci:Addr:=525
noncomputable abbrev Cj:Addr:=668
noncomputable abbrev Ck:Addr:=678
noncomputable abbrev Cm:Addr:=692
noncomputable abbrev Cn:Addr:=707
noncomputable abbrev Co:Addr:=714
noncomputable abbrev Cp:Addr:=722
noncomputable abbrev Cq:Addr:=730
noncomputable abbrev Cr:Addr:=738
noncomputable abbrev Cs:Addr:=753
noncomputable abbrev Ct:Addr:=761
noncomputable abbrev Cu:Addr:=769
noncomputable abbrev Cv:Addr:=784
noncomputable abbrev Cw:Addr:=808
noncomputable abbrev Cy:Addr:=824
noncomputable abbrev Cz:Addr:=832
noncomputable abbrev CA:Addr:=839
noncomputable abbrev CB:Addr:=855
noncomputable abbrev CC:Addr:=863
noncomputable abbrev CD:Addr:=903
noncomputable abbrev q8:Addr:=919
noncomputable abbrev CE:Addr:=951
noncomputable abbrev CF:Addr:=961
noncomputable abbrev CG:Addr:=991
noncomputable abbrev CH:Addr:=998
noncomputable abbrev CI:Addr:=1006
noncomputable abbrev CJ:Addr:=1014
noncomputable abbrev CK:Addr:=1023
noncomputable abbrev CL:Addr:=1031
noncomputable abbrev CM:Addr:=1039
noncomputable abbrev CN:Addr:=1074
noncomputable abbrev CO:Addr:=1118
noncomputable abbrev CP:Addr:=1155
noncomputable abbrev CQ:Addr:=1169
noncomputable abbrev CR:Addr:=1176
noncomputable abbrev CS:Addr:=1190
noncomputable abbrev CT:Addr:=1197
noncomputable abbrev CU:Addr:=1204
noncomputable abbrev CV:Addr:=1219
noncomputable abbrev CW:Addr:=1233
noncomputable abbrev CX:Addr:=1262
noncomputable abbrev CY:Addr:=1270
noncomputable abbrev CZ:Addr:=1301
noncomputable abbrev C2:Addr:=1308
noncomputable abbrev C3:Addr:=1315
noncomputable abbrev q9:Addr:=1366
noncomputable abbrev C4:Addr:=1395
noncomputable abbrev C5:Addr:=1402
noncomputable abbrev C6:Addr:=1409
noncomputable abbrev C7:Addr:=1415
noncomputable abbrev C8:Addr:=1420
noncomputable abbrev C9:Addr:=1427
noncomputable abbrev Db:Addr:=1434
noncomputable abbrev rc:Addr:=1439
noncomputable def KA:List Addr:=[2,3,47,48,50,57,58,60,73,74,79,80,86,87,98,99,105,106,112,113,140,141,143,150,151,153,160,161,163,170,171,173,247,248,265,266,272,273,286,287,293,294,307,308,314,315,317,318,335,336,342,343,344,346,347,355,360,367,368,374,375,376,382,383,385,386,428,429,430,436,437,443,444,453,454,519,520,524,525,526,535,536,667,668,670,677,678,691,692,693,706,707,713,714,715,721,722,723,729,730,731,737,738,752,753,754,760,761,762,768,769,783,784,785,807,808,809,823,824,825,831,832,838,839,840,854,855,856,862,863,864,902,903,904,918,919,920,922,923,950,951,953,960,961,963,990,991,997,998,999,1005,1006,1007,1013,1014,1015,1016,1022,1023,1024,1030,1031,1032,1038,1039,1055,1056,1073,1074,1098,1099,1111,1117,1118,1154,1155,1168,1169,1175,1176,1189,1190,1196,1197,1203,1204,1212,1218,1219,1232,1233,1261,1262,1263,1269,1270,1300,1301,1307,1308,1314,1315,1365,1366,1383,1384,1394,1395,1401,1402,1408,1409,1410,1414,1415,1419,1420,1426,1427,1433,1434,1438,1439]
def KK(P:bq):Frag:=KA.filterMap fun a=>((T8 P).get a).map fun o=>(a,o)
noncomputable def a9(st:Stmt)(ds:List Value)(cl:List (Str×Addr)):FnD:=match st with
 | .FunctionDef _ a b _ _ _ sc _ _ _=>⟨b,sc,a.args.map (·.arg),ds,cl,true⟩
 |_=>⟨[],⟨.function,[],false,false,[]⟩,[],[],[],false⟩
noncomputable abbrev S(x:String):Str:=dU x
def vQ:FnD:=a9 (ak 3 4) [] []
def vR:FnD:=a9 (ak 3 5) [] []
def rd:FnD:=a9 (cS 6) [] []
def eG:FnD:=a9 (cS 8) [] []
def rj:FnD:=a9 (cS 9) [] []
def vS:FnD:=a9 (cS 10) [] []
def vT:FnD:=a9 (ak 13 28) [] []
def vU:FnD:=a9 (ak 13 29) [] []
def vV:FnD:=a9 (ak 13 30) [] []
def vW:FnD:=a9 (ak 13 31) [] []
def vX:FnD:=a9 (ak 15 0) [] []
def vY:FnD:=a9 (ak 15 1) [] []
def vZ:FnD:=a9 (ak 15 3) [] []
def rn:FnD:=a9 (ak 15 4) [] []
def v8:FnD:=a9 (ak 15 6) [] []
def v9:FnD:=a9 (ak 15 7) [] []
def rt:FnD:=a9 (ak 16 0) [] []
def wb:FnD:=a9 (ak 16 1) [] []
def D_Sized_init:FnD:=a9 (ak 17 0) [.int 0 831] [(S "__class__",355)]
def rx:FnD:=a9 (ak 17 1) [] []
def rz:FnD:=a9 (ak 17 2) [] []
def wc:FnD:=a9 (ak 19 0) [] []
def we:FnD:=a9 (ak 19 1) [] []
def wf:FnD:=a9 (ak 19 2) [] []
def wg:FnD:=a9 (ak 21 0) [] []
def iG:FnD:=a9 (ak 21 1) [] []
def rB:FnD:=a9 (ak 24 0) [] []
def wh:FnD:=a9 (ak 24 1) [] []
def wi:FnD:=a9 (ak 24 3) [] []
def wj:FnD:=a9 (ak 24 5) [] []
def wl:FnD:=a9 (ak 24 6) [] []
def wm:FnD:=a9 (ak 24 7) [] []
def wn:FnD:=a9 (ak 24 8) [] []
def mS:FnD:=a9 (ak 24 9) [] []
def wo:FnD:=a9 (ak 24 11) [] []
def wq:FnD:=a9 (ak 24 12) [] []
def mT:FnD:=a9 (ak 24 13) [] []
def wt:FnD:=a9 (ak 24 15) [] []
def wu:FnD:=a9 (ak 24 18) [] []
def wv:FnD:=a9 (ak 24 20) [] []
def ww:FnD:=a9 (ak 24 21) [] []
def wx:FnD:=a9 (ak 24 22) [] []
def wy:FnD:=a9 (ak 24 24) [] []
def rE:FnD:=a9 (ak 24 25) [] []
def wz:FnD:=a9 (ak 24 30) [] []
def kE:FnD:=a9 (ak 24 32) [] []
def wA:FnD:=a9 (ak 25 1) [] []
def wB:FnD:=a9 (ak 25 2) [] []
def wE:FnD:=a9 (ak 25 5) [] []
def wF:FnD:=a9 (ak 25 6) [] []
def wG:FnD:=a9 (ak 25 7) [] []
def wH:FnD:=a9 (ak 25 8) [] []
def rF:FnD:=a9 (ak 25 9) [.int 0 1634] []
def mU:FnD:=a9 (ak 25 10) [.int 0 1643] []
def wI:FnD:=a9 (ak 25 11) [.int 0 1656] []
def wJ:FnD:=a9 (ak 27 0) [] []
def wK:FnD:=a9 (ak 28 0) [.bool false,.bool true,.int 0 1758] []
def wL:FnD:=a9 (ak 28 5) [] []
def wM:FnD:=a9 (ak 28 7) [] []
def kG:FnD:=a9 (ak 28 8) [] []
def wN:FnD:=a9 (ak 28 10) [] []
def hZ:FnD:=a9 (ak 28 11) [] []
def wO:FnD:=a9 (ak 28 12) [] []
def bK:FnD:=a9 (ak 28 14) [.none] []
def wP:FnD:=a9 (ak 28 16) [] []
def wQ:FnD:=a9 (ak 28 20) [] []
def wR:FnD:=a9 (ak 28 21) [.int 0 1967] []
def wS:FnD:=a9 (ak 28 25) [] []
def wT:FnD:=a9 (ak 28 26) [] []
def fc:FnD:=a9 (ak 28 27) [] []
def kH:FnD:=a9 (ak 28 34) [] []
def wU:FnD:=a9 (cS 29) [] []
def wV:FnD:=a9 (cS 30) [] []
def wW:FnD:=a9 (cS 31) [] []
def i8:FnD:=a9 (cS 34) [] []
def i9:FnD:=a9 (cS 35) [] []
def wX:FnD:=a9 (cS 36) [] []
def eX:FnD:=a9 (cS 37) [] []
def D_law:FnD:=a9 (cS 38) [] []
def Ds:List (Addr×FnD):=[(48,vQ),(58,vR),(87,rd),(99,eG),(106,rj),(113,vS),(141,vT),(151,vU),(161,vV),(171,vW),(266,vX),(273,vY),(287,vZ),(294,rn),(308,v8),(315,v9),(336,rt),(343,wb),(368,D_Sized_init),(375,rx),(383,rz),(429,wc),(437,we),(444,wf),(520,wg),(525,iG),(668,rB),(678,wh),(692,wi),(707,wj),(714,wl),(722,wm),(730,wn),(738,mS),(753,wo),(761,wq),(769,mT),(784,wt),(808,wu),(824,wv),(832,ww),(839,wx),(855,wy),(863,rE),(903,wz),(919,kE),(951,wA),(961,wB),(991,wE),(998,wF),(1006,wG),(1014,wH),(1023,rF),(1031,mU),(1039,wI),(1074,wJ),(1118,wK),(1155,wL),(1169,wM),(1176,kG),(1190,wN),(1197,hZ),(1204,wO),(1219,bK),(1233,wP),(1262,wQ),(1270,wR),(1301,wS),(1308,wT),(1315,fc),(1366,kH),(1395,wU),(1402,wV),(1409,wW),(1415,i8),(1420,i9),(1427,wX),(1434,eX),(1439,D_law)]
def globM:List (Str×PV):=[(S "_Unpack",.const (.ref 87)),(S "_Pack",.const (.ref 99)),(S "_Mutate",.const (.ref 106)),(S "_PaddingBytes",.const (.ref 113)),(S "GetRoot",.const (.ref 1395)),(S "Dumps",.const (.ref 1402)),(S "Loads",.const (.ref 1409)),(S "_law_text",.const (.ref 1415)),(S "_law_size",.const (.ref 1420)),(S "_law_value",.const (.ref 1427)),(S "_law_alike",.const (.ref 1434)),(S "law",.const (.ref 1439)),(S "BitWidth",.const (.ref 74)),(S "Type_flexbuffers",.const (.ref 248)),(S "Buf",.const (.ref 318)),(S "String",.const (.ref 454)),(S "Vector",.const (.ref 536)),(S "Ref",.const (.ref 923)),(S "Value_flexbuffers",.const (.ref 1056)),(S "Pool",.const (.ref 1099)),(S "Builder",.const (.ref 1384)),(S "I",.const (.ref 79)),(S "U",.const (.ref 80))]
def globB:List (Str×PV):=[(S "len",.const (.builtin "len")),(S "isinstance",.const (.builtin "isinstance")),(S "max",.const (.builtin "max")),(S "ord",.const (.builtin "ord")),(S "sum",.const (.builtin "sum")),(S "int",.const (.type "int")),(S "bool",.const (.type "bool")),(S "str",.const (.type "str")),(S "bytes",.const (.type "bytes")),(S "bytearray",.const (.type "bytearray")),(S "list",.const (.type "list")),(S "tuple",.const (.type "tuple")),(S "dict",.const (.type "dict")),(S "range",.const (.type "range")),(S "enumerate",.const (.type "enumerate")),(S "zip",.const (.type "zip")),(S "super",.const (.type "super"))]
def wY:List (Str×PV):=[(S "_law_letters",.list [.str (S "a"),.str (S "Z"),.str (S "~"),.str (S "é")])]
def cattr0:List (Addr×List (Str×PV)):=[(74,[(S "W8",.int 0),(S "W16",.int 1),(S "W32",.int 2),(S "W64",.int 3),(S "U",.const (.ref 48)),(S "I",.const (.ref 58))]),(248,[(S "NULL",.int 0),(S "INT",.int 1),(S "UINT",.int 2),(S "FLOAT",.int 3),(S "KEY",.int 4),(S "STRING",.int 5),(S "INDIRECT_INT",.int 6),(S "INDIRECT_UINT",.int 7),(S "MAP",.int 9),(S "VECTOR",.int 10),(S "BLOB",.int 25),(S "BOOL",.int 26),(S "Of",.const (.ref 141)),(S "Pack",.const (.ref 151)),(S "Unpack",.const (.ref 161)),(S "IsInline",.const (.ref 171))]),(1056,[(S "Bool",.const (.ref 951)),(S "Int",.const (.ref 961))]),(923,[(S "PackedType",.const (.ref 668))])]
def cmeth0:List (Addr×List (Str×Addr)):=[(318,[(S "__getitem__",273),(S "Part",287),(S "Put",294),(S "Slice",308),(S "Indirect",315)]),(454,[(S "__len__",383),(S "Mutate",437),(S "__str__",444)]),(536,[(S "__len__",383),(S "__getitem__",520)]),(923,[(S "MutateInt",769),(S "MutateBool",738),(S "MutateString",832),(S "_Indirect",707)]),(1056,[(S "StoredPackedType",1023),(S "ElemWidth",1031),(S "StoredWidth",1039)]),(1384,[(S "Add",1366),(S "Finish",1155),(S "_Align",1169),(S "_Write",1176),(S "_WriteOffset",1190),(S "_WriteAny",1197),(S "_WriteBlob",1204),(S "_CreateVector",1219),(S "String",1233),(S "Bool",1262),(S "Int",1270),(S "_StartVector",1301),(S "_EndVector",1308),(S "VectorFromElements",1315)])]
def cprop0:List (Addr×List (Str×Addr)):=[(454,[(S "Bytes",429),(S "SizeBytes",375)]),(536,[(S "Value",525),(S "SizeBytes",375),(S "ByteWidth",343)]),(923,[(S "IsNull",714),(S "IsBool",722),(S "AsBool",730),(S "IsInt",753),(S "AsInt",761),(S "IsString",808),(S "AsString",824),(S "IsKey",784),(S "IsBlob",839),(S "IsMap",903),(S "IsVector",855),(S "AsVector",863),(S "Value",919),(S "_Bytes",692)]),(1056,[(S "Value",998),(S "Type",1006),(S "MinBitWidth",1014)])]
def cfld0:List (Addr×List Str):=[(318,[S "_buf",S "_offset",S "_length"]),(454,[S "_buf",S "_byte_width",S "_size"]),(536,[S "_buf",S "_byte_width",S "_size"]),(923,[S "_buf",S "_parent_width",S "_byte_width",S "_type"]),(1056,[S "_value",S "_type",S "_min_bit_width"]),(1099,[S "_pool"]),(1384,[S "_share_strings",S "_share_keys",S "_force_min_bit_width",S "_string_pool",S "_key_pool",S "_finished",S "_buf",S "_stack",S "finished"])]
def idict0:List (Addr×List (Int×Str)):=[(79,[(1,S "b"),(2,S "h"),(4,S "i"),(8,S "q")]),(80,[(1,S "B"),(2,S "H"),(4,S "I"),(8,S "Q")])]
noncomputable def N0:List (Nat×Nat):=[(6820220682024,2),(9600100960078,20),(9640110964073,21)]
noncomputable abbrev rG:Addr:=1410
def dA(fns:List (Addr×Spec))(bud:Nat):aI:=⟨globM++(globB++wY),cattr0,cmeth0,cprop0,cfld0,vO,idict0,fns,bls0,tys0,N0,bud⟩
theorem N1(P:bq):(KA.all fun a=>Hb a 1440&&match(T8 P).get a with |some o=>!o.isFreed |none=>false)=true:=by kernel_rfl
theorem N3(P:bq):Ds.map (λp=>jK (KK P) p.1)=Ds.map fun p=>aa p.2:=by kernel_rfl
theorem N4(P:bq):(cattr0.all fun c=>c.2.all fun x=>(qw (KK P) c.1 x.1).any fun v=>mH x.2 v)=true:=by kernel_rfl
theorem N5(P:bq):(cmeth0.all fun c=>c.2.all fun x=>jF (KK P) c.1 x.1 == aa x.2&&gX (KK P) x.2)=true:=by kernel_rfl
theorem N6(P:bq):(cprop0.all fun c=>c.2.all fun x=>qu (KK P) c.1 x.1 == aa x.2&&gX (KK P) x.2)=true:=by kernel_rfl
theorem N7(P:bq):(cfld0.all fun c=>c.2.all fun x=>Am (KK P) c.1 x&&uv (KK P) c.1 x)=true:=by kernel_rfl
theorem N8(P:bq):(idict0.all fun c=>By (KK P) c.1 == aa c.2)=true:=by kernel_rfl
theorem N9(P:bq):(globM.all fun c=>match iR (KK P) 3 c.1 with |some (aa v)=>mH c.2 v |_=>false)=true:=by kernel_rfl
theorem Oa(P:bq):(globB.all fun c=>(iR (KK P) 3 c.1 == aa none)&&(tm c.1).any fun v=>mH c.2 v)=true:=by kernel_rfl
def cO{α:Type}(o:Option α)(f:α->Prop):Prop:=match o with |some a=>f a |none=>False
noncomputable def jM:Nat->List Stmt->List (List Stmt)
 |0,_=>[]
 |n+1,l=>match l with
  | []=>[]
  |s::r=>(s::r)::((match s with
   | .If _ b o _=>jM n b++jM n o
   | .For _ _ b o _=>jM n b++jM n o
   | .Try b _ o f _=>jM n b++(jM n o++jM n f)
   |_=>[])++jM n r)
def bj(D:FnD)(i:Nat):List Stmt:=((jM 60 D.body)[i]?).getD []
def gt(D:FnD)(i:Nat):Expr:=match bj D i with
 | .For t _ _ _ _::_=>t
 |_=>.Constant .none 0 ⟨0,0,0,0⟩
noncomputable def mV:Nat->Expr->List (Expr×kW×Scope)
 |0,_=>[]
 |n+1,e=>match e with
  | .ListComp elt [g] sc _=>[(elt,g,sc)]
  | .Call f as _ _=>mV n f++as.flatMap (mV n)
  | .BinOp l _ r _=>mV n l++mV n r
  |_=>[]
def Ob(l:List Stmt):List (Expr×kW×Scope):=l.flatMap fun s=>match s with
 | .Assign _ e _=>mV 9 e
 | .Return (aa e) _=>mV 9 e
 |_=>[]
def fQ(D:FnD)(i:Nat):Expr×kW×Scope:=((Ob D.body)[i]?).getD (.Constant .none 0 ⟨0,0,0,0⟩,⟨.Constant .none 0 ⟨0,0,0,0⟩,.Constant .none 0 ⟨0,0,0,0⟩,[],0⟩,⟨.function,[],false,false,[]⟩)
def gu(D:FnD)(i:Nat):Scope:=(fQ D i).2.2
def lP(D:FnD)(i:Nat):Expr:=(fQ D i).2.1.target
noncomputable abbrev br(D:FnD):FCtx:=⟨D.scope,[]⟩
noncomputable abbrev zI(i:Int):Int:=i
noncomputable abbrev vI(i:Int):AV:=.pv (.int i)
noncomputable abbrev vB(b:Bool):AV:=.pv (.bool b)
noncomputable abbrev vN:AV:=.pv .none
abbrev kF(Q:AV->St->Prop):Fl->aw->St->Prop:=on Q
def kS(T:aI)(C:FCtx)(n:Nat)(r:List Stmt)(Q:Fl->aw->St->Prop):Fl->aw->St->Prop:=mB (λenv σ=>fC T C n r env σ Q) Q
def kX(T U:aI)(N:XN)(C:FCtx)(n:Nat)(r:List Stmt)(Q:Fl->aw->St->Prop):Fl->aw->St->Prop:=mB (λenv σ=>bt T U N C n r env σ Q) Q
def kT(T U:aI)(N:XN)(C:FCtx)(n:Nat)(r:List Stmt)(Q:Fl->aw->St->Prop):Fl->aw->St->Prop:=vC (bt T U N C n r) Q
abbrev bR(o l:Int):AV:=.obj gO [(S "_buf",.loc 1),(S "_offset",vI o),(S "_length",vI l)]
abbrev bY(o l pw bw t:Int):AV:=.obj gP [(S "_buf",bR o l),(S "_parent_width",vI pw),(S "_byte_width",vI bw),(S "_type",vI t)]
abbrev iH(o l bw n:Int):AV:=.obj eW [(S "_buf",bR o l),(S "_byte_width",vI bw),(S "_size",vI n)]
abbrev mX(o l bw n:Int):AV:=.obj eV [(S "_buf",bR o l),(S "_byte_width",vI bw),(S "_size",vI n)]
abbrev bk(p:PV)(t w:Int):PV:=.obj gQ [(S "_value",p),(S "_type",.int t),(S "_min_bit_width",.int w)]
theorem oN{α:Type}{E0:FCtx->Expr->aw->St->(AV->St->Prop)->Prop}{Cc:FCtx}{el t:Expr}{src:List (Nat×List PV)}{σ:St}{E:PV->aw}{f g:α->PV}{R:List PV->St->Prop}(h0:∀y,gI [] t (.pv y)=aa (E y))(h1:∀z y,gI (E z) t (.pv y)=aa (E y))
  (hs:dQ σ src) {xs:List α} (he:∀x∈xs,∀K:AV->St->Prop,K (.pv (g x)) σ->E0 Cc el (E (f x)) σ K) (hR:R (xs.map g) σ):ga E0 Cc el t src (xs.map f) [] [] σ R:=by
 have main:∀(l:List α) (env:aw) (acc:List PV),(env=[]\/∃z,env=E z)->(∀x∈l,x∈xs)->R (acc.reverse++l.map g) σ->ga E0 Cc el t src (l.map f) env acc σ R:=by
  intro l
  induction l with
  |nil=>intro env acc _ _ q;rw[GU,im] at q;exact q
  |cons x l ih=>
   intro env acc he' hm q
   have hb:gI env t (.pv (f x))=aa (E (f x)):=by
    rcases he' with rfl |⟨z,rfl⟩
    ·exact h0 _
    ·exact h1 _ _
   show ag (gI env t (.pv (f x))) _
   rw[hb]
   refine he x (hm x cM) _ ⟨hs,ih _ _ (.inr ⟨_,rfl⟩) (λy m=>hm y (cU _ m)) ?_⟩
   rw[G6,dS];exact q
 exact main xs [] [] (.inl rfl) (λ_ m=>m) hR
theorem mY{K:Fl->aw->St->Prop}(e:gI (cutE ns env) t (.pv x)=aa env1)
  (h:∀QQ:Fl->aw->St->Prop,(∀env' σ',dQ σ' src->c9 body t src ns r env' σ' K->QQ .next env' σ'/\QQ .cont env' σ')->body env1 σ QQ):c9 body t src ns (x::r) env σ K:=by
 show ag (gI (cutE ns env) t (.pv x)) _
 simp only[e]
 exact h _ fun env' σ' h1 h2=>⟨⟨h1,h2⟩,⟨h1,h2⟩⟩
theorem Oc(P:bq):((Ds.map (·.1)++[gO,eV,eW,gP,gQ,gr,d6]).all fun a=>nQ (KK P) (.ref a))=true:=by kernel_rfl
theorem Od(P:bq):yV (KK P) (.type "int") (.type "type") (dU "from_bytes")=aa (.get (.builtin "classmethod_descriptor.__get__") (.builtin "int.from_bytes") .none (.type "int")):=by kernel_rfl
def Dd(v:Value):Option (Str×fj):=cq fun h=>Hs v h fun x t=>aa (x,t)
theorem Oe(h:Dd v=aa q):v=.str q.1 q.2:=cF h fun i h=>Hs (motive:=λv=>∀i,(Hs v i fun x t=>aa (x,t))=aa q->v=.str q.1 q.2) v i (λ_ _ _ h=>ac h▸rfl) i h
noncomputable def De:List Str->List Value->Bool:=iN cm fun x _ ih l=>dZ (dF l) fun q=>dZ (Dd q.1) (λy=>y.1 == x)&&ih q.2
theorem Og:∀{xs:List Str} {l:List Value},De xs l=true->RepL P I (xs.map .str) l:=by
 intro v0
 induction v0 with
 |nil=>exact fun h=>cX h▸.nil
 |cons x xs ih=>exact fun h=>fO h fun q e h=>fO (b2 h).1 fun y e1 h1=>by rw[eU e,Oe e1,beq_iff_eq.mp h1];exact .cons .str (ih (b2 h).2)
def Df(K:Frag):Bool:=dZ (bN rG K) fun o=>o.cls == .type "list" &&iA o.dict&&cm o.slots.toList&&dZ (uY o.data) fun q=>De [S "a",S "Z",S "~",S "é"] q.1.toList
theorem Oh(P:bq):Df (KK P)=true:=by kernel_rfl
theorem Oi(P:bq):(iR (KK P) 3 (S "_law_letters") == aa (aa (.ref rG)))=true:=by kernel_rfl
theorem Oj:(globB.all fun c=>!(c.1 == ("__name__" :Str)))=true:=by decide+kernel
structure G0(E:Env0):Prop where
 p:E.prog=pw
 K:E.K=KK E.w.params
 m1:∀x v,iR E.K 3 x=aa (aa v)->E.mg x=aa v
 m0:∀x,iR E.K 3 x=aa none->E.mg x=none
 b:∀x:Str,x≠"__name__"->E.mb x=tm x
theorem kI [BEq α] [LawfulBEq α]:∀{l:List (α×β)} {x:α} {r:β},l.all f=true->l.lookup x=aa r->f (x,r)=true:=by
 intro v0
 induction v0 with
 |nil=>
  intro _ _ _ h
  exact nomatch h
 |cons f0 l ih=>
  intro x r a h
  obtain⟨y,u⟩:=f0
  simp only[sQ,bC] at a
  simp only[cr] at h
  cases q:x == y with
  |true=>replace h:=q▸h;have z0:=ac h;subst z0;rw[cE q];exact a.1
  |false=>replace h:=q▸h;exact ih a.2 h
theorem wZ{β:Type}{f:Addr->Str->β->Bool}{t:List (Addr×List (Str×β))}{a:Addr}{x:Str}{r:β}(h:(t.all fun c=>c.2.all fun y=>f c.1 y.1 y.2)=true)(e:fo t a x=aa r):f a x r=true:=by
 unfold fo at e
 refine e12 (Option.bind_eq_some_iff.mp e) fun l h1 h2=>?_
 have :=kI (f:=λc=>c.2.all fun y=>f c.1 y.1 y.2) h h1
 exact kI (f:=λy=>f a y.1 y.2) this h2
theorem rH [BEq α](a b:List (α×β))(x:α):(a++b).lookup x=(a.lookup x).or (b.lookup x):=by
 induction a with
 |nil=>rfl
 |cons p a ih=>
  obtain⟨y,w⟩:=p
  simp only[yy,cr,cr]
  cases x == y with
  |true=>rfl
  |false=>exact ih
theorem Ol{K:Frag}(h:Df K=true):RepP P (λa=>bN a K) (.list [.str (S "a"),.str (S "Z"),.str (S "~"),.str (S "é")]) (.ref rG):=by
 refine fO h fun o e h=>ax (b4 h) fun z0 h4=>ax z0 fun z1 h3=>ax z1 fun h1 h2=>fO h4 fun q e4 h4=>?_
 have r:=Og (P:=P) (I:=λa=>bN a K) h4
 obtain⟨c,d,dt,sl⟩:=o
 refine .list (vs:=q.1.toList) (n:=q.2) (e.trans (congrArg aa ?_)) (by decide) r.1 r.2
 rw[show c=_ from beq_iff_eq.mp h1,show d=_ from ls h2,show dt=_ from A5 e4,show sl=#[] from Array.toList_inj.mp (cX h3)]
def FOk(E:Env0)(l:List (Addr×Spec)):Prop:=∀p∈l,p.2.SoundC E (.ref p.1)/\nQ E.K (.ref p.1)=true
theorem Dg:∀{l:List (Nat×β)} {x:Nat} {r:β},l.lookup x=aa r->(x,r)∈l:=by
 intro v0
 induction v0 with
 |nil=>
  intro _ _ h
  exact nomatch h
 |cons f0 l ih=>
  intro x r h
  obtain⟨y,u⟩:=f0
  simp only[cr] at h
  cases q:x == y with
  |true=>replace h:=q▸h;have z0:=ac h;subst z0;rw[cE q];exact cM
  |false=>replace h:=q▸h;exact cU _ (ih h)
theorem rI{E:Env0}(g:G0 E){l:List (Addr×Spec)}{bud:Nat}(F:FOk E l):Ok E (dA l bud) where
 tab:=
  {glob:=λx p e=>by
    have e:(globM++(globB++wY)).lookup x=aa p:=e
    rw[rH,rH,Hh,Hh] at e
    rcases e with e |⟨_,e |⟨_,e⟩⟩
    ·have :=kI (N9 E.w.params) e
     dsimp only at this
     rw[<-g.K] at this
     split at this
     ·rename_i v hv
      exact(i12 v (uy this) (.inl (g.m1 _ _ hv)))
     ·exact bn this
    ·have h1:=kI (Oa E.w.params) e
     have h2:=kI Oj e
     dsimp only at h1 h2
     rw[<-g.K,bC] at h1
     obtain⟨h1,h3⟩:=h1
     refine e12 ((Xi _ _).mp h3) fun v hv r=>?_
     exact(i12 v (uy r) (.inr ⟨g.m0 _ (cE h1),by simp only[g.b x (λq=>by subst q;exact bn h2),hv]⟩))
    ·unfold wY at e
     simp only[cr] at e
     cases q:x == S "_law_letters" with
     |true=>
      rw[q] at e
      have z0:=ac e;subst z0
      have :=cE (Oi E.w.params)
      rw[<-g.K,<-cE q] at this
      exact(i12 (.ref rG) (Ol (by rw[g.K];exact Oh _)) (.inl (g.m1 _ _ this)))
     |false=>rw[q] at e;exact aD e
   cattr:=λC x p e=>by
    have :=wZ (f:=λC x p=>(qw (KK E.w.params) C x).any fun v=>mH p v) (N4 E.w.params) e
    rw[<-g.K] at this
    refine e12 ((Xi _ _).mp this) fun v hv r=>?_
    exact(i12 v hv r)
   cmeth:=λC m f e=>by
    have :=wZ (f:=λC m f=>jF (KK E.w.params) C m == aa f&&gX (KK E.w.params) f) (N5 E.w.params) e
    rw[<-g.K,bC,beq_iff_eq] at this
    exact this
   cprop:=λC m f e=>by
    have :=wZ (f:=λC m f=>qu (KK E.w.params) C m == aa f&&gX (KK E.w.params) f) (N6 E.w.params) e
    rw[<-g.K,bC,beq_iff_eq] at this
    exact this
   cfld:=λC x e=>by
    refine fO e fun fs q e=>e12 (yw.mp e) fun y hy e=>?_
    have :=du.mp (kI (N7 E.w.params) q) y hy
    rw[cE e,<-g.K,bC] at this
    exact this
   fns:=λa S e=>by
    refine ax (F _ (Dg e)) fun h1 h2=>?_
    exact(bl h1.sound (λ_=>h1) h2)
   bls:=λn S e=>NA n S e
   tys:=λn S e=>NB n S e}
 bm:=Ny rfl
 ba:=Mz E (by rw[g.K];exact Od _)
 idict:=λa d e=>by
  have :=kI (N8 E.w.params) (x:=a) (r:=d) e
  rw[<-g.K] at this
  exact MC (cE this)
 gdict:=Nz
theorem rJ(P:bq)(h:(a,D)∈Ds):jK (KK P) a=aa D:=by
 have e:=N3 P
 have :∀(l:List (Addr×FnD)),l.map (λp=>jK (KK P) p.1)=l.map (λp=>aa p.2)->(a,D)∈l->jK (KK P) a=aa D:=by
  intro l
  induction l with
  |nil=>intro _ m;refine(let G:=_;(?_:G));cases m
  |cons p l ih=>
   intro e m
   simp only[ey,ey] at e
   refine(let G1:=_;(?_:G1));refine ax (WO e) fun e1 e2=>?_
   rcases cT.mp m with m |m
   ·subst m;exact e1
   ·exact ih e2 m
 exact this Ds e h
theorem mZ(g:G0 E)(h:a∈Ds.map (·.1)++[gO,eV,eW,gP,gQ,gr,d6]):nQ E.K (.ref a)=true:=by
 rw[g.K];exact du.mp (Oc _) a h
@[irreducible] def RD(T:aI)(D:FnD)(vs:List AV)(kw:List (Str×AV))(σ:St)(Q:AV->St->Prop):Prop:=ve T D vs kw σ Q
theorem RD_eq{T:aI}{vs:List AV}:RD T D vs kw σ Q=ve T D vs kw σ Q:=by unfold RD;rfl
theorem bx{E:Env0}(g:G0 E){l:List (Addr×Spec)}{bud:Nat}(F:FOk E l){a:Addr}{D:FnD}{S:Spec}(hD:(a,D)∈Ds)(h:(D.ok&&iF D)=true)(hn:bud+1<=S.need)
  (hS:∀vs kw σ Q,S.run vs kw σ Q->RD (dA l bud) D vs kw σ Q):FOk E [(a,S)]:=λp m=>by
 rw[List.mem_singleton.mp m]
 simp only[bC] at h
 exact⟨KX (T:=dA l bud) (rI g F) (by rw[g.K];exact rJ _ hD) h.1 h.2 hn fun vs kw σ Q q=>RD_eq.mp (hS vs kw σ Q q),mZ g (GW _ (pq hD))⟩
theorem Dh{E:Env0}(g:G0 E){l:List (Addr×Spec)}{bud:Nat}(F:FOk E l){a:Addr}{D:FnD}{S:Spec}(hD:(a,D)∈Ds)(h:(D.ok&&vk D)=true)(hn:bud+1<=S.need)
  (hS:∀vs kw σ Q,S.run vs kw σ Q->mN (dA l bud) D vs kw σ Q):FOk E [(a,S)]:=λp m=>by
 rw[List.mem_singleton.mp m]
 simp only[bC] at h
 exact⟨KZ (T:=dA l bud) (rI g F) (by rw[g.K];exact rJ _ hD) h.1 h.2 hn hS,mZ g (GW _ (pq hD))⟩
theorem FOk.add{S:Spec}(h:FOk E [(a,S)])(F:FOk E l):FOk E ((a,S)::l):=λp m=>by
 rcases cT.mp m with e |m
 ·exact h p (List.mem_singleton.mpr e)
 ·exact F p m
theorem FOk.nil:FOk E []:=λ_ m=>nomatch m
def clsL:List (Addr×Addr):=[(gO,B3),(gP,Ck),(gQ,CG),(gr,CN),(eV,oM),(eW,oM),(d6,CO)]
theorem Di(P:bq):(clsL.all fun c=>makesIn (KK P) c.1&&(jY (KK P) (.ref c.1) "__init__" == aa (aa (.ref c.2))&&nW (KK P) (.ref c.2) == aa (.type "function")))=true:=by kernel_rfl
theorem m4(g:G0 E){S:Spec}(hc:(C,fI)∈clsL)(hk:C∈Ds.map (·.1)++[gO,eV,eW,gP,gQ,gr,d6])(hI:FOk E [(fI,init)])(hn:init.need+1<=S.need)
  (hS:∀vs kw σ Q,S.run vs kw σ Q->kA init C vs kw σ Q):FOk E [(C,S)]:=λp m=>by
 rw[List.mem_singleton.mp m]
 have h:=du.mp (Di E.w.params) _ hc
 rw[<-g.K,bC,bC,beq_iff_eq,beq_iff_eq] at h
 exact⟨Lg h.1 h.2.1 h.2.2 (hI _ (List.mem_singleton.mpr rfl)).1 hn hS,mZ g hk⟩
abbrev fR:=List AV->List (Str×AV)->St->(AV->St->Prop)->Prop
abbrev t2{α:Type}(l:List α):Option (α×α):=mv l
theorem kJ(h:t2 l=aa q):l=[q.1,q.2]:=qk h
abbrev t3{α:Type}(l:List α):Option (α×α×α):=aA (dF l) fun a=>aA (t2 a.2) fun q=>aa (a.1,q)
theorem m5(h:t3 l=aa q):l=[q.1,q.2.1,q.2.2]:=ay h fun a e1 h=>ay h fun b e2 h=>ac h▸kJ e2▸eU e1
abbrev t4{α:Type}(l:List α):Option (α×α×α×α):=aA (dF l) fun a=>aA (t3 a.2) fun q=>aa (a.1,q)
theorem rK(h:t4 l=aa q):l=[q.1,q.2.1,q.2.2.1,q.2.2.2]:=ay h fun a e1 h=>ay h fun b e2 h=>ac h▸m5 e2▸eU e1
abbrev t5{α:Type}(l:List α):Option (α×α×α×α×α):=aA (dF l) fun a=>aA (t4 a.2) fun q=>aa (a.1,q)
theorem Om(h:t5 l=aa q):l=[q.1,q.2.1,q.2.2.1,q.2.2.2.1,q.2.2.2.2]:=ay h fun a e1 h=>ay h fun b e2 h=>ac h▸rK e2▸eU e1
noncomputable def m6{α:Type}(n:Nat)(t:List AV->Option α)(f:α->St->(AV->St->Prop)->Prop):Spec:=⟨n,λvs kw σ Q=>gd (cm kw) (ag (t vs) fun q=>f q σ Q)⟩
theorem oO{α:Type}{n:Nat}{t:List AV->Option α}{m:α->List AV}{f:α->St->(AV->St->Prop)->Prop}{R:fR}(e:∀{l q},t l=aa q->l=m q)(h:∀q σ Q,f q σ Q->R (m q) [] σ Q):∀vs kw σ Q,(m6 n t f).run vs kw σ Q->R vs kw σ Q:=
 fun vs kw σ Q k=>bH k fun g k=>aq k fun q e1 k=>e e1▸cX g▸h q σ Q k
def w7(n:Nat)(f:AV->St->(AV->St->Prop)->Prop):Spec:=m6 n fA f
def Dj(n:Nat)(f:AV->AV->St->(AV->St->Prop)->Prop):Spec:=m6 n t2 fun q=>f q.1 q.2
def Dk(n:Nat)(f:AV->AV->AV->St->(AV->St->Prop)->Prop):Spec:=m6 n t3 fun q=>f q.1 q.2.1 q.2.2
def Dl(n:Nat)(f:AV->AV->AV->AV->St->(AV->St->Prop)->Prop):Spec:=m6 n t4 fun q=>f q.1 q.2.1 q.2.2.1 q.2.2.2
def Dm(n:Nat)(f:AV->AV->AV->AV->AV->St->(AV->St->Prop)->Prop):Spec:=m6 n t5 fun q=>f q.1 q.2.1 q.2.2.1 q.2.2.2.1 q.2.2.2.2
theorem Dn{n:Nat}{f:AV->St->(AV->St->Prop)->Prop}{R:fR}(h:∀a σ Q,f a σ Q->R [a] [] σ Q):∀vs kw σ Q,(w7 n f).run vs kw σ Q->R vs kw σ Q:=oO (m:=λq=>[q]) gn h
theorem Oo{n:Nat}{f:AV->AV->St->(AV->St->Prop)->Prop}{R:fR}(h:∀a b σ Q,f a b σ Q->R [a,b] [] σ Q):∀vs kw σ Q,(Dj n f).run vs kw σ Q->R vs kw σ Q:=oO (m:=λq=>[q.1,q.2]) kJ fun q=>h q.1 q.2
theorem Op{n:Nat}{f:AV->AV->AV->St->(AV->St->Prop)->Prop}{R:fR}(h:∀a b c σ Q,f a b c σ Q->R [a,b,c] [] σ Q):∀vs kw σ Q,(Dk n f).run vs kw σ Q->R vs kw σ Q:=oO (m:=λq=>[q.1,q.2.1,q.2.2]) m5 fun q=>h q.1 q.2.1 q.2.2
theorem Oq{n:Nat}{f:AV->AV->AV->AV->St->(AV->St->Prop)->Prop}{R:fR}(h:∀a b c d σ Q,f a b c d σ Q->R [a,b,c,d] [] σ Q):∀vs kw σ Q,(Dl n f).run vs kw σ Q->R vs kw σ Q:=oO (m:=λq=>[q.1,q.2.1,q.2.2.1,q.2.2.2]) rK fun q=>h q.1 q.2.1 q.2.2.1 q.2.2.2
theorem Ot{n:Nat}{f:AV->AV->AV->AV->AV->St->(AV->St->Prop)->Prop}{R:fR}(h:∀a b c d e σ Q,f a b c d e σ Q->R [a,b,c,d,e] [] σ Q):∀vs kw σ Q,(Dm n f).run vs kw σ Q->R vs kw σ Q:=oO (m:=λq=>[q.1,q.2.1,q.2.2.1,q.2.2.2.1,q.2.2.2.2]) Om fun q=>h q.1 q.2.1 q.2.2.1 q.2.2.2.1 q.2.2.2.2
def w8(k:Nat)(v:AV):Bool:=dZ (eR v) fun j=>a7 j k
theorem Do(h:w8 k v=true):v=.loc k:=fO h fun j e h=>ce h▸pW e
noncomputable def kK{α:Type}:List Str->List (Str×α)->Option (List α)
 | [],fs=>(match fs with
  | []=>aa []
  |_::_=>none)
 |n::ns,fs=>(match fs with
  | []=>none
  |f::fs=>bW (f.1 == n) (aA (kK ns fs) fun l=>aa (f.2::l)))
theorem m7:∀{fs:List (Str×α)} {l:List α},kK ns fs=aa l->fs=ns.zip l:=by
 induction ns with
 |nil=>
  intro fs l h
  cases fs with
  |nil=>rw[<-ac h];rfl
  |cons _ _=>exact aD h
 |cons n ns ih=>
  intro fs l h
  cases fs with
  |nil=>exact aD h
  |cons f fs=>exact bU h fun e h=>ay h fun l' e' h=>by simp only[<-ac h,W9,<-ih e',<-cE e]
def rL(C:Addr)(ns:List Str)(v:AV):Option (List AV):=aA (pX v) fun q=>bW (a7 q.1 C) (kK ns q.2)
theorem w9(h:rL C ns v=aa l):v=.obj C (ns.zip l):=ay h fun q e h=>bU h fun g h=>by rw[zo e,ce g,m7 h]
def xb(C:Addr)(ns:List Str)(v:PV):Option (List PV):=aA (pV v) fun q=>bW (a7 q.1 C) (kK ns q.2)
theorem Dp(h:xb C ns v=aa l):v=.obj C (ns.zip l):=ay h fun q e h=>bU h fun g h=>by rw[zn e,ce g,m7 h]
def oP(v:AV):Option (Int×Int):=aA (rL gO [S "_buf",S "_offset",S "_length"] v) fun l=>aA (t3 l) fun q=>bW (w8 1 q.1) (aA (dy q.2.1) fun o=>aA (dy q.2.2) fun l=>aa (o,l))
theorem rM(e:oP v=aa r):v=bR r.1 r.2:=ay e fun l e1 e=>ay e fun q e2 e=>bU e fun e3 e=>ay e fun o e4 e=>ay e fun n e5 e=>by
 simp only[w9 e1,m5 e2,Do e3,iZ e4,iZ e5,<-ac e];rfl
structure xc where
 o:Int
 l:Int
 pw:Int
 bw:Int
 t:Int
def xg(v:AV):Option xc:=aA (rL gP [S "_buf",S "_parent_width",S "_byte_width",S "_type"] v) fun l=>aA (t4 l) fun q=>aA (oP q.1) fun r=>aA (dy q.2.1) fun p=>aA (dy q.2.2.1) fun b=>aA (dy q.2.2.2) fun t=>aa ⟨r.1,r.2,p,b,t⟩
theorem Dq(e:xg v=aa r):v=bY r.o r.l r.pw r.bw r.t:=ay e fun l e1 e=>ay e fun q e2 e=>ay e fun r e3 e=>ay e fun p e4 e=>ay e fun b e5 e=>ay e fun t e6 e=>by
 simp only[w9 e1,rK e2,rM e3,iZ e4,iZ e5,iZ e6,<-ac e];rfl
structure rN where
 o:Int
 l:Int
 bw:Int
 n:Int
abbrev Dr(C:Addr)(d:rN):AV:=.obj C [(S "_buf",bR d.o d.l),(S "_byte_width",vI d.bw),(S "_size",vI d.n)]
def rP(D:Addr)(v:AV):Option rN:=aA (rL D [S "_buf",S "_byte_width",S "_size"] v) fun l=>aA (t3 l) fun q=>aA (oP q.1) fun r=>aA (dy q.2.1) fun p=>aA (dy q.2.2) fun b=>aa ⟨r.1,r.2,p,b⟩
theorem xi(e:rP D v=aa r):v=Dr D r:=ay e fun l e1 e=>ay e fun q e2 e=>ay e fun r e3 e=>ay e fun p e4 e=>ay e fun b e5 e=>by
 simp only[w9 e1,m5 e2,rM e3,iZ e4,iZ e5,<-ac e];rfl
structure ValD where
 p:PV
 t:Int
 w:Int
def iI(v:PV):Option ValD:=aA (xb gQ [S "_value",S "_type",S "_min_bit_width"] v) fun l=>aA (t3 l) fun q=>aA (bX q.2.1) fun t=>aA (bX q.2.2) fun w=>aa ⟨q.1,t,w⟩
abbrev vP(d:ValD):PV:=bk d.p d.t d.w
theorem xj(e:iI v=aa r):v=vP r:=ay e fun l e1 e=>ay e fun q e2 e=>ay e fun t e3 e=>ay e fun w e4 e=>by
 simp only[Dp e1,m5 e2,j4 e3,j4 e4,<-ac e];rfl
def Dt(v:AV):Option ValD:=aA (eQ v) iI
theorem Ou(e:Dt v=aa r):v=.pv (vP r):=ay e fun p e1 e2=>xj e2▸jy e1
noncomputable abbrev aV(b:List UInt8):St:=[(1,.ba b)]
def xk(σ:St):Option (List UInt8):=aA (fA σ) fun p=>bW (a7 p.1 1) (pY p.2)
theorem Du(e:xk σ=aa b):σ=aV b:=ay e fun p e1 e=>bU e fun q e=>by rw[gn e1,show p=(1,.ba b) from jn (ce q) (tH e)]
noncomputable abbrev lQ(C:Addr)(fs:List (Str×AV)):St:=[(901,.attrs fs),(900,.inst C 901)]
def xl(σ:St):Option (Addr×List (Str×AV)):=aA (t2 σ) fun q=>aA (n7 q.1.2) fun fs=>aA (n6 q.2.2) fun r=>bW (a7 q.1.1 901&&a7 q.2.1 900&&a7 r.2 901) (aa (r.1,fs))
theorem Dv(e:xl σ=aa r):σ=lQ r.1 r.2:=ay e fun q e1 e=>ay e fun fs e2 e=>ay e fun r e3 e=>bU e fun e4 e=>by
 simp only[kJ e1,<-ac e,show q.1=(901,.attrs fs) from jn (ce (b3 e4).1.1) (p5 e2),show q.2=(900,.inst r.1 901) from jn (ce (b3 e4).1.2) ((pZ e3).trans (by rw[ce (b3 e4).2]))]
structure Ov where
 b:List UInt8
 C:Addr
 fs:List (Str×AV)
def rQ(σ:St):Option Ov:=aA (dF σ) fun p=>aA (xk [p.1]) fun b=>aA (xl p.2) fun q=>aa ⟨b,q.1,q.2⟩
abbrev fS(b:List UInt8)(C:Addr)(fs:List (Str×AV)):St:=(1,.ba b)::lQ C fs
theorem xo(e:rQ σ=aa r):σ=fS r.b r.C r.fs:=ay e fun p e1 e=>ay e fun b e2 e=>ay e fun q e3 e=>by
 simp only[eU e1,<-ac e,Dv e3,(WO (Du e2)).1]
def Dw(v:AV):Option Addr:=bP j7 v
theorem Ow(h:Dw v=aa a):v=.pv (.const (.ref a)):=zr h
def Dx(v:AV):Option (List UInt8):=bP mh v
theorem Ox(h:Dx v=aa a):v=.pv (.barr a):=jz h fun _ e q=>tG q▸e
theorem ia [d:Decidable p](h:p)(a:A):cB (decide p) A B:=by rw[show decide p=true from by simpa using h];exact a
theorem m8 [d:Decidable p](h:¬p)(b:B):cB (decide p) A B:=by rw[show decide p=false from by simpa using h];exact b
theorem gR [d:Decidable p](a:p->A)(b:¬p->B):cB (decide p) A B:=by
 by_cases h:p
 ·exact ia h (a h)
 ·exact m8 h (b h)
theorem bg(h:c=true)(a:A):cB c A B:=by rw[h];exact a
theorem fT(h:c=false)(a:B):cB c A B:=by rw[h];exact a
theorem lR(a:c=true->A)(b:c=false->B):cB c A B:=by
 cases c
 ·exact b rfl
 ·exact a rfl
theorem dJ(h:o=aa x)(q:f x):cO o f:=by rw[h];exact q
structure Sh(α:Type) where
 as:AV->Option α
 to:α->AV
 eq:∀{v x},as v=aa x->v=to x
structure db(α:Type) where
 as:St->Option α
 to:α->St
 eq:∀{σ x},as σ=aa x->σ=to x
def bv:Sh Int:=⟨dy,vI,iZ⟩
def ja:Sh PV:=⟨eQ,.pv,jy⟩
def gv:Sh (Int×Int):=⟨oP,λr=>bR r.1 r.2,rM⟩
def fU:Sh xc:=⟨xg,λr=>bY r.o r.l r.pw r.bw r.t,Dq⟩
def m9(C:Addr):Sh rN:=⟨rP C,Dr C,xi⟩
def jb:Sh ValD:=⟨Dt,λd=>.pv (vP d),Ou⟩
def oQ:Sh Addr:=⟨Dw,λa=>.pv (.const (.ref a)),Ow⟩
def Oy:Sh (List UInt8):=⟨Dx,λa=>.pv (.barr a),Ox⟩
def cA(k:Nat):Sh Unit:=⟨λv=>bW (w8 k v) (aa ()),λ_=>.loc k,λh=>bU h fun e _=>Do e⟩
noncomputable def fV:db St:=⟨aa,id,ac⟩
def fe:db Unit:=⟨λσ=>bW (cm σ) (aa ()),λ_=>[],λh=>bU h fun e _=>cX e⟩
def cY:db (List UInt8):=⟨xk,aV,Du⟩
def Dy(C:Addr):db Unit:=⟨λσ=>aA (xl σ) fun d=>bW (a7 d.1 C&&cm d.2) (aa ()),λ_=>lQ C [],λh=>ay h fun d e h=>bU h fun g _=>by rw[Dv e,ce (b2 g).1,cX (b2 g).2]⟩
def Dz(C:Addr):db (List UInt8):=⟨λσ=>aA (rQ σ) fun d=>bW (a7 d.C C&&cm d.fs) (aa d.b),λb=>fS b C [],λh=>ay h fun d e h=>bU h fun g h=>by rw[xo e,ce (b2 g).1,cX (b2 g).2,ac h]⟩
def DA:db (List UInt8×Addr):=⟨λσ=>aA (rQ σ) fun d=>bW (cm d.fs) (aa (d.b,d.C)),λp=>fS p.1 p.2 [],λh=>ay h fun d e h=>bU h fun g h=>by rw[xo e,cX g,<-ac h]⟩
def bS{α ζ:Type}(n:Nat)(A:Sh α)(S:db ζ)(f:α->ζ->(AV->St->Prop)->Prop):Spec:=w7 n fun a σ Q=>ag (A.as a) fun a=>ag (S.as σ) fun s=>f a s Q
theorem bZ{α ζ:Type}{n:Nat}{A:Sh α}{S:db ζ}{f:α->ζ->(AV->St->Prop)->Prop}{R:fR}(h:∀a s Q,f a s Q->R [A.to a] [] (S.to s) Q):∀vs kw σ Q,(bS n A S f).run vs kw σ Q->R vs kw σ Q:=Dn (λa σ Q q=>aq q fun a' h0 q=>aq q fun s hs q=>A.eq h0▸S.eq hs▸h a' s Q q)
def dB{α β ζ:Type}(n:Nat)(A:Sh α)(B:Sh β)(S:db ζ)(f:α->β->ζ->(AV->St->Prop)->Prop):Spec:=Dj n fun a b σ Q=>ag (A.as a) fun a=>ag (B.as b) fun b=>ag (S.as σ) fun s=>f a b s Q
theorem dK{α β ζ:Type}{n:Nat}{A:Sh α}{B:Sh β}{S:db ζ}{f:α->β->ζ->(AV->St->Prop)->Prop}{R:fR}(h:∀a b s Q,f a b s Q->R [A.to a,B.to b] [] (S.to s) Q):∀vs kw σ Q,(dB n A B S f).run vs kw σ Q->R vs kw σ Q:=Oo (λa b σ Q q=>aq q fun a' h0 q=>aq q fun b' h1 q=>aq q fun s hs q=>A.eq h0▸B.eq h1▸S.eq hs▸h a' b' s Q q)
def ib{α β γ ζ:Type}(n:Nat)(A:Sh α)(B:Sh β)(C:Sh γ)(S:db ζ)(f:α->β->γ->ζ->(AV->St->Prop)->Prop):Spec:=Dk n fun a b c σ Q=>ag (A.as a) fun a=>ag (B.as b) fun b=>ag (C.as c) fun c=>ag (S.as σ) fun s=>f a b c s Q
theorem iJ{α β γ ζ:Type}{n:Nat}{A:Sh α}{B:Sh β}{C:Sh γ}{S:db ζ}{f:α->β->γ->ζ->(AV->St->Prop)->Prop}{R:fR}(h:∀a b c s Q,f a b c s Q->R [A.to a,B.to b,C.to c] [] (S.to s) Q):∀vs kw σ Q,(ib n A B C S f).run vs kw σ Q->R vs kw σ Q:=Op (λa b c σ Q q=>aq q fun a' h0 q=>aq q fun b' h1 q=>aq q fun c' h2 q=>aq q fun s hs q=>A.eq h0▸B.eq h1▸C.eq h2▸S.eq hs▸h a' b' c' s Q q)
def na{α β γ δ ζ:Type}(n:Nat)(A:Sh α)(B:Sh β)(C:Sh γ)(D:Sh δ)(S:db ζ)(f:α->β->γ->δ->ζ->(AV->St->Prop)->Prop):Spec:=Dl n fun a b c d σ Q=>ag (A.as a) fun a=>ag (B.as b) fun b=>ag (C.as c) fun c=>ag (D.as d) fun d=>ag (S.as σ) fun s=>f a b c d s Q
theorem oR{α β γ δ ζ:Type}{n:Nat}{A:Sh α}{B:Sh β}{C:Sh γ}{D:Sh δ}{S:db ζ}{f:α->β->γ->δ->ζ->(AV->St->Prop)->Prop}{R:fR}(h:∀a b c d s Q,f a b c d s Q->R [A.to a,B.to b,C.to c,D.to d] [] (S.to s) Q):∀vs kw σ Q,(na n A B C D S f).run vs kw σ Q->R vs kw σ Q:=Oq (λa b c d σ Q q=>aq q fun a' h0 q=>aq q fun b' h1 q=>aq q fun c' h2 q=>aq q fun d' h3 q=>aq q fun s hs q=>A.eq h0▸B.eq h1▸C.eq h2▸D.eq h3▸S.eq hs▸h a' b' c' d' s Q q)
def xp{α β γ δ ε ζ:Type}(n:Nat)(A:Sh α)(B:Sh β)(C:Sh γ)(D:Sh δ)(E:Sh ε)(S:db ζ)(f:α->β->γ->δ->ε->ζ->(AV->St->Prop)->Prop):Spec:=Dm n fun a b c d e σ Q=>ag (A.as a) fun a=>ag (B.as b) fun b=>ag (C.as c) fun c=>ag (D.as d) fun d=>ag (E.as e) fun e=>ag (S.as σ) fun s=>f a b c d e s Q
theorem DB{α β γ δ ε ζ:Type}{n:Nat}{A:Sh α}{B:Sh β}{C:Sh γ}{D:Sh δ}{E:Sh ε}{S:db ζ}{f:α->β->γ->δ->ε->ζ->(AV->St->Prop)->Prop}{R:fR}(h:∀a b c d e s Q,f a b c d e s Q->R [A.to a,B.to b,C.to c,D.to d,E.to e] [] (S.to s) Q):∀vs kw σ Q,(xp n A B C D E S f).run vs kw σ Q->R vs kw σ Q:=Ot (λa b c d e σ Q q=>aq q fun a' h0 q=>aq q fun b' h1 q=>aq q fun c' h2 q=>aq q fun d' h3 q=>aq q fun e' h4 q=>aq q fun s hs q=>A.eq h0▸B.eq h1▸C.eq h2▸D.eq h3▸E.eq h4▸S.eq hs▸h a' b' c' d' e' s Q q)
noncomputable def xq{ζ:Type}(n:Nat)(S:db ζ)(f:ζ->(AV->St->Prop)->Prop):Spec:=⟨n,λvs kw σ Q=>gd (cm vs&&cm kw) (ag (S.as σ) fun s=>f s Q)⟩
theorem DC{ζ:Type}{n:Nat}{S:db ζ}{f:ζ->(AV->St->Prop)->Prop}{R:fR}(h:∀s Q,f s Q->R [] [] (S.to s) Q):∀vs kw σ Q,(xq n S f).run vs kw σ Q->R vs kw σ Q:=λvs kw σ Q q=>bH q fun g q=>aq q fun s hs q=>cX (b2 g).1▸cX (b2 g).2▸S.eq hs▸h s Q q
noncomputable def nf(k:Nat)(A B:Spec):Spec:=⟨A.need,λvs kw σ Q=>cB (a7 vs.length k) (A.run vs kw σ Q) (B.run vs kw σ Q)⟩
theorem oS{k:Nat}{A B:Spec}{R:fR}(h:∀vs kw σ Q,A.run vs kw σ Q->R vs kw σ Q)(h':∀vs kw σ Q,B.run vs kw σ Q->R vs kw σ Q):∀vs kw σ Q,(nf k A B).run vs kw σ Q->R vs kw σ Q:=λvs kw σ Q q=>by
 have q:cB (a7 vs.length k) (A.run vs kw σ Q) (B.run vs kw σ Q):=q
 cases e:a7 vs.length k with
 |true=>rw[e] at q;exact h _ _ _ _ q
 |false=>rw[e] at q;exact h' _ _ _ _ q
def xr(k:Str)(kw:List (Str×AV)):Option AV:=aA (kK [k] kw) fun l=>aA (dF l) fun a=>bW (cm a.2) (aa a.1)
theorem DD(h:xr k kw=aa c):kw=[(k,c)]:=ay h fun l e1 h=>ay h fun a e2 h=>bU h fun e3 h=>by rw[m7 e1,eU e2,cX e3,<-ac h];rfl
def DE(k k':Str)(kw:List (Str×AV)):Option (AV×AV):=aA (kK [k,k'] kw) fun l=>t2 l
theorem Oz(h:DE k k' kw=aa c):kw=[(k,c.1),(k',c.2)]:=ay h fun l e1 h=>by rw[m7 e1,kJ h];rfl
noncomputable def xt{α β γ ζ:Type}(n:Nat)(A:Sh α)(B:Sh β)(k:Str)(C:Sh γ)(S:db ζ)(f:α->β->γ->ζ->(AV->St->Prop)->Prop):Spec:=⟨n,λvs kw σ Q=>ag (t2 vs) fun p=>ag (xr k kw) fun c=>ag (A.as p.1) fun a=>ag (B.as p.2) fun b=>ag (C.as c) fun c=>ag (S.as σ) fun s=>f a b c s Q⟩
theorem DF{α β γ ζ:Type}{n:Nat}{A:Sh α}{B:Sh β}{k:Str}{C:Sh γ}{S:db ζ}{f:α->β->γ->ζ->(AV->St->Prop)->Prop}{R:fR}(h:∀a b c s Q,f a b c s Q->R [A.to a,B.to b] [(k,C.to c)] (S.to s) Q):∀vs kw σ Q,(xt n A B k C S f).run vs kw σ Q->R vs kw σ Q:=λvs kw σ Q q=>
 aq q fun p h1 q=>aq q fun c h2 q=>aq q fun a h3 q=>aq q fun b h4 q=>aq q fun c' h5 q=>aq q fun s hs q=>by rw[kJ h1,DD h2,A.eq h3,B.eq h4,C.eq h5,S.eq hs];exact h a b c' s Q q
noncomputable def DH{α β γ δ ζ:Type}(n:Nat)(A:Sh α)(B:Sh β)(C:Sh γ)(k:Str)(D:Sh δ)(S:db ζ)(f:α->β->γ->δ->ζ->(AV->St->Prop)->Prop):Spec:=⟨n,λvs kw σ Q=>ag (t3 vs) fun p=>ag (xr k kw) fun d=>ag (A.as p.1) fun a=>ag (B.as p.2.1) fun b=>ag (C.as p.2.2) fun c=>ag (D.as d) fun d=>ag (S.as σ) fun s=>f a b c d s Q⟩
theorem OA{α β γ δ ζ:Type}{n:Nat}{A:Sh α}{B:Sh β}{C:Sh γ}{k:Str}{D:Sh δ}{S:db ζ}{f:α->β->γ->δ->ζ->(AV->St->Prop)->Prop}{R:fR}(h:∀a b c d s Q,f a b c d s Q->R [A.to a,B.to b,C.to c] [(k,D.to d)] (S.to s) Q):∀vs kw σ Q,(DH n A B C k D S f).run vs kw σ Q->R vs kw σ Q:=λvs kw σ Q q=>
 aq q fun p h1 q=>aq q fun c h2 q=>aq q fun a h3 q=>aq q fun b h4 q=>aq q fun c' h5 q=>aq q fun d h6 q=>aq q fun s hs q=>by rw[m5 h1,DD h2,A.eq h3,B.eq h4,C.eq h5,D.eq h6,S.eq hs];exact h a b c' d s Q q
noncomputable def xu{α β γ δ ζ:Type}(n:Nat)(A:Sh α)(B:Sh β)(k:Str)(C:Sh γ)(k':Str)(D:Sh δ)(S:db ζ)(f:α->β->γ->δ->ζ->(AV->St->Prop)->Prop):Spec:=⟨n,λvs kw σ Q=>ag (t2 vs) fun p=>ag (DE k k' kw) fun c=>ag (A.as p.1) fun a=>ag (B.as p.2) fun b=>ag (C.as c.1) fun x=>ag (D.as c.2) fun d=>ag (S.as σ) fun s=>f a b x d s Q⟩
theorem DI{α β γ δ ζ:Type}{n:Nat}{A:Sh α}{B:Sh β}{k:Str}{C:Sh γ}{k':Str}{D:Sh δ}{S:db ζ}{f:α->β->γ->δ->ζ->(AV->St->Prop)->Prop}{R:fR}(h:∀a b c d s Q,f a b c d s Q->R [A.to a,B.to b] [(k,C.to c),(k',D.to d)] (S.to s) Q):∀vs kw σ Q,(xu n A B k C k' D S f).run vs kw σ Q->R vs kw σ Q:=λvs kw σ Q q=>
 aq q fun p h1 q=>aq q fun c h2 q=>aq q fun a h3 q=>aq q fun b h4 q=>aq q fun c' h5 q=>aq q fun d h6 q=>aq q fun s hs q=>by rw[kJ h1,Oz h2,A.eq h3,B.eq h4,C.eq h5,D.eq h6,S.eq hs];exact h a b c' d s Q q
def oT{α:Type}(o:PV->Option α)(m:α->PV)(h:∀{p x},o p=aa x->p=m x):Sh α:=⟨λv=>aA (eQ v) o,λx=>.pv (m x),λe=>ay e fun p e1 e=>by rw[jy e1,h e]⟩
def DJ:Sh Bool:=oT iX .bool tE
def rR:Sh Str:=oT eP .str tF
def OB:Sh (List UInt8):=oT iY .bytes pU
def DK:Sh (List PV):=oT gm .list lk
def DL{α:Type}(A:Sh α)(x:α)(t:α->Bool)(h:∀{y},t y=true->y=x):Sh Unit:=⟨λv=>aA (A.as v) fun y=>bW (t y) (aa ()),λ_=>A.to x,λe=>ay e fun y e1 e=>bU e fun g _=>by rw[A.eq e1,h g]⟩
def kL(b:Bool):Sh Unit:=DL DJ b (·== b) cE
def xv(i:Int):Sh Unit:=DL bv i (·== i) cE
def DM:Sh Unit:=⟨λv=>aA (eQ v) fun p=>aA (xb gr [S "_pool"] p) fun l=>aA (dF l) fun a=>aA (gm a.1) fun m=>bW (cm a.2&&cm m) (aa ()),λ_=>.pv (.obj gr [(S "_pool",.list [])]),λe=>ay e fun p e1 e=>ay e fun l e2 e=>ay e fun a e3 e=>ay e fun m e4 e=>bU e fun g _=>by
 rw[jy e1,Dp e2,eU e3,lk e4,cX (b2 g).1,cX (b2 g).2];rfl⟩
noncomputable def rS:List (Sh Unit)->List AV->Bool
 | [],l=>cm l
 |A::As,l=>(match dF l with
  |some p=>(A.as p.1).isSome&&rS As p.2
  |none=>false)
theorem OC:∀{l:List AV},rS As l=true->l=As.map fun A=>A.to ():=by
 induction As with
 |nil=>intro l h;exact cX h
 |cons A As ih=>
  intro l h
  cases l with
  |nil=>exact bn h
  |cons a l=>
   have h:=b2 (show((A.as a).isSome&&rS As l)=true from h)
   refine e11 (Option.isSome_iff_exists.mp h.1) fun x e=>?_
   rw[A.eq e,ih h.2];rfl
def xw(t:Int):Sh xc:=⟨λv=>aA (xg v) fun r=>bW (r.t == t) (aa r),λr=>bY r.o r.l r.pw r.bw t,λh=>ay h fun r e h=>bU h fun g h=>by rw[Dq e,cE g,ac h]⟩
def bI:aI:=dA [] 10
noncomputable def bE(v:Int):Int:=if v<256 then 0 else if v<65536 then 1 else if v<4294967296 then 2 else 3
noncomputable def aM(s:Int):Bool:=s == 1||(s == 2||(s == 4||s == 8))
theorem rU(h:aM s=true):s=1\/s=2\/s=4\/s=8:=by
 unfold aM at h
 simp only[ny,ny,ny,beq_iff_eq,beq_iff_eq,beq_iff_eq,beq_iff_eq] at h
 exact h
noncomputable def bc(b:List UInt8)(i:Int):Int:=((b[i.toNat]?).getD 0).toNat
noncomputable def aB(b:List UInt8)(i j:Int):List UInt8:=(b.take j.toNat).drop i.toNat
noncomputable def ic(n x:Int):Int:=if x>=2^(8*n-1).toNat then x-2^(8*n).toNat else x
noncomputable def gw(o n:Int):Int:=if o>=0 then o else n+o
def DN:Spec:=bS 11 bv fV fun v σ Q=>(0<=v/\v<18446744073709551616)/\Q (vI (bE v)) σ
def DO:Spec:=dB 11 bv bv fV fun x s σ Q=>gd (aM s) (Q (vI ((-x)%s)) σ)
def DP:Spec:=bS 11 bv fV fun t σ Q=>(0<=t/\t<=26)/\Q (vI t) σ
def DQ:Spec:=dB 11 bv bv fe fun t w _ Q=>(0<=t/\t<=26/\0<=w/\w<=3)/\Q (vI (t*4+w)) []
def DR:Spec:=bS 11 bv fV fun t σ Q=>Q (vB (decide (t<=3)||t == 26)) σ
def DS:Spec:=na 11 (cA 900) ja bv bv (Dy gQ) fun _ p t w _ Q=>Q vN (lQ gQ [(S "_value",.pv p),(S "_type",vI t),(S "_min_bit_width",vI w)])
def DT:Spec:=xp 11 (cA 900) gv bv bv bv (Dz gP) fun _ r p w t b Q=>Q vN (fS b gP [(S "_buf",bR r.1 r.2),(S "_parent_width",vI p),(S "_byte_width",vI w),(S "_type",vI t)])
def DU:Spec:=ib 11 (cA 900) (cA 1) bv (Dz gO) fun _ _ o b Q=>Q vN (fS b gO [(S "_buf",.loc 1),(S "_offset",vI (gw o b.length)),(S "_length",vI (b.length-gw o b.length))])
def DV:Spec:=bS 11 (cA 900) (Dy gr) fun _ _ Q=>Q vN (lQ gr [(S "_pool",.pv (.list []))])
def DW:Spec:=ib 11 (cA 900) gv bv DA fun _ r w d Q=>gd (a7 d.2 eV||a7 d.2 eW) (Q vN (fS d.1 d.2 [(S "_buf",bR r.1 r.2),(S "_byte_width",vI w)]))
def DX:Spec:=bS 11 jb fV fun d σ Q=>Q (.pv d.p) σ
def DY:Spec:=bS 11 jb fV fun d σ Q=>Q (vI d.t) σ
def DZ:Spec:=bS 11 jb fV fun d σ Q=>Q (vI d.w) σ
def D0:Spec:=bS 11 (m9 eW) fV fun d σ Q=>Q (vI d.bw) σ
def D1:Spec:=w7 11 fun a σ Q=>ag ((rP eW a).or (rP eV a)) fun d=>Q (vI d.n) σ
def D2:Spec:=bS 11 fU fV fun r σ Q=>Q (vB (r.t == 0)) σ
def D3:Spec:=bS 11 fU fV fun r σ Q=>Q (vB (r.t == 26)) σ
def D4:Spec:=bS 11 fU fV fun r σ Q=>Q (vB (r.t == 4)) σ
def D5:Spec:=bS 11 fU fV fun r σ Q=>Q (vB (r.t == 5)) σ
def D6:Spec:=bS 11 fU fV fun r σ Q=>Q (vB (r.t == 25)) σ
def D7:Spec:=bS 11 fU fV fun r σ Q=>Q (vB (r.t == 9)) σ
def D8:Spec:=bS 11 fU fV fun r σ Q=>Q (vB (1 == r.t||(6 == r.t||(2 == r.t||(7 == r.t||false))))) σ
def D9:Spec:=bS 11 fU fV fun r σ Q=>Q (vB (10 == r.t||(9 == r.t||false))) σ
def Ea:Spec:=dB 11 gv bv cY fun r k b Q=>(0<=r.1+k/\r.1+k<b.length)/\Q (vI (bc b (r.1+k))) (aV b)
def Eb:Spec:=ib 11 gv bv bv cY fun r i j b Q=>(0<=r.1+i/\r.1+i<=r.1+j/\r.1+j<=b.length)/\Q (.pv (.barr (aB b (r.1+i) (r.1+j)))) (aV b)
def OD(f:Addr)(x:List UInt8)(Q:AV->St->Prop):Prop:=cB (a7 f 80) (Q (vI (aP x)) []) (gd (a7 f 79) (Q (vI (ic x.length (aP x))) []))
def Ec:Spec:=dB 11 oQ Oy fe fun f x _ Q=>gd (aM x.length) (OD f x Q)
def rX(p:PV)(n:Int)(Q:AV->St->Prop):Prop:=ag (fP p) fun v=>(0<=v/\v<2^(8*n).toNat)/\Q (.pv (.bytes (be n.toNat v))) []
def xx(p:PV)(n:Int)(Q:AV->St->Prop):Prop:=ag (bX p) fun v=>(-(2^(8*n-1).toNat)<=v/\v<2^(8*n-1).toNat)/\Q (.pv (.bytes (be n.toNat (v%2^(8*n).toNat)))) []
def Ed:Spec:=ib 11 oQ ja bv fe fun f p n _ Q=>gd (aM n) (cB (a7 f 80) (rX p n Q) (gd (a7 f 79) (xx p n Q)))
theorem OE(v:Int)(σ:St)(Q:AV->St->Prop):aE
 (cB (bA (v>=0)) (cB (bA (v<256)) (Q (vI 0) σ) (cB (bA (v<65536)) (Q (vI 1) σ) (cB (bA (v<4294967296)) (Q (vI 2) σ) (cB (bA (v<18446744073709551616)) (Q (vI 3) σ) False)))) False)
 (RD bI vQ [vI v] [] σ Q):=imp (by kernel_rfl)
theorem OF(b:Int)(s:Int)(σ:St)(Q:AV->St->Prop):aE
 (Q (vI (nz (-b) (s-1))) σ)
 (RD bI vS [vI b,vI s] [] σ Q):=imp (by kernel_rfl)
theorem OG(v:Int)(σ:St)(Q:AV->St->Prop):aE
 (cB (bA (0<=v)) (cB (bA (v<=26)) (Q (vI v) σ) (cB (v == 36) (Q (vI v) σ) False)) (cB (v == 36) (Q (vI v) σ) False))
 (RD bI vT [vI v] [] σ Q):=imp (by kernel_rfl)
theorem OH(v:Int)(w:Int)(Q:AV->St->Prop):aE
 (cB (cf v 2) (Q (vI (yh (v*4) w)) []) False)
 (RD bI vU [vI v,vI w] [] [] Q):=imp (by kernel_rfl)
theorem OI(v:Int)(σ:St)(Q:AV->St->Prop):aE
 (cB (bA (v<=3)) (Q (vB (bA (v<=3))) σ) (Q (vB (v == 26)) σ))
 (RD bI vW [vI v] [] σ Q):=imp (by kernel_rfl)
theorem OJ(p:PV)(t:Int)(w:Int)(Q:AV->St->Prop):aE
 (Q vN [(901,AObj.attrs [(S "_value",AV.pv p),(S "_type",vI t),(S "_min_bit_width",vI w)]),(900,AObj.inst 1056 901)])
 (RD bI wE [AV.loc 900,AV.pv p,vI t,vI w] [] (lQ gQ []) Q):=imp (by kernel_rfl)
theorem OK(b:List UInt8)(o:Int)(l:Int)(p:Int)(w:Int)(t:Int)(Q:AV->St->Prop):aE
 (Q vN [(1,AObj.ba b),(901,AObj.attrs [(S "_buf",bR o l),(S "_parent_width",vI p),(S "_byte_width",vI w),(S "_type",vI t)]),(900,AObj.inst 923 901)])
 (RD bI wh [AV.loc 900,bR o l,vI p,vI w,vI t] [] (fS b gP []) Q):=imp (by kernel_rfl)
theorem OL(b:List UInt8)(o:Int)(Q:AV->St->Prop):aE
 (cB (bA (o>=0)) (Q vN [(1,AObj.ba b),(901,AObj.attrs [(S "_buf",AV.loc 1),(S "_offset",vI o),(S "_length",vI ((↑(ae b):Int)-o))]),(900,AObj.inst 318 901)]) (Q vN [(1,AObj.ba b),(901,AObj.attrs [(S "_buf",AV.loc 1),(S "_offset",vI ((↑(ae b):Int)+o)),(S "_length",vI ((↑(ae b):Int)-((↑(ae b):Int)+o)))]),(900,AObj.inst 318 901)]))
 (RD bI vX [AV.loc 900,AV.loc 1,vI o] [] (fS b gO []) Q):=imp (by kernel_rfl)
theorem OM(Q:AV->St->Prop):aE
 (Q vN [(901,AObj.attrs [(S "_pool",AV.pv (PV.list []))]),(900,AObj.inst 1099 901)])
 (RD bI wJ [AV.loc 900] [] (lQ gr []) Q):=imp (by kernel_rfl)
theorem ON(b:List UInt8)(o:Int)(l:Int)(w:Int)(Q:AV->St->Prop):aE
 (Q vN [(1,AObj.ba b),(901,AObj.attrs [(S "_buf",bR o l),(S "_byte_width",vI w)]),(900,AObj.inst 454 901)])
 (RD bI rt [AV.loc 900,bR o l,vI w] [] (fS b eV []) Q):=imp (by kernel_rfl)
theorem OP(b:List UInt8)(o:Int)(l:Int)(w:Int)(Q:AV->St->Prop):aE
 (Q vN [(1,AObj.ba b),(901,AObj.attrs [(S "_buf",bR o l),(S "_byte_width",vI w)]),(900,AObj.inst 536 901)])
 (RD bI rt [AV.loc 900,bR o l,vI w] [] (fS b eW []) Q):=imp (by kernel_rfl)
theorem OQ(p:PV)(t:Int)(w:Int)(σ:St)(Q:AV->St->Prop):aE
 (Q (AV.pv p) σ)
 (RD bI wF [AV.pv (bk p t w)] [] σ Q):=imp (by kernel_rfl)
theorem OR(p:PV)(t:Int)(w:Int)(σ:St)(Q:AV->St->Prop):aE
 (Q (vI t) σ)
 (RD bI wG [AV.pv (bk p t w)] [] σ Q):=imp (by kernel_rfl)
theorem OS(p:PV)(t:Int)(w:Int)(σ:St)(Q:AV->St->Prop):aE
 (Q (vI w) σ)
 (RD bI wH [AV.pv (bk p t w)] [] σ Q):=imp (by kernel_rfl)
theorem OT(o:Int)(l:Int)(w:Int)(n:Int)(σ:St)(Q:AV->St->Prop):aE
 (Q (vI w) σ)
 (RD bI wb [iH o l w n] [] σ Q):=imp (by kernel_rfl)
theorem OU(o:Int)(l:Int)(w:Int)(n:Int)(σ:St)(Q:AV->St->Prop):aE
 (Q (vI n) σ)
 (RD bI rz [iH o l w n] [] σ Q):=imp (by kernel_rfl)
theorem OV(o:Int)(l:Int)(w:Int)(n:Int)(σ:St)(Q:AV->St->Prop):aE
 (Q (vI n) σ)
 (RD bI rz [mX o l w n] [] σ Q):=imp (by kernel_rfl)
theorem OW(o:Int)(l:Int)(p:Int)(w:Int)(t:Int)(σ:St)(Q:AV->St->Prop):aE
 (Q (vB (t == 0)) σ)
 (RD bI wl [bY o l p w t] [] σ Q):=imp (by kernel_rfl)
theorem OX(o:Int)(l:Int)(p:Int)(w:Int)(t:Int)(σ:St)(Q:AV->St->Prop):aE
 (Q (vB (t == 26)) σ)
 (RD bI wm [bY o l p w t] [] σ Q):=imp (by kernel_rfl)
theorem OY(o:Int)(l:Int)(p:Int)(w:Int)(t:Int)(σ:St)(Q:AV->St->Prop):aE
 (Q (vB (t == 4)) σ)
 (RD bI wt [bY o l p w t] [] σ Q):=imp (by kernel_rfl)
theorem OZ(o:Int)(l:Int)(p:Int)(w:Int)(t:Int)(σ:St)(Q:AV->St->Prop):aE
 (Q (vB (t == 5)) σ)
 (RD bI wu [bY o l p w t] [] σ Q):=imp (by kernel_rfl)
theorem O0(o:Int)(l:Int)(p:Int)(w:Int)(t:Int)(σ:St)(Q:AV->St->Prop):aE
 (Q (vB (t == 25)) σ)
 (RD bI wx [bY o l p w t] [] σ Q):=imp (by kernel_rfl)
theorem O1(o:Int)(l:Int)(p:Int)(w:Int)(t:Int)(σ:St)(Q:AV->St->Prop):aE
 (Q (vB (t == 9)) σ)
 (RD bI wz [bY o l p w t] [] σ Q):=imp (by kernel_rfl)
theorem O5(o:Int)(l:Int)(p:Int)(w:Int)(t:Int)(σ:St)(Q:AV->St->Prop):aE
 (Q (vB (zI 1 == t||(zI 6 == t||(zI 2 == t||(zI 7 == t||bp))))) σ)
 (RD bI wo [bY o l p w t] [] σ Q):=imp (by kernel_rfl)
theorem O6(o:Int)(l:Int)(p:Int)(w:Int)(t:Int)(σ:St)(Q:AV->St->Prop):aE
 (Q (vB (zI 10 == t||(zI 9 == t||bp))) σ)
 (RD bI wy [bY o l p w t] [] σ Q):=imp (by kernel_rfl)
theorem O7(b:List UInt8)(o:Int)(l:Int)(k:Int)(Q:AV->St->Prop):aE
 (cO (cI b (o+k)) fun(a:UInt8)=>Q (vI (↑(jo a):Int)) [(1,AObj.ba b)])
 (RD bI vY [bR o l,vI k] [] (aV b) Q):=imp (by kernel_rfl)
theorem O8(b:List UInt8)(o:Int)(l:Int)(i:Int)(j:Int)(Q:AV->St->Prop):aE
 (Q (AV.pv (PV.barr (slice (aa (o+i)) (aa (o+j)) b))) [(1,AObj.ba b)])
 (RD bI vZ [bR o l,vI i,vI j] [] (aV b) Q):=imp (by kernel_rfl)
theorem O9(x:List UInt8)(Q:AV->St->Prop):aE
 (cO (bN (↑(ae x):Int) [(1,S "B"),(2,S "H"),(4,S "I"),(8,S "Q")]) fun(a:Str)=>ae x<=8/\cB (nK (S "bhiq") a) (cB (cf 1 (8*(↑(ae x):Int)-1)) (cB (bA (aP x>=1*2^aj (8*(↑(ae x):Int)-1))) (cB (cf 1 (8*(↑(ae x):Int))) (Q (vI (aP x-1*2^aj (8*(↑(ae x):Int)))) []) False) (Q (vI (aP x)) [])) False) (Q (vI (aP x)) []))
 (RD bI rd [AV.pv (PV.const (dw 80)),AV.pv (PV.barr x)] [] [] Q):=imp (by kernel_rfl)
theorem Pa(x:List UInt8)(Q:AV->St->Prop):aE
 (cO (bN (↑(ae x):Int) [(1,S "b"),(2,S "h"),(4,S "i"),(8,S "q")]) fun(a:Str)=>ae x<=8/\cB (nK (S "bhiq") a) (cB (cf 1 (8*(↑(ae x):Int)-1)) (cB (bA (aP x>=1*2^aj (8*(↑(ae x):Int)-1))) (cB (cf 1 (8*(↑(ae x):Int))) (Q (vI (aP x-1*2^aj (8*(↑(ae x):Int)))) []) False) (Q (vI (aP x)) [])) False) (Q (vI (aP x)) []))
 (RD bI rd [AV.pv (PV.const (dw 79)),AV.pv (PV.barr x)] [] [] Q):=imp (by kernel_rfl)
theorem Pb(v:Int)(Q:AV->St->Prop):aE
 (cB (bA (0<=v)) (cB (!bA (v<256)) False ((zI 0<=1/\zI 1<=8/\0<=aJ v 256/\aJ v 256<256)/\Q (AV.pv (PV.bytes (be 1 (aJ v 256)))) [])) False)
 (RD bI eG [AV.pv (PV.const (dw 80)),vI v,vI 1] [] [] Q):=imp (by kernel_rfl)
theorem Pc(v:Int)(Q:AV->St->Prop):aE
 (cB (bA (-128<=v)) (cB (!bA (v<128)) False ((zI 0<=1/\zI 1<=8/\0<=aJ v 256/\aJ v 256<256)/\Q (AV.pv (PV.bytes (be 1 (aJ v 256)))) [])) False)
 (RD bI eG [AV.pv (PV.const (dw 79)),vI v,vI 1] [] [] Q):=imp (by kernel_rfl)
theorem Pd(Q:AV->St->Prop):aE
 ((zI 0<=1/\zI 1<=8/\zI 0<=1/\zI 1<256)/\Q (AV.pv (PV.bytes (be 1 1))) [])
 (RD bI eG [AV.pv (PV.const (dw 80)),vB bz,vI 1] [] [] Q):=imp (by kernel_rfl)
theorem Pe(Q:AV->St->Prop):aE
 ((zI 0<=1/\zI 1<=8/\zI 0<=0/\zI 0<256)/\Q (AV.pv (PV.bytes (be 1 0))) [])
 (RD bI eG [AV.pv (PV.const (dw 80)),vB bp,vI 1] [] [] Q):=imp (by kernel_rfl)
theorem Pf(v:Int)(Q:AV->St->Prop):aE
 (cB (bA (0<=v)) (cB (!bA (v<65536)) False ((zI 0<=2/\zI 2<=8/\0<=aJ v 65536/\aJ v 65536<65536)/\Q (AV.pv (PV.bytes (be 2 (aJ v 65536)))) [])) False)
 (RD bI eG [AV.pv (PV.const (dw 80)),vI v,vI 2] [] [] Q):=imp (by kernel_rfl)
theorem Pg(v:Int)(Q:AV->St->Prop):aE
 (cB (bA (-32768<=v)) (cB (!bA (v<32768)) False ((zI 0<=2/\zI 2<=8/\0<=aJ v 65536/\aJ v 65536<65536)/\Q (AV.pv (PV.bytes (be 2 (aJ v 65536)))) [])) False)
 (RD bI eG [AV.pv (PV.const (dw 79)),vI v,vI 2] [] [] Q):=imp (by kernel_rfl)
theorem Ph(Q:AV->St->Prop):aE
 ((zI 0<=2/\zI 2<=8/\zI 0<=1/\zI 1<65536)/\Q (AV.pv (PV.bytes (be 2 1))) [])
 (RD bI eG [AV.pv (PV.const (dw 80)),vB bz,vI 2] [] [] Q):=imp (by kernel_rfl)
theorem Pj(Q:AV->St->Prop):aE
 ((zI 0<=2/\zI 2<=8/\zI 0<=0/\zI 0<65536)/\Q (AV.pv (PV.bytes (be 2 0))) [])
 (RD bI eG [AV.pv (PV.const (dw 80)),vB bp,vI 2] [] [] Q):=imp (by kernel_rfl)
theorem Pk(v:Int)(Q:AV->St->Prop):aE
 (cB (bA (0<=v)) (cB (!bA (v<4294967296)) False ((zI 0<=4/\zI 4<=8/\0<=aJ v 4294967296/\aJ v 4294967296<4294967296)/\Q (AV.pv (PV.bytes (be 4 (aJ v 4294967296)))) [])) False)
 (RD bI eG [AV.pv (PV.const (dw 80)),vI v,vI 4] [] [] Q):=imp (by kernel_rfl)
theorem Pl(v:Int)(Q:AV->St->Prop):aE
 (cB (bA (-2147483648<=v)) (cB (!bA (v<2147483648)) False ((zI 0<=4/\zI 4<=8/\0<=aJ v 4294967296/\aJ v 4294967296<4294967296)/\Q (AV.pv (PV.bytes (be 4 (aJ v 4294967296)))) [])) False)
 (RD bI eG [AV.pv (PV.const (dw 79)),vI v,vI 4] [] [] Q):=imp (by kernel_rfl)
theorem Pm(Q:AV->St->Prop):aE
 ((zI 0<=4/\zI 4<=8/\zI 0<=1/\zI 1<4294967296)/\Q (AV.pv (PV.bytes (be 4 1))) [])
 (RD bI eG [AV.pv (PV.const (dw 80)),vB bz,vI 4] [] [] Q):=imp (by kernel_rfl)
theorem Pn(Q:AV->St->Prop):aE
 ((zI 0<=4/\zI 4<=8/\zI 0<=0/\zI 0<4294967296)/\Q (AV.pv (PV.bytes (be 4 0))) [])
 (RD bI eG [AV.pv (PV.const (dw 80)),vB bp,vI 4] [] [] Q):=imp (by kernel_rfl)
theorem Po(v:Int)(Q:AV->St->Prop):aE
 (cB (bA (0<=v)) (cB (!bA (v<18446744073709551616)) False ((zI 0<=8/\zI 8<=8/\0<=aJ v 18446744073709551616/\aJ v 18446744073709551616<18446744073709551616)/\Q (AV.pv (PV.bytes (be 8 (aJ v 18446744073709551616)))) [])) False)
 (RD bI eG [AV.pv (PV.const (dw 80)),vI v,vI 8] [] [] Q):=imp (by kernel_rfl)
theorem Pp(v:Int)(Q:AV->St->Prop):aE
 (cB (bA (-9223372036854775808<=v)) (cB (!bA (v<9223372036854775808)) False ((zI 0<=8/\zI 8<=8/\0<=aJ v 18446744073709551616/\aJ v 18446744073709551616<18446744073709551616)/\Q (AV.pv (PV.bytes (be 8 (aJ v 18446744073709551616)))) [])) False)
 (RD bI eG [AV.pv (PV.const (dw 79)),vI v,vI 8] [] [] Q):=imp (by kernel_rfl)
theorem Pq(Q:AV->St->Prop):aE
 ((zI 0<=8/\zI 8<=8/\zI 0<=1/\zI 1<18446744073709551616)/\Q (AV.pv (PV.bytes (be 8 1))) [])
 (RD bI eG [AV.pv (PV.const (dw 80)),vB bz,vI 8] [] [] Q):=imp (by kernel_rfl)
theorem Pr(Q:AV->St->Prop):aE
 ((zI 0<=8/\zI 8<=8/\zI 0<=0/\zI 0<18446744073709551616)/\Q (AV.pv (PV.bytes (be 8 0))) [])
 (RD bI eG [AV.pv (PV.const (dw 80)),vB bp,vI 8] [] [] Q):=imp (by kernel_rfl)
theorem a8{i:Nat}{p:Addr×FnD}(h:Ds[i]? =aa p):p∈Ds:=pr h
theorem lS{A B G:Prop}(h:cB c A B)(f:c=true->A->G)(g:c=false->B->G):G:=by
 cases c with
 |true=>exact f rfl h
 |false=>exact g rfl h
@[elab_as_elim] theorem jN{P:Int->Prop}{s:Int}(h:aM s=true)(a:P 1)(b:P 2)(c:P 4)(d:P 8):P s:=
 (rU h).elim (λe=>eqR e a) fun h=>h.elim (λe=>eqR e b) fun h=>h.elim (λe=>eqR e c) fun e=>eqR e d
section
variable{E:Env0}
theorem Ps(g:G0 E):FOk E [(BR,DN)]:=
 bx g (bud:=10) (D:=vQ) .nil (a8 (i:=0) rfl) (by kernel_rfl) (by decide) (bZ fun v σ Q h=>by
  have e:∀i:Int,bE v=i->Q (vI i) σ:=λi e=>e▸h.2
  unfold bE at e
  refine(OE v σ Q) (ia h.1.1 (gR (λc=>e _ (if_pos c)) fun c=>?_))
  rw[if_neg c] at e
  refine gR (λc=>e _ (if_pos c)) fun c=>?_
  rw[if_neg c] at e
  refine gR (λc=>e _ (if_pos c)) fun c=>?_
  rw[if_neg c] at e
  exact ia h.1.2 (e _ rfl))
theorem Pt{s x:Int}(h:aM s=true):nz x (s-1)=x%s:=
 jN h (by
  show nz x 0=_
  rw[yq]
  unfold nz
  cases decide (0<=x) <;> simp) (bitAnd_m1 x) (bitAnd_m2 x) (bitAnd_m3 x)
theorem Pu(g:G0 E):FOk E [(BY,DO)]:=
 bx g (bud:=10) (D:=vS) .nil (a8 (i:=5) rfl) (by kernel_rfl) (by decide) (dK fun x s σ Q h=>ax (b9 h) fun hs q=>(OF x s σ Q) (eqR (M:=λy=>Q (vI y) σ) (Pt hs) q))
theorem Pw(g:G0 E):FOk E [(BZ,DP)]:=
 bx g (bud:=10) (D:=vT) .nil (a8 (i:=6) rfl) (by kernel_rfl) (by decide) (bZ fun v σ Q h=>(OG v σ Q) (ia h.1.1 (ia h.1.2 h.2)))
theorem Px(t w:Int)(h:0<=t/\t<=26/\0<=w/\w<=3):cf t 2=true/\yh (t*4) w=t*4+w:=by
 refine fM h fun h1 h2 h3 h4=>?_
 refine e11 (ij h1) fun k e=>?_
 refine e11 (ij h3) fun l e'=>?_
 have a:=nH (Int.ofNat_le.mp (e▸h2))
 have b:=nH (Int.ofNat_le.mp (e'▸h4))
 refine eqR e (eqR e' ?_)
 exact(by decide+kernel:∀t:Nat,t<27->∀w:Nat,w<4->cf (t:Int) 2=true/\yh ((t:Int)*4) (w:Int)=(t:Int)*4+(w:Int)) k a l b
theorem Py(g:G0 E):FOk E [(B0,DQ)]:=
 bx g (bud:=10) (D:=vU) .nil (a8 (i:=7) rfl) (by kernel_rfl) (by decide) (dK fun x s _ Q h=>ax (Px x s h.1) fun e1 e2=>(OH x s Q) (bg e1 (eqR (M:=λy=>Q (vI y) []) e2 h.2)))
theorem Pz(g:G0 E):FOk E [(B2,DR)]:=
 bx g (bud:=10) (D:=vW) .nil (a8 (i:=9) rfl) (by kernel_rfl) (by decide) (bZ fun v σ Q q=>by
  refine(OI v σ Q) (gR (λc=>?_) fun c=>?_)
  ·rw[decide_eq_true c] at q ⊢;exact q
  ·rw[decide_eq_false c] at q;exact q)
theorem PA(g:G0 E):FOk E [(CG,DS)]:=
 bx g (bud:=10) (D:=wE) .nil (a8 (i:=48) rfl) (by kernel_rfl) (by decide) (oR fun _ p t w _ Q q=>(OJ p t w Q) q)
theorem PD(g:G0 E):FOk E [(Ck,DT)]:=
 bx g (bud:=10) (D:=wh) .nil (a8 (i:=27) rfl) (by kernel_rfl) (by decide) (DB fun _ r p w t b Q q=>(OK b r.1 r.2 p w t Q) q)
theorem PF(g:G0 E):FOk E [(B3,DU)]:=
 bx g (bud:=10) (D:=vX) .nil (a8 (i:=10) rfl) (by kernel_rfl) (by decide) (iJ fun _ _ o b Q q=>by
  refine(OL b o Q) (gR (λc=>?_) fun c=>?_) <;> unfold gw at q
  ·rw[if_pos c] at q;exact q
  ·rw[if_neg c] at q;exact q)
theorem PG(g:G0 E):FOk E [(CN,DV)]:=
 bx g (bud:=10) (D:=wJ) .nil (a8 (i:=55) rfl) (by kernel_rfl) (by decide) (bZ fun _ _ Q q=>(OM Q) q)
theorem PH(g:G0 E):FOk E [(q7,DW)]:=
 bx g (bud:=10) (D:=rt) .nil (a8 (i:=16) rfl) (by kernel_rfl) (by decide) (iJ fun _ r w d Q h=>ax (b9 h) fun c q=>by
  obtain⟨b,C⟩:=d
  refine(Bool.or_eq_true_iff.mp c).elim (λc=>?_) fun c=>?_ <;> (have c:=ce c;dsimp only at c;subst c)
  ·exact(ON b r.1 r.2 w Q) q
  ·exact(OP b r.1 r.2 w Q) q)
theorem PJ(g:G0 E):FOk E [(CH,DX)]:=
 bx g (bud:=10) (D:=wF) .nil (a8 (i:=49) rfl) (by kernel_rfl) (by decide) (bZ fun d σ Q q=>(OQ d.p d.t d.w σ Q) q)
theorem PL(g:G0 E):FOk E [(CI,DY)]:=
 bx g (bud:=10) (D:=wG) .nil (a8 (i:=50) rfl) (by kernel_rfl) (by decide) (bZ fun d σ Q q=>(OR d.p d.t d.w σ Q) q)
theorem PM(g:G0 E):FOk E [(CJ,DZ)]:=
 bx g (bud:=10) (D:=wH) .nil (a8 (i:=51) rfl) (by kernel_rfl) (by decide) (bZ fun d σ Q q=>(OS d.p d.t d.w σ Q) q)
theorem PN(g:G0 E):FOk E [(B9,D0)]:=
 bx g (bud:=10) (D:=wb) .nil (a8 (i:=17) rfl) (by kernel_rfl) (by decide) (bZ fun d σ Q q=>(OT d.o d.l d.bw d.n σ Q) q)
theorem PO(g:G0 E):FOk E [(Cb,D1)]:=
 bx g (bud:=10) (D:=rz) .nil (a8 (i:=20) rfl) (by kernel_rfl) (by decide) (Dn fun a σ Q h=>aq h fun d e q=>
  (Hh.mp e).elim (λe=>eqR (xi e) ((OU d.o d.l d.bw d.n σ Q) q)) fun e=>eqR (xi e.2) ((OV d.o d.l d.bw d.n σ Q) q))
theorem PP(g:G0 E):FOk E [(Co,D2)]:=
 bx g (bud:=10) (D:=wl) .nil (a8 (i:=30) rfl) (by kernel_rfl) (by decide) (bZ fun r σ Q q=>(OW r.o r.l r.pw r.bw r.t σ Q) q)
theorem PQ(g:G0 E):FOk E [(Cp,D3)]:=
 bx g (bud:=10) (D:=wm) .nil (a8 (i:=31) rfl) (by kernel_rfl) (by decide) (bZ fun r σ Q q=>(OX r.o r.l r.pw r.bw r.t σ Q) q)
theorem PR(g:G0 E):FOk E [(Cv,D4)]:=
 bx g (bud:=10) (D:=wt) .nil (a8 (i:=37) rfl) (by kernel_rfl) (by decide) (bZ fun r σ Q q=>(OY r.o r.l r.pw r.bw r.t σ Q) q)
theorem PT(g:G0 E):FOk E [(Cw,D5)]:=
 bx g (bud:=10) (D:=wu) .nil (a8 (i:=38) rfl) (by kernel_rfl) (by decide) (bZ fun r σ Q q=>(OZ r.o r.l r.pw r.bw r.t σ Q) q)
theorem PU(g:G0 E):FOk E [(CA,D6)]:=
 bx g (bud:=10) (D:=wx) .nil (a8 (i:=41) rfl) (by kernel_rfl) (by decide) (bZ fun r σ Q q=>(O0 r.o r.l r.pw r.bw r.t σ Q) q)
theorem PW(g:G0 E):FOk E [(CD,D7)]:=
 bx g (bud:=10) (D:=wz) .nil (a8 (i:=44) rfl) (by kernel_rfl) (by decide) (bZ fun r σ Q q=>(O1 r.o r.l r.pw r.bw r.t σ Q) q)
theorem PX(g:G0 E):FOk E [(Cs,D8)]:=
 bx g (bud:=10) (D:=wo) .nil (a8 (i:=34) rfl) (by kernel_rfl) (by decide) (bZ fun r σ Q q=>(O5 r.o r.l r.pw r.bw r.t σ Q) q)
theorem PY(g:G0 E):FOk E [(CB,D9)]:=
 bx g (bud:=10) (D:=wy) .nil (a8 (i:=42) rfl) (by kernel_rfl) (by decide) (bZ fun r σ Q q=>(O6 r.o r.l r.pw r.bw r.t σ Q) q)
theorem PZ(h:0<=i/\i<b.length):∃u,cI b i=aa u/\bc b i=u.toNat:=by
 have hi:i.toNat<b.length:=dx (f3 1 [(1,.p v0 (.n 1),v1),(1,v2,v0)] (.p v2 (.n 1)) v1 rfl h.2 (dO (f1 1 [(1,.n 0,v0)] (.n 0) v0 rfl (a:=i) h.1)))
 refine⟨b[i.toNat],?_,?_⟩
 ·unfold cI
  rw[decide_eq_true h.1]
  exact eH hi
 ·unfold bc;rw[eH hi];rfl
theorem Qa(g:G0 E):FOk E [(B4,Ea)]:=
 bx g (bud:=10) (D:=vY) .nil (a8 (i:=11) rfl) (by kernel_rfl) (by decide) (dK fun r k b Q h=>e12 (PZ h.1) fun u e3 e4=>(O7 b r.1 r.2 k Q) (dJ e3 (eqL (M:=λy=>Q (vI y) (aV b)) e4 h.2)))
theorem Qb(h:0<=i/\i<=j/\j<=b.length):slice (aa i) (aa j) b=aB b i j:=by
 have h1:decide (i<0)=false:=decide_eq_false (Int.not_lt.mpr (f1 1 [(1,.n 0,v0)] (.n 0) v0 rfl h.1))
 have h2:decide (j<0)=false:=decide_eq_false (Int.not_lt.mpr (f2 1 [(1,.n 0,v0),(1,v0,v1)] (.n 0) v1 rfl h.1 h.2.1))
 simp only[slice,aB,mw,h1,h2,cond_false]
 rw[pz (aO (f4 1 [(1,v0,v1),(1,v1,v2),(1,v3,v0)] v3 v2 rfl h.2.1 h.2.2 (dO (f1 1 [(1,.n 0,v0)] (.n 0) v0 rfl (a:=i) h.1)))),pz (aO (f3 1 [(1,v0,v1),(1,v2,v0)] v2 v1 rfl h.2.2 (dO (f2 1 [(1,.n 0,v0),(1,v0,v1)] (.n 0) v1 rfl (a:=i) (b:=j) h.1 h.2.1))))]
theorem Qc(g:G0 E):FOk E [(B5,Eb)]:=
 bx g (bud:=10) (D:=vZ) .nil (a8 (i:=12) rfl) (by kernel_rfl) (by decide) (iJ fun r i j b Q h=>(O8 b r.1 r.2 i j Q) (eqR (M:=λy=>Q (.pv (.barr y)) (aV b)) (Qb h.1) h.2))
theorem Qd{l X Y:Prop}(h:aM n=true)(hl:l)(q:Y):cO (bN n [(1,S "B"),(2,S "H"),(4,S "I"),(8,S "Q")]) fun(a:Str)=>l/\cB (nK (S "bhiq") a) X Y:=
 jN (P:=λn=>cO (bN n [(1,S "B"),(2,S "H"),(4,S "I"),(8,S "Q")]) fun(a:Str)=>l/\cB (nK (S "bhiq") a) X Y) h
  (dJ (x:=S "B") (by decide+kernel) ⟨hl,fT (by decide+kernel) q⟩) (dJ (x:=S "H") (by decide+kernel) ⟨hl,fT (by decide+kernel) q⟩) (dJ (x:=S "I") (by decide+kernel) ⟨hl,fT (by decide+kernel) q⟩) (dJ (x:=S "Q") (by decide+kernel) ⟨hl,fT (by decide+kernel) q⟩)
theorem Qe{l X Y:Prop}(h:aM n=true)(hl:l)(q:X):cO (bN n [(1,S "b"),(2,S "h"),(4,S "i"),(8,S "q")]) fun(a:Str)=>l/\cB (nK (S "bhiq") a) X Y:=
 jN (P:=λn=>cO (bN n [(1,S "b"),(2,S "h"),(4,S "i"),(8,S "q")]) fun(a:Str)=>l/\cB (nK (S "bhiq") a) X Y) h
  (dJ (x:=S "b") (by decide+kernel) ⟨hl,bg (by decide+kernel) q⟩) (dJ (x:=S "h") (by decide+kernel) ⟨hl,bg (by decide+kernel) q⟩) (dJ (x:=S "i") (by decide+kernel) ⟨hl,bg (by decide+kernel) q⟩) (dJ (x:=S "q") (by decide+kernel) ⟨hl,bg (by decide+kernel) q⟩)
theorem Qf{n y:Int}{K:Int->Prop}(h:aM n=true)(q:K (ic n y)):cB (cf 1 (8*n-1)) (cB (decide (y>=1*2^(8*n-1).toNat)) (cB (cf 1 (8*n)) (K (y-1*2^(8*n).toNat)) False) (K y)) False:=by
 have e1:cf 1 (8*n-1)=true:=jN h (by decide+kernel) (by decide+kernel) (by decide+kernel) (by decide+kernel)
 have e2:cf 1 (8*n)=true:=jN h (by decide+kernel) (by decide+kernel) (by decide+kernel) (by decide+kernel)
 rw[ik,ik]
 unfold ic at q
 refine bg e1 (gR (λc=>bg e2 ?_) fun c=>?_)
 ·rw[if_pos c] at q;exact q
 ·rw[if_neg c] at q;exact q
theorem Qg(g:G0 E):FOk E [(BU,Ec)]:=
 bx g (bud:=10) (D:=rd) .nil (a8 (i:=2) rfl) (by kernel_rfl) (by decide) (dK fun f x _ Q h=>ax (b9 h) fun hw q=>by
  have hl:x.length<=8:=aO (jN (P:=λz=>z<=8) hw (by decide) (by decide) (by decide) (by decide))
  refine lS q (λe q=>eqR (ce e) ?_) fun _ q=>ax (b9 q) fun e q=>eqR (ce e) ?_
  ·exact(O9 x Q) (Qd hw hl q)
  ·exact(Pa x Q) (Qe hw hl (Qf (K:=λv=>Q (vI v) []) hw q)))
theorem rY{v m:Int}{n:Int}{w:Nat}{Q:AV->St->Prop}(hn:0<=n/\n<=8)(h:0<=v/\v<m)(q:Q (.pv (.bytes (be w v))) []):
  cB (decide (0<=v)) (cB (!decide (v<m)) False ((0<=n/\n<=8/\0<=v.fmod m/\v.fmod m<m)/\Q (.pv (.bytes (be w (v.fmod m)))) [])) False:=by
 refine ia h.1 (fT (by rw[decide_eq_true h.2];rfl) ?_)
 refine eqR (Int.fmod_eq_of_lt h.1 h.2) ?_
 exact⟨⟨hn.1,hn.2,h⟩,q⟩
theorem rZ{v l m:Int}{n:Int}{w:Nat}{Q:AV->St->Prop}(hm:0<m)(hn:0<=n/\n<=8)(h: -l<=v/\v<l)(q:Q (.pv (.bytes (be w (v%m)))) []):
  cB (decide (-l<=v)) (cB (!decide (v<l)) False ((0<=n/\n<=8/\0<=v.fmod m/\v.fmod m<m)/\Q (.pv (.bytes (be w (v.fmod m)))) [])) False:=by
 refine ia h.1 (fT (by rw[decide_eq_true h.2];rfl) ?_)
 refine eqR (sM _ (nD hm)) ?_
 exact⟨⟨hn.1,hn.2,jQ _ (WF hm),jP _ hm⟩,q⟩
@[elab_as_elim] theorem r8{p:PV}{n:Int}{Q:AV->St->Prop}{M:PV->Prop}(h:rX p n Q)(a:∀v:Int,(0<=v/\v<2^(8*n).toNat)->Q (.pv (.bytes (be n.toNat v))) []->M (.int v))(b:Q (.pv (.bytes (be n.toNat 0))) []->M (.bool false))(c:Q (.pv (.bytes (be n.toNat 1))) []->M (.bool true)):M p:=by
 cases p with
 |int v=>exact a v h.1 h.2
 |bool v=>cases v with
  |true=>exact c h.2
  |false=>exact b h.2
 |_=>exact h.elim
theorem Qh{p:PV}{n:Int}{Q:AV->St->Prop}(hn:aM n=true):rX p n Q->RD bI eG [.pv (.const (.ref 80)),.pv p,vI n] [] [] Q:=
 jN (P:=λn=>rX p n Q->RD bI eG [.pv (.const (.ref 80)),.pv p,vI n] [] [] Q) hn
  (λh=>r8 h (λv h q=>(Pb _ _) (rY (m:=256) (by decide) h q)) (λq=>(Pe _) ⟨by decide,q⟩) fun q=>(Pd _) ⟨by decide,q⟩)
  (λh=>r8 h (λv h q=>(Pf _ _) (rY (m:=65536) (by decide) h q)) (λq=>(Pj _) ⟨by decide,q⟩) fun q=>(Ph _) ⟨by decide,q⟩)
  (λh=>r8 h (λv h q=>(Pk _ _) (rY (m:=4294967296) (by decide) h q)) (λq=>(Pn _) ⟨by decide,q⟩) fun q=>(Pm _) ⟨by decide,q⟩)
  (λh=>r8 h (λv h q=>(Po _ _) (rY (m:=18446744073709551616) (by decide) h q)) (λq=>(Pr _) ⟨by decide,q⟩) fun q=>(Pq _) ⟨by decide,q⟩)
theorem Qi{v:Int}{n:Int}{Q:AV->St->Prop}(hn:aM n=true):xx (.int v) n Q->RD bI eG [.pv (.const (.ref 79)),.pv (.int v),vI n] [] [] Q:=
 jN (P:=λn=>xx (.int v) n Q->RD bI eG [.pv (.const (.ref 79)),.pv (.int v),vI n] [] [] Q) hn
  (λh=>(Pc _ _) (rZ (m:=256) (by decide) (by decide) h.1 h.2))
  (λh=>(Pg _ _) (rZ (m:=65536) (by decide) (by decide) h.1 h.2))
  (λh=>(Pl _ _) (rZ (m:=4294967296) (by decide) (by decide) h.1 h.2))
  (λh=>(Pp _ _) (rZ (m:=18446744073709551616) (by decide) (by decide) h.1 h.2))
theorem Qj(g:G0 E):FOk E [(BV,Ed)]:=
 bx g (bud:=10) (D:=eG) .nil (a8 (i:=3) rfl) (by kernel_rfl) (by decide) (iJ fun f p n _ Q h=>ax (b9 h) fun hw q=>
  lS q (λe q=>eqR (ce e) (Qh hw q)) fun _ q=>ax (b9 q) fun e q=>eqR (ce e) (aq q fun v e2 q'=>eqR (j4 e2) (Qi hw q')))
end
def xy:AV:=.pv (.obj gr [(S "_pool",.list [])])
def Ee:Spec:=ib 12 ja bv bv fe fun p t w _ Q=>Q (.pv (bk p t w)) []
def Ef:Spec:=na 12 gv bv bv bv cY fun r p w t b Q=>Q (bY r.1 r.2 p w t) (aV b)
def Eg:Spec:=dB 12 (cA 1) bv cY fun _ o b Q=>Q (bR (gw o b.length) (b.length-gw o b.length)) (aV b)
def Eh:Spec:=xq 12 fe fun _ Q=>Q xy []
def L1:List (Addr×Spec):=[(BR,DN),(BY,DO),(BZ,DP),(B0,DQ),(B2,DR),(CH,DX),(CI,DY),
 (CJ,DZ),(B9,D0),(Cb,D1),(Co,D2),(Cp,D3),(Cv,D4),(Cw,D5),(CA,D6),
 (CD,D7),(Cs,D8),(CB,D9),(B4,Ea),(B5,Eb),(BU,Ec),(BV,Ed),(q7,DW),(gQ,Ee),(gP,Ef),(gO,Eg),(gr,Eh)]
def gx:aI:=dA L1 20
def cg(v:Int):Int:=bE (if v*2>=0 then v*2 else pf (v*2))
noncomputable def inl(t:Int):Bool:=decide (t<=3)||t == 26
def ci(d:ValD)(w:Int):Int:=bif inl d.t then max d.w w else d.w
def szS:db (List UInt8×Addr×Int×Int×Int):=⟨λσ=>aA (rQ σ) fun d=>aA (kK [S "_buf",S "_byte_width"] d.fs) fun l=>aA (t2 l) fun q=>aA (oP q.1) fun r=>aA (dy q.2) fun w=>aa (d.b,d.C,r.1,r.2,w),
 fun p=>fS p.1 p.2.1 [(S "_buf",bR p.2.2.1 p.2.2.2.1),(S "_byte_width",vI p.2.2.2.2)],λh=>ay h fun d e h=>ay h fun l e1 h=>ay h fun q e2 h=>ay h fun r e3 h=>ay h fun w e4 h=>by
  rw[xo e,m7 e1,kJ e2,rM e3,iZ e4,<-ac h];rfl⟩
def Ei:Spec:=bS 21 bv fe fun v _ Q=>(-9223372036854775808<=v/\v<9223372036854775808)/\Q (vI (cg v)) []
def Ej:Spec:=bS 21 bv fe fun v _ Q=>(0<=v/\v<108)/\Q (.pv (.tuple [.int (2^(v%4).toNat),.int (v/4)])) []
def Ek:Spec:=dB 21 gv bv cY fun r d b Q=>0<=r.1+d/\Q (bR (r.1+d) (b.length-(r.1+d))) (aV b)
def El:Spec:=bS 21 ja fe fun p _ Q=>Q (.pv (bk p 26 0)) []
def Em:Spec:=dB 21 ja bv fe fun p w _ Q=>Q (.pv (bk p 1 w)) []
def En:Spec:=dB 21 jb bv fe fun d w _ Q=>Q (vI (ci d w)) []
def kM(d:ValD)(s i:Int)(k:Int->Prop):Prop:=match d.p with
 | .int v=>cB (inl d.t) (k d.w) ((0<=s+i-v/\s+i-v<256)/\k 0)
 | .bool _=>gd (d.t == 26) (k d.w)
 |_=>False
def Eo:Spec:=nf 2 (dB 21 jb bv fe fun d s _ Q=>True/\kM d s 0 fun w=>Q (vI w) []) (ib 21 jb bv bv fe fun d s i _ Q=>True/\kM d s i fun w=>Q (vI w) [])
def Ep:Spec:=bS 21 fU cY fun r b Q=>(0<=r.o/\r.o<=r.o+r.pw/\r.o+r.pw<=b.length)/\Q (.pv (.barr (aB b r.o (r.o+r.pw)))) (aV b)
def Er:Spec:=bS 21 (m9 eV) cY fun r b Q=>(0<=r.o/\r.o<=r.o+r.n/\r.o+r.n<=b.length/\r.n<1000000)/\Q (.pv (.barr (aB b r.o (r.o+r.n)))) (aV b)
def Et:Spec:=bS 21 (cA 900) szS fun _ d Q=>gd (a7 d.2.1 eV||a7 d.2.1 eW) ((0<=d.2.2.1+ -d.2.2.2.2/\d.2.2.1+ -d.2.2.2.2<=d.2.2.1/\d.2.2.1<=d.1.length)/\Q (.pv (.barr (aB d.1 (d.2.2.1+ -d.2.2.2.2) d.2.2.1))) (szS.to d))
theorem Qk(p:PV)(t:Int)(w:Int)(Q:AV->St->Prop):aE
 (Q (AV.pv (bk p t w)) [])
 (kA DS gQ [AV.pv p,vI t,vI w] [] [] Q):=imp (by kernel_rfl)
theorem Ql(b:List UInt8)(o:Int)(l:Int)(p:Int)(w:Int)(t:Int)(Q:AV->St->Prop):aE
 (Q (bY o l p w t) [(1,AObj.ba b)])
 (kA DT gP [bR o l,vI p,vI w,vI t] [] (aV b) Q):=imp (by kernel_rfl)
theorem Qm(b:List UInt8)(o:Int)(Q:AV->St->Prop):aE
 (Q (bR (gw o (↑(ae b):Int)) ((↑(ae b):Int)-gw o (↑(ae b):Int))) [(1,AObj.ba b)])
 (kA DU gO [AV.loc 1,vI o] [] (aV b) Q):=imp (by kernel_rfl)
theorem Qn(Q:AV->St->Prop):aE
 (Q (AV.pv (PV.obj 1099 [(S "_pool",PV.list [])])) [])
 (kA DV gr [] [] [] Q):=imp (by kernel_rfl)
theorem Qo(v:Int)(Q:AV->St->Prop):aE
 (cB (fz v 2) (cB (bA (v*2>=0)) ((0<=v*2/\v*2<18446744073709551616)/\Q (vI (bE (v*2))) []) ((0<=pf (v*2)/\pf (v*2)<18446744073709551616)/\Q (vI (bE (pf (v*2)))) [])) False)
 (RD gx vR [vI v] [] [] Q):=imp (by kernel_rfl)
theorem Qp(v:Int)(Q:AV->St->Prop):aE
 (cB (cf 1 (nz v 3)) ((0<=aC v 4/\aC v 4<=26)/\Q (AV.pv (PV.tuple [PV.int (1*2^aj (nz v 3)),PV.int (aC v 4)])) []) False)
 (RD gx vV [vI v] [] [] Q):=imp (by kernel_rfl)
theorem Qq(b:List UInt8)(o:Int)(l:Int)(d:Int)(Q:AV->St->Prop):aE
 (Q (bR (gw (o+d) (↑(ae b):Int)) ((↑(ae b):Int)-gw (o+d) (↑(ae b):Int))) [(1,AObj.ba b)])
 (RD gx v8 [bR o l,vI d] [] (aV b) Q):=imp (by kernel_rfl)
theorem Qr(p:PV)(Q:AV->St->Prop):aE
 (Q (AV.pv (bk p 26 0)) [])
 (RD gx wA [AV.pv p] [] [] Q):=imp (by kernel_rfl)
theorem Qs(p:PV)(w:Int)(Q:AV->St->Prop):aE
 (Q (AV.pv (bk p 1 w)) [])
 (RD gx wB [AV.pv p,vI w] [] [] Q):=imp (by kernel_rfl)
theorem Qt(p:PV)(t:Int)(w:Int)(v:Int)(Q:AV->St->Prop):aE
 (cB (bA (t<=3)||t == 26) (Q (vI (G7 w v)) []) (Q (vI w) []))
 (RD gx wI [AV.pv (bk p t w),vI v] [] [] Q):=imp (by kernel_rfl)
theorem Qu(v:Int)(t:Int)(w:Int)(s:Int)(Q:AV->St->Prop):aE
 (cB (bA (t<=3)||t == 26) (Q (vI w) []) ((0<=s+ -s%1+0-v/\s+ -s%1+0-v<18446744073709551616)/\cB (cf 1 (bE (s+ -s%1+0-v))) (cB (zI 1 == 1*2^aj (bE (s+ -s%1+0-v))) (Q (vI (bE (s+ -s%1+0-v))) []) (True/\(0<=s+ -s%2+0-v/\s+ -s%2+0-v<18446744073709551616)/\cB (cf 1 (bE (s+ -s%2+0-v))) (cB (zI 2 == 1*2^aj (bE (s+ -s%2+0-v))) (Q (vI (bE (s+ -s%2+0-v))) []) (True/\(0<=s+ -s%4+0-v/\s+ -s%4+0-v<18446744073709551616)/\cB (cf 1 (bE (s+ -s%4+0-v))) (cB (zI 4 == 1*2^aj (bE (s+ -s%4+0-v))) (Q (vI (bE (s+ -s%4+0-v))) []) (True/\(0<=s+ -s%8+0-v/\s+ -s%8+0-v<18446744073709551616)/\cB (cf 1 (bE (s+ -s%8+0-v))) (cB (zI 8 == 1*2^aj (bE (s+ -s%8+0-v))) (Q (vI (bE (s+ -s%8+0-v))) []) (True/\False)) False)) False)) False)) False))
 (RD gx mU [AV.pv (bk (PV.int v) t w),vI s] [] [] Q):=imp (by kernel_rfl)
theorem Qv(v:Int)(t:Int)(w:Int)(s:Int)(i:Int)(Q:AV->St->Prop):aE
 (cB (bA (t<=3)||t == 26) (Q (vI w) []) (cB (fz i 1) ((0<=s+ -s%1+i*1-v/\s+ -s%1+i*1-v<18446744073709551616)/\cB (cf 1 (bE (s+ -s%1+i*1-v))) (cB (zI 1 == 1*2^aj (bE (s+ -s%1+i*1-v))) (Q (vI (bE (s+ -s%1+i*1-v))) []) (True/\cB (fz i 2) ((0<=s+ -s%2+i*2-v/\s+ -s%2+i*2-v<18446744073709551616)/\cB (cf 1 (bE (s+ -s%2+i*2-v))) (cB (zI 2 == 1*2^aj (bE (s+ -s%2+i*2-v))) (Q (vI (bE (s+ -s%2+i*2-v))) []) (True/\cB (fz i 4) ((0<=s+ -s%4+i*4-v/\s+ -s%4+i*4-v<18446744073709551616)/\cB (cf 1 (bE (s+ -s%4+i*4-v))) (cB (zI 4 == 1*2^aj (bE (s+ -s%4+i*4-v))) (Q (vI (bE (s+ -s%4+i*4-v))) []) (True/\cB (fz i 8) ((0<=s+ -s%8+i*8-v/\s+ -s%8+i*8-v<18446744073709551616)/\cB (cf 1 (bE (s+ -s%8+i*8-v))) (cB (zI 8 == 1*2^aj (bE (s+ -s%8+i*8-v))) (Q (vI (bE (s+ -s%8+i*8-v))) []) (True/\False)) False) False)) False) False)) False) False)) False) False))
 (RD gx mU [AV.pv (bk (PV.int v) t w),vI s,vI i] [] [] Q):=imp (by kernel_rfl)
theorem Qw(v:Bool)(w:Int)(s:Int)(Q:AV->St->Prop):aE
 (Q (vI w) [])
 (RD gx mU [AV.pv (bk (PV.bool v) 26 w),vI s] [] [] Q):=imp (by kernel_rfl)
theorem Qx(v:Bool)(w:Int)(s:Int)(i:Int)(Q:AV->St->Prop):aE
 (Q (vI w) [])
 (RD gx mU [AV.pv (bk (PV.bool v) 26 w),vI s,vI i] [] [] Q):=imp (by kernel_rfl)
theorem Qy(b:List UInt8)(o:Int)(l:Int)(p:Int)(w:Int)(t:Int)(Q:AV->St->Prop):aE
 ((0<=o+0/\o+0<=o+p/\o+p<=(↑(ae b):Int))/\Q (AV.pv (PV.barr (aB b (o+0) (o+p)))) [(1,AObj.ba b)])
 (RD gx wi [bY o l p w t] [] (aV b) Q):=imp (by kernel_rfl)
theorem Qz(b:List UInt8)(o:Int)(l:Int)(w:Int)(n:Int)(Q:AV->St->Prop):aE
 ((0<=n/\n<9223372036854775808)/\(0<=o+0/\o+0<=o+n/\o+n<=(↑(ae b):Int))/\Q (AV.pv (PV.barr (aB b (o+0) (o+n)))) [(1,AObj.ba b)])
 (RD gx wc [mX o l w n] [] (aV b) Q):=imp (by kernel_rfl)
theorem QB(b:List UInt8)(o:Int)(l:Int)(w:Int)(Q:AV->St->Prop):aE
 ((0<=o+ -w/\o+ -w<=o+0/\o+0<=(↑(ae b):Int))/\Q (AV.pv (PV.barr (aB b (o+ -w) (o+0)))) [(1,AObj.ba b),(901,AObj.attrs [(S "_buf",bR o l),(S "_byte_width",vI w)]),(900,AObj.inst 454 901)])
 (RD gx rx [AV.loc 900] [] (fS b eV [(S "_buf",bR o l),(S "_byte_width",vI w)]) Q):=imp (by kernel_rfl)
theorem QC(b:List UInt8)(o:Int)(l:Int)(w:Int)(Q:AV->St->Prop):aE
 ((0<=o+ -w/\o+ -w<=o+0/\o+0<=(↑(ae b):Int))/\Q (AV.pv (PV.barr (aB b (o+ -w) (o+0)))) [(1,AObj.ba b),(901,AObj.attrs [(S "_buf",bR o l),(S "_byte_width",vI w)]),(900,AObj.inst 536 901)])
 (RD gx rx [AV.loc 900] [] (fS b eW [(S "_buf",bR o l),(S "_byte_width",vI w)]) Q):=imp (by kernel_rfl)
section
variable{E:Env0}
theorem QD(g:G0 E):FOk E [(gQ,Ee)]:=
 m4 g (by decide+kernel) (by decide+kernel) (PA g) (by decide) (iJ fun p t w _ Q q=>(Qk p t w Q) q)
theorem QE(g:G0 E):FOk E [(gP,Ef)]:=
 m4 g (by decide+kernel) (by decide+kernel) (PD g) (by decide) (oR fun r p w t b Q q=>(Ql b r.1 r.2 p w t Q) q)
theorem QF(g:G0 E):FOk E [(gO,Eg)]:=
 m4 g (by decide+kernel) (by decide+kernel) (PF g) (by decide) (dK fun _ o b Q q=>(Qm b o Q) q)
theorem QG(g:G0 E):FOk E [(gr,Eh)]:=
 m4 g (by decide+kernel) (by decide+kernel) (PG g) (by decide) (DC fun _ Q q=>(Qn Q) q)
theorem iK(g:G0 E):FOk E L1:=
 (Ps g).add <| (Pu g).add <| (Pw g).add <| (Py g).add <| (Pz g).add <| (PJ g).add <| (PL g).add <| (PM g).add <| (PN g).add <| (PO g).add <| (PP g).add <| (PQ g).add <| (PR g).add <|
 (PT g).add <| (PU g).add <| (PW g).add <| (PX g).add <| (PY g).add <| (Qa g).add <| (Qc g).add <| (Qg g).add <| (Qj g).add <| (PH g).add <| (QD g).add <| (QE g).add <| (QF g).add <| QG g
theorem xz(x:Int):pf x= -x-1:=rfl
theorem QH(v:Int):0<=bE v/\bE v<=3:=by unfold bE;split <;> (try split) <;> (try split) <;> decide
theorem QI(g:G0 E):FOk E [(BS,Ei)]:=
 bx g (bud:=20) (D:=vR) (iK g) (a8 (i:=1) rfl) (by kernel_rfl) (by decide) (bZ fun v _ Q h=>by
  have hm:fz v 2=true:=by
   unfold fz
   have :decide (iL 2>tx)=false:=by decide+kernel
   simp only[this,Gn,sD];rfl
  refine ax h fun h1 q=>ax h1 fun h2 h3=>?_
  unfold cg at q
  refine(Qo v Q) (bg hm (gR (λc=>?_) fun c=>?_))
  ·rw[if_pos c] at q;exact⟨⟨c,by omega⟩,q⟩
  ·rw[if_neg c] at q;exact⟨by simp only[xz];omega,q⟩)
theorem Eu(h:0<=w/\w<=3):cf 1 w=true:=by
 refine e11 (ij h.1) fun k e=>?_
 have a:=nH (Int.ofNat_le.mp (e▸h.2))
 exact eqR e ((by decide+kernel:∀k:Nat,k<4->cf 1 (k:Int)=true) k a)
theorem QJ:cf 1 (v%4)=true:=Eu ⟨jQ _ (by decide),Int.le_of_lt_add_one (jP _ (by decide))⟩
theorem QK(g:G0 E):FOk E [(B1,Ej)]:=
 bx g (bud:=20) (D:=vV) (iK g) (a8 (i:=8) rfl) (by kernel_rfl) (by decide) (bZ fun v _ Q h=>by
  refine(Qp v Q) ?_
  rw[bitAnd_m2,yr _ (by decide),ik]
  exact bg QJ ⟨by omega,h.2⟩)
theorem QL(h:0<=o):gw o n=o:=if_pos h
theorem QM(g:G0 E):FOk E [(B7,Ek)]:=
 bx g (bud:=20) (D:=v8) (iK g) (a8 (i:=14) rfl) (by kernel_rfl) (by decide) (dK fun r d b Q h=>(Qq b r.1 r.2 d Q) (eqR (M:=λo=>Q (bR o (b.length-o)) (aV b)) (QL h.1) h.2))
theorem QN(g:G0 E):FOk E [(CE,El)]:=
 bx g (bud:=20) (D:=wA) (iK g) (a8 (i:=46) rfl) (by kernel_rfl) (by decide) (bZ fun p _ Q q=>(Qr p Q) q)
theorem QO(g:G0 E):FOk E [(CF,Em)]:=
 bx g (bud:=20) (D:=wB) (iK g) (a8 (i:=47) rfl) (by kernel_rfl) (by decide) (dK fun v w _ Q q=>(Qs v w Q) q)
theorem QP(g:G0 E):FOk E [(CM,En)]:=
 bx g (bud:=20) (D:=wI) (iK g) (a8 (i:=54) rfl) (by kernel_rfl) (by decide) (dK fun d w _ Q q=>by
  refine(Qt d.p d.t d.w w Q) ?_
  unfold ci inl at q
  refine lR (λc=>?_) fun c=>?_ <;> rw[c] at q <;> exact q)
theorem Ew{t w:Int}{v:Int}{K:Int->Prop}(h:0<=x/\x<256)(q:K 0):(0<=x/\x<18446744073709551616)/\cB (cf 1 (bE x)) (cB (zI 1 == 1*2^aj (bE x)) (K (bE x)) R) False:=by
 have e:bE x=0:=if_pos h.2
 rw[e]
 exact⟨⟨h.1,yt h.2 (by decide)⟩,bg (by decide+kernel) (bg (by decide+kernel) q)⟩
@[elab_as_elim] theorem Ey{d:ValD}{s i:Int}{k:Int->Prop}{M:ValD->Prop}(h:kM d s i k)(f:∀v t w,cB (inl t) (k w) ((0<=s+i-v/\s+i-v<256)/\k 0)->M ⟨.int v,t,w⟩)(g:∀b w,k w->M ⟨.bool b,26,w⟩):M d:=by
 obtain⟨p,t,w⟩:=d
 cases p with
 |int v=>exact f v t w h
 |bool b=>exact bH (b:=t == 26) (Q:=k w) h fun e q=>eqR (cE e) (g b w q)
 |_=>exact h.elim
theorem QR(g:G0 E):FOk E [(CL,Eo)]:=
 have hp:∀s:Int, -s%1=0:=λs=>yq _
 have hm:∀i,fz i 1=true:=λi=>by
  unfold fz
  have :decide (iL 1>tx)=false:=by decide+kernel
  rw[this,Gn,sD];rfl
 bx g (bud:=20) (D:=mU) (iK g) (a8 (i:=53) rfl) (by kernel_rfl) (by decide) (oS
  (dK fun d s _ Q h=>Ey h.2 (λv t w q=>(Qu v t w s Q) (lR (λc=>hU c q) fun c=>by
   have q:=iE c q
   rw[hp,iM s]
   exact Ew (t:=t) (w:=w) (v:=v) (K:=λv=>Q (vI v) []) q.1 q.2)) fun v w q=>(Qw v w s Q) q)
  (iJ fun d s i _ Q h=>Ey h.2 (λv t w q=>(Qv v t w s i Q) (lR (λc=>hU c q) fun c=>by
   have q:=iE c q
   refine bg (hm i) ?_
   rw[hp,iM,Int.mul_one]
   exact Ew (t:=t) (w:=w) (v:=v) (K:=λv=>Q (vI v) []) q.1 q.2)) fun v w q=>(Qx v w s i Q) q))
theorem QS(g:G0 E):FOk E [(Cm,Ep)]:=
 bx g (bud:=20) (D:=wi) (iK g) (a8 (i:=28) rfl) (by kernel_rfl) (by decide) (bZ fun r b Q h=>(Qy b r.o r.l r.pw r.bw r.t Q) (eqR (iM r.o) h))
theorem QT(g:G0 E):FOk E [(Cd,Er)]:=
 bx g (bud:=20) (D:=wc) (iK g) (a8 (i:=21) rfl) (by kernel_rfl) (by decide) (bZ fun r b Q z0=>ax z0 fun z1 q=>fM z1 fun h2 h3 h4 h5=>(Qz b r.o r.l r.bw r.n Q) (eqR (iM r.o) (bl (by lia) (bl h2 h3 h4) q)))
theorem QU(g:G0 E):FOk E [(Ca,Et)]:=
 bx g (bud:=20) (D:=rx) (iK g) (a8 (i:=19) rfl) (by kernel_rfl) (by decide) (bZ fun _ d Q h=>ax (b9 h) fun c q=>by
  obtain⟨b,C,o,l,w⟩:=d
  refine(Bool.or_eq_true_iff.mp c).elim (λc=>?_) fun c=>?_ <;> (have c:=ce c;dsimp only at c;subst c)
  ·exact(QB b o l w Q) (eqR (iM o) q)
  ·exact(QC b o l w Q) (eqR (iM o) q))
end
def L2:List (Addr×Spec):=(BS,Ei)::(B1,Ej)::(B7,Ek)::(CE,El)::(CF,Em)::(CM,En)::(CL,Eo)::
 (Cm,Ep)::(Cd,Er)::(Ca,Et)::L1
def eM:aI:=dA L2 30
theorem gS(g:G0 E):FOk E L2:=
 (QI g).add <| (QK g).add <| (QM g).add <| (QN g).add <| (QO g).add <| (QP g).add <| (QR g).add <| (QS g).add <| (QT g).add <| (QU g).add <| iK g
abbrev jc:List (Str×AV):=[(S "_share_strings",vB false),(S "_share_keys",vB true),(S "_force_min_bit_width",vI 0),(S "_string_pool",xy),(S "_key_pool",xy),(S "_finished",vB false),(S "_buf",.loc 1),(S "_stack",.loc 2)]
def QV:List (Sh Unit):=[kL false,kL true,xv 0,DM,DM,kL false,cA 1,cA 2]
def QW:List Str:=[S "_share_strings",S "_share_keys",S "_force_min_bit_width",S "_string_pool",S "_key_pool",S "_finished",S "_buf",S "_stack"]
abbrev aQ(b:List UInt8)(st:List PV):St:=[(10,.attrs jc),(0,.inst d6 10),(1,.ba b),(2,.list st)]
noncomputable def r9:AObj->Option (List PV)
 | .list l=>aa l
 |_=>none
theorem xA(h:r9 o=aa l):o=.list l:=by cases o <;> cases h;rfl
def xB(σ:St):Option (List UInt8×List PV):=aA (t4 σ) fun q=>aA (n7 q.1.2) fun fs=>aA (n6 q.2.1.2) fun i=>aA (pY q.2.2.1.2) fun b=>aA (r9 q.2.2.2.2) fun st=>aA (kK QW fs) fun l=>
 bW (a7 q.1.1 10&&a7 q.2.1.1 0&&a7 q.2.2.1.1 1&&a7 q.2.2.2.1 2&&a7 i.1 d6&&a7 i.2 10&&rS QV l) (aa (b,st))
theorem Ez(e:xB σ=aa r):σ=aQ r.1 r.2:=ay e fun q e1 e=>ay e fun fs e2 e=>ay e fun i e3 e=>ay e fun b e4 e=>ay e fun st e5 e=>ay e fun l e6 e=>bU e fun g e=>by
 have g:=b7 g
 rw[rK e1,<-ac e,show q.1=(10,.attrs jc) from jn (ce g.1.1.1.1.1.1) ((p5 e2).trans (by rw[m7 e6,OC g.2];rfl)),show q.2.1=(0,.inst d6 10) from jn (ce g.1.1.1.1.1.2) ((pZ e3).trans (by rw[ce g.1.1.2,ce g.1.2])),
  show q.2.2.1=(1,.ba b) from jn (ce g.1.1.1.1.2) (tH e4),show q.2.2.2=(2,.list st) from jn (ce g.1.1.1.2) (xA e5)]
def gh:db (List UInt8×List PV):=⟨xB,λd=>aQ d.1 d.2,Ez⟩
def EA:Spec:=ib 31 gv bv bv cY fun r i w b Q=>gd (aM w) ((0<=r.1+i/\r.1+(i+w)<=b.length/\0<=r.1+(i-aP (aB b (r.1+i) (r.1+(i+w)))))/\
 Q (bR (r.1+(i-aP (aB b (r.1+i) (r.1+(i+w))))) (b.length-(r.1+(i-aP (aB b (r.1+i) (r.1+(i+w))))))) (aV b))
def xC:Spec:=ib 31 (cA 900) gv bv DA fun _ r w d Q=>gd (a7 d.2 eV||a7 d.2 eW) (gd (aM w) ((0<=r.1+ -w/\r.1<=d.1.length)/\
 Q vN (fS d.1 d.2 [(S "_buf",bR r.1 r.2),(S "_byte_width",vI w),(S "_size",vI (aP (aB d.1 (r.1+ -w) r.1)))])))
def EB:Spec:=dB 32 gv bv cY fun r w b Q=>gd (aM w) ((0<=r.1+ -w/\r.1<=b.length)/\Q (iH r.1 r.2 w (aP (aB b (r.1+ -w) r.1))) (aV b))
def EC:Spec:=dB 32 gv bv cY fun r w b Q=>gd (aM w) ((0<=r.1+ -w/\r.1<=b.length)/\Q (mX r.1 r.2 w (aP (aB b (r.1+ -w) r.1))) (aV b))
def ED(r:Int×Int)(p t:Int)(b:List UInt8)(Q:AV->St->Prop):Prop:=(0<=t/\t<108)/\Q (bY r.1 r.2 p (2^(t%4).toNat) (t/4)) (aV b)
def EE:Spec:=nf 3 (ib 31 gv bv bv cY ED) (xt 31 gv bv (S "packed_type") bv cY ED)
def EF:Spec:=bS 31 (xw 26) cY fun r b Q=>gd (aM r.pw) ((0<=r.o/\r.o+r.pw<=b.length)/\Q (vB (!(decide (aP (aB b r.o (r.o+r.pw))=0)))) (aV b))
def EG:Spec:=bS 31 (xw 1) cY fun r b Q=>gd (aM r.pw) ((0<=r.o/\r.o+r.pw<=b.length)/\Q (vI (ic r.pw (aP (aB b r.o (r.o+r.pw))))) (aV b))
noncomputable def cC(cs:List Nat):List UInt8:=cs.flatMap bd
def EH:Spec:=bS 31 (m9 eV) cY fun r b Q=>(0<=r.o/\r.o<=r.o+r.n/\r.o+r.n<=b.length/\r.n<1000000)/\∃cs:List Nat,(cs.all dh=true/\aB b r.o (r.o+r.n)=cC cs)/\Q (.pv (.str ⟨cs.toArray⟩)) (aV b)
def EI(d:ValD)(w:Int)(Q:AV->St->Prop):Prop:=(0<=d.t/\d.t<=26/\0<=ci d w/\ci d w<=3)/\Q (vI (d.t*4+ci d w)) []
def EJ:Spec:=nf 1 (bS 31 jb fe fun d _ Q=>EI d 0 Q) (dB 31 jb bv fe fun d w _ Q=>EI d w Q)
def EK:Spec:=dB 31 (cA 0) ja gh fun _ p d Q=>d.2.length+1<=16777216/\Q vN (aQ d.1 (d.2++[bk p 26 0]))
def EL:Spec:=dB 31 (cA 0) bv gh fun _ p d Q=>(-9223372036854775808<=p/\p<9223372036854775808)/\d.2.length+1<=16777216/\Q vN (aQ d.1 (d.2++[bk (.int p) 1 (cg p)]))
def EM:Spec:=bS 31 (cA 0) gh fun _ d Q=>Q (vI d.2.length) (aQ d.1 d.2)
noncomputable def ng(i:Int):Nat:=if i=0 then 97 else if i=1 then 90 else if i=2 then 126 else 233
def cn(v:Int):List Nat:=(gV (aJ v 6).toNat).map fun(k:Nat)=>ng (aJ (aC v (2^aj (2*(k:Int)))) 4)
noncomputable def fW(cs:List Nat):Nat:=(cs.map fun c=>if c<128 then 1 else 2).foldl (· +·) 0
def EN:Spec:=bS 31 bv fe fun v _ Q=>Q (.pv (.str ⟨(cn v).toArray⟩)) []
def EO:Spec:=bS 31 rR fe fun s _ Q=>s.cps.size<=1000/\Q (vI (fW s.cps.toList)) []
def sa:List Expr:=match D_Sized_init.body with
 | .Expr (.Call _ as _ _) _::_=>as
 |_=>[]
def supSz:List (Addr×Addr):=[(eV,q7),(eW,q7)]
theorem QX:D_Sized_init.body=.Expr (.Call (.Attribute (.Call (.Name "super" ⟨223,8,223,13⟩) [] [] ⟨223,8,223,15⟩) "__init__" ⟨223,8,223,24⟩) sa [] ⟨223,8,223,41⟩) ⟨223,8,223,41⟩::D_Sized_init.body.tail:=by kernel_rfl
theorem QY(b:List UInt8)(o:Int)(l:Int)(i:Int)(w:Int)(Q:AV->St->Prop):aE
 ((0<=o+i/\o+i<=o+(i+w)/\o+(i+w)<=(↑(ae b):Int))/\cB (aM (↑(ae (aB b (o+i) (o+(i+w)))):Int)) (0<=o+(i-aP (aB b (o+i) (o+(i+w))))/\Q (bR (o+(i-aP (aB b (o+i) (o+(i+w))))) ((↑(ae b):Int)-(o+(i-aP (aB b (o+i) (o+(i+w))))))) [(1,AObj.ba b)]) False)
 (RD eM v9 [bR o l,vI i,vI w] [] (aV b) Q):=imp (by kernel_rfl)
theorem QZ(b:List UInt8)(o:Int)(l:Int)(w:Int)(Q:AV->St->Prop):aE
 ((0<=o+ -w/\o+ -w<=o/\o<=(↑(ae b):Int))/\cB (aM (↑(ae (aB b (o+ -w) o)):Int)) (Q vN [(1,AObj.ba b),(901,AObj.attrs [(S "_buf",bR o l),(S "_byte_width",vI w),(S "_size",vI (aP (aB b (o+ -w) o)))]),(900,AObj.inst 454 901)]) False)
 (qO eM D_Sized_init sa (List.tail (FnD.body D_Sized_init)) supSz [AV.loc 900,bR o l,vI w] [] (fS b eV []) Q):=imp (by kernel_rfl)
theorem Q0(b:List UInt8)(o:Int)(l:Int)(w:Int)(Q:AV->St->Prop):aE
 ((0<=o+ -w/\o+ -w<=o/\o<=(↑(ae b):Int))/\cB (aM (↑(ae (aB b (o+ -w) o)):Int)) (Q vN [(1,AObj.ba b),(901,AObj.attrs [(S "_buf",bR o l),(S "_byte_width",vI w),(S "_size",vI (aP (aB b (o+ -w) o)))]),(900,AObj.inst 536 901)]) False)
 (qO eM D_Sized_init sa (List.tail (FnD.body D_Sized_init)) supSz [AV.loc 900,bR o l,vI w] [] (fS b eW []) Q):=imp (by kernel_rfl)
theorem Q2(b:List UInt8)(o:Int)(l:Int)(w:Int)(Q:AV->St->Prop):aE
 (cB (aM w) ((0<=o+ -w/\o<=(↑(ae b):Int))/\Q (iH o l w (aP (aB b (o+ -w) o))) [(1,AObj.ba b)]) False)
 (kA xC eW [bR o l,vI w] [] (aV b) Q):=imp (by kernel_rfl)
theorem Q3(b:List UInt8)(o:Int)(l:Int)(w:Int)(Q:AV->St->Prop):aE
 (cB (aM w) ((0<=o+ -w/\o<=(↑(ae b):Int))/\Q (mX o l w (aP (aB b (o+ -w) o))) [(1,AObj.ba b)]) False)
 (kA xC eV [bR o l,vI w] [] (aV b) Q):=imp (by kernel_rfl)
theorem Q4(b:List UInt8)(o:Int)(l:Int)(p:Int)(t:Int)(Q:AV->St->Prop):aE
 ((0<=t/\t<108)/\Q (bY o l p (2^aj (t%4)) (t/4)) [(1,AObj.ba b)])
 (RD eM rB [bR o l,vI p,vI t] [] (aV b) Q):=imp (by kernel_rfl)
theorem Q5(b:List UInt8)(o:Int)(l:Int)(p:Int)(t:Int)(Q:AV->St->Prop):aE
 ((0<=t/\t<108)/\Q (bY o l p (2^aj (t%4)) (t/4)) [(1,AObj.ba b)])
 (RD eM rB [bR o l,vI p] [(S "packed_type",vI t)] (aV b) Q):=imp (by kernel_rfl)
theorem Q6(b:List UInt8)(o:Int)(l:Int)(p:Int)(w:Int)(Q:AV->St->Prop):aE
 ((0<=o/\o<=o+p/\o+p<=(↑(ae b):Int))/\cB (aM (↑(ae (aB b o (o+p))):Int)) (Q (vB !bA (aP (aB b o (o+p))=0)) [(1,AObj.ba b)]) False)
 (RD eM wn [bY o l p w 26] [] (aV b) Q):=imp (by kernel_rfl)
theorem Q7(b:List UInt8)(o:Int)(l:Int)(p:Int)(w:Int)(Q:AV->St->Prop):aE
 ((0<=o/\o<=o+p/\o+p<=(↑(ae b):Int))/\cB (aM (↑(ae (aB b o (o+p))):Int)) (Q (vI (ic (↑(ae (aB b o (o+p))):Int) (aP (aB b o (o+p))))) [(1,AObj.ba b)]) False)
 (RD eM wq [bY o l p w 1] [] (aV b) Q):=imp (by kernel_rfl)
theorem Q8(b:List UInt8)(o:Int)(l:Int)(w:Int)(n:Int)(Q:AV->St->Prop):aE
 ((0<=o/\o<=o+n/\o+n<=(↑(ae b):Int)/\n<1000000)/\∃(cs:List Nat),(jk cs dh=bz/\aB b o (o+n)=dg bd cs)/\Q (AV.pv (PV.str (cR (c7 cs)))) [(1,AObj.ba b)])
 (RD eM wf [mX o l w n] [] (aV b) Q):=imp (by kernel_rfl)
theorem Q9(p:PV)(t:Int)(w:Int)(Q:AV->St->Prop):aE
 ((0<=t/\t<=26/\0<=ci (ValD.mk p t w) 0/\ci (ValD.mk p t w) 0<=3)/\Q (vI (t*4+ci (ValD.mk p t w) 0)) [])
 (RD eM rF [AV.pv (bk p t w)] [] [] Q):=imp (by kernel_rfl)
theorem Ra(p:PV)(t:Int)(w:Int)(v:Int)(Q:AV->St->Prop):aE
 ((0<=t/\t<=26/\0<=ci (ValD.mk p t w) v/\ci (ValD.mk p t w) v<=3)/\Q (vI (t*4+ci (ValD.mk p t w) v)) [])
 (RD eM rF [AV.pv (bk p t w),vI v] [] [] Q):=imp (by kernel_rfl)
theorem Rb(p:PV)(b:List UInt8)(st:List PV)(Q:AV->St->Prop):aE
 (ae st+1<=16777216/\Q vN (aQ b (st++[bk p 26 0])))
 (RD eM wQ [AV.loc 0,AV.pv p] [] (aQ b st) Q):=imp (by kernel_rfl)
theorem Rc(p:Int)(b:List UInt8)(st:List PV)(Q:AV->St->Prop):aE
 ((-9223372036854775808<=p/\p<9223372036854775808)/\ae st+1<=16777216/\Q vN (aQ b (st++[bk (PV.int p) 1 (cg p)])))
 (RD eM wR [AV.loc 0,vI p] [] (aQ b st) Q):=imp (by kernel_rfl)
theorem Rd(b:List UInt8)(st:List PV)(Q:AV->St->Prop):aE
 (Q (vI (↑(ae st):Int)) (aQ b st))
 (RD eM wS [AV.loc 0] [] (aQ b st) Q):=imp (by kernel_rfl)
theorem Rf(v:Int)(Q:AV->St->Prop):aE
 ((0<=aJ v 6/\aJ v 6<=1000000)/\ae (gC (λ(i:Nat)=>PV.int (↑i:Int)) (gV (aj (aJ v 6))))<=16777216/\ga (λc=>aR eM c 194) (dz (FCtx.mk (FnD.scope i8) [(S "number",vI v)]) (gu i8 0)) (gj (fQ i8 0)) (lP i8 0) [] (gC (λ(i:Nat)=>PV.int (↑i:Int)) (gV (aj (aJ v 6)))) [] [] [] fun(l:List PV) (σ':St)=>σ'=[]/\cO (oI l) fun(a:List Str)=>JoinOk (S "") a=bz/\Q (AV.pv (PV.str (Hm (S "") a))) [])
 (mN eM i8 [vI v] [] [] Q):=imp (by kernel_rfl)
theorem Rg(s:Str)(Q:AV->St->Prop):aE
 (jj (bs s)<=1000000/\ae (gC (λ(c:Nat)=>PV.str (cR #[c])) (bG (bs s)))<=16777216/\ga (λc=>aR eM c 194) (dz (FCtx.mk (FnD.scope i9) []) (gu i9 0)) (gj (fQ i9 0)) (lP i9 0) [] (gC (λ(c:Nat)=>PV.str (cR #[c])) (bG (bs s))) [] [] [] fun(l:List PV) (σ':St)=>σ'=[]/\cO (oJ l) fun(a:List Nat)=>cB (dN (ae l) 1000000) (Q (vI (↑(List.foldl (λ(x1 x2:Nat)=>x1+x2) 0 a):Int)) []) False)
 (RD eM i9 [AV.pv (PV.str s)] [] [] Q):=imp (by kernel_rfl)
theorem Rh(v:Int)(k:Int)(Q:AV->St->Prop):aE
 (cB (nn (2*k)) (cO (cI [PV.str (S "a"),PV.str (S "Z"),PV.str (S "~"),PV.str (S "é")] (aJ (aC v (2^aj (2*k))) 4)) fun(a:PV)=>Q (AV.pv a) []) False)
 (aR eM (dz (FCtx.mk (FnD.scope i8) [(S "number",vI v)]) (gu i8 0)) 194 (gj (fQ i8 0)) [(S "k",vI k)] [] Q):=imp (by kernel_rfl)
theorem Ri(c:Nat)(Q:AV->St->Prop):aE
 (cB (bA ((↑c:Int)<128)) (Q (vI 1) []) (Q (vI 2) []))
 (aR eM (dz (FCtx.mk (FnD.scope i9) []) (gu i9 0)) 194 (gj (fQ i9 0)) [(S "letter",AV.pv (PV.str (cR #[c])))] [] Q):=imp (by kernel_rfl)
section
variable{E:Env0}
theorem Rj(h:0<=i/\i<=j/\j<=b.length):((aB b i j).length:Int)=j-i:=by
 unfold aB
 rw[jR,ip,pz (aO (f3 1 [(1,v0,v1),(1,v2,v0)] v2 v1 rfl h.2.2 (dO (f2 1 [(1,.n 0,v0),(1,v0,v1)] (.n 0) v1 rfl (a:=i) (b:=j) h.1 h.2.1))))]
 lia
theorem gy(h:aM w=true):0<w/\w<=8:=by have :=rU h;lia
theorem EP(hw:aM w=true)(h:0<=o/\o+w<=b.length):aM ((aB b o (o+w)).length:Int)=true/\((aB b o (o+w)).length:Int)=w:=by
 have :=gy hw
 have e:((aB b o (o+w)).length:Int)=w:=by rw[Rj (bl h.1 (by exact f2 1 [(1,.p (.n 0) (.n 1),v1)] v0 (.p v0 v1) rfl this.1) h.2)];exact dM (f2 1 [] (.m (.p v0 v1) v0) v1 rfl) (f2 1 [] v1 (.m (.p v0 v1) v0) rfl)
 exact⟨by rw[e];exact hw,e⟩
theorem sb(hw:aM w=true)(h:0<=o/\o'<=b.length)(e:o'=o+w):(0<=o/\o<=o'/\o'<=b.length)/\aM ((aB b o o').length:Int)=true:=by
 subst e
 exact⟨⟨h.1,sN (nD (gy hw).1),h.2⟩,(EP hw h).1⟩
theorem Rk(g:G0 E):FOk E [(B8,EA)]:=
 bx g (bud:=30) (D:=v9) (gS g) (a8 (i:=15) rfl) (by kernel_rfl) (by decide) (iJ fun r i w b Q h=>ax (b9 h) fun hw z=>cP z.1 fun h5 h6 h7=>ax (sb hw ⟨h5,h6⟩ (Int.add_assoc ..).symm) fun h8 h9=>(QY b r.1 r.2 i w Q) ⟨h8,bg h9 ⟨h7,z.2⟩⟩)
theorem Rl(P:bq):(supSz.all fun c=>mroIn (KK P) c.1 (.ref oK) == aa true&&(yY (KK P) c.1 oK "__init__" == aa (aa (.ref c.2))&&(nW (KK P) (.ref c.2) == aa (.type "function")&&(gX (KK P) c.2&&(l6 (KK P) c.1).isSome))))=true:=by kernel_rfl
noncomputable def EQ(K:Frag)(a:Addr)(f:Str):Bool:=match bN a K with
 |some ⟨_,_,.func fd,_⟩=>match fd.code with
  | .ref c=>match bN c K with
   |some ⟨_,_,.fields vs,_⟩=>match vs[2]? with
    |some (Value.str file _)=>f == file
    |_=>false
   |_=>false
  |_=>false
 |_=>false
theorem Rm(P:bq):EQ (KK P) oM pw.main.file=true:=by kernel_rfl
noncomputable def ER(K:Frag)(cc Dc:Addr):Bool:=match bN cc K with
 |some ⟨_,_,.cell (aa (.ref D)),_⟩=>a7 D Dc
 |_=>false
theorem xD(P:bq):(ER (KK P) 355 oK&&((l6 (KK P) oK).isSome&&iR (KK P) yQ "thirdparty.any" == aa none))=true:=by kernel_rfl
theorem Rn:(pw.main.scope.names.lookup ("super" :Str)).isSome=false:=by kernel_rfl
theorem ES:(D_Sized_init.scope.names.lookup ("super" :Str) == aa .globalImplicit&&(D_Sized_init.scope.names.lookup ("__class__" :Str) == aa .free))=true:=by kernel_rfl
theorem Ro(g:G0 E):vm E (dA l bud) oM D_Sized_init 355 oK supSz where
 clo:=by kernel_rfl
 cell:=by
  have h:=xD E.w.params
  rw[<-g.K,bC] at h
  have h:=h.1
  unfold ER at h
  refine(let G:=_;(?_:G));split at h
  ·rename_i a b D c e;replace e:=(ce h)▸e;exact(i31 _ _ _ e)
  ·exact bn h
 cls:=by
  have h:=xD E.w.params
  rw[<-g.K,bC,bC] at h
  exact Option.isSome_iff_exists.mp h.2.1
 ns:=by have h:=ES;rw[bC] at h;exact cE h.1
 nc:=by have h:=ES;rw[bC] at h;exact cE h.2
 self:=(i21 (S "self") ([S "buf",S "byte_width",S "size"]) (by kernel_rfl))
 glob:=by kernel_rfl
 code:=by
  have h:=Rm E.w.params
  replace h:=g.K.symm▸h
  unfold EQ at h
  refine(let G1:=_;(?_:G1));split at h
  ·rename_i oc od fd sl e1
   split at h
   ·rename_i c e2
    split at h
    ·rename_i c1 c2 vs c3 e3
     split at h
     ·rename_i file t e4
      exact⟨oc,od,sl,fd,c,c1,c2,vs,c3,file,t,e1,e2,e3,e4,by rw[g.p];exact h⟩
     ·exact bn h
    ·exact bn h
   ·exact bn h
  ·exact bn h
 top:=by rw[g.p];exact Rn
 opq:=by
  have h:=xD E.w.params
  rw[<-g.K,bC,bC] at h
  exact cE h.2.2
 sup:=λC f2 e=>by
  have h:=kI (Rl E.w.params) e
  dsimp only at h
  rw[<-g.K,bC,bC,bC,bC] at h
  exact(g0 (cE h.1) (cE h.2.1) (cE h.2.2.1) h.2.2.2.1 (Option.isSome_iff_exists.mp h.2.2.2.2))
theorem ET(g:G0 E):FOk E [(oM,xC)]:=λp m=>by
 rw[List.mem_singleton.mp m]
 refine⟨Lb (T:=eM) (D:=D_Sized_init) (rI g (gS g)) (by rw[g.K];exact rJ _ (a8 (i:=18) rfl)) (by kernel_rfl) (by kernel_rfl) (by decide) QX (by kernel_rfl) (Ro g) ?_,mZ g (by decide+kernel)⟩
 refine iJ (R:=λvs kw σ Q=>qO eM D_Sized_init sa D_Sized_init.body.tail supSz vs kw σ Q) fun _ r w d Q h=>ax (b9 h) fun g2 h=>ax (b9 h) fun hw z=>ax (sb hw z.1 (by omega)) fun h5 hl=>?_
 obtain⟨b,C⟩:=d
 refine(Bool.or_eq_true_iff.mp g2).elim (λc=>?_) fun c=>?_ <;> (have c:=ce c;dsimp only at c;subst c)
 ·exact(QZ b r.1 r.2 w Q) ⟨h5,bg hl z.2⟩
 ·exact(Q0 b r.1 r.2 w Q) ⟨h5,bg hl z.2⟩
theorem Rq(g:G0 E):FOk E [(eW,EB)]:=
 m4 g (by decide+kernel) (by decide+kernel) (ET g) (by decide) (dK fun r w b Q h=>ax (b9 h) fun hw q=>(Q2 b r.1 r.2 w Q) (bg hw q))
theorem Rr(g:G0 E):FOk E [(eV,EC)]:=
 m4 g (by decide+kernel) (by decide+kernel) (ET g) (by decide) (dK fun r w b Q h=>ax (b9 h) fun hw q=>(Q3 b r.1 r.2 w Q) (bg hw q))
theorem Rs(g:G0 E):FOk E [(Cj,EE)]:=
 bx g (bud:=30) (D:=rB) (gS g) (a8 (i:=26) rfl) (by kernel_rfl) (by decide) (oS (iJ fun r p t b Q h=>(Q4 b r.1 r.2 p t Q) h) (DF fun r p t b Q h=>(Q5 b r.1 r.2 p t Q) h))
theorem Rt(g:G0 E):FOk E [(Cq,EF)]:=
 bx g (bud:=30) (D:=wn) (gS g) (a8 (i:=32) rfl) (by kernel_rfl) (by decide) (bZ fun r b Q h=>ax (b9 h) fun hw z=>ax (sb hw z.1 rfl) fun h4 h5=>(Q6 b r.o r.l r.pw r.bw Q) ⟨h4,bg h5 z.2⟩)
theorem Ru(g:G0 E):FOk E [(Ct,EG)]:=
 bx g (bud:=30) (D:=wq) (gS g) (a8 (i:=35) rfl) (by kernel_rfl) (by decide) (bZ fun r b Q h=>ax (b9 h) fun hw z=>ax (sb hw z.1 rfl) fun h4 h5=>(Q7 b r.o r.l r.pw r.bw Q) ⟨h4,bg h5 (eqR (M:=λw=>Q (vI (ic w (aP (aB b r.o (r.o+r.pw))))) (aV b)) (EP hw z.1).2 z.2)⟩)
theorem Rv(g:G0 E):FOk E [(Cg,EH)]:=
 bx g (bud:=30) (D:=wf) (gS g) (a8 (i:=23) rfl) (by kernel_rfl) (by decide) (bZ fun r b Q h=>(Q8 b r.o r.l r.bw r.n Q) h)
theorem Rw(g:G0 E):FOk E [(CK,EJ)]:=
 bx g (bud:=30) (D:=rF) (gS g) (a8 (i:=52) rfl) (by kernel_rfl) (by decide) (oS (bZ fun d _ Q q=>(Q9 d.p d.t d.w Q) q) (dK fun d w _ Q q=>(Ra d.p d.t d.w w Q) q))
theorem Rx(g:G0 E):FOk E [(CX,EK)]:=
 bx g (bud:=30) (D:=wQ) (gS g) (a8 (i:=65) rfl) (by kernel_rfl) (by decide) (dK fun _ p d Q q=>(Rb p d.1 d.2 Q) q)
theorem Ry(g:G0 E):FOk E [(CY,EL)]:=
 bx g (bud:=30) (D:=wR) (gS g) (a8 (i:=66) rfl) (by kernel_rfl) (by decide) (dK fun _ p d Q q=>(Rc p d.1 d.2 Q) q)
theorem Rz(g:G0 E):FOk E [(CZ,EM)]:=
 bx g (bud:=30) (D:=wS) (gS g) (a8 (i:=67) rfl) (by kernel_rfl) (by decide) (bZ fun _ d Q q=>(Rd d.1 d.2 Q) q)
theorem RA(f:α->Str):∀l:List α,oI (l.map fun x=>.str (f x))=aa (l.map f):=by
 intro v0
 induction v0 with
 |nil=>
  exact rfl
 |cons x l ih=>
  show(oI (l.map fun x=>PV.str (f x))).map (f x::·)=_
  simp only[ih];rfl
theorem RB:∀n:Nat,n<6->∀f:Nat->Nat,JoinOk (S "") ((gV n).map fun k=>(⟨#[f k]⟩:Str))=true/\Hm (S "") ((gV n).map fun k=>(⟨#[f k]⟩:Str))=⟨((gV n).map f).toArray⟩
 |0,_,f=>⟨by kernel_rfl,by kernel_rfl⟩
 |1,_,f=>⟨by kernel_rfl,by kernel_rfl⟩
 |2,_,f=>⟨by kernel_rfl,by kernel_rfl⟩
 |3,_,f=>⟨by kernel_rfl,by kernel_rfl⟩
 |4,_,f=>⟨by kernel_rfl,by kernel_rfl⟩
 |5,_,f=>⟨by kernel_rfl,by kernel_rfl⟩
 |n+6,h,f=>absurd h (Nat.not_lt.mpr (aO (f1 1 [(1,.n 0,v0)] (.n 6) (.p v0 (.n 6)) rfl aY)))
theorem RC(h:0<=i/\i<4):cI [PV.str (S "a"),PV.str (S "Z"),PV.str (S "~"),PV.str (S "é")] i=aa (.str ⟨#[ng i]⟩):=by
 have h:i=0\/i=1\/i=2\/i=3:=by lia
 rcases h with rfl |rfl |rfl |rfl <;> rfl
theorem jO(v:Int)(h:0<n):0<=aJ v n/\aJ v n<n:=by
 rw[sM _ (by exact f1 1 [(1,.p (.n 0) (.n 1),v0)] (.n 0) v0 rfl h)];exact⟨jQ _ (by lia),jP _ h⟩
theorem RE(g:G0 E):FOk E [(C7,EN)]:=
 Dh g (bud:=30) (D:=i8) (gS g) (a8 (i:=74) rfl) (by kernel_rfl) (by decide) (bZ fun v _ Q q=>by
  have h6:=jO v (n:=6) (by decide)
  refine(Rf v Q) (bl (⟨f1 1 [(1,.n 0,v0)] (.n 0) v0 rfl h6.1,f1 1 [(1,.p v0 (.n 1),.n 6)] v0 (.n 1000000) rfl h6.2⟩) (by simp only[dT,sW];exact aO (f2 1 [(1,.p v0 (.n 1),.n 6),(1,v1,v0)] v1 (.n 16777216) rfl h6.2 (dO (f1 1 [(1,.n 0,v0)] (.n 0) v0 rfl (a:=v.fmod 6) h6.1)))) (?_))
  refine oN (E:=λy=>[(S "k",.pv y)]) (g:=λ(k:Nat)=>.str ⟨#[ng (aJ (aC v (2^aj (2*(k:Int)))) 4)]⟩) (λ_=>by kernel_rfl) (λ_ _=>by kernel_rfl) (by exact trivial) (λk _ K hK=>?_) ⟨rfl,?_⟩
  ·refine(Rh v k K) (bg ?_ (dJ (RC (jO _ (by decide))) hK))
   show nn (2*(k:Int))=true
   rfl
  ·refine dJ (RA _ _) ?_
   refine ax (RB (aj (aJ v 6)) (dx (f2 1 [(1,.p v0 (.n 1),.n 6),(1,v1,v0)] (.p v1 (.n 1)) (.n 6) rfl h6.2 (dO (f1 1 [(1,.n 0,v0)] (.n 0) v0 rfl (a:=v.fmod 6) h6.1)))) fun k=>ng (aJ (aC v (2^aj (2*(k:Int)))) 4)) fun j1 j2=>?_
   simp only[j2]
   exact⟨j1,q⟩)
theorem RG(f:α->Nat):∀l:List α,(∀x,f x<=1000000)->oJ (l.map fun x=>.int (f x))=aa (l.map f):=by
 intro v0
 induction v0 with
 |nil=>
  intro _
  exact rfl
 |cons x l ih=>
  intro h
  show(match decide ((0:Int)<=(f x:Int)/\(f x:Int)<=1000000) with
   |true=>(oJ (l.map fun x=>PV.int (f x))).map ((f x:Int).toNat::·)
   |false=>none)=_
  have :=h x
  rw[decide_eq_true (⟨f1 1 [(1,.n 0,v0)] (.n 0) v0 rfl aY,f1 1 [(1,v0,.n 1000000)] v0 (.n 1000000) rfl (aF this)⟩),ih h];rfl
theorem RH(g:G0 E):FOk E [(C8,EO)]:=
 bx g (bud:=30) (D:=i9) (gS g) (a8 (i:=75) rfl) (by kernel_rfl) (by decide) (bZ fun s _ Q h=>ax h fun h2 q=>by
  refine(Rg s Q) (bl (aO (f1 1 [(1,v0,.n 1000)] v0 (.n 1000000) rfl (aF h2))) (by simp only[dT,lZ];exact aO (f1 1 [(1,v0,.n 1000)] v0 (.n 16777216) rfl (aF h2))) (?_))
  refine oN (E:=λy=>[(S "letter",.pv y)]) (g:=λ(c:Nat)=>.int ((if c<128 then 1 else 2:Nat):Int)) (λ_=>by kernel_rfl) (λ_ _=>by kernel_rfl) (by exact trivial) (λc _ K hK=>?_) ⟨rfl,?_⟩
  ·refine(Ri c K) ?_
   by_cases hc:c<128
   ·rw[if_pos hc] at hK;exact ia (f1 1 [(1,.p v0 (.n 1),.n 128)] (.p v0 (.n 1)) (.n 128) rfl (dD hc)) hK
   ·rw[if_neg hc] at hK;exact m8 (Int.not_lt.mpr (f1 1 [(1,.n 128,v0)] (.n 128) v0 rfl (jw hc))) hK
  ·refine dJ (RG _ _ fun c=>by split <;> decide) (bg (Nat.ble_eq_true_of_le ?_) q)
   simp only[dT,lZ];exact aO (f1 1 [(1,v0,.n 1000)] v0 (.n 1000000) rfl (aF h2)))
end
def L3:List (Addr×Spec):=(B8,EA)::(eW,EB)::(eV,EC)::(Cj,EE)::(Cq,EF)::(Ct,EG)::(Cg,EH)::
 (CK,EJ)::(CX,EK)::(CY,EL)::(CZ,EM)::(C7,EN)::(C8,EO)::L2
def gT:aI:=dA L3 40
theorem nh(g:G0 E):FOk E L3:=
 (Rk g).add <| (Rq g).add <| (Rr g).add <| (Rs g).add <| (Rt g).add <| (Ru g).add <| (Rv g).add <| (Rw g).add <| (Rx g).add <| (Ry g).add <| (Rz g).add <| (RE g).add <| (RH g).add <| gS g
def au(b:List UInt8)(o w:Int):Int:=o-aP (aB b o (o+w))
def EU:Spec:=bS 41 fU cY fun r b Q=>gd (aM r.pw) ((0<=r.o/\r.o+r.pw<=b.length/\0<=au b r.o r.pw)/\Q (bR (au b r.o r.pw) (b.length-au b r.o r.pw)) (aV b))
def EV:Spec:=dB 41 (m9 eW) bv cY fun d i b Q=>(0<=i/\i<d.n/\d.n<=1000/\0<=d.bw/\d.bw<=8/\0<=d.o/\d.o+(d.n*d.bw+i)<b.length/\0<=d.n*d.bw/\0<=i*d.bw/\bc b (d.o+(d.n*d.bw+i))<108)/\
 Q (bY (d.o+i*d.bw) (b.length-(d.o+i*d.bw)) d.bw (2^(bc b (d.o+(d.n*d.bw+i))%4).toNat) (bc b (d.o+(d.n*d.bw+i))/4)) (aV b)
def rW(b:List UInt8):Int:=bc b (b.length-1)
def rT(b:List UInt8):Int:=bc b (b.length-2)/4
def rV(b:List UInt8):Int:=2^(bc b (b.length-2)%4).toNat
def rO(b:List UInt8):Int:=b.length-(2+rW b)
def ni(b:List UInt8):Prop:=3<=b.length/\2+rW b<=b.length/\bc b (b.length-2)<108
def EW:Spec:=bS 41 (cA 1) cY fun _ b Q=>ni b/\Q (bY (rO b) (2+rW b) (rW b) (rV b) (rT b)) (aV b)
def fE(v:Int):PV:=if aJ v 4=0 then .int (aJ v 1048576-524288) else if aJ v 4=1 then .bool (aJ v 3 == 0) else if aJ v 4=2 then .str ⟨(cn (aC v 4)).toArray⟩ else .int (aJ (aC v 4) 200-100)
def EX:Spec:=bS 41 bv fe fun v _ Q=>Q (.pv (fE v)) []
noncomputable def kN:PV->Bool
 | .int _=>true
 | .bool _=>true
 | .str _=>true
 |_=>false
def RI(σ:St):Option (List PV):=aA (dF σ) fun p=>bW (cm p.2&&a7 p.1.1 20) (r9 p.1.2)
def EY:db (List PV):=⟨RI,λl=>[(20,.list l)],λh=>ay h fun p e h=>bU h fun g h=>by rw[eU e,cX (b2 g).1,show p.1=(20,_) from jn (ce (b2 g).2) (xA h)]⟩
def EZ:Spec:=dB 41 DK (cA 20) EY fun l _ m Q=>(l=m/\l.all kN=true/\l.length<=1000)/\Q (vB true) [(20,.list m)]
theorem RJ(b:List UInt8)(o:Int)(l:Int)(p:Int)(w:Int)(t:Int)(Q:AV->St->Prop):aE
 (cB (aM p) ((0<=o+0/\o+(0+p)<=(↑(ae b):Int)/\0<=o+(0-aP (aB b (o+0) (o+(0+p)))))/\Q (bR (o+(0-aP (aB b (o+0) (o+(0+p))))) ((↑(ae b):Int)-(o+(0-aP (aB b (o+0) (o+(0+p))))))) [(1,AObj.ba b)]) False)
 (RD gT wj [bY o l p w t] [] (aV b) Q):=imp (by kernel_rfl)
theorem RK(b:List UInt8)(o:Int)(l:Int)(w:Int)(n:Int)(i:Int)(Q:AV->St->Prop):aE
 (cB (bA (i<0)) False ((0<=n/\n<9223372036854775808)/\cB (bA (i>=n)) False ((0<=n/\n<9223372036854775808)/\cB (fz n w) ((0<=o+(n*w+i)/\o+(n*w+i)<(↑(ae b):Int))/\cB (fz i w) (0<=o+i*w/\(0<=bc b (o+(n*w+i))/\bc b (o+(n*w+i))<108)/\Q (bY (o+i*w) ((↑(ae b):Int)-(o+i*w)) w (2^aj (bc b (o+(n*w+i))%4)) (bc b (o+(n*w+i))/4)) [(1,AObj.ba b)]) False) False)))
 (RD gT wg [iH o l w n,vI i] [] (aV b) Q):=imp (by kernel_rfl)
theorem RL(b:List UInt8)(Q:AV->St->Prop):aE
 (cB (bA ((↑(ae b):Int)<3)) False (cO (cI b (-1)) fun(a:UInt8)=>cO (cI b (-2)) fun(a_1:UInt8)=>(0<=(↑(jo a_1):Int)/\(↑(jo a_1):Int)<108)/\Q (bY (gw (-(2+(↑(jo a):Int))) (↑(ae b):Int)) ((↑(ae b):Int)-gw (-(2+(↑(jo a):Int))) (↑(ae b):Int)) (↑(jo a):Int) (2^aj ((↑(jo a_1):Int)%4)) ((↑(jo a_1):Int)/4)) [(1,AObj.ba b)]))
 (RD gT wU [AV.loc 1] [] (aV b) Q):=imp (by kernel_rfl)
theorem RM(v:Int)(Q:AV->St->Prop):aE
 (cB (aJ v 4 == 0) (Q (vI (aJ v 1048576-524288)) []) (cB (aJ v 4 == 1) (Q (vB (aJ v 3 == 0)) []) (cB (aJ v 4 == 2) (Q (AV.pv (PV.str (cR (c7 (cn (aC v 4)))))) []) (Q (vI (aJ (aC v 4) 200-100)) []))))
 (RD gT wX [vI v] [] [] Q):=imp (by kernel_rfl)
theorem RN(l:List PV)(m:List PV)(Q:AV->St->Prop):aE
 (cB (!(↑(ae l):Int) == (↑(ae m):Int)) (Q (vB bp) [(20,AObj.list m)]) (True/\c9 (fC gT (FCtx.mk (FnD.scope eX) []) 197 (bj eX 3)) (gt eX 2) [(20,m)] [S "found",S "due"] (gC (λ(p:PV×PV)=>PV.tuple [p.1,p.2]) (List.zip l m)) [(S "found",AV.pv (PV.list l)),(S "due",AV.loc 20)] [(20,AObj.list m)] (kS gT (FCtx.mk (FnD.scope eX) []) 198 (bj eX 5) (kF Q))))
 (RD gT eX [AV.pv (PV.list l),AV.loc 20] [] [(20,AObj.list m)] Q):=imp (by kernel_rfl)
theorem RO(env:aw)(σ:St)(Q:AV->St->Prop):aE
 (Q (vB bz) σ)
 (kS gT (br eX) 198 (bj eX 5) (kF Q) Fl.next env σ):=imp (by kernel_rfl)
theorem RP(l:List PV)(m:List PV)(x:Int)(y:Int)(QQ:Fl->aw->St->Prop):aE
 (cB (!x == y) (QQ (Fl.ret (vB bp)) [(S "found",AV.pv (PV.list l)),(S "due",AV.loc 20),(S "one",vI x),(S "other",vI y)] [(20,AObj.list m)]) (QQ Fl.next [(S "found",AV.pv (PV.list l)),(S "due",AV.loc 20),(S "one",vI x),(S "other",vI y)] [(20,AObj.list m)]))
 (fC gT (br eX) 197 (bj eX 3) [(S "found",AV.pv (PV.list l)),(S "due",AV.loc 20),(S "one",vI x),(S "other",vI y)] [(20,AObj.list m)] QQ):=imp (by kernel_rfl)
theorem RQ(l:List PV)(m:List PV)(x:Bool)(y:Bool)(QQ:Fl->aw->St->Prop):aE
 (cB (!x == y) (QQ (Fl.ret (vB bp)) [(S "found",AV.pv (PV.list l)),(S "due",AV.loc 20),(S "one",vB x),(S "other",vB y)] [(20,AObj.list m)]) (QQ Fl.next [(S "found",AV.pv (PV.list l)),(S "due",AV.loc 20),(S "one",vB x),(S "other",vB y)] [(20,AObj.list m)]))
 (fC gT (br eX) 197 (bj eX 3) [(S "found",AV.pv (PV.list l)),(S "due",AV.loc 20),(S "one",vB x),(S "other",vB y)] [(20,AObj.list m)] QQ):=imp (by kernel_rfl)
theorem RS(l:List PV)(m:List PV)(x:Str)(y:Str)(QQ:Fl->aw->St->Prop):aE
 (cB (!x == y) (QQ (Fl.ret (vB bp)) [(S "found",AV.pv (PV.list l)),(S "due",AV.loc 20),(S "one",AV.pv (PV.str x)),(S "other",AV.pv (PV.str y))] [(20,AObj.list m)]) (QQ Fl.next [(S "found",AV.pv (PV.list l)),(S "due",AV.loc 20),(S "one",AV.pv (PV.str x)),(S "other",AV.pv (PV.str y))] [(20,AObj.list m)]))
 (fC gT (br eX) 197 (bj eX 3) [(S "found",AV.pv (PV.list l)),(S "due",AV.loc 20),(S "one",AV.pv (PV.str x)),(S "other",AV.pv (PV.str y))] [(20,AObj.list m)] QQ):=imp (by kernel_rfl)
section
variable{E:Env0}
theorem RT(g:G0 E):FOk E [(Cn,EU)]:=
 bx g (bud:=40) (D:=wj) (nh g) (a8 (i:=29) rfl) (by kernel_rfl) (by decide) (bZ fun r b Q h=>ax (b9 h) fun hw h3=>by
  refine(RJ b r.o r.l r.pw r.bw r.t Q) (bg hw ?_)
  have e5:r.o+(0-aP (aB b r.o (r.o+r.pw)))=au b r.o r.pw:=by unfold au;exact dM (f2 1 [] (.p v0 (.m (.n 0) v1)) (.m v0 v1) rfl) (f2 1 [] (.m v0 v1) (.p v0 (.m (.n 0) v1)) rfl)
  rw[iM,WH,e5]
  exact h3)
theorem E1(h:0<=a/\a<=1000):fz a b=true:=by
 obtain⟨n,rfl⟩:=ij h.1
 have hn:n<1001:=dx (f1 1 [(1,v0,.n 1000)] (.p v0 (.n 1)) (.n 1001) rfl h.2)
 have :∀n:Nat,n<1001->decide (iL (n:Int)>tx)=false:=by decide+kernel
 unfold fz
 simp only[this n hn,sD,sD];rfl
theorem RU(b:List UInt8)(i:Int):0<=bc b i:=ee _
theorem RV(g:G0 E):FOk E [(Ch,EV)]:=
 bx g (bud:=40) (D:=wg) (nh g) (a8 (i:=24) rfl) (by kernel_rfl) (by decide) (dK fun d i b Q h=>ax h fun h3 q=>H7 h3 fun g1 g2 g3 g4 g5 g6 g7 g8 g9 zj=>by
  refine(RK b d.o d.l d.bw d.n i Q) (m8 (Int.not_lt.mpr (f1 1 [(1,.n 0,v0)] (.n 0) v0 rfl g1)) ⟨⟨by omega,by omega⟩,m8 (Int.not_le.mpr (f2 1 [(1,.p v0 (.n 1),v1)] (.p v0 (.n 1)) v1 rfl g2)) ⟨⟨by omega,by omega⟩,bg (E1 ⟨by omega,g3⟩) ⟨⟨f3 1 [(1,.n 0,v0),(1,.n 0,v1),(1,.n 0,v2)] (.n 0) (.p v1 (.p v2 v0)) rfl g1 g6 g8,g7⟩,bg (E1 ⟨g1,f2 1 [(1,.p v0 (.n 1),v1),(1,v1,.n 1000)] v0 (.n 1000) rfl g2 g3⟩) (bl (f2 1 [(1,.n 0,v0),(1,.n 0,v1)] (.n 0) (.p v0 v1) rfl g6 g9) ⟨RU _ _,zj⟩ q)⟩⟩⟩))
theorem E2{b:List UInt8}{k:Nat}(h:k+1<=b.length):∃u,cI b (-((k:Int)+1))=aa u/\bc b (b.length-(k+1))=u.toNat:=by
 have hi:b.length-(k+1)<b.length:=dx (f3 1 [(1,.n 0,v0),(1,v2,.m v1 (.p v0 (.n 1)))] (.p v2 (.n 1)) v1 rfl aY (gl (aO (f2 1 [(1,.p v0 (.n 1),v1)] (.p v0 (.n 1)) v1 rfl (a:=↑k) (b:=↑b.length) (aF h)))))
 refine(i12 (b[b.length-(k+1)]) (?_) (?_))
 ·unfold cI
  rw[decide_eq_false (by exact Int.not_le.mpr (f1 1 [(1,.n 0,v0)] (.p (.g (.p v0 (.n 1))) (.n 1)) (.n 0) rfl aY))]
  skip
  rw[decide_eq_true (by exact f2 1 [(1,.p v0 (.n 1),v1)] (.g v1) (.g (.p v0 (.n 1))) rfl (aF h))]
  dsimp only
  rw[show((b.length:Int)+ -((k:Int)+1)).toNat=b.length-(k+1) from by omega]
  exact eH hi
 ·unfold bc
  rw[show((b.length:Int)-((k:Int)+1)).toNat=b.length-(k+1) from by omega,eH hi];rfl
theorem RW(g:G0 E):FOk E [(C4,EW)]:=
 bx g (bud:=40) (D:=wU) (nh g) (a8 (i:=71) rfl) (by kernel_rfl) (by decide) (bZ fun _ b Q h=>ax h fun z0 q=>cP z0 fun h3 h4 h5=>by
  refine e12 (E2 (b:=b) (k:=0) (aO (f1 3 [(1,.n 3,v0),(2,.n 0,v0)] (.p (.n 0) (.n 1)) v0 rfl (aF h3) aY))) fun u u1 u2=>?_
  refine e12 (E2 (b:=b) (k:=1) (aO (f1 3 [(2,.n 3,v0),(1,.n 0,v0)] (.p (.n 1) (.n 1)) v0 rfl (aF h3) aY))) fun v v1 v2=>?_
  have u2:bc b (b.length-1)=u.toNat:=u2
  have v2:bc b (b.length-2)=v.toNat:=v2
  unfold rO rV rT rW at q
  unfold rW at h4
  simp only[u2] at h4 q
  rw[v2] at h5 q
  refine(RL b Q) (m8 (Int.not_lt.mpr (f1 1 [(1,.n 3,v0)] (.n 3) v0 rfl (aF h3))) (dJ u1 (dJ v1 ⟨⟨ee _,h5⟩,?_⟩)))
  have e6:gw (-(2+(u.toNat:Int))) (b.length:Int)=b.length-(2+(u.toNat:Int)):=by unfold gw;rw[if_neg (by exact Int.not_le.mpr (f1 1 [(1,.n 0,v0)] (.p (.g (.p (.n 2) v0)) (.n 1)) (.n 0) rfl aY))];omega
  simp only[e6,show(b.length:Int)-(b.length-(2+(u.toNat:Int)))=2+(u.toNat:Int) from by omega]
  exact q)
theorem RY(g:G0 E):FOk E [(C9,EX)]:=
 bx g (bud:=40) (D:=wX) (nh g) (a8 (i:=76) rfl) (by kernel_rfl) (by decide) (bZ fun v _ Q q=>by
  refine(RM v Q) ?_
  have e:∀p,fE v=p->Q (.pv p) []:=λp e=>e▸q
  unfold fE at e
  refine lR (λc=>e _ (if_pos (cE c))) fun c=>?_
  replace e:=(if_neg (by simpa using c))▸e
  refine lR (λc=>e _ (if_pos (cE c))) fun c=>?_
  rw[if_neg (by simpa using c)] at e
  refine lR (λc=>e _ (if_pos (cE c))) fun c=>?_
  rw[if_neg (by simpa using c)] at e
  exact e _ rfl)
theorem RZ(f:α×α->β):∀l:List α,(l.zip l).map f=l.map fun p=>f (p,p):=by
 intro v0
 induction v0 with
 |nil=>
  exact rfl
 |cons x l ih=>simp only[W9,ey,ey,ih]
abbrev E3(l:List PV):aw:=[(S "found",.pv (.list l)),(S "due",.loc 20)]
abbrev xG(l:List PV)(p q:PV):aw:=[(S "found",.pv (.list l)),(S "due",.loc 20),(S "one",.pv p),(S "other",.pv q)]
theorem R0{K:Fl->aw->St->Prop}(hK:K .next (E3 l) [(20,.list l)]):∀(k:List PV) (env:aw),cutE [S "found",S "due"] env=E3 l->k.all kN=true->
  c9 (fC gT (br eX) 197 (bj eX 3)) (gt eX 2) [(20,l)] [S "found",S "due"] (k.map fun p=>.tuple [p,p]) env [(20,.list l)] K:=by
 intro v0
 induction v0 with
 |nil=>
  intro env he _
  show K .next (cutE [S "found",S "due"] env) [(20,.list l)]
  rw[he];exact hK
 |cons p k ih=>
  intro env he hs
  simp only[sQ,bC] at hs
  rw[ey]
  refine mY (env1:=xG l p p) (by rw[he];kernel_rfl) fun QQ hq=>?_
  have q1:=(hq (xG l p p) [(20,.list l)] ⟨rfl,trivial⟩ (ih (xG l p p) (by kernel_rfl) hs.2)).1
  cases p with
  |int i=>
   skip
   refine RP _ _ _ _ _ ?_
   exact fT (by simp) q1
  |bool i=>
   skip
   refine RQ _ _ _ _ _ ?_
   exact fT (by simp) q1
  |str i=>
   skip
   refine RS _ _ _ _ _ ?_
   exact fT (by simp) q1
  |_=>exact nomatch hs.1
theorem R3(g:G0 E):FOk E [(Db,EZ)]:=
 bx g (bud:=40) (D:=eX) (nh g) (a8 (i:=77) rfl) (by kernel_rfl) (by decide) (dK fun l _ m Q h=>by
  obtain⟨⟨rfl,hs,hl⟩,q⟩:=h
  show RD gT eX [.pv (.list l),.loc 20] [] [(20,.list l)] Q
  refine RN _ _ _ ?_;simp only[RZ]
  refine fT (by simp) ⟨trivial,R0 ?_ l _ (by kernel_rfl) hs⟩
  skip
  refine RO _ _ _ ?_
  exact q)
end
def L4:List (Addr×Spec):=(Cn,EU)::(Ch,EV)::(C4,EW)::(C9,EX)::(Db,EZ)::L3
def xH:aI:=dA L4 50
theorem xI(g:G0 E):FOk E L4:=
 (RT g).add <| (RV g).add <| (RW g).add <| (RY g).add <| (R3 g).add <| nh g
def E4:Spec:=bS 51 fU cY fun r b Q=>gd (r.t == 10) (gd (aM r.pw) (gd (aM r.bw) ((0<=r.o/\r.o+r.pw<=b.length/\0<=au b r.o r.pw+ -r.bw/\au b r.o r.pw<=b.length)/\
 Q (iH (au b r.o r.pw) (b.length-au b r.o r.pw) r.bw (aP (aB b (au b r.o r.pw+ -r.bw) (au b r.o r.pw)))) (aV b))))
def xJ(b:List UInt8)(o w:Int)(cs:List Nat):Prop:=
 0<=o+ -w/\o<=b.length/\0<=aP (aB b (o+ -w) o)/\aP (aB b (o+ -w) o)<1000000/\o+aP (aB b (o+ -w) o)<=b.length/\cs.all dh=true/\aB b o (o+aP (aB b (o+ -w) o))=cC cs
def E5:Spec:=bS 51 (xw 5) cY fun r b Q=>gd (aM r.pw) (gd (aM r.bw) ((0<=r.o/\r.o+r.pw<=b.length/\0<=au b r.o r.pw)/\
 ∃cs:List Nat,xJ b (au b r.o r.pw) r.bw cs/\Q (.pv (.str ⟨cs.toArray⟩)) (aV b)))
theorem R4(b:List UInt8)(o:Int)(l:Int)(p:Int)(w:Int)(Q:AV->St->Prop):aE
 (cB (aM p) ((0<=o/\o+p<=(↑(ae b):Int)/\0<=au b o p)/\cB (aM w) ((0<=au b o p+ -w/\au b o p<=(↑(ae b):Int))/\Q (iH (au b o p) ((↑(ae b):Int)-au b o p) w (aP (aB b (au b o p+ -w) (au b o p)))) [(1,AObj.ba b)]) False) False)
 (RD xH rE [bY o l p w 10] [] (aV b) Q):=imp (by kernel_rfl)
theorem R5(b:List UInt8)(o:Int)(l:Int)(p:Int)(w:Int)(Q:AV->St->Prop):aE
 (cB (aM p) ((0<=o/\o+p<=(↑(ae b):Int)/\0<=au b o p)/\cB (aM w) ((0<=au b o p+ -w/\au b o p<=(↑(ae b):Int))/\(0<=au b o p/\au b o p<=au b o p+aP (aB b (au b o p+ -w) (au b o p))/\au b o p+aP (aB b (au b o p+ -w) (au b o p))<=(↑(ae b):Int)/\aP (aB b (au b o p+ -w) (au b o p))<1000000)/\∃(cs:List Nat),(jk cs dh=bz/\aB b (au b o p) (au b o p+aP (aB b (au b o p+ -w) (au b o p)))=cC cs)/\Q (AV.pv (PV.str (cR (c7 cs)))) [(1,AObj.ba b)]) False) False)
 (RD xH wv [bY o l p w 5] [] (aV b) Q):=imp (by kernel_rfl)
section
variable{E:Env0}
theorem R6(g:G0 E):FOk E [(CC,E4)]:=
 bx g (bud:=50) (D:=rE) (xI g) (a8 (i:=43) rfl) (by kernel_rfl) (by decide) (bZ fun r b Q h=>ax (b9 h) fun ht h=>ax (b9 h) fun hw h=>ax (b9 h) fun hv z=>by
  show RD xH rE [bY r.o r.l r.pw r.bw r.t] [] (aV b) Q
  refine eqR (cE ht) ?_
  exact(R4 b r.o r.l r.pw r.bw Q) (bg hw ⟨(bl z.1.1 z.1.2.1 (by have :=(gy hv).1;have :=z.1.2.2.1;lia)),bg hv ⟨z.1.2.2,z.2⟩⟩))
theorem R7(g:G0 E):FOk E [(Cy,E5)]:=
 bx g (bud:=50) (D:=wv) (xI g) (a8 (i:=39) rfl) (by kernel_rfl) (by decide) (bZ fun r b Q h=>ax (b9 h) fun hw h4=>by
  refine cP (b9 h4) fun hv h5 z7=>?_;refine e12 z7 fun cs z0 q=>?_;refine ju z0 fun t1 t2 t3 t4 t5 t6 t7=>?_
  refine R5 _ _ _ _ _ _ ?_
  have :=gy hv
  exact bg hw ⟨h5,bg hv ⟨⟨t1,t2⟩,(eC (f2 1 [(1,.n 0,.p v0 (.g v1)),(1,.p (.n 0) (.n 1),v1)] (.n 0) v0 rfl t1 this.1) (f2 1 [(1,.n 0,v1)] v0 (.p v0 v1) rfl t3) t5 t4),cs,⟨t6,t7⟩,q⟩⟩)
end
def L5:List (Addr×Spec):=(CC,E4)::(Cy,E5)::L4
def xK:aI:=dA L5 60
theorem E6(g:G0 E):FOk E L5:=(R6 g).add <| (R7 g).add <| xI g
def sd(b:List UInt8)(o pw bw t:Int)(p:PV):Prop:=aM pw=true/\(0<=o/\o+pw<=b.length)/\
 ((t=1/\p=.int (ic pw (aP (aB b o (o+pw)))))\/(t=26/\p=.bool (!(decide (aP (aB b o (o+pw))=0))))\/
  (t=5/\aM bw=true/\0<=au b o pw/\∃cs:List Nat,xJ b (au b o pw) bw cs/\p=.str ⟨cs.toArray⟩))
def E7:Spec:=bS 61 fU cY fun r b Q=>∃p,sd b r.o r.pw r.bw r.t p/\Q (.pv p) (aV b)
theorem R8(b:List UInt8)(o:Int)(l:Int)(p:Int)(w:Int)(Q:AV->St->Prop):aE
 (cB (aM p) ((0<=o/\o+p<=(↑(ae b):Int))/\Q (vI (ic p (aP (aB b o (o+p))))) [(1,AObj.ba b)]) False)
 (RD xK kE [bY o l p w 1] [] (aV b) Q):=imp (by kernel_rfl)
theorem R9(b:List UInt8)(o:Int)(l:Int)(p:Int)(w:Int)(Q:AV->St->Prop):aE
 (cB (aM p) ((0<=o/\o+p<=(↑(ae b):Int))/\Q (vB !bA (aP (aB b o (o+p))=0)) [(1,AObj.ba b)]) False)
 (RD xK kE [bY o l p w 26] [] (aV b) Q):=imp (by kernel_rfl)
theorem Sb(b:List UInt8)(o:Int)(l:Int)(p:Int)(w:Int)(Q:AV->St->Prop):aE
 (cB (aM p) (cB (aM w) ((0<=o/\o+p<=(↑(ae b):Int)/\0<=au b o p)/\∃(cs:List Nat),xJ b (au b o p) w cs/\Q (AV.pv (PV.str (cR (c7 cs)))) [(1,AObj.ba b)]) False) False)
 (RD xK kE [bY o l p w 5] [] (aV b) Q):=imp (by kernel_rfl)
section
variable{E:Env0}
theorem Sc(g:G0 E):FOk E [(q8,E7)]:=
 bx g (bud:=60) (D:=kE) (E6 g) (a8 (i:=45) rfl) (by kernel_rfl) (by decide) (bZ fun r b Q h=>by
  obtain⟨o,l,pw,w,t⟩:=r
  refine e12 h fun p z0 q=>?_;refine cP z0 fun h2 h3 h4=>?_
  clear h z0;rcases h4 with ⟨ht,rfl⟩|⟨ht,rfl⟩|⟨ht,hv,h5,cs,h6,rfl⟩ <;> (dsimp only at ht;subst ht)
  ·exact(R8 b o l pw w Q) (bg h2 ⟨h3,q⟩)
  ·exact(R9 b o l pw w Q) (bg h2 ⟨h3,q⟩)
  ·exact(Sb b o l pw w Q) (bg h2 (bg hv ⟨(bl h3.1 h3.2 h5),cs,h6,q⟩)))
end
def L6:List (Addr×Spec):=(q8,E7)::L5
def se:aI:=dA L6 70
theorem E8(g:G0 E):FOk E L6:=(Sc g).add <| E6 g
def xL(b:List UInt8)(o w n:Int)(l:List PV):Prop:=0<=n/\n<=1000/\aM w=true/\0<=o/\o+(n*w+n)<=b.length/\l.length=n.toNat/\
 ∀(i:Nat) p,l[i]? =aa p->bc b (o+(n*w+i))<108/\sd b (o+i*w) w (2^(bc b (o+(n*w+i))%4).toNat) (bc b (o+(n*w+i))/4) p
def E9:Spec:=bS 71 (m9 eW) cY fun d b Q=>∃l,xL b d.o d.bw d.n l/\Q (.pv (.list l)) (aV b)
theorem Sd(b:List UInt8)(o:Int)(l:Int)(w:Int)(n:Int)(Q:AV->St->Prop):mN se iG [iH o l w n] [] (aV b) Q=
 ((0<=n/\n<9223372036854775808)/\(0<=n/\n<=1000000)/\ae (gC (λ(i:Nat)=>PV.int (↑i:Int)) (gV (aj n)))<=16777216/\ga (λc=>aR se c 196) (dz (FCtx.mk (FnD.scope iG) [(S "self",iH o l w n)]) (gu iG 0)) (gj (fQ iG 0)) (lP iG 0) [] (gC (λ(i:Nat)=>PV.int (↑i:Int)) (gV (aj n))) [] [] [(1,AObj.ba b)] fun(l:List PV) (σ':St)=>σ'=[(1,AObj.ba b)]/\Q (AV.pv (PV.list l)) [(1,AObj.ba b)]):=by kernel_rfl
theorem Se(b:List UInt8)(o:Int)(l:Int)(w:Int)(n:Int)(i:Int)(Q:AV->St->Prop):aR se (dz (FCtx.mk (FnD.scope iG) [(S "self",iH o l w n)]) (gu iG 0)) 196 (gj (fQ iG 0)) [(S "k",vI i)] (aV b) Q=
 ((0<=i/\i<n/\n<=1000/\0<=w/\w<=8/\0<=o/\o+(n*w+i)<(↑(ae b):Int)/\0<=n*w/\0<=i*w/\bc b (o+(n*w+i))<108)/\∃(p:PV),sd b (o+i*w) w (2^aj (bc b (o+(n*w+i))%4)) (bc b (o+(n*w+i))/4) p/\Q (AV.pv p) [(1,AObj.ba b)]):=by kernel_rfl
section
variable{E:Env0}
theorem Sg(g:G0 E):FOk E [(Ci,E9)]:=
 Dh g (bud:=70) (D:=iG) (E8 g) (a8 (i:=25) rfl) (by kernel_rfl) (by decide) (bZ fun d b Q h=>by
  obtain⟨o,len,w,n⟩:=d
  refine e12 h fun l z0 q=>?_;refine ju z0 fun h2 h3 h4 h5 h6 h7 h8=>?_
  dsimp only at h2 h3 h4 h5 h6 h7 h8
  have hw:=gy h4
  show mN se iG [iH o len w n] [] (aV b) Q
  simp only[Sd]
  refine(eC ⟨h2,f1 1 [(1,v0,.n 1000)] (.p v0 (.n 1)) (.n 9223372036854775808) rfl h3⟩ ⟨h2,f1 1 [(1,v0,.n 1000)] v0 (.n 1000000) rfl h3⟩ (by simp only[dT,sW];exact aO (f2 1 [(1,v0,.n 1000),(1,v1,v0)] v1 (.n 16777216) rfl h3 (dO (f1 1 [(1,.n 0,v0)] (.n 0) v0 rfl (a:=n) h2)))) (?_))
  refine oN (E:=λy=>[(S "k",.pv y)]) (g:=λ(k:Nat)=>(l[k]?).getD .none) (λ_=>by kernel_rfl) (λ_ _=>by kernel_rfl) (by exact trivial) (λk hk K hK=>?_) ⟨rfl,?_⟩
  ·have hk:=GZ.mp hk
   obtain⟨p,hp⟩:∃p,l[k]? =aa p:=⟨_,eH (by omega)⟩
   refine ax (h8 k p hp) fun j1 j2=>?_
   have hK:K (.pv p) (aV b):=by rw[hp] at hK;exact hK
   skip
   simp only[Se]
   have m1:0<=n*w:=gU h2 (by omega)
   have m2:0<=(k:Int)*w:=gU (f1 1 [(1,.n 0,v0)] (.n 0) v0 rfl aY) (by omega)
   exact⟨(zc (f1 1 [(1,.n 0,v0)] (.n 0) v0 rfl aY) (f3 1 [(1,.p v2 (.n 1),v1),(1,v1,v0)] (.p v2 (.n 1)) v0 rfl (dD hk) (dO (f1 1 [(1,.n 0,v0)] (.n 0) v0 rfl (a:=n) h2))) h3 (by omega) hw.2 h5 (f6 1 [(1,.p v1 (.p v2 v0),v3),(1,.p v5 (.n 1),v4),(1,v4,v0)] (.p (.p v1 (.p v2 v5)) (.n 1)) v3 rfl h6 (dD hk) (dO (f1 1 [(1,.n 0,v0)] (.n 0) v0 rfl (a:=n) h2))) m1 m2 j1),p,j2,hK⟩
  ·have e:(gV n.toNat).map (λ(k:Nat)=>(l[k]?).getD .none)=l:=by
    refine yz fun i=>?_
    rw[io]
    by_cases hi:i<n.toNat
    ·rw[List.getElem?_range hi]
     obtain⟨p,hp⟩:∃p,l[i]? =aa p:=⟨_,eH (by omega)⟩
     simp only[hp]
     show aa ((l[i]?).getD .none)=_
     rw[hp];rfl
    ·rw[sU (by simp only[sW];exact aO (f2 1 [(1,v0,v1)] v0 v1 rfl (jw hi))),sU (aO (f3 1 [(1,v0,v1),(1,v1,v2)] v0 v2 rfl (eO h7) (jw hi)))];rfl
   rw[e];exact q)
end
def L7:List (Addr×Spec):=(Ci,E9)::L6
def Fa:aI:=dA L7 80
theorem Fb(g:G0 E):FOk E L7:=(Sg g).add <| E8 g
def sf(b:List UInt8)(o pw bw:Int)(l:List PV):Prop:=aM pw=true/\aM bw=true/\(0<=o/\o+pw<=b.length/\0<=au b o pw+ -bw/\au b o pw<=b.length)/\xL b (au b o pw) bw (aP (aB b (au b o pw+ -bw) (au b o pw))) l
def Fc:Spec:=bS 81 fU cY fun r b Q=>gd (r.t == 10) (∃l,sf b r.o r.pw r.bw l/\Q (.pv (.list l)) (aV b))
theorem Si(b:List UInt8)(o:Int)(l:Int)(p:Int)(w:Int)(Q:AV->St->Prop):aE
 (cB (aM p) (cB (aM w) ((0<=o/\o+p<=(↑(ae b):Int)/\0<=au b o p+ -w/\au b o p<=(↑(ae b):Int))/\∃(l:List PV),xL b (au b o p) w (aP (aB b (au b o p+ -w) (au b o p))) l/\Q (AV.pv (PV.list l)) [(1,AObj.ba b)]) False) False)
 (RD Fa kE [bY o l p w 10] [] (aV b) Q):=imp (by kernel_rfl)
section
variable{E:Env0}
theorem Sj(g:G0 E):FOk E [(q8,Fc)]:=
 bx g (bud:=80) (D:=kE) (Fb g) (a8 (i:=45) rfl) (by kernel_rfl) (by decide) (bZ fun r b Q h=>ax (b9 h) fun ht h=>e12 h fun l z0 q=>fM z0 fun h3 h4 h5 h6=>by
  show RD Fa kE [bY r.o r.l r.pw r.bw r.t] [] (aV b) Q
  refine eqR (cE ht) ?_
  exact(Si b r.o r.l r.pw r.bw Q) (bg h3 (bg h4 ⟨h5,l,h6,q⟩)))
end
def L8:List (Addr×Spec):=(q8,Fc)::L7
def Sk:aI:=dA L8 90
theorem Fd(g:G0 E):FOk E L8:=(Sj g).add <| Fb g
def lT(b:List UInt8)(l:List PV):Prop:=ni b/\rT b=10/\sf b (rO b) (rW b) (rV b) l
def Fe:Spec:=bS 91 (cA 1) cY fun _ b Q=>∃l,lT b l/\Q (.pv (.list l)) (aV b)
theorem Sl(b:List UInt8)(Q:AV->St->Prop):aE
 (ni b/\cB (rT b == 10) (∃(l:List PV),sf b (rO b) (rW b) (rV b) l/\Q (AV.pv (PV.list l)) [(1,AObj.ba b)]) False)
 (RD Sk wW [AV.loc 1] [] (aV b) Q):=imp (by kernel_rfl)
section
variable{E:Env0}
theorem Sm(g:G0 E):FOk E [(C6,Fe)]:=
 bx g (bud:=90) (D:=wW) (Fd g) (a8 (i:=73) rfl) (by kernel_rfl) (by decide) (bZ fun _ b Q h=>e12 h fun l z0 q=>cP z0 fun h3 h4 h5=>(Sl b Q) ⟨h3,bg (by rw[h4];rfl) (i12 l h5 q)⟩)
end
def L9:List (Addr×Spec):=(C6,Fe)::L8
theorem Sn(g:G0 E):FOk E L9:=(Sm g).add <| Fd g
def ie(fns:List (Addr×Spec))(bud:Nat):aI:=⟨[],[],[],[],[],[],[],fns,[("bytearray.append",spAppend),("bytearray.extend",spExtend),("list.append",spAppendL)],[("bytearray",vJ 1)],[],bud⟩
def xn:XN:=⟨[S "extend",S "append",S "_Align",S "_Write",S "_WriteOffset",S "_WriteAny",S "_WriteBlob",S "_CreateVector",S "String",S "_EndVector",S "VectorFromElements",S "Add",S "Finish",S "Put",S "Mutate",S "MutateInt",S "MutateBool",S "MutateString"],
 [S "Dumps",S "_Mutate",S "Builder",S "bytearray"]⟩
def FXOk(E:Env0)(l:List (Addr×Spec)):Prop:=∀p∈l,p.2.SoundX E (.ref p.1)/\nQ E.K (.ref p.1)=true
theorem FXOk.add{S:Spec}(h:FXOk E [(a,S)])(F:FXOk E l):FXOk E ((a,S)::l):=λp m=>by
 rcases cT.mp m with e |m
 ·exact h p (List.mem_singleton.mpr e)
 ·exact F p m
theorem FXOk.nil:FXOk E []:=λ_ m=>nomatch m
theorem So(F:FXOk E l):qQ E (ie l bud) where
 fns:=λa S e=>F _ (Dg e)
 bls:=λn S e=>by
  have m:=qX (l:=[("bytearray.append",spAppend),("bytearray.extend",spExtend),("list.append",spAppendL)]) e
  simp only[cT,fu,or_false,pB] at m
  rcases m with ⟨rfl,rfl⟩|⟨rfl,rfl⟩|⟨rfl,rfl⟩
  ·exact Mi
  ·exact Mj
  ·exact spAppendL_sound.up
 tys:=λn S e=>by
  have m:=qX (l:=[("bytearray",vJ 1)]) e
  simp only[cT,fu,or_false,pB] at m
  obtain⟨rfl,rfl⟩:=m
  exact Mk
 sets:=λA s K a sl b w v vl vu lo hi t hg ho hv hs hl hu h0 h1 h2 h3 h=>X.sets hg ho hv hs hl hu h0 h1 h2 h3 h
@[irreducible] def RX(T U:aI)(D:FnD)(vs:List AV)(kw:List (Str×AV))(σ:St)(Q:AV->St->Prop):Prop:=oE T U xn D vs kw σ Q
theorem RX_eq{T:aI}{vs:List AV}:RX T U D vs kw σ Q=oE T U xn D vs kw σ Q:=by unfold RX;rfl
theorem eN(g:G0 E)(F:FXOk E l){S:Spec}(hD:(a,D)∈Ds)(h:(D.ok&&iF D)=true)(hn:bud+1<=S.need)
  (hS:∀vs kw σ Q,S.run vs kw σ Q->RX (dA L9 bud) (ie l bud) D vs kw σ Q):FXOk E [(a,S)]:=λp m=>by
 rw[List.mem_singleton.mp m]
 rw[bC] at h
 exact⟨LQ (T:=dA L9 bud) (U:=ie l bud) (N:=xn) (rI g (Sn g)) (So F) rfl (by rw[g.K];exact rJ _ hD) h.1 h.2 hn fun vs kw σ Q q=>RX_eq.mp (hS vs kw σ Q q),mZ g (GW _ (pq hD))⟩
theorem Sp(g:G0 E){S:Spec}(hc:(C,fI)∈clsL)(hk:C∈Ds.map (·.1)++[gO,eV,eW,gP,gQ,gr,d6])(hI:FXOk E [(fI,init)])(hn:init.need+1<=S.need)
  (hS:∀vs kw σ Q,S.run vs kw σ Q->qP init C k kd vs kw σ Q):FXOk E [(C,S)]:=λp m=>by
 rw[List.mem_singleton.mp m]
 have h:=du.mp (Di E.w.params) _ hc
 rw[<-g.K,bC,bC,beq_iff_eq,beq_iff_eq] at h
 exact⟨LU h.1 h.2.1 h.2.2 (hI _ (List.mem_singleton.mpr rfl)).1 hn hS,mZ g hk⟩
def bo(n v:Int):List UInt8:=be n.toNat v
def ig(n v:Int):List UInt8:=be n.toNat (v%2^(8*n).toNat)
noncomputable abbrev zU(n:UInt8):UInt8:=n
def jd:aI:=dA L9 100
def je:aI:=ie [] 100
def Sq:db Unit:=⟨λσ=>aA (t2 σ) fun q=>aA (n7 q.1.2) fun fs=>aA (n6 q.2.2) fun r=>bW (a7 q.1.1 10&&a7 q.2.1 0&&a7 r.1 d6&&a7 r.2 10&&cm fs) (aa ()),λ_=>[(10,.attrs []),(0,.inst d6 10)],λh=>ay h fun q e1 h=>ay h fun fs e2 h=>ay h fun r e3 h=>bU h fun g _=>by
 have g:=b5 g
 rw[kJ e1,show q.1=(10,.attrs []) from jn (ce g.1.1.1.1) ((p5 e2).trans (by rw[cX g.2])),show q.2=(0,.inst d6 10) from jn (ce g.1.1.1.2) ((pZ e3).trans (by rw[ce g.1.1.2,ce g.1.2]))]⟩
def Ff:Spec:=bS 101 (cA 0) Sq fun _ _ Q=>Q vN (aQ [] [])
noncomputable def Fg:PV->Option (Bool×List UInt8)
 | .barr a=>aa (true,a)
 | .bytes a=>aa (false,a)
 |_=>none
theorem Sr(h:Fg p=aa x):p=cond x.1 (.barr x.2) (.bytes x.2):=by cases p with
 |barr a=>rw[<-ac h];rfl
 |bytes a=>rw[<-ac h];rfl
 |_=>exact aD h
def Ss:Sh (Bool×List UInt8):=oT Fg (λx=>cond x.1 (.barr x.2) (.bytes x.2)) Sr
noncomputable def bL(b:List UInt8)(w:Int):List UInt8:=fH ((-(b.length:Int))%w).toNat 0
def Fh:Spec:=dB 101 (cA 0) bv gh fun _ k d Q=>(0<=k/\k<=3/\d.1.length<=16000000)/\Q (vI (2^k.toNat)) (aQ (d.1++bL d.1 (2^k.toNat)) d.2)
def xM(p:PV)(n:Int)(Q:List UInt8->Prop):Prop:=ag (fP p) fun v=>(0<=v/\v<2^(8*n).toNat)/\Q (bo n v)
def xN(p:PV)(n:Int)(Q:List UInt8->Prop):Prop:=ag (bX p) fun v=>(-(2^(8*n-1).toNat)<=v/\v<2^(8*n-1).toNat)/\Q (ig n v)
def wr(f:Nat)(p:PV)(n:Int)(b:List UInt8)(Q:List UInt8->Prop):Prop:=gd (aM n) (cB (a7 f 80) (xM p n Q) (gd (a7 f 79) (xN p n Q)))
@[elab_as_elim] theorem Fi{f:Nat}{p:PV}{n:Int}{b:List UInt8}{Q:List UInt8->Prop}{M:Nat->Prop}(h:wr f p n b Q)(u:aM n=true->xM p n Q->M 80)(i:aM n=true->xN p n Q->M 79):M f:=
 ax (b9 h) fun hw q=>lS q (λe q=>eqR (ce e) (u hw q)) fun _ q=>ax (b9 q) fun e q=>eqR (ce e) (i hw q)
def Fj(f:Nat)(p:PV)(n:Int)(d:List UInt8×List PV)(Q:AV->St->Prop):Prop:=d.1.length<=16000000/\wr f p n d.1 fun x=>Q vN (aQ (d.1++x) d.2)
def Fk:Spec:=nf 4 (na 101 (cA 0) oQ ja bv gh fun _=>Fj) (DH 101 (cA 0) oQ ja (S "byte_width") bv gh fun _=>Fj)
def Fn:Spec:=na 101 gv bv bv Ss cY fun r i j v b Q=>(0<=r.1+i/\r.1+i<=r.1+j/\r.1+j<=b.length/\b.length+v.2.length<=16777216)/\
 Q vN (aV (aZ b v.2 (r.1+i).toNat (r.1+j).toNat))
theorem Su(Q:AV->St->Prop):aE
 (Q vN (aQ [] []))
 (RX jd je wK [AV.loc 0] [] [(10,AObj.attrs []),(0,AObj.inst d6 10)] Q):=imp (by kernel_rfl)
theorem Sv(k:Int)(b:List UInt8)(st:List PV)(Q:AV->St->Prop):aE
 (cB (cf 1 k) (cB (aM (1*2^aj k)) (cB (oe [zU 0] (-(↑(ae b):Int)%(1*2^aj k))) (ae b+ae (WR (fH (aj (-(↑(ae b):Int)%(1*2^aj k))) [zU 0]))<=16777216/\Q (vI (1*2^aj k)) (aQ (b++WR (fH (aj (-(↑(ae b):Int)%(1*2^aj k))) [zU 0])) st)) False) False) False)
 (RX jd je wM [AV.loc 0,vI k] [] (aQ b st) Q):=imp (by kernel_rfl)
theorem Sw(p:PV)(n:Int)(b:List UInt8)(st:List PV)(Q:AV->St->Prop):aE
 (cB (aM n) (cO (fP p) fun(a:Int)=>(0<=a/\a<2^aj (8*n))/\ae b+ae (be (aj n) a)<=16777216/\Q vN (aQ (b++be (aj n) a) st)) False)
 (RX jd je kG [AV.loc 0,AV.pv (PV.const (dw 80)),AV.pv p,vI n] [] (aQ b st) Q):=imp (by kernel_rfl)
theorem Sx(p:PV)(n:Int)(b:List UInt8)(st:List PV)(Q:AV->St->Prop):aE
 (cB (aM n) (cO (bX p) fun(a:Int)=>(-2^aj (8*n-1)<=a/\a<2^aj (8*n-1))/\ae b+ae (be (aj n) (a%2^aj (8*n)))<=16777216/\Q vN (aQ (b++be (aj n) (a%2^aj (8*n))) st)) False)
 (RX jd je kG [AV.loc 0,AV.pv (PV.const (dw 79)),AV.pv p,vI n] [] (aQ b st) Q):=imp (by kernel_rfl)
theorem Sy(p:PV)(n:Int)(b:List UInt8)(st:List PV)(Q:AV->St->Prop):aE
 (cB (aM n) (cO (fP p) fun(a:Int)=>(0<=a/\a<2^aj (8*n))/\ae b+ae (be (aj n) a)<=16777216/\Q vN (aQ (b++be (aj n) a) st)) False)
 (RX jd je kG [AV.loc 0,AV.pv (PV.const (dw 80)),AV.pv p] [(S "byte_width",vI n)] (aQ b st) Q):=imp (by kernel_rfl)
theorem SA(p:PV)(n:Int)(b:List UInt8)(st:List PV)(Q:AV->St->Prop):aE
 (cB (aM n) (cO (bX p) fun(a:Int)=>(-2^aj (8*n-1)<=a/\a<2^aj (8*n-1))/\ae b+ae (be (aj n) (a%2^aj (8*n)))<=16777216/\Q vN (aQ (b++be (aj n) (a%2^aj (8*n))) st)) False)
 (RX jd je kG [AV.loc 0,AV.pv (PV.const (dw 79)),AV.pv p] [(S "byte_width",vI n)] (aQ b st) Q):=imp (by kernel_rfl)
theorem SD(b:List UInt8)(v:List UInt8)(o:Int)(l:Int)(i:Int)(j:Int)(Q:AV->St->Prop):aE
 ((0<=o+i/\o+i<=o+j/\o+j<=(↑(ae b):Int)/\ae b+ae v<=16777216)/\Q vN [(1,AObj.ba (aZ b v (aj (o+i)) (aj (o+j))))])
 (RX jd je rn [bR o l,vI i,vI j,AV.pv (PV.bytes v)] [] (aV b) Q):=imp (by kernel_rfl)
theorem SE(b:List UInt8)(v:List UInt8)(o:Int)(l:Int)(i:Int)(j:Int)(Q:AV->St->Prop):aE
 ((0<=o+i/\o+i<=o+j/\o+j<=(↑(ae b):Int)/\ae b+ae v<=16777216)/\Q vN [(1,AObj.ba (aZ b v (aj (o+i)) (aj (o+j))))])
 (RX jd je rn [bR o l,vI i,vI j,AV.pv (PV.barr v)] [] (aV b) Q):=imp (by kernel_rfl)
section
variable{E:Env0}
theorem SF(g:G0 E):FXOk E [(CO,Ff)]:=
 eN g (l:=[]) (bud:=100) (D:=wK) .nil (a8 (i:=56) rfl) (by kernel_rfl) (by decide) (bZ fun _ _ Q q=>(Su Q) q)
theorem SG:∀n:Nat,(fH n [zU 0]).flatten=fH n 0:=by
 intro v0
 induction v0 with
 |zero=>
  exact rfl
 |succ n ih=>simp only[WX,List.flatten_cons,ih,WX];rfl
theorem Fo(h:0<=k/\k<=3):cf 1 k=true/\aM (2^k.toNat)=true:=by
 refine e11 (ij h.1) fun n e=>?_
 have a:=nH (Int.ofNat_le.mp (e▸h.2))
 exact eqR e ((by decide+kernel:∀n:Nat,n<4->cf 1 (n:Int)=true/\aM (2^(n:Int).toNat)=true) n a)
theorem Fp{b:List UInt8}{w:Int}(h:aM w=true):∃m:Nat, -(b.length:Int)%w=m/\m<9:=by
 have hw:=gy h
 refine e11 (ij (jQ (-(b.length:Int)) (b:=w) (WF hw.1))) fun m e=>⟨m,e,?_⟩
 have hl:=jP (-(b.length:Int)) hw.1
 rw[e] at hl
 exact Int.ofNat_lt.mp (yt (Int.lt_of_lt_of_le hl hw.2) (by decide))
theorem SI(g:G0 E):FXOk E [(CQ,Fh)]:=
 eN g (l:=[]) (bud:=100) (D:=wM) .nil (a8 (i:=58) rfl) (by kernel_rfl) (by decide) (dK fun _ k d Q h=>ax h fun z q=>cP z fun h3 h4 h5=>ax (Fo ⟨h3,h4⟩) fun k1 k2=>by
  refine(Sv k d.1 d.2 Q) ?_
  unfold bL at q
  refine e12 (Fp (b:=d.1) k2) fun m e hm=>?_
  rw[e] at q
  rw[ik,e,show(m:Int).toNat=m from rfl,SG]
  refine bg k1 (bg k2 (bg ((by decide+kernel:∀m:Nat,m<9->oe [zU 0] (m:Int)=true) m hm) ⟨?_,q⟩))
  rw[nG];omega)
theorem fG:∀(n:Nat) (v:Int),(be n v).length=n:=by
 intro v0
 induction v0 with
 |zero=>
  intro _
  exact rfl
 |succ n ih=>intro v;show(be n _).length+1=_;rw[ih]
theorem xO{b:List UInt8}{x:List UInt8}{n:Int}(h:b.length<=16000000)(hw:aM n=true)(e:x.length=n.toNat):b.length+x.length<=16777216:=by
 have :=gy hw
 omega
theorem Fq{p:PV}{n:Int}{b:List UInt8}{K:List UInt8->Prop}(h:b.length<=16000000)(hw:aM n=true)(q:xM p n K):cB (aM n) (cO (fP p) fun(a:Int)=>(0<=a/\a<2^aj (8*n))/\b.length+(be (aj n) a).length<=16777216/\K (be (aj n) a)) False:=
 bg hw (aq q fun v e q=>dJ e ⟨q.1,xO h hw (fG _ _),q.2⟩)
theorem Ft{p:PV}{n:Int}{b:List UInt8}{K:List UInt8->Prop}(h:b.length<=16000000)(hw:aM n=true)(q:xN p n K):cB (aM n) (cO (bX p) fun(a:Int)=>(-2^aj (8*n-1)<=a/\a<2^aj (8*n-1))/\b.length+(be (aj n) (a%2^aj (8*n))).length<=16777216/\K (be (aj n) (a%2^aj (8*n)))) False:=
 bg hw (aq q fun v e q=>dJ e ⟨q.1,xO h hw (fG _ _),q.2⟩)
theorem SJ(g:G0 E):FXOk E [(CR,Fk)]:=
 eN g (l:=[]) (bud:=100) (D:=kG) .nil (a8 (i:=59) rfl) (by kernel_rfl) (by decide) (oS
  (oR fun _ f p n d Q h=>Fi (M:=λf=>RX jd je kG [.loc 0,.pv (.const (.ref f)),.pv p,vI n] [] (aQ d.1 d.2) Q) h.2 (λhw q=>(Sw p n d.1 d.2 Q) (Fq h.1 hw q)) fun hw q=>(Sx p n d.1 d.2 Q) (Ft h.1 hw q))
  (OA fun _ f p n d Q h=>Fi (M:=λf=>RX jd je kG [.loc 0,.pv (.const (.ref f)),.pv p] [(S "byte_width",vI n)] (aQ d.1 d.2) Q) h.2 (λhw q=>(Sy p n d.1 d.2 Q) (Fq h.1 hw q)) fun hw q=>(SA p n d.1 d.2 Q) (Ft h.1 hw q)))
theorem SK(g:G0 E):FXOk E [(B6,Fn)]:=
 eN g (l:=[]) (bud:=100) (D:=rn) .nil (a8 (i:=13) rfl) (by kernel_rfl) (by decide) (oR fun r i j v b Q h=>by
  obtain⟨c,v⟩:=v
  cases c with
  |true=>exact(SE b v r.1 r.2 i j Q) h
  |false=>exact(SD b v r.1 r.2 i j Q) h)
end
def lU:List (Addr×Spec):=[(CQ,Fh),(CR,Fk),(B6,Fn)]
theorem oU(g:G0 E):FXOk E lU:=(SI g).add <| (SJ g).add <| SK g
def oV:aI:=dA L9 110
def oW:aI:=ie lU 110
def Fu:Spec:=xq 102 fe fun _ Q=>Q (.loc 0) (aQ [] [])
def Fv:Spec:=ib 111 (cA 0) bv bv gh fun _ v n d Q=>gd (aM n) ((d.1.length<=16000000/\0<=(d.1.length:Int)-v/\(d.1.length:Int)-v<2^(8*n).toNat)/\Q vN (aQ (d.1++bo n ((d.1.length:Int)-v)) d.2))
def dL(x:List UInt8):List UInt8:=bo 1 x.length++(x++[zU 0])
def Fw:Spec:=xu 111 (cA 0) OB (S "append_zero") (kL true) (S "type_") (xv 5) gh fun _ x _ _ d Q=>(x.length<256/\d.1.length<=15000000/\d.2.length<=1000000)/\
   Q (vI (d.1.length+1)) (aQ (d.1++dL x) (d.2++[bk (.int (d.1.length+1)) 5 0]))
def SM(f:Nat)(o:Int)(p:PV)(n w:Int)(b:List UInt8)(Q:AV->St->Prop):Prop:=(0<=w/\w<=3)/\cB (decide (2^w.toNat<=n))
 ((0<=o/\o+n<=b.length/\b.length<=16000000)/\wr f p n b fun x=>Q (vB true) (aV (aZ b x o.toNat (o+n).toNat))) (Q (vB false) (aV b))
def Fx:Spec:=xp 111 oQ gv ja bv bv cY fun f r p n w b Q=>gd (aM n&&(a7 f 80||a7 f 79)) (SM f r.1 p n w b Q)
def cZ(b x:List UInt8)(o w n:Int):List UInt8:=
 aZ (aZ (aZ b (bo w x.length) (o+ -w).toNat o.toNat) x o.toNat (o+x.length).toNat) (fH (n-x.length).toNat 0) (o+x.length).toNat (o+n).toNat
def SN(x:List UInt8)(r:rN)(b:List UInt8)(Q:AV->St->Prop):Prop:=cB (decide ((x.length:Int)<=r.n)) (gd (aM r.bw) ((0<=r.o+ -r.bw/\r.o+r.n<=b.length/\b.length<=15000000/\(x.length:Int)<2^(8*r.bw).toNat)/\Q (vB true) (aV (cZ b x r.o r.bw r.n)))) (Q (vB false) (aV b))
def Fy:Spec:=dB 111 (m9 eV) rR cY fun r s b Q=>(s.cps.toList.all dh=true/\s.cps.size<=1000/\0<=r.n/\r.n<=1000000)/\SN (cC s.cps.toList) r b Q
theorem SO(Q:AV->St->Prop):aE
 (Q (AV.loc 0) (aQ [] []))
 (qP Ff d6 0 10 [] [] [] Q):=imp (by kernel_rfl)
theorem SP(v:Int)(n:Int)(b:List UInt8)(st:List PV)(Q:AV->St->Prop):aE
 (cB (n == 8) (ae b<=16000000/\wr 80 (PV.int ((↑(ae b):Int)-v)) n b fun(x:List UInt8)=>Q vN (aQ (b++x) st)) (cB (cf 1 (8*n)) (cB (bA ((↑(ae b):Int)-v<1*2^aj (8*n))) (ae b<=16000000/\wr 80 (PV.int ((↑(ae b):Int)-v)) n b fun(x:List UInt8)=>Q vN (aQ (b++x) st)) False) False))
 (RX oV oW wN [AV.loc 0,vI v,vI n] [] (aQ b st) Q):=imp (by kernel_rfl)
theorem SQ(x:List UInt8)(b:List UInt8)(st:List PV)(Q:AV->St->Prop):aE
 ((0<=(↑(ae x):Int)/\(↑(ae x):Int)<18446744073709551616)/\(0<=bE (↑(ae x):Int)/\bE (↑(ae x):Int)<=3/\ae b<=16000000)/\ae (b++bL b (2^aj (bE (↑(ae x):Int))))<=16000000/\wr 80 (PV.int (↑(ae x):Int)) (2^aj (bE (↑(ae x):Int))) (b++bL b (2^aj (bE (↑(ae x):Int)))) fun(x_1:List UInt8)=>ae (b++bL b (2^aj (bE (↑(ae x):Int)))++x_1)+ae x<=16777216/\(zI 0<=0/\zI 0<256/\ae (b++bL b (2^aj (bE (↑(ae x):Int)))++x_1++x)+1<=16777216)/\ae st+1<=16777216/\Q (vI (↑(ae (b++bL b (2^aj (bE (↑(ae x):Int)))++x_1)):Int)) (aQ (b++bL b (2^aj (bE (↑(ae x):Int)))++x_1++x++[zU 0]) (st++[bk (PV.int (↑(ae (b++bL b (2^aj (bE (↑(ae x):Int)))++x_1)):Int)) 5 (bE (↑(ae x):Int))])))
 (RX oV oW wO [AV.loc 0,AV.pv (PV.bytes x)] [(S "append_zero",vB bz),(S "type_",vI 5)] (aQ b st) Q):=imp (by kernel_rfl)
theorem SR(b:List UInt8)(p:PV)(o:Int)(l:Int)(n:Int)(w:Int)(Q:AV->St->Prop):aE
 (cB (cf 1 w) (cB (bA (1*2^aj w<=n)) (cB (aM n) (cO (fP p) fun(a:Int)=>(0<=a/\a<2^aj (8*n))/\(0<=o+0/\o+0<=o+n/\o+n<=(↑(ae b):Int)/\ae b+ae (be (aj n) a)<=16777216)/\Q (vB bz) [(1,AObj.ba (aZ b (be (aj n) a) (aj (o+0)) (aj (o+n))))]) False) (Q (vB bp) [(1,AObj.ba b)])) False)
 (RX oV oW rj [AV.pv (PV.const (dw 80)),bR o l,AV.pv p,vI n,vI w] [] (aV b) Q):=imp (by kernel_rfl)
theorem SU(b:List UInt8)(p:PV)(o:Int)(l:Int)(n:Int)(w:Int)(Q:AV->St->Prop):aE
 (cB (cf 1 w) (cB (bA (1*2^aj w<=n)) (cB (aM n) (cO (bX p) fun(a:Int)=>(-2^aj (8*n-1)<=a/\a<2^aj (8*n-1))/\(0<=o+0/\o+0<=o+n/\o+n<=(↑(ae b):Int)/\ae b+ae (be (aj n) (a%2^aj (8*n)))<=16777216)/\Q (vB bz) [(1,AObj.ba (aZ b (be (aj n) (a%2^aj (8*n))) (aj (o+0)) (aj (o+n))))]) False) (Q (vB bp) [(1,AObj.ba b)])) False)
 (RX oV oW rj [AV.pv (PV.const (dw 79)),bR o l,AV.pv p,vI n,vI w] [] (aV b) Q):=imp (by kernel_rfl)
theorem SV(b:List UInt8)(s:Str)(o:Int)(l:Int)(w:Int)(n:Int)(Q:AV->St->Prop):aE
 ((jk (bG (bs s)) dh=bz/\jj (bs s)<=1000000)/\(0<=n/\n<9223372036854775808)/\cB (bA ((↑(ae (dg bd (bG (bs s)))):Int)<=n)) (cB (aM w) ((0<=(↑(ae (dg bd (bG (bs s)))):Int)/\(↑(ae (dg bd (bG (bs s)))):Int)<2^aj (8*w))/\(0<=o+ -w/\o+ -w<=o+0/\o+0<=(↑(ae b):Int)/\ae b+ae (be (aj w) (↑(ae (dg bd (bG (bs s)))):Int))<=16777216)/\(0<=o+0/\o+0<=o+(↑(ae (dg bd (bG (bs s)))):Int)/\o+(↑(ae (dg bd (bG (bs s)))):Int)<=(↑(ae (aZ b (be (aj w) (↑(ae (dg bd (bG (bs s)))):Int)) (aj (o+ -w)) (aj (o+0)))):Int)/\ae (aZ b (be (aj w) (↑(ae (dg bd (bG (bs s)))):Int)) (aj (o+ -w)) (aj (o+0)))+ae (dg bd (bG (bs s)))<=16777216)/\(0<=n/\n<9223372036854775808)/\(0<=n/\n<9223372036854775808)/\(0<=n-(↑(ae (dg bd (bG (bs s)))):Int)/\n-(↑(ae (dg bd (bG (bs s)))):Int)<=16777216)/\(0<=o+(↑(ae (dg bd (bG (bs s)))):Int)/\o+(↑(ae (dg bd (bG (bs s)))):Int)<=o+n/\o+n<=(↑(ae (aZ (aZ b (be (aj w) (↑(ae (dg bd (bG (bs s)))):Int)) (aj (o+ -w)) (aj (o+0))) (dg bd (bG (bs s))) (aj (o+0)) (aj (o+(↑(ae (dg bd (bG (bs s)))):Int))))):Int)/\ae (aZ (aZ b (be (aj w) (↑(ae (dg bd (bG (bs s)))):Int)) (aj (o+ -w)) (aj (o+0))) (dg bd (bG (bs s))) (aj (o+0)) (aj (o+(↑(ae (dg bd (bG (bs s)))):Int))))+ae (fH (aj (n-(↑(ae (dg bd (bG (bs s)))):Int))) (zU 0))<=16777216)/\Q (vB bz) [(1,AObj.ba (aZ (aZ (aZ b (be (aj w) (↑(ae (dg bd (bG (bs s)))):Int)) (aj (o+ -w)) (aj (o+0))) (dg bd (bG (bs s))) (aj (o+0)) (aj (o+(↑(ae (dg bd (bG (bs s)))):Int)))) (fH (aj (n-(↑(ae (dg bd (bG (bs s)))):Int))) (zU 0)) (aj (o+(↑(ae (dg bd (bG (bs s)))):Int))) (aj (o+n))))]) False) (Q (vB bp) [(1,AObj.ba b)]))
 (RX oV oW we [mX o l w n,AV.pv (PV.str s)] [] (aV b) Q):=imp (by kernel_rfl)
section
variable{E:Env0}
theorem nl(hn:aM n=true)(e:fP p=aa v)(h:0<=v/\v<2^(8*n).toNat)(q:k (bo n v)):wr 80 p n b k:=by
 show gd (aM n) (ag (fP p) fun v=>(0<=v/\v<2^(8*n).toNat)/\k (bo n v))
 rw[hn,e]
 exact⟨h,q⟩
theorem Fz(hn:aM n=true)(h: -(2^(8*n-1).toNat)<=v/\v<2^(8*n-1).toNat)(q:k (ig n v)):wr 79 (.int v) n b k:=by
 show gd (aM n) ((-(2^(8*n-1).toNat)<=v/\v<2^(8*n-1).toNat)/\k (ig n v))
 rw[hn]
 exact⟨h,q⟩
theorem SW(g:G0 E):FXOk E [(d6,Fu)]:=
 Sp g (k:=0) (kd:=10) (by decide+kernel) (by decide+kernel) (SF g) (by decide) (DC fun _ Q q=>(SO Q) q)
theorem SX(h:aM n=true):cf 1 (8*n)=true:=jN h (by decide+kernel) (by decide+kernel) (by decide+kernel) (by decide+kernel)
theorem SY(g:G0 E):FXOk E [(CS,Fv)]:=
 eN g (l:=lU) (bud:=110) (D:=wN) (oU g) (a8 (i:=60) rfl) (by kernel_rfl) (by decide) (iJ fun _ v n d Q h=>ax (b9 h) fun hw z=>ax z fun y q=>cP y fun h5 h6 h7=>by
  have main:d.1.length<=16000000/\wr 80 (.int ((d.1.length:Int)-v)) n d.1 fun x=>Q vN (aQ (d.1++x) d.2):=⟨h5,nl hw rfl ⟨h6,h7⟩ q⟩
  exact(SP v n d.1 d.2 Q) (lR (λ_=>main) fun _=>bg (SX hw) (ia (by rw[ik];exact h7) main)))
theorem FA(b:List UInt8):bL b 1=[]:=by unfold bL;rw[yq];rfl
theorem FC(h:x<256):bE x=0:=if_pos h
theorem S0{b x k:List UInt8}{st:List PV}{Q:AV->St->Prop}(hk:k.length=1)(h3:x.length<256)(h4:b.length<=15000000)(h5:st.length<=1000000)(q:Q (vI (b.length+1)) (aQ (b++(k++(x++[zU 0]))) (st++[bk (.int (b.length+1)) 5 0]))):
  (b++k).length+x.length<=16777216/\(zI 0<=0/\zI 0<256/\(b++k++x).length+1<=16777216)/\st.length+1<=16777216/\Q (vI ((b++k).length:Int)) (aQ (b++k++x++[zU 0]) (st++[bk (.int ((b++k).length:Int)) 5 0])):=by
 have l2:(b++k).length=b.length+1:=by rw[bB,hk]
 have l3:(b++k++x).length=b.length+1+x.length:=by rw[bB,l2]
 refine⟨by lia,⟨by decide,by decide,by lia⟩,by lia,?_⟩
 rw[dS,dS,l2]
 exact q
theorem S1(g:G0 E):FXOk E [(CU,Fw)]:=
 eN g (l:=lU) (bud:=110) (D:=wO) (oU g) (a8 (i:=62) rfl) (by kernel_rfl) (by decide) (DI fun _ x _ _ d Q h=>ax h fun y q=>cP y fun h3 h4 h5=>by
  have hx:(x.length:Int)<256:=Int.ofNat_lt.mpr h3
  have h4':d.1.length<=16000000:=bT h4 (by decide)
  have P:d.1++bL d.1 (2^aj 0)=d.1:=(congrArg (d.1++·) (FA d.1)).trans (im _)
  refine(SQ x d.1 d.2 Q) ?_
  refine eqR (FC hx) (eqR P ?_)
  exact⟨⟨ee _,yt hx (by decide)⟩,⟨by decide,by decide,h4'⟩,h4',nl (n:=1) (by decide) rfl ⟨ee _,hx⟩ (S0 (fG _ _) h3 h4 h5 q)⟩)
theorem xP [d:Decidable p](h:cB (decide p) A B)(c:p):A:=by rw[decide_eq_true c] at h;exact h
theorem xQ [d:Decidable p](h:cB (decide p) A B)(c:¬p):B:=by rw[decide_eq_false c] at h;exact h
theorem FD{o n w:Int}{b:List UInt8}{Q:AV->St->Prop}{u:Option Int}{R:Int->Prop}{Y:Int->List UInt8}(hn:aM n=true)(hy:∀a,(Y a).length=n.toNat)
  (h:(0<=w/\w<=3)/\cB (decide (2^w.toNat<=n)) ((0<=o/\o+n<=b.length/\b.length<=16000000)/\gd (aM n) (ag u fun a=>R a/\Q (vB true) (aV (aZ b (Y a) o.toNat (o+n).toNat)))) (Q (vB false) (aV b))):
  cB (cf 1 w) (cB (decide (1*2^w.toNat<=n)) (cB (aM n) (cO u fun a=>R a/\(0<=o+0/\o+0<=o+n/\o+n<=(b.length:Int)/\b.length+(Y a).length<=16777216)/\Q (vB true) [(1,AObj.ba (aZ b (Y a) (aj (o+0)) (aj (o+n))))]) False) (Q (vB false) [(1,AObj.ba b)])) False:=by
 refine eqR (iM o) ?_
 rw[ik]
 exact bg (Eu h.1) (gR (λc=>ax (xP h.2 c) fun z q=>cP z fun g1 g2 g3=>bg hn (aq (b9 q).2 fun a e q=>dJ e ⟨q.1,⟨g1,sN (nD (gy hn).1),g2,xO g3 hn (hy a)⟩,q.2⟩)) fun c=>xQ h.2 c)
theorem S3(g:G0 E):FXOk E [(BW,Fx)]:=
 eN g (l:=lU) (bud:=110) (D:=rj) (oU g) (a8 (i:=4) rfl) (by kernel_rfl) (by decide) (DB fun f r p n w b Q h=>ax (b9 h) fun c z=>ax (b2 c) fun hn c=>by
  refine(Bool.or_eq_true_iff.mp c).elim (λe=>?_) fun e=>?_ <;> (have e:=ce e;subst e)
  ·exact(SR b p r.1 r.2 n w Q) (FD (u:=fP p) (Y:=λa=>be n.toNat a) hn (λ_=>fG _ _) z)
  ·exact(SU b p r.1 r.2 n w Q) (FD (u:=bX p) (Y:=λa=>be n.toNat (a%2^(8*n).toNat)) hn (λ_=>fG _ _) z))
theorem oX(h:i<=j/\j<=b.length)(e:x.length=j-i):(aZ b x i j).length=b.length:=by
 unfold aZ
 rw[bB,bB,ip,jR,pz (aO (f3 1 [(1,v0,v1),(1,v1,v2)] v0 v2 rfl (aF h.1) (aF h.2)))]
 exact iz (f6 1 [(1,v3,v4),(1,v4,.m v1 v0),(1,v5,.m v2 v1)] (.p (.p v0 v3) v5) v2 rfl (eO e) (gl (aO (f2 1 [(1,v0,v1)] v0 v1 rfl (a:=↑i) (b:=↑j) (aF h.1)))) (gl (aO (f2 1 [(1,v0,v1)] v0 v1 rfl (a:=↑j) (b:=↑b.length) (aF h.2))))) (f6 1 [(1,v4,v3),(1,.m v1 v0,v4),(1,.m v2 v1,v5)] v2 (.p (.p v0 v3) v5) rfl (fZ e) jx jx)
theorem FE(h:0<=i/\i<=j/\j<=b.length)(e:(x.length:Int)=j-i):(aZ b x i.toNat j.toNat).length=b.length:=by
 refine e11 (ij h.1) fun k ei=>e11 (ij (pj h.1 h.2.1)) fun l ej=>?_
 subst ei ej
 exact oX ⟨Int.ofNat_le.mp h.2.1,Int.ofNat_le.mp h.2.2⟩ (by lia)
theorem S4{L W X L1 L2:Nat}{o w n:Int}(hw:1<=w/\w<=8)(g1:0<=o+ -w)(g2:o+n<=L)(g3:L<=15000000)(c:(X:Int)<=n)(h6:n<=1000000)(e:W=w.toNat)(e1:L1=L)(e2:L2=L):
  (0<=o+ -w/\o+ -w<=o/\o<=(L:Int)/\L+W<=16777216)/\(0<=o/\o<=o+X/\o+X<=(L1:Int)/\L1+X<=16777216)/\(0<=n-X/\n-X<=16777216)/\(0<=o+X/\o+X<=o+n/\o+n<=(L2:Int)/\L2+(n-X).toNat<=16777216):=by
 have h0:(0:Int)<=X:=ee _
 have p:0<=o:=f2 1 [(1,.n 1,v0),(1,.n 0,.p v1 (.g v0))] (.n 0) v1 rfl hw.1 g1
 have z:o+X<=o+n:=yp c o
 have y:0<=o+(X:Int):=GL p h0
 refine⟨⟨g1,f2 1 [(1,.n 1,v0)] (.p v1 (.g v0)) v1 rfl hw.1,f4 1 [(1,.p v0 v1,v2),(1,v3,v1),(1,.n 0,v3)] v0 v2 rfl g2 c h0,aO (f4 1 [(1,v0,.n 8),(1,v1,.n 15000000),(1,v2,v3),(1,v3,v0)] (.p v1 v2) (.n 16777216) rfl hw.2 (aF g3) (eO e) (dO (f1 1 [(1,.n 1,v0)] (.n 0) v0 rfl (a:=w) hw.1)))⟩,⟨p,sN h0,f5 1 [(1,.p v0 v1,v2),(1,v3,v1),(1,v2,v4)] (.p v0 v3) v4 rfl g2 c (fZ e1),aO (f4 1 [(1,v1,.n 15000000),(1,v2,v0),(1,v0,.n 1000000),(1,v3,v1)] (.p v3 v2) (.n 16777216) rfl (aF g3) c h6 (eO e1))⟩,⟨Int.sub_nonneg_of_le c,f2 1 [(1,v0,.n 1000000),(1,.n 0,v1)] (.m v0 v1) (.n 16777216) rfl h6 h0⟩,y,z,by rw[e2];exact g2,by rw[e2];exact aO (f4 1 [(1,v1,.n 15000000),(1,v0,.n 1000000),(1,.n 0,v2),(1,v3,.m v0 v2)] (.p v1 v3) (.n 16777216) rfl (aF g3) h6 h0 (dO (f2 1 [(1,v1,v0)] (.n 0) (.m v0 v1) rfl (a:=n) (b:=↑X) c)))⟩
theorem S5{b x:List UInt8}{o w n:Int}{Q:AV->St->Prop}{A:Prop}(a:A){s:Nat}(h4:s<=1000000)(h5:0<=n)(h6:n<=1000000)(hn:0<=n/\n<9223372036854775808)
  (h7:cB (decide ((x.length:Int)<=n)) (gd (aM w) ((0<=o+ -w/\o+n<=b.length/\b.length<=15000000/\(x.length:Int)<2^(8*w).toNat)/\Q (vB true) (aV (cZ b x o w n)))) (Q (vB false) (aV b))):
  (A/\s<=1000000)/\(0<=n/\n<9223372036854775808)/\cB (decide ((x.length:Int)<=n)) (cB (aM w) ((0<=(x.length:Int)/\(x.length:Int)<2^aj (8*w))/\(0<=o+ -w/\o+ -w<=o+0/\o+0<=(b.length:Int)/\b.length+(be (aj w) (x.length:Int)).length<=16777216)/\
   (0<=o+0/\o+0<=o+x.length/\o+x.length<=((aZ b (be (aj w) x.length) (aj (o+ -w)) (aj (o+0))).length:Int)/\(aZ b (be (aj w) x.length) (aj (o+ -w)) (aj (o+0))).length+x.length<=16777216)/\
   (0<=n/\n<9223372036854775808)/\(0<=n/\n<9223372036854775808)/\(0<=n-x.length/\n-x.length<=16777216)/\
   (0<=o+x.length/\o+x.length<=o+n/\o+n<=((aZ (aZ b (be (aj w) x.length) (aj (o+ -w)) (aj (o+0))) x (aj (o+0)) (aj (o+x.length))).length:Int)/\
    (aZ (aZ b (be (aj w) x.length) (aj (o+ -w)) (aj (o+0))) x (aj (o+0)) (aj (o+x.length))).length+(fH (aj (n-x.length)) (zU 0)).length<=16777216)/\
   Q (vB true) [(1,AObj.ba (aZ (aZ (aZ b (be (aj w) x.length) (aj (o+ -w)) (aj (o+0))) x (aj (o+0)) (aj (o+x.length))) (fH (aj (n-x.length)) (zU 0)) (aj (o+x.length)) (aj (o+n))))]) False) (Q (vB false) [(1,AObj.ba b)]):=by
 refine⟨⟨a,h4⟩,hn,gR (λc=>?_) fun c=>xQ h7 c⟩
 refine cP (b9 (xP h7 c)) fun hw z q=>fM z fun g1 g2 g3 g4=>bg hw ?_
 clear h7 z
 refine eqR (iM o) ?_
 have hw':=gy hw
 have l1:(be w.toNat (x.length:Int)).length=w.toNat:=fG _ _
 have l1':((be w.toNat (x.length:Int)).length:Int)=w:=by rw[l1];exact l4 (nD hw'.1)
 have h0:(0:Int)<=x.length:=ee _
 have p:0<=o:=by lia
 have g5:o<=b.length:=by lia
 have l2:(aZ b (be w.toNat (x.length:Int)) (o+ -w).toNat o.toNat).length=b.length:=FE ⟨g1,by lia,g5⟩ (by lia)
 have l3:(aZ (aZ b (be w.toNat (x.length:Int)) (o+ -w).toNat o.toNat) x o.toNat (o+x.length).toNat).length=b.length:=(FE ⟨p,sN h0,by rw[l2];lia⟩ (by lia)).trans l2
 exact fM (S4 hw' g1 g2 g3 c h6 l1 l2 l3) fun a1 a2 a3 a4=>⟨⟨h0,g4⟩,a1,a2,hn,hn,a3,by rw[nG];exact a4,q⟩
theorem S6(g:G0 E):FXOk E [(Ce,Fy)]:=
 eN g (l:=lU) (bud:=110) (D:=we) (oU g) (a8 (i:=22) rfl) (by kernel_rfl) (by decide) (dK fun r s b Q h=>ax h fun z h7=>fM z fun h3 h4 h5 h6=>(SV b s r.o r.l r.bw r.n Q) (S5 (x:=cC s.cps.toList) h3 (bT h4 (by decide)) h5 h6 ⟨h5,pk h6 (by decide)⟩ h7))
end
def kO:List (Addr×Spec):=(d6,Fu)::(CS,Fv)::(CU,Fw)::(BW,Fx)::(Ce,Fy)::lU
theorem no(g:G0 E):FXOk E kO:=(SW g).add <| (SY g).add <| (S1 g).add <| (S3 g).add <| (S6 g).add <| oU g
def eY:aI:=dA L9 120
def eZ:aI:=ie kO 120
def S7(d:ValD)(n:Int)(b:List UInt8)(Q:List UInt8->Prop):Prop:=ag (bX d.p) fun v=>gd (aM n) ((0<=(b.length:Int)-v/\(b.length:Int)-v<2^(8*n).toNat)/\Q (bo n ((b.length:Int)-v)))
def wa(d:ValD)(n:Int)(b:List UInt8)(Q:List UInt8->Prop):Prop:=cB (d.t == 26) (wr 80 d.p n b Q) (cB (d.t == 1) (wr 79 d.p n b Q) (gd (d.t == 5||d.t == 10) (S7 d n b Q)))
@[elab_as_elim] theorem FF{d:ValD}{n:Int}{b:List UInt8}{Q:List UInt8->Prop}{M:ValD->Prop}(h:wa d n b Q)(h1:∀p w,wr 80 p n b Q->M ⟨p,26,w⟩)(h2:∀p w,wr 79 p n b Q->M ⟨p,1,w⟩)
  (h3:∀v w,aM n=true->(0<=(b.length:Int)-v/\(b.length:Int)-v<2^(8*n).toNat)->Q (bo n ((b.length:Int)-v))->M ⟨.int v,5,w⟩) (h4:∀v w,aM n=true->(0<=(b.length:Int)-v/\(b.length:Int)-v<2^(8*n).toNat)->Q (bo n ((b.length:Int)-v))->M ⟨.int v,10,w⟩):M d:=by
 obtain⟨p,t,w⟩:=d
 refine lS (c:=t == 26) h (λe q=>eqR (cE e) (h1 p w q)) fun _ h=>lS (c:=t == 1) h (λe q=>eqR (cE e) (h2 p w q)) fun _ h=>ax (b9 h) fun e q=>aq (o:=bX p) q fun v e1 q=>eqR (j4 e1) (cP (b9 q) fun hw g q=>?_)
 refine(Bool.or_eq_true_iff.mp e).elim (λe=>?_) fun e=>?_
 ·exact eqR (M:=λt=>M ⟨.int v,t,w⟩) (cE e) (h3 v w hw g q)
 ·exact eqR (M:=λt=>M ⟨.int v,t,w⟩) (cE e) (h4 v w hw g q)
def FG(v:ValD)(n:Int)(d:List UInt8×List PV)(Q:AV->St->Prop):Prop:=d.1.length<=16000000/\wa v n d.1 fun x=>Q vN (aQ (d.1++x) d.2)
def FH:Spec:=nf 3 (ib 121 (cA 0) jb bv gh fun _=>FG) (xt 121 (cA 0) jb (S "byte_width") bv gh fun _=>FG)
def S8(b:List UInt8)(o pw v:Int)(Q:AV->St->Prop):Prop:=gd (aM pw) (cB (decide (2^(cg v).toNat<=pw)) ((0<=o/\o+pw<=b.length/\b.length<=16000000)/\wr 79 (.int v) pw b fun x=>Q (vB true) (aV (aZ b x o.toNat (o+pw).toNat))) (Q (vB false) (aV b)))
def FI:Spec:=dB 121 fU bv cY fun r v b Q=>(-9223372036854775808<=v/\v<9223372036854775808)/\cB (r.t == 1) (S8 b r.o r.pw v Q) (gd (r.t == 26||r.t == 5) (Q (vB false) (aV b)))
def S9(b:List UInt8)(o pw:Int)(v:Bool)(Q:AV->St->Prop):Prop:=gd (aM pw) ((0<=o/\o+pw<=b.length/\b.length<=16000000)/\wr 80 (.bool v) pw b fun x=>Q (vB true) (aV (aZ b x o.toNat (o+pw).toNat)))
def FJ:Spec:=dB 121 fU DJ cY fun r v b Q=>cB (r.t == 26) (S9 b r.o r.pw v Q) (gd (r.t == 1||r.t == 5) (Q (vB false) (aV b)))
def Ta(x:List UInt8)(o n w:Int)(b:List UInt8)(Q:AV->St->Prop):Prop:=cB (decide ((x.length:Int)<=n)) ((o+n<=b.length/\(x.length:Int)<2^(8*w).toNat)/\Q (vB true) (aV (cZ b x o w n))) (Q (vB false) (aV b))
def FK:Spec:=dB 121 fU rR cY fun r s b Q=>gd (aM r.pw) (gd (aM r.bw) ((0<=r.o/\r.o+r.pw<=b.length/\b.length<=15000000/\0<=au b r.o r.pw+ -r.bw/\au b r.o r.pw<=b.length/\s.cps.toList.all dh=true/\s.cps.size<=1000/\
  0<=aP (aB b (au b r.o r.pw+ -r.bw) (au b r.o r.pw))/\aP (aB b (au b r.o r.pw+ -r.bw) (au b r.o r.pw))<=1000000)/\Ta (cC s.cps.toList) (au b r.o r.pw) (aP (aB b (au b r.o r.pw+ -r.bw) (au b r.o r.pw))) r.bw b Q))
def FL:Spec:=dB 121 (cA 0) rR gh fun _ s d Q=>(s.cps.toList.all dh=true/\s.cps.size<=1000/\(cC s.cps.toList).length<256/\d.1.length<=15000000/\d.2.length<=1000000)/\
 Q vN (aQ (d.1++dL (cC s.cps.toList)) (d.2++[bk (.int (d.1.length+1)) 5 0]))
theorem Tb(p:PV)(w:Int)(n:Int)(b:List UInt8)(st:List PV)(Q:AV->St->Prop):aE
 (ae b<=16000000/\wr 80 p n b fun(x:List UInt8)=>Q vN (aQ (b++x) st))
 (RX eY eZ hZ [AV.loc 0,AV.pv (bk p 26 w),vI n] [] (aQ b st) Q):=imp (by kernel_rfl)
theorem Tc(p:PV)(w:Int)(n:Int)(b:List UInt8)(st:List PV)(Q:AV->St->Prop):aE
 (ae b<=16000000/\wr 80 p n b fun(x:List UInt8)=>Q vN (aQ (b++x) st))
 (RX eY eZ hZ [AV.loc 0,AV.pv (bk p 26 w)] [(S "byte_width",vI n)] (aQ b st) Q):=imp (by kernel_rfl)
theorem Td(p:PV)(w:Int)(n:Int)(b:List UInt8)(st:List PV)(Q:AV->St->Prop):aE
 (ae b<=16000000/\wr 79 p n b fun(x:List UInt8)=>Q vN (aQ (b++x) st))
 (RX eY eZ hZ [AV.loc 0,AV.pv (bk p 1 w),vI n] [] (aQ b st) Q):=imp (by kernel_rfl)
theorem Te(p:PV)(w:Int)(n:Int)(b:List UInt8)(st:List PV)(Q:AV->St->Prop):aE
 (ae b<=16000000/\wr 79 p n b fun(x:List UInt8)=>Q vN (aQ (b++x) st))
 (RX eY eZ hZ [AV.loc 0,AV.pv (bk p 1 w)] [(S "byte_width",vI n)] (aQ b st) Q):=imp (by kernel_rfl)
theorem Tf(p:Int)(w:Int)(n:Int)(b:List UInt8)(st:List PV)(Q:AV->St->Prop):aE
 (cB (aM n) ((ae b<=16000000/\0<=(↑(ae b):Int)-p/\(↑(ae b):Int)-p<2^aj (8*n))/\Q vN (aQ (b++bo n ((↑(ae b):Int)-p)) st)) False)
 (RX eY eZ hZ [AV.loc 0,AV.pv (bk (PV.int p) 5 w),vI n] [] (aQ b st) Q):=imp (by kernel_rfl)
theorem Tg(p:Int)(w:Int)(n:Int)(b:List UInt8)(st:List PV)(Q:AV->St->Prop):aE
 (cB (aM n) ((ae b<=16000000/\0<=(↑(ae b):Int)-p/\(↑(ae b):Int)-p<2^aj (8*n))/\Q vN (aQ (b++bo n ((↑(ae b):Int)-p)) st)) False)
 (RX eY eZ hZ [AV.loc 0,AV.pv (bk (PV.int p) 5 w)] [(S "byte_width",vI n)] (aQ b st) Q):=imp (by kernel_rfl)
theorem Th(p:Int)(w:Int)(n:Int)(b:List UInt8)(st:List PV)(Q:AV->St->Prop):aE
 (cB (aM n) ((ae b<=16000000/\0<=(↑(ae b):Int)-p/\(↑(ae b):Int)-p<2^aj (8*n))/\Q vN (aQ (b++bo n ((↑(ae b):Int)-p)) st)) False)
 (RX eY eZ hZ [AV.loc 0,AV.pv (bk (PV.int p) 10 w),vI n] [] (aQ b st) Q):=imp (by kernel_rfl)
theorem Ti(p:Int)(w:Int)(n:Int)(b:List UInt8)(st:List PV)(Q:AV->St->Prop):aE
 (cB (aM n) ((ae b<=16000000/\0<=(↑(ae b):Int)-p/\(↑(ae b):Int)-p<2^aj (8*n))/\Q vN (aQ (b++bo n ((↑(ae b):Int)-p)) st)) False)
 (RX eY eZ hZ [AV.loc 0,AV.pv (bk (PV.int p) 10 w)] [(S "byte_width",vI n)] (aQ b st) Q):=imp (by kernel_rfl)
theorem Tj(b:List UInt8)(o:Int)(l:Int)(p:Int)(w:Int)(v:Int)(Q:AV->St->Prop):aE
 ((-9223372036854775808<=v/\v<9223372036854775808)/\cB (aM p&&bz) ((0<=cg v/\cg v<=3)/\cB (bA (2^aj (cg v)<=p)) ((0<=o/\o+p<=(↑(ae b):Int)/\ae b<=16000000)/\wr 79 (PV.int v) p b fun(x:List UInt8)=>Q (vB bz) [(1,AObj.ba (aZ b x (aj o) (aj (o+p))))]) (Q (vB bp) [(1,AObj.ba b)])) False)
 (RX eY eZ mT [bY o l p w 1,vI v] [] (aV b) Q):=imp (by kernel_rfl)
theorem Tk(b:List UInt8)(o:Int)(l:Int)(p:Int)(w:Int)(v:Bool)(Q:AV->St->Prop):aE
 (Q (vB bp) [(1,AObj.ba b)])
 (RX eY eZ mS [bY o l p w 1,vB v] [] (aV b) Q):=imp (by kernel_rfl)
theorem Tl(b:List UInt8)(o:Int)(l:Int)(p:Int)(w:Int)(v:Int)(Q:AV->St->Prop):aE
 (Q (vB bp) [(1,AObj.ba b)])
 (RX eY eZ mT [bY o l p w 26,vI v] [] (aV b) Q):=imp (by kernel_rfl)
theorem Tm(b:List UInt8)(o:Int)(l:Int)(p:Int)(w:Int)(v:Bool)(Q:AV->St->Prop):aE
 (cB (aM p&&bz) ((zI 0<=0/\zI 0<=3)/\cB (bA (1<=p)) ((0<=o/\o+p<=(↑(ae b):Int)/\ae b<=16000000)/\wr 80 (PV.bool v) p b fun(x:List UInt8)=>Q (vB bz) [(1,AObj.ba (aZ b x (aj o) (aj (o+p))))]) (Q (vB bp) [(1,AObj.ba b)])) False)
 (RX eY eZ mS [bY o l p w 26,vB v] [] (aV b) Q):=imp (by kernel_rfl)
theorem Tn(b:List UInt8)(o:Int)(l:Int)(p:Int)(w:Int)(v:Int)(Q:AV->St->Prop):aE
 (Q (vB bp) [(1,AObj.ba b)])
 (RX eY eZ mT [bY o l p w 5,vI v] [] (aV b) Q):=imp (by kernel_rfl)
theorem To(b:List UInt8)(o:Int)(l:Int)(p:Int)(w:Int)(v:Bool)(Q:AV->St->Prop):aE
 (Q (vB bp) [(1,AObj.ba b)])
 (RX eY eZ mS [bY o l p w 5,vB v] [] (aV b) Q):=imp (by kernel_rfl)
theorem Tp(b:List UInt8)(o:Int)(l:Int)(p:Int)(w:Int)(t:Int)(s:Str)(Q:AV->St->Prop):aE
 (cB (aM p) ((0<=o/\o+p<=(↑(ae b):Int)/\0<=au b o p)/\cB (aM w) ((0<=au b o p+ -w/\au b o p<=(↑(ae b):Int))/\(jk (bG (bs s)) dh=bz/\jj (bs s)<=1000/\0<=aP (aB b (au b o p+ -w) (au b o p))/\aP (aB b (au b o p+ -w) (au b o p))<=1000000)/\cB (bA ((↑(ae (cC (bG (bs s)))):Int)<=aP (aB b (au b o p+ -w) (au b o p)))) (cB (aM w) ((0<=au b o p+ -w/\au b o p+aP (aB b (au b o p+ -w) (au b o p))<=(↑(ae b):Int)/\ae b<=15000000/\(↑(ae (cC (bG (bs s)))):Int)<2^aj (8*w))/\Q (vB bz) [(1,AObj.ba (cZ b (cC (bG (bs s))) (au b o p) w (aP (aB b (au b o p+ -w) (au b o p)))))]) False) (Q (vB bp) [(1,AObj.ba b)])) False) False)
 (RX eY eZ ww [bY o l p w t,AV.pv (PV.str s)] [] (aV b) Q):=imp (by kernel_rfl)
theorem Tq(s:Str)(b:List UInt8)(st:List PV)(Q:AV->St->Prop):aE
 ((jk (bG (bs s)) dh=bz/\jj (bs s)<=1000000)/\(ae (dg bd (bG (bs s)))<256/\ae b<=15000000/\ae st<=1000000)/\Q vN (aQ (b++dL (dg bd (bG (bs s)))) (st++[bk (PV.int ((↑(ae b):Int)+1)) 5 0])))
 (RX eY eZ wP [AV.loc 0,AV.pv (PV.str s)] [] (aQ b st) Q):=imp (by kernel_rfl)
section
variable{E:Env0}
theorem FM{t a b:Int}(h:(t == a||t == b)=true):t=a\/t=b:=by
 rw[ny,beq_iff_eq,beq_iff_eq] at h;exact h
theorem Tr(g:G0 E):FXOk E [(CT,FH)]:=
 eN g (l:=kO) (bud:=120) (D:=hZ) (no g) (a8 (i:=61) rfl) (by kernel_rfl) (by decide) (oS
  (iJ fun _ v n d Q h=>FF (M:=λv=>RX eY eZ hZ [.loc 0,.pv (vP v),vI n] [] (aQ d.1 d.2) Q) h.2 (λp w q=>(Tb p w n d.1 d.2 Q) ⟨h.1,q⟩) (λp w q=>(Td p w n d.1 d.2 Q) ⟨h.1,q⟩) (λp w hw g q=>(Tf p w n d.1 d.2 Q) (bg hw ⟨⟨h.1,g⟩,q⟩)) fun p w hw g q=>(Th p w n d.1 d.2 Q) (bg hw ⟨⟨h.1,g⟩,q⟩))
  (DF fun _ v n d Q h=>FF (M:=λv=>RX eY eZ hZ [.loc 0,.pv (vP v)] [(S "byte_width",vI n)] (aQ d.1 d.2) Q) h.2 (λp w q=>(Tc p w n d.1 d.2 Q) ⟨h.1,q⟩) (λp w q=>(Te p w n d.1 d.2 Q) ⟨h.1,q⟩) (λp w hw g q=>(Tg p w n d.1 d.2 Q) (bg hw ⟨⟨h.1,g⟩,q⟩)) fun p w hw g q=>(Ti p w n d.1 d.2 Q) (bg hw ⟨⟨h.1,g⟩,q⟩)))
theorem Tt(g:G0 E):FXOk E [(Cu,FI)]:=
 eN g (l:=kO) (bud:=120) (D:=mT) (no g) (a8 (i:=36) rfl) (by kernel_rfl) (by decide) (dK fun r v b Q h=>ax h fun h3 h4=>by
  show RX eY eZ mT [bY r.o r.l r.pw r.bw r.t,vI v] [] (aV b) Q
  refine lS h4 (λc q=>eqR (cE c) (ax (b9 q) fun hw q=>?_)) fun _ q=>ax (b9 q) fun ht q=>(FM ht).elim (λc=>eqR c ?_) fun c=>eqR c ?_
  ·exact(Tj b r.o r.l r.pw r.bw v Q) ⟨h3,bg (by rw[hw];rfl) ⟨QH _,q⟩⟩
  ·exact(Tl b r.o r.l r.pw r.bw v Q) q
  ·exact(Tn b r.o r.l r.pw r.bw v Q) q)
theorem Tu(g:G0 E):FXOk E [(Cr,FJ)]:=
 eN g (l:=kO) (bud:=120) (D:=mS) (no g) (a8 (i:=33) rfl) (by kernel_rfl) (by decide) (dK fun r v b Q h=>by
  show RX eY eZ mS [bY r.o r.l r.pw r.bw r.t,vB v] [] (aV b) Q
  refine lS h (λc q=>eqR (cE c) (ax (b9 q) fun hw q=>?_)) fun _ q=>ax (b9 q) fun ht q=>(FM ht).elim (λc=>eqR c ?_) fun c=>eqR c ?_
  ·exact(Tm b r.o r.l r.pw r.bw v Q) (bg (by rw[hw];rfl) ⟨⟨by decide,by decide⟩,ia (gy hw).1 q⟩)
  ·exact(Tk b r.o r.l r.pw r.bw v Q) q
  ·exact(To b r.o r.l r.pw r.bw v Q) q)
theorem Tv(g:G0 E):FXOk E [(Cz,FK)]:=
 eN g (l:=kO) (bud:=120) (D:=ww) (no g) (a8 (i:=40) rfl) (by kernel_rfl) (by decide) (dK fun r s b Q h=>ax (b9 h) fun hp h=>ax (b9 h) fun hw h=>ax h fun z h6=>mf z fun g1 g2 g3 g4 g5 g6 g7 g8 g9=>
  (Tp b r.o r.l r.pw r.bw r.t s Q) (bg hp ⟨⟨g1,g2,by have :=(gy hw).1;lia⟩,bg hw ⟨⟨g4,g5⟩,⟨g6,g7,g8,g9⟩,gR (λc=>ax (xP h6 c) fun i q=>bg hw ⟨⟨g4,i.1,g3,i.2⟩,q⟩) fun c=>xQ h6 c⟩⟩))
theorem Tw(g:G0 E):FXOk E [(CW,FL)]:=
 eN g (l:=kO) (bud:=120) (D:=wP) (no g) (a8 (i:=64) rfl) (by kernel_rfl) (by decide) (dK fun _ s d Q h=>ax h fun z q=>fN z fun g1 g2 g3 g4 g5=>(Tq s d.1 d.2 Q) ⟨⟨g1,bT g2 (by decide)⟩,⟨g3,g4,g5⟩,q⟩)
end
def np:List (Addr×Spec):=(CT,FH)::(Cu,FI)::(Cr,FJ)::(Cz,FK)::(CW,FL)::kO
theorem sg(g:G0 E):FXOk E np:=(Tr g).add <| (Tt g).add <| (Tu g).add <| (Tv g).add <| (Tw g).add <| no g
def dn:aI:=dA L9 130
def dq:aI:=ie np 130
noncomputable def lV:List PV->Option (List ValD)
 | []=>aa []
 |p::r=>aA (iI p) fun d=>aA (lV r) fun l=>aa (d::l)
theorem Tx:∀{ds:List ValD},lV l=aa ds->l=ds.map vP:=by
 induction l with
 |nil=>intro ds h;rw[<-ac h];rfl
 |cons p r ih=>intro ds h;exact ay h fun d e1 h=>ay h fun l e2 h=>by rw[<-ac h,ey,<-ih e2,xj e1]
def Tz:Sh (List ValD):=⟨λv=>aA (aA (eQ v) gm) lV,λds=>.pv (.list (ds.map vP)),λe=>ay e fun p e1 e=>ay e1 fun q e2 e3=>by rw[jy e2,lk e3,Tx e]⟩
noncomputable def lW(s:Int):Int->Int->List ValD->(Int->Prop)->Prop
 |_,w,[],k=>k w
 |i,w,d::r,k=>kM d s (1+i) fun x=>lW s (i+1) (max w x) r k
noncomputable def jf(n:Int):List ValD->List UInt8->(List UInt8->Prop)->Prop
 | [],b,k=>k b
 |d::r,b,k=>b.length<=16000000/\wa d n b fun x=>jf n r (b++x) k
noncomputable def lX(w:Int):List ValD->List UInt8->(List UInt8->Prop)->Prop
 | [],b,k=>k b
 |d::r,b,k=>(b.length<=16000000/\0<=d.t/\d.t<=26/\0<=ci d w/\ci d w<=3)/\lX w r (b++[(d.t*4+ci d w).toNat.toUInt8]) k
def cv(ds:List ValD)(b:List UInt8)(k:List UInt8->PV->Prop):Prop:=(ds.length<256/\b.length<=15000000)/\lW b.length 0 0 ds fun w=>(0<=w/\w<=3)/\
 wr 80 (.int ds.length) (2^w.toNat) (b++bL b (2^w.toNat)) fun x=>jf (2^w.toNat) ds (b++bL b (2^w.toNat)++x) fun b3=>lX w ds b3 fun b4=>k b4 (bk (.int (b++bL b (2^w.toNat)++x).length) 10 w)
def FN:Spec:=na 131 (cA 0) Tz (kL false) (kL false) gh fun _ ds _ _ d Q=>gd (!ds.isEmpty) (cv ds d.1 fun b v=>Q (.pv v) (aQ b d.2))
abbrev FO(b:List UInt8)(st:List PV):St:=[(10,.attrs (jc++[(S "finished",vB true)])),(0,.inst d6 10),(1,.ba b),(2,.list st)]
def xR(l:List PV):Option ValD:=aA (dF l) fun p=>bW (cm p.2) (iI p.1)
theorem TA(h:xR l=aa d):l=[vP d]:=ay h fun p e1 h=>bU h fun g h=>by rw[eU e1,cX g,xj h]
def TB(b:List UInt8)(v:ValD)(Q:AV->St->Prop):Prop:=ag (bX v.p) fun p=>(b.length<=15000000/\0<=(b.length:Int)-p/\(b.length:Int)-p<256/\0<=v.w/\v.w<=3)/\
 Q (.loc 1) (FO (b++bo 1 ((b.length:Int)-p)++bo 1 (40+v.w)++bo 1 1) [vP v])
def FP:Spec:=bS 131 (cA 0) gh fun _ d Q=>ag (xR d.2) fun v=>gd (v.t == 10) (TB d.1 v Q)
def ad(p:PV)(b:List UInt8)(st:List PV)(k:List UInt8->List PV->Prop):Prop:=st.length<=1000000/\match p with
 | .int v=>(-9223372036854775808<=v/\v<9223372036854775808)/\k b (st++[bk (.int v) 1 (cg v)])
 | .bool v=>k b (st++[bk (.bool v) 26 0])
 | .str s=>(s.cps.toList.all dh=true/\s.cps.size<=1000/\(cC s.cps.toList).length<256/\b.length<=15000000)/\k (b++dL (cC s.cps.toList)) (st++[bk (.int (b.length+1)) 5 0])
 |_=>False
def FQ:Spec:=dB 131 (cA 0) ja gh fun _ p d Q=>True/\ad p d.1 d.2 fun b st=>Q vN (aQ b st)
abbrev kP(l:List PV)(n w:Int):aw:=[(S "self",.loc 0),(S "elements",.pv (.list l)),(S "typed",vB false),(S "fixed",vB false),(S "keys",vN),(S "length",vI n),(S "bit_width",vI w),(S "prefix_elems",vI 1),(S "vector_type",vI 4)]
abbrev gz(l:List PV)(n w bw loc:Int):aw:=kP l n w++[(S "byte_width",vI bw),(S "loc",vI loc)]
theorem TC(l:List PV)(b:List UInt8)(st:List PV)(Q:AV->St->Prop):aE
 ((0<=(↑(ae l):Int)/\(↑(ae l):Int)<18446744073709551616)/\c9 (bt dn dq xn (FCtx.mk (FnD.scope bK) []) 192 (bj bK 10)) (gt bK 9) [] [S "self",S "elements",S "typed",S "fixed",S "keys",S "length",S "bit_width",S "prefix_elems",S "vector_type"] (gC (λ(p:PV×Nat)=>PV.tuple [PV.int (↑p.2:Int),p.1]) (W6 l)) [(S "self",AV.loc 0),(S "elements",AV.pv (PV.list l)),(S "typed",vB bp),(S "fixed",vB bp),(S "keys",vN),(S "length",vI (↑(ae l):Int)),(S "bit_width",vI (G7 0 (bE (↑(ae l):Int)))),(S "prefix_elems",vI 1),(S "vector_type",vI 4)] (aQ b st) (kX dn dq xn (FCtx.mk (FnD.scope bK) []) 193 (bj bK 16) (kF Q)))
 (RX dn dq bK [AV.loc 0,AV.pv (PV.list l),vB bp,vB bp] [] (aQ b st) Q):=imp (by kernel_rfl)
theorem TF(l:List PV)(n:Int)(w:Int)(i:Int)(t:Int)(w':Int)(p:PV)(b:List UInt8)(st:List PV)(QQ:Fl->aw->St->Prop):bt dn dq xn (br bK) 192 (bj bK 10) (kP l n w++[(S "i",vI i),(S "e",AV.pv (bk p t w'))]) (aQ b st) QQ=
 (True/\kM (ValD.mk p t w') (↑(ae b):Int) (1+i) fun(w_1:Int)=>QQ Fl.next [(S "self",AV.loc 0),(S "elements",AV.pv (PV.list l)),(S "typed",vB bp),(S "fixed",vB bp),(S "keys",vN),(S "length",vI n),(S "bit_width",vI (G7 w w_1)),(S "prefix_elems",vI 1),(S "vector_type",vI 4),(S "i",vI i),(S "e",AV.pv (bk p t w'))] (aQ b st)):=by kernel_rfl
theorem TG(l:List PV)(n:Int)(w:Int)(b:List UInt8)(st:List PV)(Q:AV->St->Prop):kX dn dq xn (br bK) 193 (bj bK 16) (kF Q) Fl.next (kP l n w) (aQ b st)=
 ((0<=w/\w<=3/\ae b<=16000000)/\ae (b++bL b (2^aj w))<=16000000/\wr 80 (PV.int n) (2^aj w) (b++bL b (2^aj w)) fun(x:List UInt8)=>c9 (bt dn dq xn (br bK) 186 (bj bK 26)) (gt bK 25) [] [S "self",S "elements",S "typed",S "fixed",S "keys",S "length",S "bit_width",S "prefix_elems",S "vector_type",S "byte_width",S "loc"] l [(S "self",AV.loc 0),(S "elements",AV.pv (PV.list l)),(S "typed",vB bp),(S "fixed",vB bp),(S "keys",vN),(S "length",vI n),(S "bit_width",vI w),(S "prefix_elems",vI 1),(S "vector_type",vI 4),(S "byte_width",vI (2^aj w)),(S "loc",vI (↑(ae (b++bL b (2^aj w)++x)):Int))] (aQ (b++bL b (2^aj w)++x) st) (kX dn dq xn (br bK) 187 (bj bK 27) (kF Q))):=by kernel_rfl
theorem TH(l:List PV)(n:Int)(w:Int)(bw:Int)(loc:Int)(t:Int)(w':Int)(p:PV)(b:List UInt8)(st:List PV)(QQ:Fl->aw->St->Prop):bt dn dq xn (br bK) 186 (bj bK 26) (gz l n w bw loc++[(S "e",AV.pv (bk p t w'))]) (aQ b st) QQ=
 (ae b<=16000000/\wa (ValD.mk p t w') bw b fun(x:List UInt8)=>QQ Fl.next [(S "self",AV.loc 0),(S "elements",AV.pv (PV.list l)),(S "typed",vB bp),(S "fixed",vB bp),(S "keys",vN),(S "length",vI n),(S "bit_width",vI w),(S "prefix_elems",vI 1),(S "vector_type",vI 4),(S "byte_width",vI bw),(S "loc",vI loc),(S "e",AV.pv (bk p t w'))] (aQ (b++x) st)):=by kernel_rfl
theorem TJ(l:List PV)(n:Int)(w:Int)(bw:Int)(loc:Int)(b:List UInt8)(st:List PV)(Q:AV->St->Prop):kX dn dq xn (br bK) 187 (bj bK 27) (kF Q) Fl.next (gz l n w bw loc) (aQ b st)=
 (c9 (bt dn dq xn (br bK) 183 (bj bK 29)) (gt bK 28) [] [S "self",S "elements",S "typed",S "fixed",S "keys",S "length",S "bit_width",S "prefix_elems",S "vector_type",S "byte_width",S "loc"] l [(S "self",AV.loc 0),(S "elements",AV.pv (PV.list l)),(S "typed",vB bp),(S "fixed",vB bp),(S "keys",vN),(S "length",vI n),(S "bit_width",vI w),(S "prefix_elems",vI 1),(S "vector_type",vI 4),(S "byte_width",vI bw),(S "loc",vI loc)] (aQ b st) (kX dn dq xn (br bK) 184 [] (kX dn dq xn (br bK) 186 (bj bK 30) (kF Q)))):=by kernel_rfl
theorem TK(l:List PV)(n:Int)(w:Int)(bw:Int)(loc:Int)(t:Int)(w':Int)(p:PV)(b:List UInt8)(st:List PV)(QQ:Fl->aw->St->Prop):bt dn dq xn (br bK) 183 (bj bK 29) (gz l n w bw loc++[(S "e",AV.pv (bk p t w'))]) (aQ b st) QQ=
 ((0<=t/\t<=26/\0<=ci (ValD.mk p t w') w/\ci (ValD.mk p t w') w<=3)/\(0<=t*4+ci (ValD.mk p t w') w/\t*4+ci (ValD.mk p t w') w<256/\ae b+1<=16777216)/\QQ Fl.next [(S "self",AV.loc 0),(S "elements",AV.pv (PV.list l)),(S "typed",vB bp),(S "fixed",vB bp),(S "keys",vN),(S "length",vI n),(S "bit_width",vI w),(S "prefix_elems",vI 1),(S "vector_type",vI 4),(S "byte_width",vI bw),(S "loc",vI loc),(S "e",AV.pv (bk p t w'))] (aQ (b++[Nat.toUInt8 (aj (t*4+ci (ValD.mk p t w') w))]) st)):=by kernel_rfl
theorem TL(l:List PV)(n:Int)(w:Int)(bw:Int)(loc:Int)(b:List UInt8)(st:List PV)(Q:AV->St->Prop):kX dn dq xn (br bK) 184 [] (kX dn dq xn (br bK) 186 (bj bK 30) (kF Q)) Fl.next (gz l n w bw loc) (aQ b st)=
 (Q (AV.pv (bk (PV.int loc) 10 w)) (aQ b st)):=by kernel_rfl
theorem TM(p:Int)(w:Int)(b:List UInt8)(Q:AV->St->Prop):aE
 (True/\kM (ValD.mk (PV.int p) 10 w) (↑(ae b):Int) 0 fun(w_1:Int)=>(0<=w_1/\w_1<=3/\ae b<=16000000)/\ae (b++bL b (2^aj w_1))<=16000000/\wa (ValD.mk (PV.int p) 10 w) (2^aj w_1) (b++bL b (2^aj w_1)) fun(x:List UInt8)=>(zI 0<=10/\zI 10<=26/\0<=ci (ValD.mk (PV.int p) 10 w) 0/\ci (ValD.mk (PV.int p) 10 w) 0<=3)/\ae (b++bL b (2^aj w_1)++x)<=16000000/\wr 80 (PV.int (40+ci (ValD.mk (PV.int p) 10 w) 0)) 1 (b++bL b (2^aj w_1)++x) fun(x_1:List UInt8)=>ae (b++bL b (2^aj w_1)++x++x_1)<=16000000/\wr 80 (PV.int (2^aj w_1)) 1 (b++bL b (2^aj w_1)++x++x_1) fun(x_2:List UInt8)=>Q (AV.loc 1) [(10,AObj.attrs [(S "_share_strings",vB bp),(S "_share_keys",vB bz),(S "_force_min_bit_width",vI 0),(S "_string_pool",AV.pv (PV.obj 1099 [(S "_pool",PV.list [])])),(S "_key_pool",AV.pv (PV.obj 1099 [(S "_pool",PV.list [])])),(S "_finished",vB bp),(S "_buf",AV.loc 1),(S "_stack",AV.loc 2),(S "finished",vB bz)]),(0,AObj.inst 1384 10),(1,AObj.ba (b++bL b (2^aj w_1)++x++x_1++x_2)),(2,AObj.list [bk (PV.int p) 10 w])])
 (RX dn dq wL [AV.loc 0] [] (aQ b [bk (PV.int p) 10 w]) Q):=imp (by kernel_rfl)
theorem TN(v:Int)(b:List UInt8)(st:List PV)(Q:AV->St->Prop):aE
 ((-9223372036854775808<=v/\v<9223372036854775808)/\ae st+1<=16777216/\Q vN (aQ b (st++[bk (PV.int v) 1 (cg v)])))
 (RX dn dq kH [AV.loc 0,vI v] [] (aQ b st) Q):=imp (by kernel_rfl)
theorem TP(v:Bool)(b:List UInt8)(st:List PV)(Q:AV->St->Prop):aE
 (ae st+1<=16777216/\Q vN (aQ b (st++[bk (PV.bool v) 26 0])))
 (RX dn dq kH [AV.loc 0,vB v] [] (aQ b st) Q):=imp (by kernel_rfl)
theorem TQ(s:Str)(b:List UInt8)(st:List PV)(Q:AV->St->Prop):aE
 ((jk (bG (bs s)) dh=bz/\jj (bs s)<=1000/\ae (cC (bG (bs s)))<256/\ae b<=15000000/\ae st<=1000000)/\Q vN (aQ (b++dL (cC (bG (bs s)))) (st++[bk (PV.int ((↑(ae b):Int)+1)) 5 0])))
 (RX dn dq kH [AV.loc 0,AV.pv (PV.str s)] [] (aQ b st) Q):=imp (by kernel_rfl)
section
variable{E:Env0}
theorem xT(h:A->A')(h':B->B')(q:cB c A B):cB c A' B':=by
 cases c
 ·exact h' q
 ·exact h q
theorem oY(h:A->A')(q:gd c A):gd c A':=by
 cases c
 ·exact q
 ·exact h q
theorem si(h:∀a,k a->k' a)(q:ag o k):ag o k':=by
 cases o
 ·exact q
 ·exact h _ q
theorem FR(h:∀x,k x->k' x)(q:kM d s i k):kM d s i k':=by
 obtain⟨p,t,w⟩:=d
 cases p with
 |int v=>exact xT (c:=inl t) (A:=k w) (A':=k' w) (B:=(0<=s+i-v/\s+i-v<256)/\k 0) (B':=(0<=s+i-v/\s+i-v<256)/\k' 0) (h _) (λq=>⟨q.1,h _ q.2⟩) q
 |bool v=>exact oY (c:=t == 26) (A:=k w) (A':=k' w) (h _) q
 |_=>exact q.elim
theorem oZ(h:∀x:List UInt8,x.length=n.toNat->k x->k' x)(q:wr f p n b k):wr f p n b k':=by
 refine oY (λq=>?_) q
 cases c:a7 f 80 with
 |true=>
  rw[c] at q
  exact si (λv q=>⟨q.1,h _ (fG _ _) q.2⟩) q
 |false=>
  rw[c] at q
  cases c1:a7 f 79 with
  |true=>
   rw[c1] at q
   exact si (λv q=>⟨q.1,h _ (fG _ _) q.2⟩) q
  |false=>rw[c1] at q;exact q
theorem FS(h:∀x:List UInt8,x.length=n.toNat->k x->k' x)(q:wa d n b k):wa d n b k':=
 xT (oZ h) (xT (oZ h) (oY (si fun v=>oY fun q=>⟨q.1,h _ (fG _ _) q.2⟩))) q
theorem TR(f:α×Nat->PV)(x:α)(l:List α)(i:Nat):((x::l).zipIdx i).map f=f (x,i)::(l.zipIdx (i+1)).map f:=by
 rw[W7,ey]
abbrev xU:List Str:=[S "self",S "elements",S "typed",S "fixed",S "keys",S "length",S "bit_width",S "prefix_elems",S "vector_type"]
abbrev nq:List Str:=[S "self",S "elements",S "typed",S "fixed",S "keys",S "length",S "bit_width",S "prefix_elems",S "vector_type",S "byte_width",S "loc"]
theorem TS{st:List PV}{K:Fl->aw->St->Prop}:∀(ds:List ValD) (i:Nat) (w:Int) (env:aw),cutE xU env=kP L n w->(lW b.length i w ds fun w'=>K .next (kP L n w') (aQ b st))->
  c9 (bt dn dq xn (br bK) 192 (bj bK 10)) (gt bK 9) [] xU (((ds.map vP).zipIdx i).map fun(p:PV×Nat)=>PV.tuple [PV.int (p.2:Int),p.1]) env (aQ b st) K:=by
 intro v0
 induction v0 with
 |nil=>
  intro i w env he h
  show K .next (cutE xU env) (aQ b st)
  rw[he];exact h
 |cons d r ih=>
  intro i w env he h
  rw[ey,TR]
  refine mY (env1:=kP L n w++[(S "i",vI i),(S "e",.pv (bk d.p d.t d.w))]) (by rw[he];kernel_rfl) fun QQ hq=>?_
  rw[TF]
  refine⟨trivial,FR (λx hx=>?_) h⟩
  exact(hq (kP L n (max w x)++[(S "i",vI i),(S "e",.pv (bk d.p d.t d.w))]) _ trivial (ih (i+1) (max w x) _ (by kernel_rfl) hx)).1
theorem TU{st:List PV}{K:Fl->aw->St->Prop}:∀(ds:List ValD) (b:List UInt8) (env:aw),cutE nq env=gz L n w bw loc->(jf bw ds b fun b'=>K .next (gz L n w bw loc) (aQ b' st))->
  c9 (bt dn dq xn (br bK) 186 (bj bK 26)) (gt bK 25) [] nq (ds.map vP) env (aQ b st) K:=by
 intro v0
 induction v0 with
 |nil=>
  intro b env he h
  show K .next (cutE nq env) (aQ b st)
  rw[he];exact h
 |cons d r ih=>
  intro b env he h
  rw[ey]
  refine mY (env1:=gz L n w bw loc++[(S "e",.pv (bk d.p d.t d.w))]) (by rw[he];kernel_rfl) fun QQ hq=>?_
  rw[TH]
  exact⟨h.1,FS (λx _ hx=>(hq (gz L n w bw loc++[(S "e",.pv (bk d.p d.t d.w))]) _ trivial (ih (b++x) _ (by kernel_rfl) hx)).1) h.2⟩
theorem TV{st:List PV}{K:Fl->aw->St->Prop}:∀(ds:List ValD) (b:List UInt8) (env:aw),cutE nq env=gz L n w bw loc->(lX w ds b fun b'=>K .next (gz L n w bw loc) (aQ b' st))->
  c9 (bt dn dq xn (br bK) 183 (bj bK 29)) (gt bK 28) [] nq (ds.map vP) env (aQ b st) K:=by
 intro v0
 induction v0 with
 |nil=>
  intro b env he h
  show K .next (cutE nq env) (aQ b st)
  rw[he];exact h
 |cons f0 r ih=>
  intro b env he h
  obtain⟨p,t,w'⟩:=f0
  rw[ey]
  refine mY (env1:=gz L n w bw loc++[(S "e",.pv (bk p t w'))]) (by rw[he];kernel_rfl) fun QQ hq=>?_
  rw[TK]
  obtain⟨⟨h1,h2,h3,h4,h5⟩,h6⟩:=h
  dsimp only at h2 h3
  exact⟨⟨h2,h3,h4,h5⟩,⟨f2 1 [(4,.n 0,v0),(1,.n 0,v1)] (.n 0) (.p (.t v0 4) v1) rfl h2 h4,f2 1 [(4,v0,.n 26),(1,v1,.n 3)] (.p (.p (.t v0 4) v1) (.n 1)) (.n 256) rfl h3 h5,aO (f1 1 [(1,v0,.n 16000000)] (.p v0 (.n 1)) (.n 16777216) rfl (a:=↑b.length) (aF h1))⟩,(hq (gz L n w bw loc++[(S "e",.pv (bk p t w'))]) _ trivial (ih (b++[(t*4+ci ⟨p,t,w'⟩ w).toNat.toUInt8]) _ (by kernel_rfl) h6)).1⟩
theorem xV(h:∀x,k x->k' x):∀(ds:List ValD) (i w:Int),lW s i w ds k->lW s i w ds k':=by
 intro v0
 induction v0 with
 |nil=>
  intro _ _ q
  exact h _ q
 |cons _ r ih=>
  intro _ _ q
  exact FR (λ_ hx=>ih _ _ hx) q
theorem xW(h:∀x,k x->k' x):∀(ds:List ValD) (b:List UInt8),jf n ds b k->jf n ds b k':=by
 intro v0
 induction v0 with
 |nil=>
  intro _ q
  exact h _ q
 |cons _ r ih=>
  intro _ q
  exact⟨q.1,FS (λ_ _ hx=>ih _ hx) q.2⟩
theorem xX(h:∀x,k x->k' x):∀(ds:List ValD) (b:List UInt8),lX n ds b k->lX n ds b k':=by
 intro v0
 induction v0 with
 |nil=>
  intro _ q
  exact h _ q
 |cons _ r ih=>
  intro _ q
  exact⟨q.1,ih _ q.2⟩
theorem TW{b:List UInt8}{w:Int}(h:0<=w/\w<=3):(bL b (2^w.toNat)).length<=8:=by
 refine e12 (Fp (b:=b) (Fo h).2) fun m e hm=>?_
 unfold bL
 rw[nG,e]
 exact Nat.le_of_lt_succ hm
theorem TX(g:G0 E):FXOk E [(CV,FN)]:=
 eN g (l:=np) (bud:=130) (D:=bK) (sg g) (a8 (i:=63) rfl) (by kernel_rfl) (by decide) (oR fun _ ds _ _ d Q h=>ax (b9 h) fun hn z=>by
  have h45:=z.1
  have h6:=z.2
  refine(TC (ds.map vP) d.1 d.2 Q) ?_
  rw[dT,FC (x:=(ds.length:Int)) (Int.ofNat_lt.mpr h45.1),show max (0:Int) 0=0 from rfl]
  refine⟨⟨ee _,yt (Int.ofNat_lt.mpr h45.1) (by decide)⟩,?_⟩
  refine TS (L:=ds.map vP) (n:=(ds.length:Int)) ds 0 0 _ (by kernel_rfl) (xV (λw hw=>?_) ds 0 0 h6)
  refine ax hw fun hw1 hw2=>?_
  show kX dn dq xn (br bK) 193 (bj bK 16) (kF Q) Fl.next (kP (ds.map vP) (ds.length:Int) w) (aQ d.1 d.2)
  rw[TG]
  refine⟨⟨hw1.1,hw1.2,bT h45.2 (by decide)⟩,by rw[bB];exact bT (Xb h45.2 (TW (b:=d.1) hw1)) (by decide),oZ (λx _ hx=>?_) hw2⟩
  refine TU (L:=ds.map vP) (n:=(ds.length:Int)) (w:=w) (bw:=2^w.toNat) (loc:=((d.1++bL d.1 (2^w.toNat)++x).length:Int)) ds _ _ (by kernel_rfl) (xW (λb3 hb3=>?_) _ _ hx)
  show kX dn dq xn (br bK) 187 (bj bK 27) (kF Q) .next (gz (ds.map vP) (ds.length:Int) w (2^w.toNat) ((d.1++bL d.1 (2^w.toNat)++x).length:Int)) (aQ b3 d.2)
  rw[TJ]
  refine TV (L:=ds.map vP) (n:=(ds.length:Int)) (w:=w) (bw:=2^w.toNat) (loc:=((d.1++bL d.1 (2^w.toNat)++x).length:Int)) ds b3 _ (by kernel_rfl) (xX (λb4 hb4=>?_) _ _ hb3)
  show kX dn dq xn (br bK) 184 [] (kX dn dq xn (br bK) 186 (bj bK 30) (kF Q)) .next (gz (ds.map vP) (ds.length:Int) w (2^w.toNat) ((d.1++bL d.1 (2^w.toNat)++x).length:Int)) (aQ b4 d.2)
  rw[TL]
  exact hb4)
theorem TY{b x y:List UInt8}{w:Int}{K:Prop}(hx:x.length=1)(hy:y.length=1)(h:b.length<=15000000)(q:K):b.length<=16000000/\(b++x).length<=16000000/\(b++x++y).length<=16000000/\K:=by
 have l1:(b++x).length=b.length+1:=by rw[bB,hx]
 have l2:(b++x++y).length=b.length+1+1:=by rw[bB,l1,hy]
 exact⟨by lia,by lia,by lia,q⟩
theorem TZ(g:G0 E):FXOk E [(CP,FP)]:=
 eN g (l:=np) (bud:=130) (D:=wL) (sg g) (a8 (i:=57) rfl) (by kernel_rfl) (by decide) (bZ fun _ d Q h=>by
  obtain⟨b,st⟩:=d
  refine aq (o:=xR st) h fun v e2 h3=>ax (b9 h3) fun ht h4=>?_
  obtain⟨p,t,w⟩:=v
  have ht:=cE ht
  dsimp only at ht;subst ht
  refine aq (o:=bX p) h4 fun x e3 z=>ax z fun y q=>fN y fun g1 g2 g3 g4 g5=>?_
  have e3:=j4 e3
  subst e3
  have e2:=TA e2
  subst e2
  refine(TM x w b Q) ?_
  have P:b++bL b (2^aj 0)=b:=(congrArg (b++·) (FA b)).trans (im _)
  have ff:=TY (w:=w) (fG 1 ((b.length:Int)-x)) (fG 1 (40+w)) g1 trivial
  refine⟨trivial,⟨by rw[iM];exact g2,by rw[iM];exact g3⟩,⟨by decide,by decide,ff.1⟩,?_⟩
  refine eqR P ?_
  refine⟨ff.1,⟨g2,g3⟩,⟨by decide,by decide,g4,g5⟩,ff.2.1,⟨?_,?_⟩,ff.2.2.1,⟨by decide,by decide⟩,q⟩
  ·show 0<=40+w;exact GL (by decide) g4
  ·show 40+w<256;exact pk (yp g5 40) (by decide))
@[elab_as_elim] theorem T9{p:PV}{b:List UInt8}{st:List PV}{k:List UInt8->List PV->Prop}{M:PV->Prop}(h:ad p b st k)(i:∀v,st.length<=1000000->(-9223372036854775808<=v/\v<9223372036854775808)->k b (st++[bk (.int v) 1 (cg v)])->M (.int v))
  (o:∀v,st.length<=1000000->k b (st++[bk (.bool v) 26 0])->M (.bool v)) (s:∀s,st.length<=1000000->(s.cps.toList.all dh=true/\s.cps.size<=1000/\(cC s.cps.toList).length<256/\b.length<=15000000)->k (b++dL (cC s.cps.toList)) (st++[bk (.int (b.length+1)) 5 0])->M (.str s)):M p:=by
 cases p with
 |int v=>exact i v h.1 h.2.1 h.2.2
 |bool v=>exact o v h.1 h.2
 |str v=>exact s v h.1 h.2.1 h.2.2
 |_=>exact h.2.elim
theorem Ua(g:G0 E):FXOk E [(q9,FQ)]:=
 eN g (l:=np) (bud:=130) (D:=kH) (sg g) (a8 (i:=70) rfl) (by kernel_rfl) (by decide) (dK fun _ p d Q h=>T9 (M:=λp=>RX dn dq kH [.loc 0,.pv p] [] (aQ d.1 d.2) Q) h.2
  (λv hl h q=>(TN v d.1 d.2 Q) ⟨h,bT (He hl) (by decide),q⟩) (λv hl q=>(TP v d.1 d.2 Q) ⟨bT (He hl) (by decide),q⟩) fun s hl h q=>(TQ s d.1 d.2 Q) ⟨⟨h.1,h.2.1,h.2.2.1,h.2.2.2,hl⟩,q⟩)
end
def sj:List (Addr×Spec):=(CV,FN)::(CP,FP)::(q9,FQ)::np
theorem FT(g:G0 E):FXOk E sj:=(TX g).add <| (TZ g).add <| (Ua g).add <| sg g
def Ub:aI:=dA L9 140
def Uc:aI:=ie sj 140
def ev(st:List PV)(b:List UInt8)(k:List UInt8->PV->Prop):Prop:=st.length<=1000000/\ag (lV st) fun ds=>gd (!ds.isEmpty) (cv ds b k)
def FU:Spec:=xu 141 (cA 0) (xv 0) (S "typed") (kL false) (S "fixed") (kL false) gh fun _ _ _ _ d Q=>True/\ev d.2 d.1 fun b v=>ag (iI v) fun u=>Q (.pv u.p) (aQ b [v])
theorem Ud(b:List UInt8)(st:List PV)(Q:AV->St->Prop):aE
 (cO (lV (slice (aa 0) tb st)) fun(a:List ValD)=>cB (!WS a) ((ae a<256/\ae b<=15000000)/\lW (↑(ae b):Int) 0 0 a fun(w:Int)=>(0<=w/\w<=3)/\wr 80 (PV.int (↑(ae a):Int)) (2^aj w) (b++bL b (2^aj w)) fun(x:List UInt8)=>jf (2^aj w) a (b++bL b (2^aj w)++x) fun(b3:List UInt8)=>lX w a b3 fun(b4:List UInt8)=>(zI 0<=0/\0<=(↑(ae st):Int))/\1<=16777216/\Q (vI (↑(ae (b++bL b (2^aj w)++x)):Int)) (aQ b4 [bk (PV.int (↑(ae (b++bL b (2^aj w)++x)):Int)) 10 w])) False)
 (RX Ub Uc wT [AV.loc 0,vI 0] [(S "typed",vB bp),(S "fixed",vB bp)] (aQ b st) Q):=imp (by kernel_rfl)
section
variable{E:Env0}
theorem nr(p:PV)(t w:Int):iI (bk p t w)=aa ⟨p,t,w⟩:=by kernel_rfl
theorem Ue(l:List α):slice (aa 0) none l=l:=by
 have h1:decide ((0:Int)<0)=false:=rfl
 simp only[slice,mw,h1,cond_false]
 simp only[WY,show min (0:Int).toNat l.length=0 from pz (iQ _),WP]
theorem Uf(g:G0 E):FXOk E [(C2,FU)]:=
 eN g (l:=sj) (bud:=140) (D:=wT) (FT g) (a8 (i:=68) rfl) (by kernel_rfl) (by decide) (DI fun _ _ _ _ d Q h=>by
  refine(Ud d.1 d.2 Q) ?_
  refine eqR (Ue d.2) ?_
  refine aq h.2.2 fun ds e h=>ax (b9 h) fun hn h=>dJ e (bg hn ⟨h.1,xV (λw hw=>⟨hw.1,oZ (λx _ hx=>xW (λb3 hb3=>xX (λb4 hb4=>?_) _ _ hb3) _ _ hx) hw.2⟩) _ _ _ h.2⟩)
  dsimp only at hb4
  simp only[nr] at hb4
  exact(bl ⟨by decide,ee _⟩ (by decide) hb4))
end
def sm:List (Addr×Spec):=(C2,FU)::sj
theorem FV(g:G0 E):FXOk E sm:=(Uf g).add <| FT g
def jg:aI:=dA L9 150
def jh:aI:=ie sm 150
noncomputable def nu:List PV->List UInt8->List PV->(List UInt8->List PV->Prop)->Prop
 | [],b,st,k=>k b st
 |p::r,b,st,k=>ad p b st fun b st=>nu r b st k
abbrev ji(row:List PV)(b:List UInt8)(st:List PV):St:=(20,.list row)::aQ b st
def FW:db (PV×List PV×List UInt8):=⟨λσ=>aA (dF σ) fun p=>aA (r9 p.1.2) fun l=>aA (dF l) fun q=>aA (xB p.2) fun d=>bW (a7 p.1.1 20&&cm d.2) (aa (q.1,q.2,d.1)),λx=>ji (x.1::x.2.1) x.2.2 [],λh=>ay h fun p e1 h=>ay h fun l e2 h=>ay h fun q e3 h=>ay h fun d e4 h=>bU h fun g h=>by
 rw[eU e1,Ez e4,cX (b2 g).2,<-ac h,show p.1=(20,.list (q.1::q.2)) from jn (ce (b2 g).1) ((xA e2).trans (congrArg AObj.list (eU e3)))]⟩
def vf(row:List PV)(b:List UInt8)(k:List UInt8->PV->Prop):Prop:=nu row b [] fun b st=>ev st b k
def FX:Spec:=dB 151 (cA 0) (cA 20) FW fun _ _ x Q=>True/\vf (x.1::x.2.1) x.2.2 fun b v=>Q vN (ji (x.1::x.2.1) b [v])
theorem Ug(row:List PV)(b:List UInt8)(Q:AV->St->Prop):aE
 (c9 (bt jg jh xn (FCtx.mk (FnD.scope fc) []) 195 (bj fc 3)) (gt fc 2) [(20,row)] [S "self",S "elements",S "start"] row [(S "self",AV.loc 0),(S "elements",AV.loc 20),(S "start",vI 0)] ((20,AObj.list row)::aQ b []) (kX jg jh xn (FCtx.mk (FnD.scope fc) []) 196 [] (kT jg jh xn (FCtx.mk (FnD.scope fc) []) 197 (bj fc 4) (kX jg jh xn (FCtx.mk (FnD.scope fc) []) 198 [] (kF Q)))))
 (RX jg jh fc [AV.loc 0,AV.loc 20] [] (ji row b []) Q):=imp (by kernel_rfl)
theorem Uh(row:List PV)(p:PV)(b:List UInt8)(st:List PV)(QQ:Fl->aw->St->Prop):bt jg jh xn (br fc) 195 (bj fc 3) [(S "self",AV.loc 0),(S "elements",AV.loc 20),(S "start",vI 0),(S "e",AV.pv p)] (ji row b st) QQ=
 (True/\ad p b st fun(b:List UInt8) (st:List PV)=>QQ Fl.next [(S "self",AV.loc 0),(S "elements",AV.loc 20),(S "start",vI 0),(S "e",AV.pv p)] ((20,AObj.list row)::aQ b st)):=by kernel_rfl
theorem Ui(row:List PV)(b:List UInt8)(st:List PV)(Q:AV->St->Prop):kX jg jh xn (br fc) 196 [] (kT jg jh xn (br fc) 197 (bj fc 4) (kX jg jh xn (br fc) 198 [] (kF Q))) Fl.next [(S "self",AV.loc 0),(S "elements",AV.loc 20),(S "start",vI 0)] (ji row b st)=
 (True/\ev st b fun(b:List UInt8) (v:PV)=>cO (iI v) fun(a:ValD)=>Q vN ((20,AObj.list row)::aQ b [v])):=by kernel_rfl
section
variable{E:Env0}
theorem FY{st:List PV}(h:∀b st,k b st->k' b st)(q:ad p b st k):ad p b st k':=by
 refine⟨q.1,?_⟩
 have q:=q.2
 cases p with
 |int v=>exact⟨q.1,h _ _ q.2⟩
 |bool v=>exact h _ _ q
 |str s=>exact⟨q.1,h _ _ q.2⟩
 |_=>exact q.elim
theorem FZ(h:∀b st,k b st->k' b st):∀(row:List PV) (b:List UInt8) (st:List PV),nu row b st k->nu row b st k':=by
 intro v0
 induction v0 with
 |nil=>
  intro _ _ q
  exact h _ _ q
 |cons _ r ih=>
  intro _ _ q
  exact FY (λ_ _ hx=>ih _ _ hx) q
theorem Uj{ds:List ValD}(h:∀b p w,k b (bk (.int p) 10 w)->k' b (bk (.int p) 10 w))(q:cv ds b k):cv ds b k':=
 ⟨q.1,xV (λ_ hw=>⟨hw.1,oZ (λ_ _ hx=>xW (λ_ hb3=>xX (λ_ hb4=>h _ _ _ hb4) _ _ hb3) _ _ hx) hw.2⟩) _ _ _ q.2⟩
theorem F0{st:List PV}(h:∀b p w,k b (bk (.int p) 10 w)->k' b (bk (.int p) 10 w))(q:ev st b k):ev st b k':=
 ⟨q.1,si (λ_=>oY (Uj h)) q.2⟩
theorem Uk(h:∀b p w,k b (bk (.int p) 10 w)->k' b (bk (.int p) 10 w))(q:vf row b k):vf row b k':=
 FZ (λ_ _=>F0 h) _ _ _ q
abbrev xY(p:PV):aw:=[(S "self",.loc 0),(S "elements",.loc 20),(S "start",vI 0),(S "e",.pv p)]
abbrev F1:aw:=[(S "self",.loc 0),(S "elements",.loc 20),(S "start",vI 0)]
abbrev xZ:List Str:=[S "self",S "elements",S "start"]
theorem Ul{K:Fl->aw->St->Prop}:∀(r:List PV) (env:aw) (b:List UInt8) (st:List PV),cutE xZ env=F1->(nu r b st fun b st=>K .next F1 (ji row b st))->
  c9 (bt jg jh xn (br fc) 195 (bj fc 3)) (gt fc 2) [(20,row)] xZ r env (ji row b st) K:=by
 intro v0
 induction v0 with
 |nil=>
  intro env b st he h
  show K .next (cutE xZ env) (ji row b st)
  rw[he];exact h
 |cons p r ih=>
  intro env b st he h
  refine mY (env1:=xY p) (by rw[he];kernel_rfl) fun QQ hq=>?_
  simp only[Uh]
  exact⟨trivial,FY (λb' st' hx=>(hq (xY p) _ ⟨rfl,trivial⟩ (ih (xY p) b' st' (by kernel_rfl) hx)).1) h⟩
theorem Um(g:G0 E):FXOk E [(C3,FX)]:=
 eN g (l:=sm) (bud:=150) (D:=fc) (FV g) (a8 (i:=69) rfl) (by kernel_rfl) (by decide) (dK fun _ _ x Q h=>by
  refine(Ug (x.1::x.2.1) x.2.2 Q) ?_
  refine Ul (x.1::x.2.1) _ x.2.2 [] (by kernel_rfl) (FZ (λb' st' hx=>?_) _ _ _ h.2)
  rw[Ui]
  exact⟨trivial,F0 (λb p w hx=>dJ (nr _ _ _) hx) hx⟩)
end
def sn:List (Addr×Spec):=(C3,FX)::sm
theorem F2(g:G0 E):FXOk E sn:=(Um g).add <| FV g
def Un:aI:=dA L9 160
def Uo:aI:=ie sn 160
def F3:Spec:=dB 161 (cA 0) (cA 20) FW fun _ _ x Q=>True/\vf (x.1::x.2.1) x.2.2 fun b v=>Q vN (ji (x.1::x.2.1) b [v])
theorem Up(p:PV)(row:List PV)(b:List UInt8)(Q:AV->St->Prop):aE
 (True/\vf (p::row) b fun(b:List UInt8) (v:PV)=>Q vN ((20,AObj.list (p::row))::aQ b [v]))
 (RX Un Uo kH [AV.loc 0,AV.loc 20] [] (ji (p::row) b []) Q):=imp (by kernel_rfl)
section
variable{E:Env0}
theorem Uq(g:G0 E):FXOk E [(q9,F3)]:=
 eN g (l:=sn) (bud:=160) (D:=kH) (F2 g) (a8 (i:=70) rfl) (by kernel_rfl) (by decide) (dK fun _ _ x Q h=>(Up x.1 x.2.1 x.2.2 Q) h)
end
def sq:List (Addr×Spec):=(q9,F3)::sn
theorem F4(g:G0 E):FXOk E sq:=(Uq g).add <| F2 g
def Ur:aI:=dA L9 170
def Us:aI:=ie sq 170
def fi(b:List UInt8)(v:PV)(k:List UInt8->Prop):Prop:=ag (iI v) fun v=>gd (v.t == 10) (ag (bX v.p) fun p=>(b.length<=15000000/\0<=(b.length:Int)-p/\(b.length:Int)-p<256/\0<=v.w/\v.w<=3)/\
 k (b++bo 1 ((b.length:Int)-p)++bo 1 (40+v.w)++bo 1 1))
abbrev Ut(row:List PV)(b:List UInt8)(v:PV):St:=(20,.list row)::FO b [v]
def F5:Spec:=bS 171 (cA 20) EY fun _ row Q=>gd (!row.isEmpty) (True/\vf row [] fun b v=>fi b v fun b'=>Q (.loc 1) (Ut row b' v))
theorem Uu(p:PV)(row:List PV)(Q:AV->St->Prop):aE
 (True/\vf (p::row) [] fun(b:List UInt8) (v:PV)=>cO (iI v) fun(a:ValD)=>cB (a.2 == 10) (cO (bX a.1) fun(a_1:Int)=>(ae b<=15000000/\0<=(↑(ae b):Int)-a_1/\(↑(ae b):Int)-a_1<256/\0<=a.3/\a.3<=3)/\Q (AV.loc 1) [(20,AObj.list (p::row)),(10,AObj.attrs [(S "_share_strings",vB bp),(S "_share_keys",vB bz),(S "_force_min_bit_width",vI 0),(S "_string_pool",AV.pv (PV.obj 1099 [(S "_pool",PV.list [])])),(S "_key_pool",AV.pv (PV.obj 1099 [(S "_pool",PV.list [])])),(S "_finished",vB bp),(S "_buf",AV.loc 1),(S "_stack",AV.loc 2),(S "finished",vB bz)]),(0,AObj.inst 1384 10),(1,AObj.ba (b++bo 1 ((↑(ae b):Int)-a_1)++bo 1 (40+a.3)++bo 1 1)),(2,AObj.list [bk a.1 a.2 a.3])]) False)
 (RX Ur Us wV [AV.loc 20] [] [(20,AObj.list (p::row))] Q):=imp (by kernel_rfl)
section
variable{E:Env0}
theorem Uv(g:G0 E):FXOk E [(C5,F5)]:=
 eN g (l:=sq) (bud:=170) (D:=wV) (F4 g) (a8 (i:=72) rfl) (by kernel_rfl) (by decide) (bZ fun _ row Q h=>ax (b9 h) fun hb z=>by
  cases row with
  |nil=>exact bn hb
  |cons p row=>
   refine(Uu p row Q) ⟨trivial,Uk (λb x w hx=>dJ (nr _ _ _) (bg rfl (dJ (x:=x) rfl ?_))) z.2⟩
   unfold fi at hx
   simp only[nr] at hx
   exact hx)
end
def x6:List (Addr×Spec):=(C5,F5)::sq
theorem Uw(g:G0 E):FXOk E x6:=(Uv g).add <| F4 g
def b8:aI:=dA L9 180
def cL:aI:=ie x6 180
abbrev bu(row:List PV)(b:List UInt8)(v:PV)(rm:List PV):St:=[(20,.list row),(10,.attrs (jc++[(S "finished",vB true)])),(0,.inst d6 10),(1,.ba b),(2,.list [v]),(21,.list rm)]
abbrev nv(l:List PV)(n w:Int):aw:=[(S "script",.pv (.list l)),(S "row",.loc 20),(S "octets",.loc 1),(S "size",vI n),(S "width",vI w),(S "room",.loc 21)]
abbrev sr(l:List PV)(n w a m:Int):aw:=nv l n w++[(S "at",vI a),(S "number",vI m)]
noncomputable def Ux(b:List UInt8):PV:=.list (b.map fun c=>.int (c.toNat:Int))
abbrev bJ(l:List PV)(n w a m pl:Int)(old:PV)(bf:List UInt8)(ro rl pw bw t:Int)(d:Int):aw:=sr l n w a m++[(S "place",vI pl),(S "old",.pv old),(S "before",.pv (Ux bf)),(S "ref",bY ro rl pw bw t),(S "deed",vI d)]
theorem su{T:aI}:∀(k m:Nat) (l:List Stmt) (env:aw) (σ:St),k<=l.length->bt T U N C (m+1+k) l env σ Q=bt T U N C (m+1+k) (l.take k) env σ (kX T U N C (m+1) (l.drop k) Q)
 |0,m,l,env,σ,_=>by
  skip
  rfl
 |k+1,m,[],env,σ,h=>absurd h (by simp)
 |k+1,m,s::r,env,σ,h=>by
  show xS T U N C (m+1+k) s env σ (mB (λenv σ=>bt T U N C (m+1+k) r env σ Q) Q)=xS T U N C (m+1+k) s env σ (mB (λenv σ=>bt T U N C (m+1+k) (r.take k) env σ (kX T U N C (m+1) (r.drop k) Q)) (kX T U N C (m+1) (r.drop k) Q))
  congr 1
  funext f env σ
  cases f with
  |next=>exact su k m r env σ (Nat.le_of_succ_le_succ h)
  |_=>rfl
theorem x7(b:List UInt8)(p q:Int)(i:Nat):(aB b p q)[i]? =if p.toNat+i<q.toNat then b[p.toNat+i]? else none:=by
 unfold aB
 simp only[yB,yC]
theorem F6(h:∀k:Nat,p.toNat<=k->k<q.toNat->b[k]? =c[k]?):aB b p q=aB c p q:=by
 refine yz fun i=>?_
 simp only[x7,x7]
 by_cases c:p.toNat+i<q.toNat
 ·rw[if_pos c,if_pos c];exact h _ (fw _ _) c
 ·rw[if_neg c,if_neg c]
theorem F7(h:b[p.toNat]? =c[p.toNat]?):bc b p=bc c p:=by
 unfold bc;rw[h]
theorem x8(h:i<=j/\j<=b.length)(e:x.length=j-i)(k:Nat):(aZ b x i j)[k]? =if k<i then b[k]? else if k<j then x[k-i]? else b[k]?:=by
 unfold aZ
 have l1:(b.take i).length=i:=by rw[ip];lia
 by_cases c1:k<i
 ·rw[if_pos c1,dS,sS (by simp only[l1];exact c1),yC,if_pos c1]
 ·rw[if_neg c1,dS,sT (by rw[l1];exact aO (f2 1 [(1,v0,v1)] v0 v1 rfl (jw c1))),l1]
  by_cases c2:k<j
  ·rw[if_pos c2,sS (dx (f6 1 [(1,v3,v2),(1,.p v4 (.n 1),v1),(1,.m v1 v0,v3),(1,v5,.m v4 v0)] (.p v5 (.n 1)) v2 rfl (fZ e) (dD c2) jx (gl (aO (f2 1 [(1,v0,v1)] v0 v1 rfl (a:=↑i) (b:=↑k) (jw c1))))))]
  ·rw[if_neg c2,sT (aO (f6 1 [(1,v2,v3),(1,v1,v4),(1,v3,.m v1 v0),(1,.m v4 v0,v5)] v2 v5 rfl (eO e) (jw c2) (gl (aO (f2 1 [(1,v0,v1)] v0 v1 rfl (a:=↑i) (b:=↑j) (aF h.1)))) jx)),yB,e]
   congr 1
   omega
theorem Uy(h:i<=j/\j<=b.length)(e:x.length=j-i)(hd:q.toNat<=i\/j<=p.toNat):aB (aZ b x i j) p q=aB b p q:=by
 refine F6 fun k h1 h2=>?_
 rw[x8 h e]
 rcases hd with hd |hd
 ·rw[if_pos (dx (f3 1 [(1,.p v1 (.n 1),v2),(1,v2,v0)] (.p v1 (.n 1)) v0 rfl (dD h2) (aF hd)))]
 ·rw[if_neg (Nat.not_lt.mpr (aO (f4 1 [(1,v0,v1),(1,v2,v3),(1,v1,v2)] v0 v3 rfl (aF h.1) (aF h1) (aF hd)))),if_neg (Nat.not_lt.mpr (aO (f3 1 [(1,v1,v2),(1,v0,v1)] v0 v2 rfl (aF h1) (aF hd))))]
theorem Uz(h:i<=j/\j<=b.length)(e:x.length=j-i)(hd:p.toNat<i\/j<=p.toNat):bc (aZ b x i j) p=bc b p:=by
 refine F7 ?_
 rw[x8 h e]
 rcases hd with hd |hd
 ·rw[if_pos hd]
 ·rw[if_neg (Nat.not_lt.mpr (aO (f3 1 [(1,v0,v1),(1,v1,v2)] v0 v2 rfl (aF h.1) (aF hd)))),if_neg (Nat.not_lt.mpr (aO (f2 1 [(1,v0,v1)] v0 v1 rfl (aF hd))))]
theorem put_self(h:i<=j/\j<=b.length)(e:x.length=j-i)(hp:p.toNat=i)(hq:q.toNat=j):aB (aZ b x i j) p q=x:=by
 refine yz fun k=>?_
 simp only[x7,hp,hq,x8 h e]
 by_cases c:i+k<j
 ·rw[if_pos c,if_neg (Nat.not_lt.mpr (aO (f2 1 [(1,.n 0,v1)] v0 (.p v0 v1) rfl aY))),if_pos c]
  congr 1;exact iz (f3 1 [(1,v2,.m (.p v0 v1) v0)] v2 v1 rfl (a:=↑i) (b:=↑k) (c:=↑(i+k-i)) (gl (aO (f2 1 [(1,.n 0,v1)] v0 (.p v0 v1) rfl (a:=↑i) (b:=↑k) aY)))) (f3 1 [(1,.m (.p v0 v1) v0,v2)] v1 v2 rfl (a:=↑i) (b:=↑k) (c:=↑(i+k-i)) jx)
 ·rw[if_neg c,sU (aO (f5 1 [(1,v2,v3),(1,v1,.p v0 v4),(1,v3,.m v1 v0)] v2 v4 rfl (a:=↑i) (b:=↑j) (c:=↑x.length) (d:=↑(j-i)) (e:=↑k) (eO e) (jw c) (gl (aO (f2 1 [(1,v0,v1)] v0 v1 rfl (a:=↑i) (b:=↑j) (aF h.1))))))]
theorem kQ:∀(n:Nat) (v:Int),0<=v->v<256^n->aP (be n v)=v:=by
 intro v0
 induction v0 with
 |zero=>
  intro v h0 h1
  have :v=0:=by have h1:v<1:=h1;exact dM (f1 1 [(1,.p v0 (.n 1),.n 1)] v0 (.n 0) rfl h1) (f1 1 [(1,.n 0,v0)] (.n 0) v0 rfl h0)
  refine eqR this ?_;rfl
 |succ n ih=>
  intro v h0 h1
  have e:aP (be (n+1) v)=aP (be n (v.fdiv 256))*256+(((v.fmod 256).toNat.toUInt8).toNat:Int):=rfl
  rw[e]
  have hd:v.fdiv 256=v/256:=yr _ (by decide)
  have hm:v.fmod 256=v%256:=sM _ (by decide)
  rw[hd,hm]
  have h256:v/256<256^n:=by
   have h1':v<256^n*256:=by rw[<-Int.pow_succ];exact h1
   exact Wz (by decide) h1'
  rw[ih (v/256) (Int.ediv_nonneg h0 (by decide)) h256]
  have hx:(((v%256).toNat.toUInt8).toNat:Int)=v%256:=by
   have a:=jQ v (b:=256) (by decide)
   have b:=jP v (b:=256) (by decide)
   have :((v%256).toNat.toUInt8).toNat=(v%256).toNat:=by
    show(v%256).toNat%256=_
    exact s9 (dx (f2 1 [(1,.p v0 (.n 1),.n 256),(1,v1,v0)] (.p v1 (.n 1)) (.n 256) rfl b (dO (f1 1 [(1,.n 0,v0)] (.n 0) v0 rfl (a:=v%256) a))))
   rw[this];exact dM (f2 1 [(1,v1,v0)] v1 v0 rfl (dO (f1 1 [(1,.n 0,v0)] (.n 0) v0 rfl (a:=v%256) a))) (f2 1 [(1,v0,v1)] v0 v1 rfl iU)
  rw[hx]
  lia
theorem F8(hw:aM w=true)(h: -(2^(8*w-1).toNat)<=v/\v<2^(8*w-1).toNat):ic w (aP (ig w v))=v:=by
 unfold ig ic
 rcases rU hw with rfl |rfl |rfl |rfl
 ·have h: -128<=v/\v<128:=h
  have e:aP (be (aj 1) (v%2^(8*1:Int).toNat))=v%256:=kQ 1 (v%256) (jQ _ (by decide)) (jP _ (by decide))
  rw[e]
  show(if v%256>=128 then v%256-256 else v%256)=v
  split <;> omega
 ·have h: -32768<=v/\v<32768:=h
  have e:aP (be (aj 2) (v%2^(8*2:Int).toNat))=v%65536:=kQ 2 (v%65536) (jQ _ (by decide)) (jP _ (by decide))
  rw[e]
  show(if v%65536>=32768 then v%65536-65536 else v%65536)=v
  split <;> omega
 ·have h: -2147483648<=v/\v<2147483648:=h
  have e:aP (be (aj 4) (v%2^(8*4:Int).toNat))=v%4294967296:=kQ 4 (v%4294967296) (jQ _ (by decide)) (jP _ (by decide))
  rw[e]
  show(if v%4294967296>=2147483648 then v%4294967296-4294967296 else v%4294967296)=v
  split <;> omega
 ·have h: -9223372036854775808<=v/\v<9223372036854775808:=h
  have e:aP (be (aj 8) (v%2^(8*8:Int).toNat))=v%18446744073709551616:=kQ 8 (v%18446744073709551616) (jQ _ (by decide)) (jP _ (by decide))
  rw[e]
  show(if v%18446744073709551616>=9223372036854775808 then v%18446744073709551616-18446744073709551616 else v%18446744073709551616)=v
  clear e;split <;> omega
theorem kR(hw:aM w=true)(h:0<=v/\v<2^(8*w).toNat):aP (bo w v)=v:=by
 unfold bo
 rcases rU hw with rfl |rfl |rfl |rfl
 ·exact kQ _ _ h.1 h.2
 ·exact kQ _ _ h.1 h.2
 ·exact kQ _ _ h.1 h.2
 ·exact kQ _ _ h.1 h.2
noncomputable def wk(w:Int):Int:=if w=2 then 1 else 2
def bh(s:Str):List UInt8:=cC s.cps.toList
def Elem(b:List UInt8)(w loc n:Int)(r:Int)(i:Int):PV->Prop
 | .int v=>bc b (loc+(n*w+i))=4+wk w/\ic w (aP (aB b (loc+i*w) (loc+i*w+w)))=v
 | .bool t=>bc b (loc+(n*w+i))=104+wk w/\aP (aB b (loc+i*w) (loc+i*w+w))=(if t then 1 else 0)
 | .str s=>bc b (loc+(n*w+i))=20/\s.cps.toList.all dh=true/\s.cps.size<=1000/\r=(bh s).length/\r<256/\1<=au b (loc+i*w) w/\au b (loc+i*w) w+r<=loc+ -w/\
   aP (aB b (au b (loc+i*w) w+ -1) (au b (loc+i*w) w))=r/\aB b (au b (loc+i*w) w) (au b (loc+i*w) w+r)=bh s
 |_=>False
structure Lay(b:List UInt8)(row:List PV)(w loc:Int)(rm:List Int):Prop where
 hw:w=2\/w=4
 hn:3<=row.length/\row.length<=9
 hl:w<=loc/\loc<=400
 len:(b.length:Int)=loc+(row.length*w+row.length)+3
 cnt:aP (aB b (loc+ -w) loc)=row.length
 o1:bc b (b.length-1)=1
 o2:bc b (b.length-2)=40+wk w
 o3:aP (aB b (b.length-3) (b.length-3+1))=row.length*w+row.length
 rml:rm.length=row.length
 el:∀(i:Nat) p r,row[i]? =aa p->rm[i]? =aa r->Elem b w loc row.length r i p
 ap:∀(i j:Nat) s t r q,i≠j->row[i]? =aa (.str s)->row[j]? =aa (.str t)->rm[i]? =aa r->rm[j]? =aa q->au b (loc+i*w) w+r<au b (loc+j*w) w\/au b (loc+j*w) w+q<au b (loc+i*w) w
theorem Lay.root(h:Lay b row w loc rm):ni b/\rT b=10/\rW b=1/\rV b=w/\rO b=b.length-3/\au b (rO b) (rW b)=loc/\aM w=true:=by
 have hl:=h.len
 have hn:=h.hn
 have h1:rW b=1:=h.o1
 have h3:rO b=b.length-3:=by unfold rO;rw[h1];exact dM (f1 1 [] (.m v0 (.p (.n 2) (.n 1))) (.m v0 (.n 3)) rfl) (f1 1 [] (.m v0 (.n 3)) (.m v0 (.p (.n 2) (.n 1))) rfl)
 have hk:(w=2/\wk w=1)\/(w=4/\wk w=2):=by
  refine(let G:=_;(?_:G));refine(let G1:=_;(?_:G1));clear G;rcases h.hw with rfl |rfl
  ·exact .inl ⟨rfl,rfl⟩
  ·exact .inr ⟨rfl,rfl⟩
 have hlb:12<=(b.length:Int):=by
  have :=h.hl
  rcases hk with ⟨e,_⟩|⟨e,_⟩ <;> subst e <;> lia
 refine(pQ (bl (aO (f1 1 [(1,.n 12,v0)] (.n 3) v0 rfl hlb)) (by rw[h1];exact f1 1 [(1,.n 12,v0)] (.p (.n 2) (.n 1)) v0 rfl hlb) (?_)) (?_) h1 (?_) h3 (?_) (?_))
 ·rw[h.o2];rcases hk with ⟨_,e⟩|⟨_,e⟩ <;> rw[e] <;> decide
 ·unfold rT;rw[h.o2];rcases hk with ⟨_,e⟩|⟨_,e⟩ <;> rw[e] <;> decide
 ·unfold rV;rw[h.o2];rcases hk with ⟨e1,e⟩|⟨e1,e⟩ <;> rw[e,e1] <;> rfl
 ·unfold au;simp only[h1,h3,h.o3];exact dM (f4 1 [(1,v0,.p (.p v1 (.p v2 v3)) (.n 3))] (.m (.m v0 (.n 3)) (.p v2 v3)) v1 rfl (dR hl)) (f4 1 [(1,.p (.p v1 (.p v2 v3)) (.n 3),v0)] v1 (.m (.m v0 (.n 3)) (.p v2 v3)) rfl (cz hl))
 ·clear hl;clear hk;rcases h.hw with rfl |rfl <;> rfl
theorem Elem.is{b:List UInt8}{w loc n r i:Int}{p:PV}(hw:w=2\/w=4)(h0:0<=loc+i*w)(h1:loc+i*w+w<=b.length)(h2:loc<=b.length)(h:Elem b w loc n r i p):
  bc b (loc+(n*w+i))<108/\sd b (loc+i*w) w (2^(bc b (loc+(n*w+i))%4).toNat) (bc b (loc+(n*w+i))/4) p:=by
 have hb:aM w=true:=by rcases hw with rfl |rfl <;> rfl
 have hk:wk w=1\/wk w=2:=by unfold wk;split <;> simp
 cases p with
 |int v=>
  refine ax h fun e1 e2=>?_
  rw[e1]
  refine⟨by rcases hk with e |e <;> rw[e] <;> decide,hb,⟨h0,h1⟩,.inl ⟨by rcases hk with e |e <;> rw[e] <;> decide,by rw[e2]⟩⟩
 |bool t=>
  obtain⟨e1,e2⟩:=h
  rw[e1]
  refine⟨by rcases hk with e |e <;> rw[e] <;> decide,hb,⟨h0,h1⟩,.inr (.inl ⟨by rcases hk with e |e <;> rw[e] <;> decide,?_⟩)⟩
  rw[e2];cases t <;> rfl
 |str s=>
  refine mf h fun e1 e2 e3 e4 e5 e6 e7 e8 e9=>?_
  rw[e1]
  have hp:0<w:=by clear hk;clear e1;clear e6;clear e7;rcases hw with rfl |rfl <;> decide
  have hr:0<=r:=by rw[e4];exact ee _
  refine⟨by decide,hb,⟨h0,h1⟩,.inr (.inr ⟨by decide,by decide,f1 1 [(1,.n 1,v0)] (.n 0) v0 rfl e6,s.cps.toList,(pQ (?_) (?_) (?_) (?_) (?_) e2 (?_)),rfl⟩)⟩
  ·show 0<=au b (loc+i*w) w+ -1;exact f1 1 [(1,.n 1,v0)] (.n 0) (.p v0 (.g (.n 1))) rfl e6
  ·exact f5 1 [(1,v0,v2),(1,.p v4 v3,.p v0 (.g v1)),(1,.p (.n 0) (.n 1),v1),(1,.n 0,v3)] v4 v2 rfl h2 e7 hp hr
  ·show 0<=aP (aB b (au b (loc+i*w) w+ -1) (au b (loc+i*w) w));rw[e8];exact hr
  ·show aP (aB b (au b (loc+i*w) w+ -1) (au b (loc+i*w) w))<1000000;rw[e8];exact f1 1 [(1,.p v0 (.n 1),.n 256)] (.p v0 (.n 1)) (.n 1000000) rfl e5
  ·show au b (loc+i*w) w+aP (aB b (au b (loc+i*w) w+ -1) (au b (loc+i*w) w))<=b.length;rw[e8];exact f5 1 [(1,v0,v2),(1,.p v4 v3,.p v0 (.g v1)),(1,.p (.n 0) (.n 1),v1)] (.p v4 v3) v2 rfl h2 e7 hp
  ·show aB b (au b (loc+i*w) w) (au b (loc+i*w) w+aP (aB b (au b (loc+i*w) w+ -1) (au b (loc+i*w) w)))=cC s.cps.toList;rw[e8];exact e9
 |_=>exact h.elim
theorem Lay.doc{b:List UInt8}{row:List PV}{w loc:Int}{rm:List Int}(h:Lay b row w loc rm):lT b row:=by
 refine ju h.root fun r1 r2 r3 r4 r5 r6 r7=>?_
 have hl:=h.len
 have hn:=h.hn
 have hll:=h.hl
 have hw:=gy r7
 have hm:(0:Int)<=row.length*w:=gU (f1 1 [(1,.n 0,v0)] (.n 0) v0 rfl aY) (by lia)
 refine(bl r1 r2 (?_))
 unfold sf
 rw[r6,r4]
 refine(eC (by rw[r3];decide) r7 (eC (f6 7 [(7,.m v2 (.n 3),v1),(3,.p (.p v3 (.p v4 v5)) (.n 3),v2),(3,.n 3,v5),(3,v0,v3),(3,.p (.n 0) (.n 1),v0),(3,.n 0,v4),(4,.n 0,v2)] (.n 0) v1 rfl (cz r5) (cz hl) (aF hn.1) hll.1 hw.1 hm aY) (f3 1 [(1,v0,.n 1),(1,v1,.m v2 (.n 3))] (.p v1 v0) v2 rfl (dR r3) (dR r5)) (f2 1 [(1,v0,v1)] (.n 0) (.p v1 (.g v0)) rfl hll.1) (by lia)) (?_))
 rw[h.cnt]
 refine(pQ (f1 1 [(1,.n 0,v0)] (.n 0) v0 rfl aY) (f1 1 [(1,v0,.n 9)] v0 (.n 1000) rfl (aF hn.2)) r7 (f2 1 [(1,v0,v1),(1,.p (.n 0) (.n 1),v0)] (.n 0) v1 rfl hll.1 hw.1) (f4 1 [(1,.p (.p v1 (.p v2 v3)) (.n 3),v0)] (.p v1 (.p v2 v3)) v0 rfl (cz hl)) (iz (f2 1 [(1,v0,v1)] v0 v1 rfl iU) (f2 1 [(1,v1,v0)] v1 v0 rfl (dO (f1 1 [(1,.n 3,v0)] (.n 0) v0 rfl (a:=↑row.length) (aF hn.1))))) (λi p e=>?_))
 have hi:i<row.length:=(List.getElem?_eq_some_iff.mp e).1
 refine(let G:=_;(?_:G));obtain⟨r,hr⟩:∃r,rm[i]? =aa r:=⟨_,eH (by simp only[h.rml];exact hi)⟩
 have e0:(0:Int)<=(i:Int)*w:=gU (f1 1 [(1,.n 0,v0)] (.n 0) v0 rfl aY) (by lia)
 have e1:(i:Int)*w+w<=row.length*w:=by
  have :((i:Int)+1)*w<=row.length*w:=pn (f2 1 [(1,.p v1 (.n 1),v0)] (.p v1 (.n 1)) v0 rfl (dD hi)) (by lia)
  simp only[nC,ik] at this;exact this
 exact(h.el i p r e hr).is h.hw (f3 1 [(1,v0,v1),(1,.p (.n 0) (.n 1),v0),(1,.n 0,v2)] (.n 0) (.p v1 v2) rfl hll.1 hw.1 e0) (f6 1 [(1,.p (.p v2 (.p v3 v4)) (.n 3),v1),(1,.p v5 v0,v3),(1,.n 0,v4)] (.p (.p v2 v5) v0) v1 rfl (cz hl) e1 aY) (by lia)
noncomputable def F9:PV->Bool
 | .str _=>true
 |_=>false
theorem Elem.keep(hk:bc c (loc+(n*w+i))=bc b (loc+(n*w+i)))(hs:aB c (loc+i*w) (loc+i*w+w)=aB b (loc+i*w) (loc+i*w+w))
  (ht:F9 p=true->0<=r->1<=au b (loc+i*w) w->au b (loc+i*w) w+r<=loc+ -w->aB c (au b (loc+i*w) w+ -1) (au b (loc+i*w) w)=aB b (au b (loc+i*w) w+ -1) (au b (loc+i*w) w)/\
   aB c (au b (loc+i*w) w) (au b (loc+i*w) w+r)=aB b (au b (loc+i*w) w) (au b (loc+i*w) w+r)) (h:Elem b w loc n r i p):Elem c w loc n r i p:=by
 refine(let G:=_;(?_:G));cases p with
 |int v=>exact⟨hk.trans h.1,by rw[hs];exact h.2⟩
 |bool v=>exact⟨hk.trans h.1,by rw[hs];exact h.2⟩
 |str s=>
  refine mf h fun e1 e2 e3 e4 e5 e6 e7 e8 e9=>?_
  have hb:au c (loc+i*w) w=au b (loc+i*w) w:=by unfold au;rw[hs]
  refine ax (ht rfl (by simp only[e4];exact ee _) e6 e7) fun t1 t2=>?_
  exact(n0 (hk.trans e1) e2 e3 e4 e5 (by simp only[hb];exact e6) (by rw[hb];exact e7) (by rw[hb,t1];exact e8) (by rw[hb,t2];exact e9))
 |_=>exact h.elim
theorem lY{b x:List UInt8}{i j:Nat}(h:i<=j/\j<=b.length)(e:x.length=j-i){p q:Int}(hd:q<=i\/(j:Int)<=p):aB (aZ b x i j) p q=aB b p q:=
 Uy h e (hd.imp (λh=>Int.toNat_le.mpr h) fun h=>(WA (pj (ee _) h)).mpr h)
theorem sw{b x:List UInt8}{i j:Nat}(h:i<=j/\j<=b.length)(e:x.length=j-i){p:Int}(h0:0<=p)(hd:p<i\/(j:Int)<=p):bc (aZ b x i j) p=bc b p:=
 Uz h e (hd.imp (λh=>(Int.toNat_lt h0).mpr h) fun h=>(WA h0).mpr h)
structure Ga(n i:Nat)(w loc:Int)(L a z:Nat):Prop where
 ea:loc+i*w=a
 ez:loc+i*w+w=z
 az:a<=z
 zL:z<=L
 lo:loc<=a
 hi:(z:Int)<=loc+n*w
theorem UA{n i:Nat}{w loc:Int}{L:Nat}(h0:0<=loc)(hw:0<w)(hi:i<n)(hL:loc+n*w<=L):∃a z,Ga n i w loc L a z:=by
 have e0:(0:Int)<=(i:Int)*w:=gU (f1 1 [(1,.n 0,v0)] (.n 0) v0 rfl aY) (by omega)
 have e1:(i:Int)*w+w<=n*w:=by
  have :((i:Int)+1)*w<=n*w:=pn (f2 1 [(1,.p v0 (.n 1),v1)] (.p v0 (.n 1)) v1 rfl (dD hi)) (by omega)
  rw[nC,ik] at this;exact this
 have ea:loc+(i:Int)*w=((loc+(i:Int)*w).toNat:Int):=(l4 (f2 1 [(1,.n 0,v0),(1,.n 0,v1)] (.n 0) (.p v0 v1) rfl h0 e0)).symm
 have ez:loc+(i:Int)*w+w=((loc+(i:Int)*w+w).toNat:Int):=(l4 (f3 1 [(1,.n 0,v0),(1,.p (.n 0) (.n 1),v1),(1,.n 0,v2)] (.n 0) (.p (.p v0 v2) v1) rfl h0 hw e0)).symm
 generalize(loc+(i:Int)*w).toNat=a at *
 generalize(loc+(i:Int)*w+w).toNat=z at *
 exact⟨a,z,⟨ea,ez,aO (f5 1 [(1,.p (.n 0) (.n 1),v1),(1,v3,.p v0 v2),(1,.p (.p v0 v2) v1,v4)] v3 v4 rfl hw (cz ea) (dR ez)),aO (f6 1 [(1,.p v0 v2,v3),(1,.p v4 v1,v2),(1,v5,.p (.p v0 v4) v1)] v5 v3 rfl hL e1 (cz ez)),f3 1 [(1,.n 0,v1),(1,.p v0 v1,v2)] v0 v2 rfl e0 (dR ea),f5 1 [(1,.p v3 v1,v2),(1,v4,.p (.p v0 v3) v1)] v4 (.p v0 v2) rfl e1 (cz ez)⟩⟩
theorem UB(S:Ga n i w loc L a z)(hw:w=2\/w=4)(h:j≠i):loc+j*w+w<=a\/(z:Int)<=loc+j*w:=by
 have h1:=S.ea
 have h2:=S.ez
 clear S
 rcases hw with rfl |rfl <;> lia
theorem Lay.slot{b x:List UInt8}{row:List PV}{w loc:Int}{rm:List Int}(h:Lay b row w loc rm){i:Nat}{p p':PV}(hp:row[i]? =aa p)(hn':F9 p'=false)(hx:(x.length:Int)=w)
  (he:∀(c:List UInt8) (r:Int),bc c (loc+(row.length*w+i))=bc b (loc+(row.length*w+i))->aB c (loc+i*w) (loc+i*w+w)=x->Elem c w loc row.length r i p'):
  Lay (aZ b x (loc+i*w).toNat (loc+i*w+w).toNat) (row.set i p') w loc rm/\(aZ b x (loc+i*w).toNat (loc+i*w+w).toNat).length=b.length:=by
 have hl:=h.len
 have hn:=h.hn
 have hll:=h.hl
 have hi:i<row.length:=(List.getElem?_eq_some_iff.mp hp).1
 have hw0:0<w:=by rcases h.hw with rfl |rfl <;> decide
 have hm:(0:Int)<=row.length*w:=gU (f1 1 [(1,.n 0,v0)] (.n 0) v0 rfl aY) (f1 1 [(1,.p (.n 0) (.n 1),v0)] (.n 0) v0 rfl hw0)
 refine e21 (UA (n:=row.length) (i:=i) (loc:=loc) (L:=b.length) (f2 1 [(1,v0,v1),(1,.p (.n 0) (.n 1),v0)] (.n 0) v1 rfl hll.1 hw0) hw0 hi (f4 1 [(1,.p (.p v1 (.p v2 v3)) (.n 3),v0),(1,.n 0,v3)] (.p v1 v2) v0 rfl (cz hl) aY)) fun a z S=>?_
 have Sa:=S.ea
 have Sz:=S.ez
 have hxl:x.length=z-a:=by omega
 have hij:a<=z/\z<=b.length:=⟨S.az,S.zL⟩
 have L:=oX hij hxl
 have SS:∀{p q:Int},q<=a\/(z:Int)<=p->aB (aZ b x a z) p q=aB b p q:=lY hij hxl
 have OO:∀{p:Int},0<=p->p<a\/(z:Int)<=p->bc (aZ b x a z) p=bc b p:=sw hij hxl
 have ka:(loc+i*w).toNat=a:=by rw[Sa];rfl
 have kz:(loc+i*w+w).toNat=z:=by rw[Sz];rfl
 have self:aB (aZ b x a z) (loc+i*w) (loc+i*w+w)=x:=put_self hij hxl ka kz
 have far:(z:Int)<=loc+row.length*w:=S.hi
 have lo:loc<=a:=S.lo
 rw[ka,kz]
 have slots:∀j:Nat,j≠i->aB (aZ b x a z) (loc+j*w) (loc+j*w+w)=aB b (loc+j*w) (loc+j*w+w):=λj hj=>SS (UB S h.hw hj)
 clear ka kz hxl hij hp hx Sa Sz S
 have e1:bc (aZ b x a z) (b.length-1)=bc b (b.length-1):=OO (f5 6 [(1,.p (.p v1 (.p v2 v3)) (.n 3),v0),(1,.n 3,v3),(1,v4,.p v1 v2),(5,.n 0,v0),(1,.n 0,v4)] (.n 0) (.m v0 (.n 1)) rfl (cz hl) (aF hn.1) far aY aY) (.inr (f5 1 [(1,.p (.p v1 (.p v2 v3)) (.n 3),v0),(1,v4,.p v1 v2),(1,.n 0,v3)] v4 (.m v0 (.n 1)) rfl (cz hl) far aY))
 have e2:bc (aZ b x a z) (b.length-2)=bc b (b.length-2):=OO (f5 3 [(1,.p (.p v1 (.p v2 v3)) (.n 3),v0),(1,.n 3,v3),(1,v4,.p v1 v2),(2,.n 0,v0),(1,.n 0,v4)] (.n 0) (.m v0 (.n 2)) rfl (cz hl) (aF hn.1) far aY aY) (.inr (f5 1 [(1,.p (.p v1 (.p v2 v3)) (.n 3),v0),(1,v4,.p v1 v2),(1,.n 0,v3)] v4 (.m v0 (.n 2)) rfl (cz hl) far aY))
 have e3:aB (aZ b x a z) (b.length-3) (b.length-3+1)=aB b (b.length-3) (b.length-3+1):=SS (.inr (f5 1 [(1,.p (.p v1 (.p v2 v3)) (.n 3),v0),(1,v4,.p v1 v2),(1,.n 0,v3)] v4 (.m v0 (.n 3)) rfl (cz hl) far aY))
 have e4:aB (aZ b x a z) (loc+ -w) loc=aB b (loc+ -w) loc:=SS (.inl lo)
 have kinds:∀j:Nat,bc (aZ b x a z) (loc+(row.length*w+j))=bc b (loc+(row.length*w+j)):=λj=>OO (f4 1 [(1,v2,.p v0 v1),(1,.n 0,v2),(1,.n 0,v3)] (.n 0) (.p v0 (.p v1 v3)) rfl far aY aY) (.inr (f4 1 [(1,v2,.p v0 v1),(1,.n 0,v3)] v2 (.p v0 (.p v1 v3)) rfl far aY))
 have txt:∀{p q:Int},q<=loc+ -w->aB (aZ b x a z) p q=aB b p q:=λhq=>SS (.inl (f4 1 [(1,.p (.n 0) (.n 1),v1),(1,v0,v2),(1,v3,.p v0 (.g v1))] v3 v2 rfl hw0 lo hq))
 have hrl:(row.set i p').length=row.length:=pp
 refine⟨⟨h.hw,by rw[hrl];exact hn,hll,by rw[L,hrl];exact hl,by simp only[e4,hrl];exact h.cnt,by rw[L,e1];exact h.o1,by rw[L,e2];exact h.o2,by rw[L,e3,hrl];exact h.o3,by simp only[hrl];exact h.rml,λj q r hq hr=>?_,λj k s t r q hjk hs ht hr hq=>?_⟩,L⟩
 ·rw[hrl]
  rw[sV] at hq
  by_cases c:i=j
  ·subst c
   rw[if_pos rfl,if_pos hi] at hq
   have z0:=ac hq;refine eqL z0 ?_
   exact he _ r (kinds i) self
  ·rw[if_neg c] at hq
   exact(h.el j q r hq hr).keep (kinds j) (slots j (fh c)) fun _ b0 b1 b2=>⟨txt (pj (sN b0) b2),txt b2⟩
 ·have ns:∀{j s},(row.set i p')[j]? =aa (.str s)->i≠j/\row[j]? =aa (.str s):=λ{j s} e=>by
   rw[sV] at e
   by_cases c:i=j
   ·clear hrl;subst c
    rw[if_pos rfl,if_pos hi] at e
    have z1:=ac e;refine(let G:=_;(?_:G));subst z1;exact bn hn'.symm
   ·rw[if_neg c] at e;exact⟨c,e⟩
  refine ax (ns hs) fun nj hs=>?_
  refine ax (ns ht) fun nk ht=>?_
  unfold au
  simp only[slots j (fh nj),slots k (fh nk)]
  exact h.ap j k s t r q hjk hs ht hr hq
theorem Gb(h:aM w=true):((ig w v).length:Int)=w:=by
 have :=gy h
 unfold ig;rw[fG];exact dM (f2 1 [(1,v1,v0)] v1 v0 rfl (dO (f1 1 [(1,.p (.n 0) (.n 1),v0)] (.n 0) v0 rfl (a:=w) this.1))) (f2 1 [(1,v0,v1)] v0 v1 rfl iU)
theorem o0(h:aM w=true):((bo w v).length:Int)=w:=by
 have :=gy h
 unfold bo;rw[fG];exact dM (f2 1 [(1,v1,v0)] v1 v0 rfl (dO (f1 1 [(1,.p (.n 0) (.n 1),v0)] (.n 0) v0 rfl (a:=w) this.1))) (f2 1 [(1,v0,v1)] v0 v1 rfl iU)
theorem Lay.int{b:List UInt8}{row:List PV}{w loc:Int}{rm:List Int}(h:Lay b row w loc rm){i:Nat}{v0 v:Int}(hp:row[i]? =aa (.int v0))(hv: -(2^(8*w-1).toNat)<=v/\v<2^(8*w-1).toNat):
  Lay (aZ b (ig w v) (loc+i*w).toNat (loc+i*w+w).toNat) (row.set i (.int v)) w loc rm/\(aZ b (ig w v) (loc+i*w).toNat (loc+i*w+w).toNat).length=b.length:=by
 refine(let G:=_;(?_:G));refine ju h.root fun _ _ _ _ _ _ r7=>?_
 have hi:i<row.length:=(List.getElem?_eq_some_iff.mp hp).1
 obtain⟨r,hr⟩:∃r,rm[i]? =aa r:=⟨_,eH (by simp only[h.rml];exact hi)⟩
 have e:=h.el i _ r hp hr
 refine h.slot hp rfl (Gb r7) fun c r k s=>⟨k.trans e.1,?_⟩
 rw[s];exact F8 r7 hv
theorem Lay.bool{b:List UInt8}{row:List PV}{w loc:Int}{rm:List Int}(h:Lay b row w loc rm){i:Nat}{v0 v:Bool}(hp:row[i]? =aa (.bool v0)):
  Lay (aZ b (bo w (if v then 1 else 0)) (loc+i*w).toNat (loc+i*w+w).toNat) (row.set i (.bool v)) w loc rm/\(aZ b (bo w (if v then 1 else 0)) (loc+i*w).toNat (loc+i*w+w).toNat).length=b.length:=by
 refine ju h.root fun _ _ _ _ _ _ r7=>?_
 have hi:i<row.length:=(List.getElem?_eq_some_iff.mp hp).1
 obtain⟨r,hr⟩:∃r,rm[i]? =aa r:=⟨_,eH (by simp only[h.rml];exact hi)⟩
 have e:=h.el i _ r hp hr
 refine h.slot hp rfl (o0 r7) fun c r k s=>⟨k.trans e.1,?_⟩
 rw[s]
 refine kR r7 ?_
 clear r7;clear e;clear k;clear s;rcases h.hw with rfl |rfl <;> cases v <;> decide
theorem Gd(h:i<=j/\j<=b.length)(e:x.length=j-i)(hp:p=i)(hq:q=j):aB (aZ b x i j) p q=x:=by refine eqR hp ?_;refine eqR hq ?_;exact put_self h e rfl rfl
theorem UC{b x:List UInt8}{k n:Nat}:cZ b x ((k+1:Nat):Int) 1 n=aZ (aZ (aZ b (bo 1 x.length) k (k+1)) x (k+1) (k+1+x.length)) (fH (n-x.length) 0) (k+1+x.length) (k+1+n):=by
 unfold cZ
 simp only[show(((k+1:Nat):Int)+ -1).toNat=k from by lia,show((k+1:Nat):Int).toNat=k+1 from rfl,show(((k+1:Nat):Int)+(x.length:Int)).toNat=k+1+x.length from rfl,show(((k+1:Nat):Int)+(n:Int)).toNat=k+1+n from rfl,show((n:Int)-(x.length:Int)).toNat=n-x.length from by lia]
theorem UD{b x:List UInt8}{k n:Nat}(hr:x.length<=n)(hb:k+1+n<=b.length)(hx:x.length<256):(cZ b x ((k+1:Nat):Int) 1 n).length=b.length/\
  (∀{p q:Int},(q<=k\/((k+1+n:Nat):Int)<=p)->aB (cZ b x ((k+1:Nat):Int) 1 n) p q=aB b p q)/\(∀{p:Int},0<=p->(p<k\/((k+1+n:Nat):Int)<=p)->bc (cZ b x ((k+1:Nat):Int) 1 n) p=bc b p)/\
  aP (aB (cZ b x ((k+1:Nat):Int) 1 n) k (k+1:Nat))=x.length/\aB (cZ b x ((k+1:Nat):Int) 1 n) (k+1:Nat) ((k+1+x.length:Nat):Int)=x:=by
 rw[UC]
 have l1:(bo 1 (x.length:Int)).length=k+1-k:=by simp only[G9];exact fG _ _
 have i1:k<=k+1/\k+1<=b.length:=⟨aO (f1 1 [] v0 (.p v0 (.n 1)) rfl),aO (f3 1 [(1,.p (.p v1 (.n 1)) v0,v2),(1,.n 0,v0)] (.p v1 (.n 1)) v2 rfl (a:=↑n) (b:=↑k) (c:=↑b.length) (aF hb) aY)⟩
 have L1:=oX i1 l1
 have l2:x.length=k+1+x.length-(k+1):=(G9 ..).symm
 have i2:k+1<=k+1+x.length/\k+1+x.length<=(aZ b (bo 1 (x.length:Int)) k (k+1)).length:=⟨fw _ _,by simp only[L1];exact aO (f4 1 [(1,v0,v1),(1,.p (.p v2 (.n 1)) v1,v3)] (.p (.p v2 (.n 1)) v0) v3 rfl (a:=↑x.length) (b:=↑n) (c:=↑k) (d:=↑b.length) (aF hr) (aF hb))⟩
 have L2:=oX i2 l2
 have l3:(fH (n-x.length) (0:UInt8)).length=k+1+n-(k+1+x.length):=by simp only[nG,Nat.add_sub_add_left]
 have i3:k+1+x.length<=k+1+n/\k+1+n<=(aZ (aZ b (bo 1 (x.length:Int)) k (k+1)) x (k+1) (k+1+x.length)).length:=⟨G8 hr _,by simp only[L2,L1];exact hb⟩
 have L3:=oX i3 l3
 refine(g0 (by simp only[L3,L2,L1]) (λ{p q} hd=>?_) (λ{p} h0 hd=>?_) (?_) (?_))
 ·clear L1 L2 L3
  rw[lY i3 l3 (by omega),lY i2 l2 (by omega),lY i1 l1 (by lia)]
 ·clear L1 L2 L3
  simp only[sw i3 l3 h0 (by omega),sw i2 l2 h0 (by omega),sw i1 l1 h0 (by lia)]
 ·rw[lY i3 l3 (.inl (by exact f2 1 [(1,.n 0,v0)] (.p v1 (.n 1)) (.p (.p v1 (.n 1)) v0) rfl (a:=↑x.length) (b:=↑k) aY)),lY i2 l2 (.inl (sO _)),Gd i1 l1 rfl rfl]
  exact kR rfl ⟨ee _,by show(x.length:Int)<256;exact f1 1 [(1,.p v0 (.n 1),.n 256)] (.p v0 (.n 1)) (.n 256) rfl (dD hx)⟩
 ·rw[lY i3 l3 (.inl (sO _)),Gd i2 l2 rfl rfl]
theorem UE{b x:List UInt8}{o r:Int}(ho:1<=o)(hr:(x.length:Int)<=r)(hb:o+r<=b.length)(hx:x.length<256):(cZ b x o 1 r).length=b.length/\
  (∀{p q:Int},(q<=o+ -1\/o+r<=p)->aB (cZ b x o 1 r) p q=aB b p q)/\(∀{p:Int},0<=p->(p<o+ -1\/o+r<=p)->bc (cZ b x o 1 r) p=bc b p)/\
  aP (aB (cZ b x o 1 r) (o+ -1) o)=x.length/\aB (cZ b x o 1 r) o (o+x.length)=x:=by
 obtain⟨n,rfl⟩:=ij (pj (ee _) hr)
 obtain⟨k,hk⟩:=ij (show 0<=o-1 by exact f1 1 [(1,.n 1,v0)] (.n 0) (.m v0 (.n 1)) rfl ho)
 clear ho;obtain rfl:o=((k+1:Nat):Int):=dM (f2 1 [(1,.m v0 (.n 1),v1)] v0 (.p v1 (.n 1)) rfl (dR hk)) (f2 1 [(1,v1,.m v0 (.n 1))] (.p v1 (.n 1)) v0 rfl (cz hk))
 have e:((k+1:Nat):Int)+ -1=k:=dM (f1 1 [] (.p (.p v0 (.n 1)) (.g (.n 1))) v0 rfl) (f1 1 [] v0 (.p (.p v0 (.n 1)) (.g (.n 1))) rfl)
 rw[e]
 exact UD (Int.ofNat_le.mp hr) (aO (f3 1 [(1,.p (.p v1 (.n 1)) v0,v2)] (.p (.p v1 (.n 1)) v0) v2 rfl (a:=↑n) (b:=↑k) (c:=↑b.length) hb)) hx
theorem Lay.str{b:List UInt8}{row:List PV}{w loc:Int}{rm:List Int}(h:Lay b row w loc rm){i:Nat}{s s':Str}{r:Int}(hp:row[i]? =aa (.str s))(hr:rm[i]? =aa r)(h1:s'.cps.toList.all dh=true)(h2:s'.cps.size<=1000)(h3:((bh s').length:Int)<=r):
  Lay (cZ b (bh s') (au b (loc+i*w) w) 1 r) (row.set i (.str s')) w loc (rm.set i (bh s').length)/\(cZ b (bh s') (au b (loc+i*w) w) 1 r).length=b.length:=by
 have hl:=h.len
 have hn:=h.hn
 have hll:=h.hl
 have hi:i<row.length:=(List.getElem?_eq_some_iff.mp hp).1
 have hir:i<rm.length:=by simp only[h.rml];exact hi
 have hw0:0<w:=by rcases h.hw with rfl |rfl <;> decide
 have hm:(0:Int)<=row.length*w:=gU (f1 1 [(1,.n 0,v0)] (.n 0) v0 rfl aY) (f1 1 [(1,.p (.n 0) (.n 1),v0)] (.n 0) v0 rfl hw0)
 refine mf (h.el i _ r hp hr) fun e1 e2 e3 e4 e5 e6 e7 e8 e9=>?_
 have hbl:loc<=b.length:=f4 403 [(400,.p (.p v1 (.p v2 v3)) (.n 3),v0),(3,v1,.n 400),(400,.n 0,v2),(3,.n 0,v0),(400,.n 0,v3)] v1 v0 rfl (cz hl) hll.2 hm aY aY
 refine fN (UE (b:=b) (x:=bh s') (o:=au b (loc+i*w) w) (r:=r) e6 h3 (f5 1 [(1,.p (.n 0) (.n 1),v3),(1,.p v4 v0,.p v2 (.g v3)),(1,v2,v1)] (.p v4 v0) v1 rfl hw0 e7 hbl) (dx (f2 1 [(1,v0,v1),(1,.p v1 (.n 1),.n 256)] (.p v0 (.n 1)) (.n 256) rfl h3 e5))) fun L SS OO M1 M2=>?_
 have hap:=λj t q (ht:row[j]? =aa (.str t)) (hq:rm[j]? =aa q) (c:i≠j)=>h.ap i j s t r q c hp ht hr hq
 have hap':=λj t q (ht:row[j]? =aa (.str t)) (hq:rm[j]? =aa q) (c:j≠i)=>h.ap j i t s q r c ht hp hq hr
 have hxr:((bh s').length:Int)<256:=pk h3 e5
 clear e2 e3 e4 e5 e8 e9 hp hr
 have pos:∀j:Nat,(0:Int)<=(j:Int)*w:=λj=>gU (ee _) (nD hw0)
 have slots:∀j:Nat,aB (cZ b (bh s') (au b (loc+i*w) w) 1 r) (loc+j*w) (loc+j*w+w)=aB b (loc+j*w) (loc+j*w+w):=λj=>SS (.inr (by have :=pos j;exact f5 1 [(1,.p (.n 0) (.n 1),v2),(1,.p v3 v0,.p v1 (.g v2)),(1,.n 0,v4)] (.p v3 v0) (.p v1 v4) rfl hw0 e7 this))
 have backs:∀j:Nat,au (cZ b (bh s') (au b (loc+i*w) w) 1 r) (loc+j*w) w=au b (loc+j*w) w:=λj=>congrArg (λx=>loc+(j:Int)*w-aP x) (slots j)
 have kinds:∀j:Nat,bc (cZ b (bh s') (au b (loc+i*w) w) 1 r) (loc+(row.length*w+j))=bc b (loc+(row.length*w+j)):=λj=>OO (f4 1 [(1,v2,v0),(1,.p (.n 0) (.n 1),v2),(1,.n 0,v1),(1,.n 0,v3)] (.n 0) (.p v0 (.p v1 v3)) rfl hll.1 hw0 hm aY) (.inr (f6 1 [(1,.p (.n 0) (.n 1),v3),(1,.n 0,v2),(1,.p v4 v0,.p v1 (.g v3)),(1,.n 0,v5)] (.p v4 v0) (.p v1 (.p v2 v5)) rfl hw0 hm e7 aY))
 have f1:bc (cZ b (bh s') (au b (loc+i*w) w) 1 r) (b.length-1)=bc b (b.length-1):=OO (f8 8 [(1,v0,v1),(1,.p (.p v3 (.p v4 v5)) (.n 3),v2),(1,.n 3,v5),(1,.p (.n 0) (.n 1),v6),(1,.n 0,v4),(1,.n 1,v7),(1,.p v7 v1,.p v3 (.g v6)),(1,.n 0,v0),(7,.n 0,v2)] (.n 0) (.m v2 (.n 1)) rfl h3 (cz hl) (aF hn.1) hw0 hm e6 e7 aY aY) (.inr (f5 1 [(1,.p (.n 0) (.n 1),v3),(1,.p v4 v0,.p v2 (.g v3)),(1,v2,v1)] (.p v4 v0) (.m v1 (.n 1)) rfl hw0 e7 hbl))
 have f2:bc (cZ b (bh s') (au b (loc+i*w) w) 1 r) (b.length-2)=bc b (b.length-2):=OO (f8 4 [(1,v0,v1),(1,.p (.p v3 (.p v4 v5)) (.n 3),v2),(1,.n 3,v5),(1,.p (.n 0) (.n 1),v6),(1,.n 0,v4),(1,.n 1,v7),(1,.p v7 v1,.p v3 (.g v6)),(1,.n 0,v0),(3,.n 0,v2)] (.n 0) (.m v2 (.n 2)) rfl h3 (cz hl) (aF hn.1) hw0 hm e6 e7 aY aY) (.inr (f7 6 [(1,.p (.p v2 (.p v3 v4)) (.n 3),v1),(1,.n 3,v4),(6,.p (.n 0) (.n 1),v5),(1,.n 0,v3),(6,.p v6 v0,.p v2 (.g v5)),(5,v2,v1)] (.p v6 v0) (.m v1 (.n 2)) rfl (cz hl) (aF hn.1) hw0 hm e7 hbl))
 have f3:aB (cZ b (bh s') (au b (loc+i*w) w) 1 r) (b.length-3) (b.length-3+1)=aB b (b.length-3) (b.length-3+1):=SS (.inr (f7 3 [(1,.p (.p v2 (.p v3 v4)) (.n 3),v1),(1,.n 3,v4),(3,.p (.n 0) (.n 1),v5),(1,.n 0,v3),(3,.p v6 v0,.p v2 (.g v5)),(2,v2,v1)] (.p v6 v0) (.m v1 (.n 3)) rfl (cz hl) (aF hn.1) hw0 hm e7 hbl))
 have f4:aB (cZ b (bh s') (au b (loc+i*w) w) 1 r) (loc+ -w) loc=aB b (loc+ -w) loc:=SS (.inr e7)
 have far:au b (loc+i*w) w+(bh s').length<=loc+ -w:=pj (yp h3 _) e7
 have near:∀{j:Nat} {t:Str} {q:Int},row[j]? =aa (.str t)->rm[j]? =aa q->i≠j->0<=q->aB (cZ b (bh s') (au b (loc+i*w) w) 1 r) (au b (loc+j*w) w+ -1) (au b (loc+j*w) w)=aB b (au b (loc+j*w) w+ -1) (au b (loc+j*w) w)/\
   aB (cZ b (bh s') (au b (loc+i*w) w) 1 r) (au b (loc+j*w) w) (au b (loc+j*w) w+q)=aB b (au b (loc+j*w) w) (au b (loc+j*w) w+q):=λ{j t q} ht hq c h0=>by
  have :=hap j t q ht hq c
  clear hl hn hll hm hap hap' slots backs kinds f1 f2 f3 f4 far M1 M2 L OO
  exact⟨SS (by lia),SS (by lia)⟩
 have bS:∀j t q,row[j]? =aa (.str t)->rm[j]? =aa q->i≠j->au b (loc+i*w) w+(bh s').length<au b (loc+j*w) w\/au b (loc+j*w) w+q<au b (loc+i*w) w:=λj t q ht hq c=>(hap j t q ht hq c).imp (λh=>pk (yp h3 _) h) id
 clear hap hap' SS OO hl hll hm pos hw0 hbl e7
 generalize cZ b (bh s') (au b (loc+i*w) w) 1 r=m at *
 have hrl:(row.set i (.str s')).length=row.length:=pp
 refine⟨⟨h.hw,by rw[hrl];exact hn,h.hl,by rw[L,hrl];exact h.len,by simp only[f4,hrl];exact h.cnt,by rw[L,f1];exact h.o1,by rw[L,f2];exact h.o2,by rw[L,f3,hrl];exact h.o3,by simp only[pp,hrl];exact h.rml,λj q t hq ht=>?_,λj k t u q v hjk ht hu hq hv=>?_⟩,L⟩
 ·rw[sV] at hq ht
  rw[hrl]
  by_cases c:i=j
  ·subst c
   rw[if_pos rfl,if_pos hi] at hq
   rw[if_pos rfl,if_pos hir] at ht
   have z0:=ac hq;subst z0;have z1:=ac ht;subst z1
   exact(n0 ((kinds i).trans e1) h1 h2 rfl hxr (by rw[backs];exact e6) (by rw[backs];exact far) (by rw[backs];exact M1) (by rw[backs];exact M2))
  ·rw[if_neg c] at hq ht
   refine(h.el j q t hq ht).keep (kinds j) (slots j) fun hs b0 b1 b2=>?_
   refine(let G:=_;(?_:G));cases q with
   |str s2=>exact near hq ht c b0
   |_=>exact bn hs
 ·rw[backs,backs]
  rw[sV] at ht hu hq hv
  by_cases cj:i=j
  ·subst cj
   rw[if_pos rfl,if_pos hir] at hq
   rw[if_neg hjk] at hu hv
   have z2:=ac hq;subst z2
   exact bS k u v hu hv hjk
  ·rw[if_neg cj] at ht hq
   by_cases ck:i=k
   ·subst ck
    rw[if_pos rfl,if_pos hir] at hv
    have z3:=ac hv;subst z3
    exact(bS j t q ht hq cj).symm
   ·rw[if_neg ck] at hu hv
    exact h.ap j k t u q v hjk ht hu hq hv
noncomputable def fq:List PV->List UInt8->List UInt8
 | [],b=>b
 | .str s::r,b=>fq r (b++dL (bh s))
 |_::r,b=>fq r b
noncomputable def dk:List PV->List UInt8->List ValD
 | [],_=>[]
 | .int v::r,b=>⟨.int v,1,cg v⟩::dk r b
 | .bool v::r,b=>⟨.bool v,26,0⟩::dk r b
 | .str s::r,b=>⟨.int (b.length+1),5,0⟩::dk r (b++dL (bh s))
 |_::r,b=>dk r b
def d7:PV->Prop
 | .int v=> -524288<=v/\v<524288
 | .bool _=>True
 | .str s=>s.cps.toList.all dh=true/\s.cps.size<=1000/\(bh s).length<=10
 |_=>False
theorem sx(x:List UInt8):(dL x).length=x.length+2:=by
 unfold dL
 have :(bo 1 (x.length:Int)).length=1:=fG _ _
 simp only[bB,bB,this]
 show 1+(x.length+1)=_
 exact iz (f1 1 [] (.p (.n 1) (.p v0 (.n 1))) (.p v0 (.n 2)) rfl (a:=↑x.length)) (f1 1 [] (.p v0 (.n 2)) (.p (.n 1) (.p v0 (.n 1))) rfl (a:=↑x.length))
theorem UF:∀(row:List PV) (b:List UInt8) (st:List PV),(∀p∈row,d7 p)->b.length+12*row.length<=1000->st.length+row.length<=1000->k (fq row b) (st++(dk row b).map vP)->nu row b st k:=by
 intro v0
 induction v0 with
 |nil=>
  intro b st _ _ _ h
  skip
  simp only[show st++(dk [] b).map vP=st from im _] at h
  exact h
 |cons p r ih=>
  intro b st hg hb hs h
  have hp:=hg p cM
  have hr:∀q∈r,d7 q:=λq m=>hg q (cU _ m)
  simp only[ft] at hb hs
  have sl:∀d:PV,(st++[d]).length=st.length+1:=λd=>by simp only[bB];rfl
  clear hg;cases p with
  |int v=>
   refine(bl (by omega) ⟨by have :=hp.1;exact f1 1 [(1,.g (.n 524288),v0)] (.g (.n 9223372036854775808)) v0 rfl this,by have :=hp.2;exact f1 1 [(1,.p v0 (.n 1),.n 524288)] (.p v0 (.n 1)) (.n 9223372036854775808) rfl this⟩ (ih b _ hr (by omega) (by rw[sl];omega) ?_))
   rw[dS];exact h
  |bool v=>
   refine⟨by omega,ih b _ hr (by omega) (by rw[sl];omega) ?_⟩
   rw[dS];exact h
  |str s=>
   refine cP hp fun h1 h2 h3=>?_
   refine(bl (aO (f2 1 [(1,.p v1 (.p v0 (.n 1)),.n 1000),(1,.n 0,v0)] v1 (.n 1000000) rfl (a:=↑r.length) (b:=↑st.length) (aF hs) aY)) (eC h1 h2 (k7 h3 (by decide)) (aO (f2 1 [(1,.p v0 (.s 12 (.p v1 (.n 1))),.n 1000),(12,.n 0,v1)] v0 (.n 15000000) rfl (a:=↑b.length) (b:=↑r.length) (aF hb) aY))) (ih _ _ hr ?_ (by rw[sl];exact aO (f2 1 [(1,.p v1 (.p v0 (.n 1)),.n 1000)] (.p (.p v1 (.n 1)) v0) (.n 1000) rfl (a:=↑r.length) (b:=↑st.length) (aF hs))) ?_))
   ·simp only[bB,sx]
    have h3:(cC s.cps.toList).length<=10:=h3
    exact aO (f3 1 [(1,.p v0 (.s 12 (.p v1 (.n 1))),.n 1000),(1,v2,.n 10)] (.p (.p v0 (.p v2 (.n 2))) (.s 12 v1)) (.n 1000) rfl (a:=↑b.length) (b:=↑r.length) (c:=↑(cC s.cps.toList).length) (aF hb) (aF h3))
   ·simp only[dS];exact h
  |_=>exact hp.elim
theorem UG:∀ds:List ValD,lV (ds.map vP)=aa ds:=by
 intro v0
 induction v0 with
 |nil=>
  exact rfl
 |cons d r ih=>
  show aA (iI (vP d)) (λd=>aA (lV (r.map vP)) fun l=>aa (d::l))=_
  rw[ih,show iI (vP d)=aa d from nr d.p d.t d.w]
inductive DG(s:Int):ValD->Prop
 |int (v w:Int):DG s ⟨.int v,1,w⟩
 |bool (v:Bool) (w:Int):DG s ⟨.bool v,26,w⟩
 |str (v:Int):1<=v->v<=s->DG s ⟨.int v,5,0⟩
noncomputable def mW(w:Int)(ds:List ValD):Int:=ds.foldl (λw d=>max w d.w) w
theorem UH(hs:0<=s/\s<=200):∀(ds:List ValD) (i w:Int),(∀d∈ds,DG s d)->0<=i->i+ds.length<=20->k (mW w ds)->lW s i w ds k:=by
 intro v0
 induction v0 with
 |nil=>
  intro _ _ _ _ _ h
  exact h
 |cons d r ih=>
  intro i w hd h0 h1 h
  simp only[ft] at h1
  have hr:∀q∈r,DG s q:=λq m=>hd q (cU _ m)
  have ih:=ih (i+1) (max w d.w) hr (f1 1 [(1,.n 0,v0)] (.n 0) (.p v0 (.n 1)) rfl h0) (f2 1 [(1,.p v0 (.p v1 (.n 1)),.n 20)] (.p (.p v0 (.n 1)) v1) (.n 20) rfl h1) h
  skip
  clear h;cases hd d cM with
  |int v w'=>exact ih
  |bool v w'=>exact ih
  |str v a b=>exact⟨⟨f3 1 [(1,.n 0,v1),(1,v2,v0)] (.n 0) (.m (.p v0 (.p (.n 1) v1)) v2) rfl h0 b,f4 1 [(1,v0,.n 200),(1,.p v1 (.p v2 (.n 1)),.n 20),(1,.n 1,v3),(1,.n 0,v2)] (.p (.m (.p v0 (.p (.n 1) v1)) v3) (.n 1)) (.n 256) rfl (a:=s) (b:=i) (c:=↑r.length) (d:=v) hs.2 h1 a aY⟩,ih⟩
theorem UI:∀(ds:List ValD) (w m:Int),w<=m->(∀d∈ds,d.w<=m)->mW w ds<=m:=by
 intro v0
 induction v0 with
 |nil=>
  intro _ _ h _
  exact h
 |cons d r ih=>
  intro w m h hd
  exact ih (max w d.w) m (by have :=hd d cM;lia) fun q x=>hd q (cU _ x)
theorem UJ:∀(ds:List ValD) (w:Int),w<=mW w ds/\∀d∈ds,d.w<=mW w ds:=by
 intro v0
 induction v0 with
 |nil=>
  intro w
  exact⟨sO _,λ_ m=>nomatch m⟩
 |cons d r ih=>
  intro w
  refine ax (ih (max w d.w)) fun h1 h2=>?_
  have e:mW w (d::r)=mW (max w d.w) r:=rfl
  rw[e]
  refine⟨by lia,λq m=>?_⟩
  clear e;rcases cT.mp m with rfl |m
  ·lia
  ·exact h2 q m
theorem fX(h:q.toNat<=a.length):aB (a++t) p q=aB a p q:=
 F6 fun k _ h2=>sS (dx (f3 1 [(1,v0,v1),(1,.p v2 (.n 1),v0)] (.p v2 (.n 1)) v1 rfl (aF h) (dD h2)))
theorem Ge(h:p.toNat<a.length):bc (a++t) p=bc a p:=
 F7 (sS h)
theorem pa(hp:p.toNat=a.length)(hq:q.toNat=a.length+x.length):aB (a++x) p q=x:=by
 unfold aB
 rw[hp,hq,WZ (by rw[bB];exact c8 _),List.drop_left]
def eb(n:Int)(d:ValD)(pos:Int):List UInt8:=match d.t == 26,d.t == 1 with
 |true,_=>bo n ((fP d.p).getD 0)
 |false,true=>ig n ((bX d.p).getD 0)
 |false,false=>bo n (pos-(bX d.p).getD 0)
inductive WG(n s:Int):ValD->Prop
 |int (v w:Int): -(2^(8*n-1).toNat)<=v->v<2^(8*n-1).toNat->WG n s ⟨.int v,1,w⟩
 |bool (v:Bool) (w:Int):WG n s ⟨.bool v,26,w⟩
 |str (v:Int):1<=v->v<=s->WG n s ⟨.int v,5,0⟩
theorem Gf(hn:n=2\/n=4):∀(ds:List ValD) (b:List UInt8),(∀d∈ds,WG n s d)->s<=b.length->b.length+4*ds.length<=1000->
  (∀t:List UInt8,(t.length:Int)=n*ds.length->(∀(j:Nat) d,ds[j]? =aa d->aB (b++t) (b.length+j*n) (b.length+j*n+n)=eb n d (b.length+j*n))->k (b++t))->jf n ds b k
 | [],b,_,_,_,h=>by
  have :=h [] (by simp) (λj d e=>by exact aD e)
  simp only[im] at this
  exact this
 |d::r,b,hd,hs,hl,h=>by
  simp only[ft] at hl
  have hr:∀q∈r,WG n s q:=λq m=>hd q (cU _ m)
  have hw:aM n=true:=by rcases hn with rfl |rfl <;> rfl
  have li:∀x:List UInt8,(x.length:Int)=n->x=eb n d (b.length:Int)->jf n r (b++x) k:=λx hx he=>by
   have hx4:x.length<=4:=by refine(let G:=_;(?_:G));refine(let G1:=_;(?_:G1));refine(let G2:=_;(?_:G2));refine(let G3:=_;(?_:G3));clear hs;clear hl;rcases hn with rfl |rfl <;> lia
   refine Gf hn r (b++x) hr (by rw[bB];exact f3 1 [(1,v0,v1),(1,.n 0,v2)] v0 (.p v1 v2) rfl hs aY) (by rw[bB];exact aO (f3 1 [(1,.p v0 (.s 4 (.p v1 (.n 1))),.n 1000),(1,v2,.n 4)] (.p (.p v0 v2) (.s 4 v1)) (.n 1000) rfl (a:=↑b.length) (b:=↑r.length) (c:=↑x.length) (aF hl) (aF hx4))) fun t ht hf=>?_
   simp only[dS]
   refine h (x++t) ?_ fun j e hj=>?_
   ·simp only[bB,ft]
    rcases hn with rfl |rfl <;> lia
   ·clear hl;clear h;clear hr;clear ht;cases j with
    |zero=>
     have z0:=ac hj;subst z0
     rw[<-dS,fX (by simp only[bB];rcases hn with rfl |rfl <;> lia)]
     rw[pa (by rcases hn with rfl |rfl <;> lia) (by rcases hn with rfl |rfl <;> lia),he]
     congr 1
     lia
    |succ j=>
     have hf:=hf j e hj
     rw[dS] at hf
     have e1:(((b++x).length:Nat):Int)+(j:Int)*n=(b.length:Int)+((j+1:Nat):Int)*n:=by
      rw[bB]
      clear hs;rcases hn with rfl |rfl <;> lia
     rw[e1] at hf
     exact hf
  refine⟨aO (f2 1 [(1,.p v0 (.s 4 (.p v1 (.n 1))),.n 1000),(4,.n 0,v1)] v0 (.n 16000000) rfl (a:=↑b.length) (b:=↑r.length) (aF hl) aY),?_⟩
  clear h;clear hr;cases hd d cM with
  |int v w a b'=>
   show wr 79 (.int v) n b fun x=>jf n r (b++x) k
   exact Fz hw ⟨a,b'⟩ (li (ig n v) (Gb hw) rfl)
  |bool v w=>
   show wr 80 (.bool v) n b fun x=>jf n r (b++x) k
   clear hd;cases v with
   |true=>exact nl (v:=1) hw rfl (by rcases hn with rfl |rfl <;> decide) (li (bo n 1) (o0 hw) rfl)
   |false=>exact nl (v:=0) hw rfl (by rcases hn with rfl |rfl <;> decide) (li (bo n 0) (o0 hw) rfl)
  |str v a b'=>
   show gd (aM n) _
   rw[hw]
   refine⟨⟨f3 1 [(1,v0,v1),(1,v2,v0)] (.n 0) (.m v1 v2) rfl hs b',?_⟩,li _ (o0 hw) rfl⟩
   refine(let G3:=_;(?_:G3));refine(let G3:=_;(?_:G3));refine(let G3:=_;(?_:G3));clear hw;clear hd;clear li;rcases hn with rfl |rfl
   ·show(b.length:Int)-v<65536;exact f3 1 [(1,.p v0 (.s 4 (.p v1 (.n 1))),.n 1000),(1,.n 1,v2),(4,.n 0,v1)] (.p (.m v0 v2) (.n 1)) (.n 65536) rfl (a:=↑b.length) (b:=↑r.length) (c:=v) (aF hl) a aY
   ·show(b.length:Int)-v<4294967296;exact f3 1 [(1,.p v0 (.s 4 (.p v1 (.n 1))),.n 1000),(1,.n 1,v2),(4,.n 0,v1)] (.p (.m v0 v2) (.n 1)) (.n 4294967296) rfl (a:=↑b.length) (b:=↑r.length) (c:=v) (aF hl) a aY
theorem UK:∀(ds:List ValD) (b:List UInt8),(∀d∈ds,0<=d.t/\d.t<=26/\0<=ci d w/\ci d w<=3)->b.length+ds.length<=1000->
  (∀t:List UInt8,t.length=ds.length->(∀(j:Nat) d,ds[j]? =aa d->bc (b++t) (b.length+j)=d.t*4+ci d w)->k (b++t))->lX w ds b k:=by
 intro v0
 induction v0 with
 |nil=>
  intro b _ _ h
  have :=h [] rfl (λj d e=>by exact aD e)
  simp only[im] at this
  exact this
 |cons d r ih=>
  intro b hd hl h
  simp only[ft] at hl
  have hr:∀q∈r,0<=q.t/\q.t<=26/\0<=ci q w/\ci q w<=3:=λq m=>hd q (cU _ m)
  refine fM (hd d cM) fun d1 d2 d3 d4=>?_
  refine⟨(g0 (aO (f2 1 [(1,.p v0 (.p v1 (.n 1)),.n 1000),(1,.n 0,v1)] v0 (.n 16000000) rfl (a:=↑b.length) (b:=↑r.length) (aF hl) aY)) d1 d2 d3 d4),?_⟩
  refine ih (b++[(d.t*4+ci d w).toNat.toUInt8]) hr (by rw[bB];show b.length+1+_<=_;exact aO (f2 1 [(1,.p v0 (.p v1 (.n 1)),.n 1000)] (.p (.p v0 (.n 1)) v1) (.n 1000) rfl (a:=↑b.length) (b:=↑r.length) (aF hl))) fun t ht hf=>?_
  simp only[dS]
  refine h ([(d.t*4+ci d w).toNat.toUInt8]++t) (by simp only[bB,ft,ht,ft,WT];exact iz (f1 1 [] (.p (.p (.n 0) (.n 1)) v0) (.p v0 (.n 1)) rfl (a:=↑r.length)) (f1 1 [] (.p v0 (.n 1)) (.p (.p (.n 0) (.n 1)) v0) rfl (a:=↑r.length))) fun j e hj=>?_
  clear ht;cases j with
  |zero=>
   have z0:=ac hj;refine eqL z0 ?_
   unfold bc
   rw[show((b.length:Int)+((0:Nat):Int)).toNat=b.length from by lia,sT (c8 _),Xe]
   show(((d.t*4+ci d w).toNat.toUInt8).toNat:Int)=_
   have :((d.t*4+ci d w).toNat.toUInt8).toNat=(d.t*4+ci d w).toNat:=by
    show(d.t*4+ci d w).toNat%256=_
    exact s9 (dx (f3 1 [(4,v0,.n 26),(1,v1,.n 3),(1,v2,.p (.t v0 4) v1)] (.p v2 (.n 1)) (.n 256) rfl d2 d4 (dO (f2 1 [(4,.n 0,v0),(1,.n 0,v1)] (.n 0) (.p (.t v0 4) v1) rfl (a:=d.t) (b:=ci d w) d1 d3))))
   rw[this];exact dM (f3 1 [(1,v2,.p (.t v0 4) v1)] v2 (.p (.t v0 4) v1) rfl (dO (f2 1 [(4,.n 0,v0),(1,.n 0,v1)] (.n 0) (.p (.t v0 4) v1) rfl (a:=d.t) (b:=ci d w) d1 d3))) (f3 1 [(1,.p (.t v0 4) v1,v2)] (.p (.t v0 4) v1) v2 rfl iU)
  |succ j=>
   have hf:=hf j e hj
   rw[dS] at hf
   have e1:((((b++[(d.t*4+ci d w).toNat.toUInt8]).length:Nat)):Int)+(j:Int)=(b.length:Int)+((j+1:Nat):Int):=by
    rw[bB];show((b.length+1:Nat):Int)+_=_;exact dM (f2 1 [] (.p (.p v0 (.n 1)) v1) (.p v0 (.p v1 (.n 1))) rfl (a:=↑b.length) (b:=↑j)) (f2 1 [] (.p v0 (.p v1 (.n 1))) (.p (.p v0 (.n 1)) v1) rfl (a:=↑b.length) (b:=↑j))
   simp only[e1] at hf
   exact hf
theorem UL:∀(row:List PV) (b:List UInt8),∃t,fq row b=b++t:=by
 intro v0
 induction v0 with
 |nil=>
  intro b
  exact⟨[],(im b).symm⟩
 |cons p r ih=>
  intro b
  cases p with
  |str s=>
   obtain⟨t,h⟩:=ih (b++dL (bh s))
   exact⟨dL (bh s)++t,by show fq r (b++dL (bh s))=_;simp only[h,dS]⟩
  |_=>exact ih b
theorem pb:∀(row:List PV) (b:List UInt8),(∀p∈row,d7 p)->(dk row b).length=row.length:=by
 intro v0
 induction v0 with
 |nil=>
  intro _ _
  exact rfl
 |cons p r ih=>
  intro b h
  have hr:∀q∈r,d7 q:=λq m=>h q (cU _ m)
  have hp:=h p cM
  clear h;cases p with
  |str s=>show(dk r _).length+1=_;rw[ih _ hr];rfl
  |int s=>show(dk r _).length+1=_;rw[ih _ hr];rfl
  |bool s=>show(dk r _).length+1=_;rw[ih _ hr];rfl
  |_=>exact hp.elim
def DAt(B:List UInt8)(lo:Int)(d:ValD):PV->Prop
 | .int v=>d=⟨.int v,1,cg v⟩
 | .bool v=>d=⟨.bool v,26,0⟩
 | .str s=>∃v,d=⟨.int v,5,0⟩/\lo+1<=v/\v+(bh s).length+1<=B.length/\aP (aB B (v+ -1) v)=(bh s).length/\aB B v (v+(bh s).length)=bh s
 |_=>False
theorem DAt.more{lo:Int}(h0:0<=lo)(hl:lo'<=lo)(hB:∃t,C=B++t)(h:DAt B lo d p):DAt C lo' d p:=by
 clear h0;cases p with
 |str s=>
  refine e15 h fun v e h1 h2 h3 h4=>?_
  obtain⟨t,rfl⟩:=hB
  exact(i15 v e (f3 1 [(1,v0,v1),(1,.p v1 (.n 1),v2)] (.p v0 (.n 1)) v2 rfl hl h1) (by simp only[bB];exact f4 1 [(1,.p (.p v0 v1) (.n 1),v2),(1,.n 0,v3)] (.p (.p v0 v1) (.n 1)) (.p v2 v3) rfl h2 aY) (by rw[fX (by lia)];exact h3) (by rw[fX (by lia)];exact h4))
 |int v=>exact h
 |bool v=>exact h
 |_=>exact h.elim
theorem sy:∀(row:List PV) (b:List UInt8) (i:Nat) (p:PV) (d:ValD),(∀p∈row,d7 p)->row[i]? =aa p->(dk row b)[i]? =aa d->DAt (fq row b) b.length d p:=by
 intro v0
 induction v0 with
 |nil=>intro _ i _ _ _ h _;exact aD h
 |cons p r ih=>
  intro b i q d hg h hd
  have hr:∀q∈r,d7 q:=λq m=>hg q (cU _ m)
  have hp:=hg p cM
  clear hg;cases p with
  |int v=>
   cases i with
   |zero=>have z0:=ac h;refine eqL z0 ?_;have z1:=ac hd;refine eqL z1 ?_;exact rfl
   |succ i=>exact ih b i q d hr h hd
  |bool v=>
   cases i with
   |zero=>have z2:=ac h;refine eqL z2 ?_;have z3:=ac hd;refine eqL z3 ?_;exact rfl
   |succ i=>exact ih b i q d hr h hd
  |str s=>
   refine cP hp fun h1 h2 h3=>?_
   clear h2;cases i with
   |zero=>
    have z4:=ac h;refine eqL z4 ?_;have z5:=ac hd;refine eqL z5 ?_
    refine e11 (UL r (b++dL (bh s))) fun t ht=>?_
    have hB:fq (.str s::r) b=(b++dL (bh s))++t:=ht
    have hl:(b++dL (bh s)).length=b.length+((bh s).length+2):=by simp only[bB,sx]
    have l1:(bo 1 ((bh s).length:Int)).length=1:=fG _ _
    have eb1:b++dL (bh s)=(b++bo 1 ((bh s).length:Int))++(bh s++[zU 0]):=by unfold dL;simp only[dS]
    have eb2:b++dL (bh s)=(b++bo 1 ((bh s).length:Int)++bh s)++[zU 0]:=by unfold dL;simp only[dS]
    have hl1:(b++bo 1 ((bh s).length:Int)).length=b.length+1:=by simp only[bB,l1]
    have hl2:(b++bo 1 ((bh s).length:Int)++bh s).length=b.length+1+(bh s).length:=by simp only[bB,hl1]
    refine(i15 ((b.length:Int)+1) rfl (sO _) (by simp only[hB,bB,hl];exact f3 1 [(1,.n 0,v2)] (.p (.p (.p v1 (.n 1)) v0) (.n 1)) (.p (.p v1 (.p v0 (.n 2))) v2) rfl aY) (?_) (?_))
    ·rw[hB,fX (by rw[hl];lia),eb1,fX (by rw[hl1];lia),pa (by lia) (by simp only[l1];omega)]
     exact kR rfl ⟨ee _,by show((bh s).length:Int)<256;exact f1 1 [(1,v0,.n 10)] (.p v0 (.n 1)) (.n 256) rfl (aF h3)⟩
    ·rw[hB,fX (by rw[hl];omega),eb2,fX (by rw[hl2];omega),pa (by simp only[hl1];omega) (by rw[hl1];lia)]
   |succ i=>
    have :=ih (b++dL (bh s)) i q d hr h hd
    exact this.more (ee _) (by simp only[bB];exact f2 1 [(1,.n 0,v1)] v0 (.p v0 v1) rfl aY) ⟨[],(im _).symm⟩
  |_=>exact hp.elim
theorem UM:∀(row:List PV) (b:List UInt8),(∀p∈row,d7 p)->(fq row b).length<=b.length+12*row.length:=by
 intro v0
 induction v0 with
 |nil=>
  intro b _
  exact c8 _
 |cons p r ih=>
  intro b h
  have hr:∀q∈r,d7 q:=λq m=>h q (cU _ m)
  have hp:=h p cM
  simp only[ft]
  refine(let G:=_;(?_:G));clear h;cases p with
  |str s=>
   have :=ih (b++dL (bh s)) hr
   simp only[bB,sx] at this
   have :=hp.2.2
   show(fq r (b++dL (bh s))).length<=_
   lia
  |int s=>have :=ih b hr;show(fq r b).length<=_;omega
  |bool s=>have :=ih b hr;show(fq r b).length<=_;omega
  |_=>exact hp.elim
theorem sz(h: -524288<=v/\v<524288):0<=cg v/\cg v<=2/\(cg v<=1-> -32768<=v/\v<32768):=by
 unfold cg
 by_cases c:v*2>=0
 ·rw[if_pos c];unfold bE;split
  ·omega
  ·split
   ·omega
   ·rw[if_pos (by exact f1 1 [(2,.p v0 (.n 1),.n 524288)] (.p (.t v0 2) (.n 1)) (.n 4294967296) rfl h.2)];omega
 ·rw[if_neg c,xz];unfold bE;split
  ·omega
  ·split
   ·omega
   ·rw[if_pos (by exact f1 1 [(2,.g (.n 524288),v0)] (.p (.m (.g (.t v0 2)) (.n 1)) (.n 1)) (.n 4294967296) rfl h.1)];omega
theorem UN:∀(row:List PV) (b:List UInt8) (i j:Nat) (s t:Str) (v u:Int),(∀p∈row,d7 p)->i<j->row[i]? =aa (.str s)->row[j]? =aa (.str t)->(dk row b)[i]? =aa ⟨.int v,5,0⟩->(dk row b)[j]? =aa ⟨.int u,5,0⟩->v+(bh s).length<u:=by
 intro v0
 induction v0 with
 |nil=>intro _ i _ _ _ _ _ _ _ h _ _ _;exact aD h
 |cons p r ih=>
  intro b i j s t v u hg hij hi hj di dj
  have hr:∀q∈r,d7 q:=λq m=>hg q (cU _ m)
  have hp:=hg p cM
  refine(let G:=_;(?_:G));clear hg;cases j with
  |zero=>exact absurd hij (Nat.not_lt_zero _)
  |succ j=>
   cases p with
   |int x=>
    cases i with
    |zero=>cases hi
    |succ i=>exact ih b i j s t v u hr (by omega) hi hj di dj
   |bool x=>
    cases i with
    |zero=>cases hi
    |succ i=>exact ih b i j s t v u hr (by omega) hi hj di dj
   |str x=>
    cases i with
    |zero=>
     clear hij;cases hi;cases di
     refine e13 (sy r (b++dL (bh s)) j (.str t) _ hr hj dj) fun v' e h1 h2=>?_
     clear h2;cases e
     simp only[bB,sx] at h1
     exact f3 1 [(1,.p (.p v0 (.p v1 (.n 2))) (.n 1),v2)] (.p (.p (.p v0 (.n 1)) v1) (.n 1)) v2 rfl h1
    |succ i=>exact ih (b++dL (bh x)) i j s t v u hr (by omega) hi hj di dj
   |_=>exact hp.elim
theorem UO(hg:∀p∈row,d7 p)(h:d∈dk row b):∃(i:Nat) (p:PV),row[i]? =aa p/\(dk row b)[i]? =aa d/\d7 p/\DAt (fq row b) b.length d p:=by
 refine e11 (List.mem_iff_getElem?.mp h) fun i e=>?_
 have hi:i<row.length:=by simp only[<-pb row b hg];exact(List.getElem?_eq_some_iff.mp e).1
 have ep:=eH hi
 exact(i24 i _ ep e (hg _ (yE hi)) (sy row b i _ d hg ep e))
theorem UP(hg:∀p∈row,d7 p)(h:PV.int v∈row):(⟨.int v,1,cg v⟩:ValD)∈dk row b:=by
 refine e11 (List.mem_iff_getElem?.mp h) fun i e=>?_
 have hi:i<(dk row b).length:=by simp only[pb row b hg];exact(List.getElem?_eq_some_iff.mp e).1
 have ed:=eH hi
 have :=sy row b i _ _ hg e ed
 rw[<-(this:_=(⟨.int v,1,cg v⟩:ValD))]
 exact yE hi
def kU:PV->Int
 | .str s=>(bh s).length
 |_=>0
structure Lay0(b:List UInt8)(row:List PV)(w loc:Int)(rm:List Int):Prop where
 hw:w=2\/w=4
 hn:3<=row.length/\row.length<=9
 hl:w<=loc/\loc<=400
 len:(b.length:Int)=loc+(row.length*w+row.length)
 cnt:aP (aB b (loc+ -w) loc)=row.length
 rml:rm.length=row.length
 el:∀(i:Nat) p r,row[i]? =aa p->rm[i]? =aa r->Elem b w loc row.length r i p
 ap:∀(i j:Nat) s t r q,i≠j->row[i]? =aa (.str s)->row[j]? =aa (.str t)->rm[i]? =aa r->rm[j]? =aa q->au b (loc+i*w) w+r<au b (loc+j*w) w\/au b (loc+j*w) w+q<au b (loc+i*w) w
theorem Lay0.fin(h:Lay0 b row w loc rm):Lay (b++bo 1 ((b.length:Int)-loc)++bo 1 (40+wk w)++bo 1 1) row w loc rm:=by
 have hl:=h.len
 have hn:=h.hn
 have hll:=h.hl
 have hw0:0<w/\w<=4:=by clear hl;rcases h.hw with rfl |rfl <;> decide
 have hk:wk w=1\/wk w=2:=by unfold wk;split <;> simp
 have p1:∀v:Int,(bo 1 v).length=1:=λv=>fG _ _
 have hm:(0:Int)<=row.length*w/\row.length*w<=36:=by rcases h.hw with e |e <;> rw[e] <;> lia
 have oc:∀(a:List UInt8) (v:Int) (t:List UInt8),0<=v/\v<256->bc (a++bo 1 v++t) a.length=v:=λa v t hv=>by
  rw[Ge (by simp only[bB,p1];lia)]
  unfold bc
  rw[show((a.length:Nat):Int).toNat=a.length from rfl,sT (c8 _),Xe]
  show(((v.fmod 256).toNat.toUInt8).toNat:Int)=v
  rw[sM _ (by decide),Int.emod_eq_of_lt hv.1 hv.2]
  have :(v.toNat.toUInt8).toNat=v.toNat:=by show v.toNat%256=_;exact s9 (dx (f2 1 [(1,.p v0 (.n 1),.n 256),(1,v1,v0)] (.p v1 (.n 1)) (.n 256) rfl hv.2 (dO (f1 1 [(1,.n 0,v0)] (.n 0) v0 rfl (a:=v) hv.1))))
  rw[this];exact dM (f2 1 [(1,v1,v0)] v1 v0 rfl (dO (f1 1 [(1,.n 0,v0)] (.n 0) v0 rfl (a:=v) hv.1))) (f2 1 [(1,v0,v1)] v0 v1 rfl iU)
 generalize hA:b++bo 1 ((b.length:Int)-loc)=A
 generalize hB:A++bo 1 (40+wk w)=B
 have lA:A.length=b.length+1:=by simp only[<-hA,bB,p1]
 have lB:B.length=b.length+2:=by simp only[<-hB,bB,p1,lA]
 have lC:(B++bo 1 1).length=b.length+3:=by simp only[bB,p1,lB]
 have hC:B++bo 1 1=b++(bo 1 ((b.length:Int)-loc)++(bo 1 (40+wk w)++bo 1 1)):=by simp only[<-hB,<-hA];simp only[dS]
 have pos:∀j:Nat,(0:Int)<=(j:Int)*w:=λj=>gU (f1 1 [(1,.n 0,v0)] (.n 0) v0 rfl aY) (by lia)
 have up:∀j:Nat,j<row.length->(j:Int)*w+w<=row.length*w:=λj hj=>by
  have :((j:Int)+1)*w<=row.length*w:=pn (f2 1 [(1,.p v1 (.n 1),v0)] (.p v1 (.n 1)) v0 rfl (dD hj)) (by lia)
  simp only[nC,ik] at this;exact this
 have slots:∀j:Nat,j<row.length->aB (B++bo 1 1) (loc+j*w) (loc+j*w+w)=aB b (loc+j*w) (loc+j*w+w):=λj hj=>by
  have :=pos j;have :=up j hj
  rw[hC,fX (by lia)]
 refine⟨h.hw,hn,hll,dM (f5 1 [(1,v0,.p v1 (.p v2 v3)),(1,v4,.p v0 (.n 3))] v4 (.p (.p v1 (.p v2 v3)) (.n 3)) rfl (dR hl) (eO lC)) (f5 1 [(1,.p v1 (.p v2 v3),v0),(1,.p v0 (.n 3),v4)] (.p (.p v1 (.p v2 v3)) (.n 3)) v4 rfl (cz hl) (fZ lC)),?_,?_,?_,?_,h.rml,λi p r hp hr=>?_,λi j s t r q hij hs ht hr hq=>?_⟩
 ·rw[hC,fX (aO (f5 1 [(1,.p v1 (.p v2 v3),v0),(1,.n 0,v2),(1,.n 0,v3),(1,v4,v1)] v4 v0 rfl (cz hl) hm.1 aY (dO (f2 1 [(1,v1,v0),(1,.p (.n 0) (.n 1),v1)] (.n 0) v0 rfl (a:=loc) (b:=w) hll.1 hw0.1))))];exact h.cnt
 ·have :=oc B 1 [] (by decide)
  rw[im] at this
  rw[lC,show((b.length+3:Nat):Int)-1=(B.length:Int) from dM (f2 1 [(1,.p v0 (.n 2),v1)] (.m (.p v0 (.n 3)) (.n 1)) v1 rfl (a:=↑b.length) (b:=↑B.length) (fZ lB)) (f2 1 [(1,v1,.p v0 (.n 2))] v1 (.m (.p v0 (.n 3)) (.n 1)) rfl (a:=↑b.length) (b:=↑B.length) (eO lB))];exact this
 ·have :=oc A (40+wk w) (bo 1 1) (by lia)
  rw[hB] at this
  rw[lC,show((b.length+3:Nat):Int)-2=(A.length:Int) from dM (f2 1 [(1,.p v0 (.n 1),v1)] (.m (.p v0 (.n 3)) (.n 2)) v1 rfl (a:=↑b.length) (b:=↑A.length) (fZ lA)) (f2 1 [(1,v1,.p v0 (.n 1))] v1 (.m (.p v0 (.n 3)) (.n 2)) rfl (a:=↑b.length) (b:=↑A.length) (eO lA))];exact this
 ·rw[lC,show((b.length+3:Nat):Int)-3=(b.length:Int) from dM (f1 1 [] (.m (.p v0 (.n 3)) (.n 3)) v0 rfl) (f1 1 [] v0 (.m (.p v0 (.n 3)) (.n 3)) rfl),<-hB,dS,fX (by omega),<-hA,pa (by omega) (by rw[p1];omega)]
  rw[kR rfl ⟨by exact f4 1 [(1,.p v1 (.p v2 v3),v0),(1,.n 0,v2),(1,.n 0,v3)] (.n 0) (.m v0 v1) rfl (cz hl) hm.1 aY,by show(b.length:Int)-loc<256;exact f4 1 [(1,v0,.p v1 (.p v2 v3)),(1,v3,.n 9),(1,v2,.n 36)] (.p (.m v0 v1) (.n 1)) (.n 256) rfl (dR hl) (aF hn.2) hm.2⟩];exact dM (f4 1 [(1,v0,.p v1 (.p v2 v3))] (.m v0 v1) (.p v2 v3) rfl (dR hl)) (f4 1 [(1,.p v1 (.p v2 v3),v0)] (.p v2 v3) (.m v0 v1) rfl (cz hl))
 ·have hi:i<row.length:=(List.getElem?_eq_some_iff.mp hp).1
  refine(h.el i p r hp hr).keep ?_ (slots i hi) fun _ b0 b1 b2=>?_
  ·rw[hC,Ge (by omega)]
  ·rw[hC];exact⟨fX (by omega),fX (by omega)⟩
 ·have hi:i<row.length:=(List.getElem?_eq_some_iff.mp hs).1
  have hj:j<row.length:=(List.getElem?_eq_some_iff.mp ht).1
  unfold au
  simp only[slots i hi,slots j hj]
  exact h.ap i j s t r q hij hs ht hr hq
theorem DAt.cases{lo:Int}(hp:d7 p)(h:DAt B lo d p):(∃v:Int,(-524288<=v/\v<524288)/\p=.int v/\d=⟨.int v,1,cg v⟩)\/(∃v,p=.bool v/\d=⟨.bool v,26,0⟩)\/(∃(s:Str) (v:Int),p=.str s/\d=⟨.int v,5,0⟩/\lo+1<=v/\v+(bh s).length+1<=B.length):=by
 cases p with
 |int v=>exact .inl (i13 v hp rfl h)
 |bool v=>exact .inr (.inl (i12 v rfl h))
 |str s=>refine e14 h fun v e a b _=>?_;exact .inr (.inr (i24 s v rfl e a b))
 |_=>exact hp.elim
theorem UQ{ds:List ValD}{t2:List UInt8}(hg:∀p∈row,d7 p)(hn:3<=row.length/\row.length<=9)(hdl:ds.length=row.length)(hat:∀(i:Nat) p d,row[i]? =aa p->ds[i]? =aa d->DAt B 0 d p)
  (hap:∀(i j:Nat) s u (v x:Int),i<j->row[i]? =aa (.str s)->row[j]? =aa (.str u)->ds[i]? =aa ⟨.int v,5,0⟩->ds[j]? =aa ⟨.int x,5,0⟩->v+(bh s).length<x)
  (hnn:n=2\/n=4) (hwk:w=wk n) (hge:∀d∈ds,d.w<=w) (hA:∃t0,A=B++t0) (hAl:B.length+n<=A.length/\A.length<=400) (hc:aP (aB A (A.length+ -n) A.length)=row.length)
  (ht:(t.length:Int)=n*ds.length) (hf:∀(j:Nat) d,ds[j]? =aa d->aB (A++t) (A.length+j*n) (A.length+j*n+n)=eb n d (A.length+j*n))
  (ht2:t2.length=ds.length) (hf2:∀(j:Nat) d,ds[j]? =aa d->bc (A++t++t2) ((A++t).length+j)=d.t*4+ci d w):Lay0 (A++t++t2) row n A.length (row.map kU):=by
 have hw0:0<n:=by rcases hnn with rfl |rfl <;> decide
 have hwb:aM n=true:=by rcases hnn with rfl |rfl <;> rfl
 have hk:w=1\/w=2:=by rw[hwk];unfold wk;split <;> simp
 have lt1:(A++t).length=A.length+t.length:=bB
 have lt2:(A++t++t2).length=A.length+t.length+t2.length:=by rw[bB,lt1]
 have hnl:n*(ds.length:Int)=row.length*n:=by simp only[hdl,WC]
 have slot:∀(i:Nat) d,ds[i]? =aa d->aB (A++t++t2) (A.length+i*n) (A.length+i*n+n)=eb n d (A.length+i*n):=λi d e=>by
  have hi:i<row.length:=by rw[<-hdl];exact(List.getElem?_eq_some_iff.mp e).1
  have e0:(0:Int)<=(i:Int)*n:=gU (f1 1 [(1,.n 0,v0)] (.n 0) v0 rfl aY) (f1 1 [(1,.p (.n 0) (.n 1),v0)] (.n 0) v0 rfl hw0)
  have e1:(i:Int)*n+n<=row.length*n:=by
   have :((i:Int)+1)*n<=row.length*n:=pn (f2 1 [(1,.p v1 (.n 1),v0)] (.p v1 (.n 1)) v0 rfl (dD hi)) (f1 1 [(1,.p (.n 0) (.n 1),v0)] (.n 0) v0 rfl hw0)
   simp only[nC,ik] at this;exact this
  rw[fX (by omega)];exact hf i d e
 have kind:∀(i:Nat) d,ds[i]? =aa d->bc (A++t++t2) (A.length+(row.length*n+i))=d.t*4+ci d w:=λi d e=>by
  simp only[<-hf2 i d e];congr 1;exact dM (f6 1 [(1,v2,v1),(1,.p v0 v1,v3),(1,v4,v2)] (.p v0 (.p v4 v5)) (.p v3 v5) rfl (cz ht) (fZ lt1) (cz hnl)) (f6 1 [(1,v1,v2),(1,v3,.p v0 v1),(1,v2,v4)] (.p v3 v5) (.p v0 (.p v4 v5)) rfl (dR ht) (eO lt1) (dR hnl))
 have dsome:∀(i:Nat) p,row[i]? =aa p->∃d,ds[i]? =aa d:=λi p e=>⟨_,eH (by rw[hdl];exact(List.getElem?_eq_some_iff.mp e).1)⟩
 refine e11 hA fun t0 hA0=>?_
 have hpre:A++t++t2=B++(t0++(t++t2)):=by rw[hA0];simp only[dS]
 have txt:∀(i:Nat) s,row[i]? =aa (.str s)->∃v:Int,ds[i]? =aa ⟨.int v,5,0⟩/\au (A++t++t2) (A.length+i*n) n=v/\1<=v/\v+(bh s).length+1<=B.length/\
   aP (aB (A++t++t2) (v+ -1) v)=(bh s).length/\aB (A++t++t2) v (v+(bh s).length)=bh s:=λi s e=>by
  refine e11 (dsome i _ e) fun d ed=>?_
  have hi:i<row.length:=(List.getElem?_eq_some_iff.mp e).1
  refine e11 (hat i _ d e ed) fun v z7=>?_;obtain⟨rfl,h1,h2,h3,h4⟩:=z7
  have e0:(0:Int)<=(i:Int)*n/\(i:Int)*n<=36:=by rcases hnn with e |e <;> rw[e] <;> lia
  refine(i16 v ed (?_) (f1 1 [(1,.p (.n 0) (.n 1),v0)] (.n 1) v0 rfl h1) h2 (by rw[hpre,fX (aO (f4 1 [(1,.p (.p v1 v2) (.n 1),v0),(1,.n 0,v2),(1,v3,v1)] v3 v0 rfl h2 aY (dO (f1 1 [(1,.p (.n 0) (.n 1),v0)] (.n 0) v0 rfl (a:=v) h1))))];exact h3) (by rw[hpre,fX (by lia)];exact h4))
  unfold au
  rw[slot i _ ed]
  show(A.length:Int)+i*n-aP (bo n (A.length+i*n-v))=v
  rw[kR hwb]
  ·exact dM (f3 1 [] (.m (.p v0 v2) (.m (.p v0 v2) v1)) v1 rfl) (f3 1 [] v1 (.m (.p v0 v2) (.m (.p v0 v2) v1)) rfl)
  ·rcases hnn with rfl |rfl
   ·show _/\_<(65536:Int);exact⟨f5 1 [(1,.p (.p v2 v3) (.n 1),v4),(1,.p v4 (.n 2),v0),(1,.n 0,.t v1 2),(1,.n 0,v3)] (.n 0) (.m (.p v0 (.t v1 2)) v2) rfl h2 hAl.1 e0.1 aY,f3 1 [(1,.p (.n 0) (.n 1),v2),(1,v0,.n 400),(1,.t v1 2,.n 36)] (.p (.m (.p v0 (.t v1 2)) v2) (.n 1)) (.n 65536) rfl h1 (aF hAl.2) e0.2⟩
   ·show _/\_<(4294967296:Int);exact⟨f5 1 [(1,.p (.p v2 v3) (.n 1),v4),(1,.p v4 (.n 4),v0),(1,.n 0,.t v1 4),(1,.n 0,v3)] (.n 0) (.m (.p v0 (.t v1 4)) v2) rfl h2 hAl.1 e0.1 aY,f3 1 [(1,.p (.n 0) (.n 1),v2),(1,v0,.n 400),(1,.t v1 4,.n 36)] (.p (.m (.p v0 (.t v1 4)) v2) (.n 1)) (.n 4294967296) rfl h1 (aF hAl.2) e0.2⟩
 refine⟨hnn,hn,⟨f3 1 [(1,.p v0 v1,v2),(1,.n 0,v0)] v1 v2 rfl hAl.1 aY,f1 1 [(1,v0,.n 400)] v0 (.n 400) rfl (aF hAl.2)⟩,by simp only[lt2];exact dM (f7 1 [(1,v1,v0),(1,v3,v4),(1,v5,v1),(1,v4,v6)] (.p (.p v2 v3) v5) (.p v2 (.p v6 v0)) rfl (eO hdl) (dR ht) (eO ht2) (dR hnl)) (f7 1 [(1,v0,v1),(1,v4,v3),(1,v1,v5),(1,v6,v4)] (.p v2 (.p v6 v0)) (.p (.p v2 v3) v5) rfl (fZ hdl) (cz ht) (fZ ht2) (cz hnl)),?_,by rw[dT],λi p r hp hr=>?_,λi j s u r q hij hs hu hr hq=>?_⟩
 ·rw[dS,fX (by omega)];exact hc
 ·simp only[io,hp] at hr
  have z0:=ac hr;subst z0
  obtain⟨d,ed⟩:=dsome i _ hp
  have hgp:d7 p:=hg p (List.mem_iff_getElem?.mpr ⟨i,hp⟩)
  have hwd:=hge d (List.mem_iff_getElem?.mpr ⟨i,ed⟩)
  cases p with
  |int v=>
   have hd:d=⟨.int v,1,cg v⟩:=hat i _ d hp ed
   subst hd
   have hb:=sz hgp
   refine⟨?_,?_⟩
   ·simp only[kind i _ ed,<-hwk]
    show(1:Int)*4+max (cg v) w=4+w
    have hwd:cg v<=w:=hwd
    omega
   ·rw[slot i _ ed]
    show ic n (aP (ig n v))=v
    refine F8 hwb ?_
    have hwd:cg v<=w:=hwd
    have hgp: -524288<=v/\v<524288:=hgp
    rcases hnn with rfl |rfl
    ·have :w=1:=hwk
     skip
     exact hb.2.2 (f2 1 [(1,v0,v1),(1,v1,.n 1)] v0 (.n 1) rfl hwd (dR this))
    ·show -(2147483648:Int)<=v/\v<2147483648
     exact⟨f1 1 [(1,.g (.n 524288),v0)] (.g (.n 2147483648)) v0 rfl hgp.1,f1 1 [(1,.p v0 (.n 1),.n 524288)] (.p v0 (.n 1)) (.n 2147483648) rfl hgp.2⟩
  |bool v=>
   have hd:d=⟨.bool v,26,0⟩:=hat i _ d hp ed
   subst hd
   refine⟨?_,?_⟩
   ·simp only[kind i _ ed,<-hwk]
    show(26:Int)*4+max 0 w=104+w
    omega
   ·simp only[slot i _ ed]
    cases v with
    |true=>exact kR hwb (v:=1) (by rcases hnn with rfl |rfl <;> decide)
    |false=>exact kR hwb (v:=0) (by rcases hnn with rfl |rfl <;> decide)
  |str s=>
   refine e16 (txt i s hp) fun v ev hb h1 h2 h3 h4=>?_
   refine cP hgp fun g1 g2 g3=>?_
   refine(n0 (?_) g1 g2 rfl (?_) (?_) (?_) (?_) (?_))
   ·rw[kind i _ ev];rfl
   ·show((bh s).length:Int)<256;exact f1 1 [(1,v0,.n 10)] (.p v0 (.n 1)) (.n 256) rfl (aF g3)
   ·simp only[hb];exact h1
   ·rw[hb];show v+((bh s).length:Int)<=_;exact f5 1 [(1,.p v0 v1,v2),(1,.p (.p v3 v4) (.n 1),v0)] (.p v3 v4) (.p v2 (.g v1)) rfl hAl.1 h2
   ·rw[hb];exact h3
   ·rw[hb];exact h4
  |_=>exact hgp.elim
 ·simp only[io,hs] at hr
  simp only[io,hu] at hq
  have z1:=ac hr;subst z1;have z2:=ac hq;subst z2
  refine e13 (txt i s hs) fun v ev hb h1=>?_
  refine e13 (txt j u hu) fun x ex hb' h1'=>?_
  simp only[hb,hb']
  skip
  rcases Nat.lt_or_gt_of_ne hij with c |c
  ·exact .inl (hap i j s u v x c hs hu ev ex)
  ·exact .inr (hap j i u s x v c hu hs ex ev)
theorem UR(hg:∀p∈row,d7 p)(hn:3<=row.length/\row.length<=9)(h3:PV.int 300∈row)
  (h:∀(b:List UInt8) (w n loc:Int),w=wk n->Lay0 b row n loc (row.map kU)->k b (bk (.int loc) 10 w)):cv (dk row []) (fq row []) k:=by
 have hdl:=pb row [] hg
 have hbl:=UM row [] hg
 have hmem:∀d∈dk row [],∃(i:Nat) (p:PV),row[i]? =aa p/\(dk row [])[i]? =aa d/\d7 p/\DAt (fq row []) 0 d p:=λd m=>UO (b:=[]) hg (d:=d) m
 have h300:=UP (b:=[]) hg h3
 have hat:∀(i:Nat) p d,row[i]? =aa p->(dk row [])[i]? =aa d->DAt (fq row []) 0 d p:=λi p d a b=>sy row [] i p d hg a b
 have hap:∀(i j:Nat) s u (v x:Int),i<j->row[i]? =aa (.str s)->row[j]? =aa (.str u)->(dk row [])[i]? =aa ⟨.int v,5,0⟩->(dk row [])[j]? =aa ⟨.int x,5,0⟩->v+(bh s).length<x:=λi j s t v u a b c d e=>UN row [] i j s t v u hg a b c d e
 have hbl:(fq row []).length<=12*row.length:=by simpa using hbl
 generalize fq row []=B at *
 generalize dk row []=ds at *
 have hcs:∀d∈ds,(∃v:Int,(-524288<=v/\v<524288)/\d=⟨.int v,1,cg v⟩)\/(∃v,d=⟨.bool v,26,0⟩)\/(∃v:Int,d=⟨.int v,5,0⟩/\1<=v/\v<=B.length):=λd m=>by
  refine(let G:=_;(?_:G));refine e24 (hmem d m) fun i p _ _ hp hd=>?_
  rcases hd.cases hp with ⟨v,a,_,e⟩|⟨v,_,e⟩|⟨s,v,_,e,a,b⟩
  ·exact .inl (i12 v a e)
  ·exact .inr (.inl ⟨v,e⟩)
  ·exact .inr (.inr (i13 v e (f1 1 [(1,.p (.n 0) (.n 1),v0)] (.n 1) v0 rfl a) (f3 1 [(1,.p (.p v1 v2) (.n 1),v0),(1,.n 0,v2)] v1 v0 rfl b aY)))
 unfold cv
 refine⟨⟨dx (f2 1 [(1,v0,.n 9),(1,v1,v0)] (.p v1 (.n 1)) (.n 256) rfl (aF hn.2) (eO hdl)),aO (f2 1 [(12,v0,.n 9),(1,v1,.s 12 v0)] v1 (.n 15000000) rfl (aF hn.2) (aF hbl))⟩,UH ⟨by exact f1 1 [(1,.n 0,v0)] (.n 0) v0 rfl aY,by exact f2 1 [(12,v0,.n 9),(1,v1,.s 12 v0)] v1 (.n 200) rfl (aF hn.2) (aF hbl)⟩ ds 0 0 (λd m=>?_) (f1 1 [] (.n 0) (.n 0) rfl (a:=0)) (f2 1 [(1,v0,.n 9),(1,v1,v0)] (.p (.n 0) v1) (.n 20) rfl (aF hn.2) (eO hdl)) ?_⟩
 ·rcases hcs d m with ⟨v,_,e⟩|⟨v,e⟩|⟨v,e,a,b⟩ <;> simp only[e]
  ·exact .int ..
  ·exact .bool ..
  ·exact .str v a b
 ·have hge:=(UJ ds 0).2
  have hw1:1<=mW 0 ds:=hge _ h300
  have hw2:mW 0 ds<=2:=UI ds 0 2 (by decide) fun d m=>by
   rcases hcs d m with ⟨v,a,e⟩|⟨v,e⟩|⟨v,e,a,b⟩ <;> rw[e]
   ·exact(sz a).2.1
   ·exact(by decide:(0:Int)<=2)
   ·exact(by decide:(0:Int)<=2)
  generalize mW 0 ds=w at *
  obtain⟨n,en,hnn,hwk⟩:∃n:Int,(2:Int)^w.toNat=n/\(n=2\/n=4)/\w=wk n:=by
   rcases(by lia:w=1\/w=2) with rfl |rfl
   ·exact(i13 2 rfl (.inl rfl) rfl)
   ·exact(i13 4 rfl (.inr rfl) rfl)
  rw[en]
  have hwb:aM n=true:=by refine(let G1:=_;(?_:G1));rcases hnn with rfl |rfl <;> rfl
  have hpl:(bL B n).length<4:=by
   unfold bL
   rw[nG]
   clear en;rcases hnn with rfl |rfl <;> lia
  have lx:((bo n (ds.length:Int)).length:Int)=n:=o0 hwb
  have hcr:(0:Int)<=ds.length/\(ds.length:Int)<2^(8*n).toNat:=by
   refine⟨f1 1 [(1,.n 0,v0)] (.n 0) v0 rfl aY,?_⟩
   rcases hnn with rfl |rfl
   ·show _<(65536:Int);exact f2 1 [(1,v0,.n 9),(1,v1,v0)] (.p v1 (.n 1)) (.n 65536) rfl (aF hn.2) (eO hdl)
   ·show _<(4294967296:Int);exact f2 1 [(1,v0,.n 9),(1,v1,v0)] (.p v1 (.n 1)) (.n 4294967296) rfl (aF hn.2) (eO hdl)
  refine⟨⟨f1 1 [(1,.n 1,v0)] (.n 0) v0 rfl hw1,f1 1 [(1,v0,.n 2)] v0 (.n 3) rfl hw2⟩,nl (v:=(ds.length:Int)) hwb rfl hcr ?_⟩
  have hA:∃t0,B++bL B n++bo n (ds.length:Int)=B++t0:=⟨_,dS _ _ _⟩
  have hAl:((B++bL B n++bo n (ds.length:Int)).length:Int)=B.length+(bL B n).length+n:=by simp only[bB,bB];exact dM (f4 1 [(1,v3,v1)] (.p (.p v0 v2) v3) (.p (.p v0 v2) v1) rfl (dR lx)) (f4 1 [(1,v1,v3)] (.p (.p v0 v2) v1) (.p (.p v0 v2) v3) rfl (cz lx))
  have hc:aP (aB (B++bL B n++bo n (ds.length:Int)) ((B++bL B n++bo n (ds.length:Int)).length+ -n) (B++bL B n++bo n (ds.length:Int)).length)=row.length:=by
   have e:(B++bL B n++bo n (ds.length:Int)).length=(B++bL B n).length+(bo n (ds.length:Int)).length:=bB
   rw[pa (by omega) (by omega),kR hwb hcr,hdl]
  generalize B++bL B n++bo n (ds.length:Int)=A at *
  refine Gf hnn ds A (s:=B.length) (λd m=>?_) (f5 1 [(1,v3,v1),(1,.p (.p v0 v2) v1,v4),(1,.n 0,v2),(1,.n 0,v3)] v0 v4 rfl (dR lx) (cz hAl) aY aY) (by omega) fun t ht hf=>UK ds (A++t) (λd m=>?_) (by rw[bB];refine(let G2:=_;(?_:G2));refine(let G3:=_;(?_:G3));rcases hnn with rfl |rfl <;> omega) fun t2 ht2 hf2=>h _ _ n _ hwk (UQ hg hn hdl hat hap hnn hwk hge hA ⟨f4 1 [(1,.p (.p v0 v2) v1,v3),(1,.n 0,v2)] (.p v0 v1) v3 rfl (cz hAl) aY,by omega⟩ hc ht hf ht2 hf2)
  ·have hwd:=hge d m
   rcases hcs d m with ⟨v,a,e⟩|⟨v,e⟩|⟨v,e,a,b⟩ <;> simp only[e]
   ·rw[e] at hwd
    have hwd:cg v<=w:=hwd
    have hb:=sz a
    rcases hnn with rfl |rfl
    ·have :w=1:=hwk
     have :=hb.2.2 (f2 1 [(1,v1,v0),(1,v0,.n 1)] v1 (.n 1) rfl hwd (dR this))
     exact .int v _ (by show -(32768:Int)<=v;exact f1 1 [(1,.g (.n 32768),v0)] (.g (.n 32768)) v0 rfl this.1) (by show v<(32768:Int);exact f1 1 [(1,.p v0 (.n 1),.n 32768)] (.p v0 (.n 1)) (.n 32768) rfl this.2)
    ·exact .int v _ (by show -(2147483648:Int)<=v;exact f1 1 [(1,.g (.n 524288),v0)] (.g (.n 2147483648)) v0 rfl a.1) (by show v<(2147483648:Int);exact f1 1 [(1,.p v0 (.n 1),.n 524288)] (.p v0 (.n 1)) (.n 2147483648) rfl a.2)
   ·exact .bool ..
   ·exact .str v a b
  ·rcases hcs d m with ⟨v,a,e⟩|⟨v,e⟩|⟨v,e,a,b⟩ <;> rw[e]
   ·have hb:=sz a
    refine(eC ((by decide:(0:Int)<=1)) ((by decide:(1:Int)<=26)) (?_) (?_))
    ·show 0<=max (cg v) w;omega
    ·show max (cg v) w<=3;omega
   ·refine(eC ((by decide:(0:Int)<=26)) ((by decide:(26:Int)<=26)) (?_) (?_))
    ·show 0<=max 0 w;omega
    ·show max 0 w<=3;omega
   ·exact(eC ((by decide:(0:Int)<=5)) ((by decide:(5:Int)<=26)) ((by decide:(0:Int)<=0)) ((by decide:(0:Int)<=3)))
theorem US{row:List PV}{k:List UInt8->PV->Prop}(hg:∀p∈row,d7 p)(hn:3<=row.length/\row.length<=9)(h3:PV.int 300∈row)
  (h:∀(b:List UInt8) (v:PV) (n loc:Int),Lay b row n loc (row.map kU)->k b v):vf row [] fun b v=>fi b v fun b'=>k b' v:=by
 refine UF row [] [] hg (by show 0+_<=_;exact aO (f1 1 [(12,v0,.n 9)] (.p (.n 0) (.s 12 v0)) (.n 1000) rfl (aF hn.2))) (by show 0+_<=_;exact aO (f1 1 [(1,v0,.n 9)] (.p (.n 0) v0) (.n 1000) rfl (aF hn.2))) ⟨?_,?_⟩
 ·simp only[sX,dT,pb row [] hg];exact aO (f1 1 [(1,v0,.n 9)] v0 (.n 1000000) rfl (aF hn.2))
 ·simp only[sX,UG]
  show gd (!(dk row []).isEmpty) _
  have e:(!(dk row []).isEmpty)=true:=by
   have :=pb row [] hg
   cases hd:dk row [] with
   |nil=>replace this:=hd▸this;simp at this;lia
   |cons _ _=>rfl
  simp only[e]
  show cv (dk row []) (fq row []) fun b v=>fi b v fun b'=>k b' v
  refine UR hg hn h3 fun b w n loc hwk hl=>?_
  unfold fi
  simp only[nr]
  have h1:=hl.len
  have h2:=hl.hn
  have h4:=hl.hl
  have hk:w=1\/w=2:=by rw[hwk];unfold wk;split <;> simp
  have hm:(0:Int)<=row.length*n/\row.length*n<=36:=by rcases hl.hw with e |e <;> rw[e] <;> lia
  refine⟨(g0 (aO (f4 1 [(1,v0,.n 9),(1,v1,.p v2 (.p v3 v0)),(1,v2,.n 400),(1,v3,.n 36)] v1 (.n 15000000) rfl (aF hn.2) (dR h1) h4.2 hm.2)) (f4 1 [(1,.p v2 (.p v3 v0),v1),(1,.n 0,v3),(1,.n 0,v0)] (.n 0) (.m v1 v2) rfl (cz h1) hm.1 aY) (f4 1 [(1,v0,.n 9),(1,v1,.p v2 (.p v3 v0)),(1,v3,.n 36)] (.p (.m v1 v2) (.n 1)) (.n 256) rfl (aF hn.2) (dR h1) hm.2) (?_) (?_)),?_⟩
  ·show 0<=w;lia
  ·show w<=3;lia
  ·have :=hl.fin
   replace this:=hwk.symm▸this
   exact h _ _ n loc this
theorem UT(l:List PV)(QQ:Fl->aw->St->Prop):bt b8 cL xn (br D_law) 200 (gi 5 (bj D_law 0)) [(S "script",AV.pv (PV.list l))] [] QQ=
 (ae (slice tb (aa 6) l)<=16777216/\ga (λc=>aR b8 c 194) (dz (br D_law) (gu D_law 0)) (gj (fQ D_law 0)) (lP D_law 0) [] (slice tb (aa 6) l) [] [] [] fun(l_1:List PV) (σ':St)=>σ'=[]/\ae l_1+3<=16777216/\cB (bz&&!WS (l_1++[PV.int 300,PV.str (S "Za~Za"),PV.bool bz])) (True/\vf (l_1++[PV.int 300,PV.str (S "Za~Za"),PV.bool bz]) [] fun(b:List UInt8) (v:PV)=>fi b v fun(b':List UInt8)=>ni b'/\cB (rT b' == 10) (cB (aM (rW b')) (cB (aM (rV b')) ((0<=rO b'/\rO b'+rW b'<=(↑(ae b'):Int)/\0<=au b' (rO b') (rW b')+ -rV b'/\au b' (rO b') (rW b')<=(↑(ae b'):Int))/\ae (l_1++[PV.int 300,PV.str (S "Za~Za"),PV.bool bz])<=16777216/\ga (λc=>aR b8 c 192) (dz (br D_law) (gu D_law 1)) (gj (fQ D_law 1)) (lP D_law 1) [(20,l_1++[PV.int 300,PV.str (S "Za~Za"),PV.bool bz])] (l_1++[PV.int 300,PV.str (S "Za~Za"),PV.bool bz]) [] [] [(20,AObj.list (l_1++[PV.int 300,PV.str (S "Za~Za"),PV.bool bz])),(10,AObj.attrs [(S "_share_strings",vB bp),(S "_share_keys",vB bz),(S "_force_min_bit_width",vI 0),(S "_string_pool",AV.pv (PV.obj 1099 [(S "_pool",PV.list [])])),(S "_key_pool",AV.pv (PV.obj 1099 [(S "_pool",PV.list [])])),(S "_finished",vB bp),(S "_buf",AV.loc 1),(S "_stack",AV.loc 2),(S "finished",vB bz)]),(0,AObj.inst 1384 10),(1,AObj.ba b'),(2,AObj.list [v])] fun(l_2:List PV) (σ':St)=>σ'=[(20,AObj.list (l_1++[PV.int 300,PV.str (S "Za~Za"),PV.bool bz])),(10,AObj.attrs [(S "_share_strings",vB bp),(S "_share_keys",vB bz),(S "_force_min_bit_width",vI 0),(S "_string_pool",AV.pv (PV.obj 1099 [(S "_pool",PV.list [])])),(S "_key_pool",AV.pv (PV.obj 1099 [(S "_pool",PV.list [])])),(S "_finished",vB bp),(S "_buf",AV.loc 1),(S "_stack",AV.loc 2),(S "finished",vB bz)]),(0,AObj.inst 1384 10),(1,AObj.ba b'),(2,AObj.list [v])]/\QQ Fl.next [(S "script",AV.pv (PV.list l)),(S "row",AV.loc 20),(S "octets",AV.loc 1),(S "size",vI (↑(ae b'):Int)),(S "width",vI (rV b')),(S "room",AV.loc 21)] (bu (l_1++[PV.int 300,PV.str (S "Za~Za"),PV.bool bz]) b' v l_2)) False) False) False) False):=by kernel_rfl
theorem UU(l:List PV)(Q:AV->St->Prop):oE b8 cL xn D_law [AV.pv (PV.list l)] [] [] Q=bt b8 cL xn (br D_law) 200 (bj D_law 0) [(S "script",AV.pv (PV.list l))] [] (kF Q):=by
 have e1:lJ D_law.defs=aa []:=by kernel_rfl
 have e2:gL D_law.names [] [AV.pv (PV.list l)] []=aa [(S "script",AV.pv (PV.list l))]:=by kernel_rfl
 have e3:∀env,xF b8 cL xn (br D_law) D_law.body env [] Q=bt b8 cL xn (br D_law) 200 (bj D_law 0) env [] (kF Q):=λenv=>by kernel_rfl
 unfold oE
 rw[e1]
 unfold ag
 dsimp only
 rw[e2]
 skip
 exact e3 _
noncomputable def x9(l:List Stmt):Expr×Pos:=match l with
 | .For _ it _ _ p::_=>(it,p)
 |_=>(.Constant .none 0 ⟨0,0,0,0⟩,⟨0,0,0,0⟩)
theorem UV:dc 5 (bj D_law 0)=.For (gt D_law 5) (x9 (bj D_law 5)).1 (bj D_law 6) [] (x9 (bj D_law 5)).2::bj D_law 32:=by kernel_rfl
theorem UW{T:aI}:bt T U N C (n+1) (s::r) env σ Q=xS T U N C n s env σ (kX T U N C n r Q):=by kernel_rfl
theorem UX{T:aI}:xS T U N C (n+1) (.For t it b [] p) env σ Q=gd (hN C t) (iD T C n t it env σ fun items src σ=>c9 (bt T U N C n b) t src (env.map (·.1)) items env σ Q):=by kernel_rfl
theorem UY:hN (br D_law) (gt D_law 5)=true:=by kernel_rfl
theorem UZ(l row rm:List PV)(n w:Int)(v:PV)(b:List UInt8)(K:List PV->List (Nat×List PV)->St->Prop):iD b8 (br D_law) 193 (gt D_law 5) (x9 (bj D_law 5)).1 (nv l n w) (bu row b v rm) K=
 (ae (slice (aa 6) (aa 12) l)+ae (slice tb (aa 3) l)<=16777216/\K (gC (λ(p:PV×Nat)=>PV.tuple [PV.int (↑p.2:Int),p.1]) (W6 (slice (aa 6) (aa 12) l++slice tb (aa 3) l))) [] (bu row b v rm)):=by kernel_rfl
theorem U8(l:List PV)(row:List PV)(rm:List PV)(n:Int)(w:Int)(a:Int)(m:Int)(v:PV)(b:List UInt8)(QQ:Fl->aw->St->Prop):bt b8 cL xn (br D_law) 193 (gi 5 (bj D_law 6)) (sr l n w a m) (bu row b v rm) QQ=
 (cB (mq (↑(ae row):Int)) (cO (cI row (aJ (aC m 3+a) (↑(ae row):Int))) fun(a_1:PV)=>ni b/\cB (rT b == 10) (cB (aM (rW b)) (cB (aM (rV b)) ((0<=rO b/\rO b+rW b<=(↑(ae b):Int)/\0<=au b (rO b) (rW b)+ -rV b/\au b (rO b) (rW b)<=(↑(ae b):Int))/\(0<=aJ (aC m 3+a) (↑(ae row):Int)/\aJ (aC m 3+a) (↑(ae row):Int)<aP (aB b (au b (rO b) (rW b)+ -rV b) (au b (rO b) (rW b)))/\aP (aB b (au b (rO b) (rW b)+ -rV b) (au b (rO b) (rW b)))<=1000/\0<=rV b/\rV b<=8/\0<=au b (rO b) (rW b)/\au b (rO b) (rW b)+(aP (aB b (au b (rO b) (rW b)+ -rV b) (au b (rO b) (rW b)))*rV b+aJ (aC m 3+a) (↑(ae row):Int))<(↑(ae b):Int)/\0<=aP (aB b (au b (rO b) (rW b)+ -rV b) (au b (rO b) (rW b)))*rV b/\0<=aJ (aC m 3+a) (↑(ae row):Int)*rV b/\bc b (au b (rO b) (rW b)+(aP (aB b (au b (rO b) (rW b)+ -rV b) (au b (rO b) (rW b)))*rV b+aJ (aC m 3+a) (↑(ae row):Int)))<108)/\QQ Fl.next (bJ l n w a m (aJ (aC m 3+a) (↑(ae row):Int)) a_1 b (au b (rO b) (rW b)+aJ (aC m 3+a) (↑(ae row):Int)*rV b) ((↑(ae b):Int)-(au b (rO b) (rW b)+aJ (aC m 3+a) (↑(ae row):Int)*rV b)) (rV b) (2^aj (bc b (au b (rO b) (rW b)+(aP (aB b (au b (rO b) (rW b)+ -rV b) (au b (rO b) (rW b)))*rV b+aJ (aC m 3+a) (↑(ae row):Int)))%4)) (bc b (au b (rO b) (rW b)+(aP (aB b (au b (rO b) (rW b)+ -rV b) (au b (rO b) (rW b)))*rV b+aJ (aC m 3+a) (↑(ae row):Int)))/4) (aJ m 3)) (bu row b v rm)) False) False) False) False):=by kernel_rfl
theorem U9(l:List PV)(row:List PV)(rm:List PV)(n:Int)(w:Int)(v:PV)(b:List UInt8)(Q:AV->St->Prop):kX b8 cL xn (br D_law) 194 (bj D_law 32) (kF Q) Fl.next (nv l n w) (bu row b v rm)=
 (∃(l:List PV),lT b l/\(l=row/\jk l kN=bz/\ae l<=1000)/\Q (vB bz) (bu row b v rm)):=by kernel_rfl
theorem Va(l:List PV)(row:List PV)(rm:List PV)(n:Int)(w:Int)(a:Int)(m:Int)(pl:Int)(ro:Int)(rl:Int)(pw:Int)(bw:Int)(x:Int)(v:PV)(bf:List UInt8)(b:List UInt8)(QQ:Fl->aw->St->Prop):bt b8 cL xn (br D_law) 188 (gi 2 (dc 5 (bj D_law 6))) (bJ l n w a m pl (PV.int x) bf ro rl pw bw 1 0) (bu row b v rm) QQ=
 (cB (nn (aJ (aC m 3) 24)) ((-9223372036854775808<=aC (aJ (aC m 3) 16777216-8388608) (2^aj (aJ (aC m 3) 24))/\aC (aJ (aC m 3) 16777216-8388608) (2^aj (aJ (aC m 3) 24))<9223372036854775808)/\cB (aM pw) (cB (bA (2^aj (cg (aC (aJ (aC m 3) 16777216-8388608) (2^aj (aJ (aC m 3) 24))))<=pw)) ((0<=ro/\ro+pw<=(↑(ae b):Int)/\ae b<=16000000)/\wr 79 (PV.int (aC (aJ (aC m 3) 16777216-8388608) (2^aj (aJ (aC m 3) 24)))) pw b fun(x_1:List UInt8)=>cB (cf 1 (8*w-1)) (cB (bA (-(1*2^aj (8*w-1))<=aC (aJ (aC m 3) 16777216-8388608) (2^aj (aJ (aC m 3) 24)))) (cB (cf 1 (8*w-1)) (QQ Fl.next (bJ l n w a m pl (PV.int x) bf ro rl pw bw 1 0++[(S "new",vI (aC (aJ (aC m 3) 16777216-8388608) (2^aj (aJ (aC m 3) 24)))),(S "told",vB bz),(S "due",vB (bA (aC (aJ (aC m 3) 16777216-8388608) (2^aj (aJ (aC m 3) 24))<1*2^aj (8*w-1))))]) (bu row (aZ b x_1 (aj ro) (aj (ro+pw))) v rm)) False) (QQ Fl.next (bJ l n w a m pl (PV.int x) bf ro rl pw bw 1 0++[(S "new",vI (aC (aJ (aC m 3) 16777216-8388608) (2^aj (aJ (aC m 3) 24)))),(S "told",vB bz),(S "due",vB bp)]) (bu row (aZ b x_1 (aj ro) (aj (ro+pw))) v rm))) False) (cB (cf 1 (8*w-1)) (cB (bA (-(1*2^aj (8*w-1))<=aC (aJ (aC m 3) 16777216-8388608) (2^aj (aJ (aC m 3) 24)))) (cB (cf 1 (8*w-1)) (QQ Fl.next (bJ l n w a m pl (PV.int x) bf ro rl pw bw 1 0++[(S "new",vI (aC (aJ (aC m 3) 16777216-8388608) (2^aj (aJ (aC m 3) 24)))),(S "told",vB bp),(S "due",vB (bA (aC (aJ (aC m 3) 16777216-8388608) (2^aj (aJ (aC m 3) 24))<1*2^aj (8*w-1))))]) (bu row b v rm)) False) (QQ Fl.next (bJ l n w a m pl (PV.int x) bf ro rl pw bw 1 0++[(S "new",vI (aC (aJ (aC m 3) 16777216-8388608) (2^aj (aJ (aC m 3) 24)))),(S "told",vB bp),(S "due",vB bp)]) (bu row b v rm))) False)) False) False):=by kernel_rfl
theorem Vb(l:List PV)(row:List PV)(rm:List PV)(n:Int)(w:Int)(a:Int)(m:Int)(pl:Int)(ro:Int)(rl:Int)(pw:Int)(bw:Int)(x:Bool)(v:PV)(bf:List UInt8)(b:List UInt8)(QQ:Fl->aw->St->Prop):bt b8 cL xn (br D_law) 188 (gi 2 (dc 5 (bj D_law 6))) (bJ l n w a m pl (PV.bool x) bf ro rl pw bw 26 0) (bu row b v rm) QQ=
 (cB (nn (aJ (aC m 3) 24)) ((-9223372036854775808<=aC (aJ (aC m 3) 16777216-8388608) (2^aj (aJ (aC m 3) 24))/\aC (aJ (aC m 3) 16777216-8388608) (2^aj (aJ (aC m 3) 24))<9223372036854775808)/\QQ Fl.next (bJ l n w a m pl (PV.bool x) bf ro rl pw bw 26 0++[(S "new",vI (aC (aJ (aC m 3) 16777216-8388608) (2^aj (aJ (aC m 3) 24)))),(S "told",vB bp),(S "due",vB bp)]) (bu row b v rm)) False):=by kernel_rfl
theorem Vc(l:List PV)(row:List PV)(rm:List PV)(n:Int)(w:Int)(a:Int)(m:Int)(pl:Int)(ro:Int)(rl:Int)(pw:Int)(bw:Int)(x:Str)(v:PV)(bf:List UInt8)(b:List UInt8)(QQ:Fl->aw->St->Prop):bt b8 cL xn (br D_law) 188 (gi 2 (dc 5 (bj D_law 6))) (bJ l n w a m pl (PV.str x) bf ro rl pw bw 5 0) (bu row b v rm) QQ=
 (cB (nn (aJ (aC m 3) 24)) ((-9223372036854775808<=aC (aJ (aC m 3) 16777216-8388608) (2^aj (aJ (aC m 3) 24))/\aC (aJ (aC m 3) 16777216-8388608) (2^aj (aJ (aC m 3) 24))<9223372036854775808)/\QQ Fl.next (bJ l n w a m pl (PV.str x) bf ro rl pw bw 5 0++[(S "new",vI (aC (aJ (aC m 3) 16777216-8388608) (2^aj (aJ (aC m 3) 24)))),(S "told",vB bp),(S "due",vB bp)]) (bu row b v rm)) False):=by kernel_rfl
theorem Vd(l:List PV)(row:List PV)(rm:List PV)(n:Int)(w:Int)(a:Int)(m:Int)(pl:Int)(ro:Int)(rl:Int)(pw:Int)(bw:Int)(x:Int)(v:PV)(bf:List UInt8)(b:List UInt8)(QQ:Fl->aw->St->Prop):bt b8 cL xn (br D_law) 188 (gi 2 (dc 5 (bj D_law 6))) (bJ l n w a m pl (PV.int x) bf ro rl pw bw 1 1) (bu row b v rm) QQ=
 (QQ Fl.next (bJ l n w a m pl (PV.int x) bf ro rl pw bw 1 1++[(S "new",vB (aJ (aC m 3) 2 == 1)),(S "told",vB bp),(S "due",vB bp)]) (bu row b v rm)):=by kernel_rfl
theorem Ve(l:List PV)(row:List PV)(rm:List PV)(n:Int)(w:Int)(a:Int)(m:Int)(pl:Int)(ro:Int)(rl:Int)(pw:Int)(bw:Int)(x:Bool)(v:PV)(bf:List UInt8)(b:List UInt8)(QQ:Fl->aw->St->Prop):bt b8 cL xn (br D_law) 188 (gi 2 (dc 5 (bj D_law 6))) (bJ l n w a m pl (PV.bool x) bf ro rl pw bw 26 1) (bu row b v rm) QQ=
 (cB (aM pw) ((0<=ro/\ro+pw<=(↑(ae b):Int)/\ae b<=16000000)/\wr 80 (PV.bool (aJ (aC m 3) 2 == 1)) pw b fun(x_1:List UInt8)=>QQ Fl.next (bJ l n w a m pl (PV.bool x) bf ro rl pw bw 26 1++[(S "new",vB (aJ (aC m 3) 2 == 1)),(S "told",vB bz),(S "due",vB bz)]) (bu row (aZ b x_1 (aj ro) (aj (ro+pw))) v rm)) False):=by kernel_rfl
theorem Vf(l:List PV)(row:List PV)(rm:List PV)(n:Int)(w:Int)(a:Int)(m:Int)(pl:Int)(ro:Int)(rl:Int)(pw:Int)(bw:Int)(x:Str)(v:PV)(bf:List UInt8)(b:List UInt8)(QQ:Fl->aw->St->Prop):bt b8 cL xn (br D_law) 188 (gi 2 (dc 5 (bj D_law 6))) (bJ l n w a m pl (PV.str x) bf ro rl pw bw 5 1) (bu row b v rm) QQ=
 (QQ Fl.next (bJ l n w a m pl (PV.str x) bf ro rl pw bw 5 1++[(S "new",vB (aJ (aC m 3) 2 == 1)),(S "told",vB bp),(S "due",vB bp)]) (bu row b v rm)):=by kernel_rfl
theorem Vg(l:List PV)(row:List PV)(rm:List PV)(n:Int)(w:Int)(a:Int)(m:Int)(pl:Int)(ro:Int)(rl:Int)(pw:Int)(bw:Int)(x:Int)(v:PV)(bf:List UInt8)(b:List UInt8)(QQ:Fl->aw->St->Prop):bt b8 cL xn (br D_law) 188 (gi 2 (dc 5 (bj D_law 6))) (bJ l n w a m pl (PV.int x) bf ro rl pw bw 1 2) (bu row b v rm) QQ=
 (QQ Fl.cont (bJ l n w a m pl (PV.int x) bf ro rl pw bw 1 2++[(S "new",AV.pv (PV.str (cR (c7 (cn (aC m 3))))))]) (bu row b v rm)):=by kernel_rfl
theorem Vh(l:List PV)(row:List PV)(rm:List PV)(n:Int)(w:Int)(a:Int)(m:Int)(pl:Int)(ro:Int)(rl:Int)(pw:Int)(bw:Int)(x:Bool)(v:PV)(bf:List UInt8)(b:List UInt8)(QQ:Fl->aw->St->Prop):bt b8 cL xn (br D_law) 188 (gi 2 (dc 5 (bj D_law 6))) (bJ l n w a m pl (PV.bool x) bf ro rl pw bw 26 2) (bu row b v rm) QQ=
 (QQ Fl.cont (bJ l n w a m pl (PV.bool x) bf ro rl pw bw 26 2++[(S "new",AV.pv (PV.str (cR (c7 (cn (aC m 3))))))]) (bu row b v rm)):=by kernel_rfl
theorem Vi(l:List PV)(row:List PV)(rm:List PV)(n:Int)(w:Int)(a:Int)(m:Int)(pl:Int)(ro:Int)(rl:Int)(pw:Int)(bw:Int)(x:Str)(v:PV)(bf:List UInt8)(b:List UInt8)(QQ:Fl->aw->St->Prop):bt b8 cL xn (br D_law) 188 (gi 2 (dc 5 (bj D_law 6))) (bJ l n w a m pl (PV.str x) bf ro rl pw bw 5 2) (bu row b v rm) QQ=
 (cB (aM pw) (cB (aM bw) ((0<=ro/\ro+pw<=(↑(ae b):Int)/\ae b<=15000000/\0<=au b ro pw+ -bw/\au b ro pw<=(↑(ae b):Int)/\jk (bG (bs (cR (c7 (cn (aC m 3)))))) dh=bz/\jj (bs (cR (c7 (cn (aC m 3)))))<=1000/\0<=aP (aB b (au b ro pw+ -bw) (au b ro pw))/\aP (aB b (au b ro pw+ -bw) (au b ro pw))<=1000000)/\cB (bA ((↑(ae (cC (bG (bs (cR (c7 (cn (aC m 3)))))))):Int)<=aP (aB b (au b ro pw+ -bw) (au b ro pw)))) ((au b ro pw+aP (aB b (au b ro pw+ -bw) (au b ro pw))<=(↑(ae b):Int)/\(↑(ae (cC (bG (bs (cR (c7 (cn (aC m 3)))))))):Int)<2^aj (8*bw))/\jj (bs (cR (c7 (cn (aC m 3)))))<=1000/\cO (cI rm pl) fun(a_1:PV)=>cO (fP a_1) fun(a_2:Int)=>cB (bA ((↑(fW (bG (bs (cR (c7 (cn (aC m 3))))))):Int)<=a_2)) (jj (bs (cR (c7 (cn (aC m 3)))))<=1000/\cO (gJ rm pl (PV.int (↑(fW (bG (bs (cR (c7 (cn (aC m 3))))))):Int))) fun(a_3:List PV)=>QQ Fl.next (bJ l n w a m pl (PV.str x) bf ro rl pw bw 5 2++[(S "new",AV.pv (PV.str (cR (c7 (cn (aC m 3)))))),(S "told",vB bz),(S "due",vB (bA ((↑(fW (bG (bs (cR (c7 (cn (aC m 3))))))):Int)<=a_2)))]) (bu row (cZ b (cC (bG (bs (cR (c7 (cn (aC m 3))))))) (au b ro pw) bw (aP (aB b (au b ro pw+ -bw) (au b ro pw)))) v a_3)) (cO (cI rm pl) fun(a_3:PV)=>cO (gJ rm pl a_3) fun(a_4:List PV)=>QQ Fl.next (bJ l n w a m pl (PV.str x) bf ro rl pw bw 5 2++[(S "new",AV.pv (PV.str (cR (c7 (cn (aC m 3)))))),(S "told",vB bz),(S "due",vB (bA ((↑(fW (bG (bs (cR (c7 (cn (aC m 3))))))):Int)<=a_2)))]) (bu row (cZ b (cC (bG (bs (cR (c7 (cn (aC m 3))))))) (au b ro pw) bw (aP (aB b (au b ro pw+ -bw) (au b ro pw)))) v a_4))) (jj (bs (cR (c7 (cn (aC m 3)))))<=1000/\cO (cI rm pl) fun(a_1:PV)=>cO (fP a_1) fun(a_2:Int)=>cB (bA ((↑(fW (bG (bs (cR (c7 (cn (aC m 3))))))):Int)<=a_2)) (jj (bs (cR (c7 (cn (aC m 3)))))<=1000/\cO (gJ rm pl (PV.int (↑(fW (bG (bs (cR (c7 (cn (aC m 3))))))):Int))) fun(a_3:List PV)=>QQ Fl.next (bJ l n w a m pl (PV.str x) bf ro rl pw bw 5 2++[(S "new",AV.pv (PV.str (cR (c7 (cn (aC m 3)))))),(S "told",vB bp),(S "due",vB (bA ((↑(fW (bG (bs (cR (c7 (cn (aC m 3))))))):Int)<=a_2)))]) (bu row b v a_3)) (cO (cI rm pl) fun(a_3:PV)=>cO (gJ rm pl a_3) fun(a_4:List PV)=>QQ Fl.next (bJ l n w a m pl (PV.str x) bf ro rl pw bw 5 2++[(S "new",AV.pv (PV.str (cR (c7 (cn (aC m 3)))))),(S "told",vB bp),(S "due",vB (bA ((↑(fW (bG (bs (cR (c7 (cn (aC m 3))))))):Int)<=a_2)))]) (bu row b v a_4)))) False) False):=by kernel_rfl
theorem Gg(l:List PV)(row:List PV)(rm:List PV)(n:Int)(w:Int)(a:Int)(m:Int)(pl:Int)(ro:Int)(rl:Int)(pw:Int)(bw:Int)(tt:Int)(d:Int)(old:PV)(v:PV)(p:PV)(told:Bool)(due:Bool)(bf:List UInt8)(b:List UInt8)(QQ:Fl->aw->St->Prop):bt b8 cL xn (br D_law) 186 (dc 2 (dc 5 (bj D_law 6))) (bJ l n w a m pl old bf ro rl pw bw tt d++[(S "new",AV.pv p),(S "told",vB told),(S "due",vB due)]) (bu row b v rm) QQ=
 (cB (!told == due) (QQ (Fl.ret (vB bp)) (bJ l n w a m pl old bf ro rl pw bw tt d++[(S "new",AV.pv p),(S "told",vB told),(S "due",vB due)]) (bu row b v rm)) (cB (!(↑(ae b):Int) == n) (QQ (Fl.ret (vB bp)) (bJ l n w a m pl old bf ro rl pw bw tt d++[(S "new",AV.pv p),(S "told",vB told),(S "due",vB due)]) (bu row b v rm)) (cB due (cO (gJ row pl p) fun(a_1:List PV)=>∃(l_1:List PV),lT b l_1/\(l_1=a_1/\jk l_1 kN=bz/\ae l_1<=1000)/\QQ Fl.next (bJ l n w a m pl old bf ro rl pw bw tt d++[(S "new",AV.pv p),(S "told",vB told),(S "due",vB due)]) (bu a_1 b v rm)) (∃(xs:List Int),∃(ys:List Int),gC (λ(c:UInt8)=>PV.int (↑(jo c):Int)) b=gC PV.int xs/\gC (λ(c:UInt8)=>PV.int (↑(jo c):Int)) bf=gC PV.int ys/\cB (!bA (xs=ys)) (QQ (Fl.ret (vB bp)) (bJ l n w a m pl old bf ro rl pw bw tt d++[(S "new",AV.pv p),(S "told",vB told),(S "due",vB due)]) (bu row b v rm)) (∃(l_1:List PV),lT b l_1/\(l_1=row/\jk l_1 kN=bz/\ae l_1<=1000)/\QQ Fl.next (bJ l n w a m pl old bf ro rl pw bw tt d++[(S "new",AV.pv p),(S "told",vB told),(S "due",vB due)]) (bu row b v rm)))))):=by kernel_rfl
theorem Vj(m:Int)(Q:AV->St->Prop):aR b8 (dz (FCtx.mk (FnD.scope D_law) []) (gu D_law 0)) 194 (gj (fQ D_law 0)) [(S "number",vI m)] [] Q=
 (Q (AV.pv (fE m)) []):=by kernel_rfl
theorem Vk(x:Int)(row:List PV)(b:List UInt8)(v:PV)(Q:AV->St->Prop):aR b8 (dz (FCtx.mk (FnD.scope D_law) []) (gu D_law 1)) 192 (gj (fQ D_law 1)) [(S "one",vI x)] [(20,AObj.list row),(10,AObj.attrs (jc++[(S "finished",vB bz)])),(0,AObj.inst d6 10),(1,AObj.ba b),(2,AObj.list [v])] Q=
 (Q (vI 0) [(20,AObj.list row),(10,AObj.attrs [(S "_share_strings",vB bp),(S "_share_keys",vB bz),(S "_force_min_bit_width",vI 0),(S "_string_pool",AV.pv (PV.obj 1099 [(S "_pool",PV.list [])])),(S "_key_pool",AV.pv (PV.obj 1099 [(S "_pool",PV.list [])])),(S "_finished",vB bp),(S "_buf",AV.loc 1),(S "_stack",AV.loc 2),(S "finished",vB bz)]),(0,AObj.inst 1384 10),(1,AObj.ba b),(2,AObj.list [v])]):=by kernel_rfl
theorem Vl(x:Bool)(row:List PV)(b:List UInt8)(v:PV)(Q:AV->St->Prop):aR b8 (dz (FCtx.mk (FnD.scope D_law) []) (gu D_law 1)) 192 (gj (fQ D_law 1)) [(S "one",vB x)] [(20,AObj.list row),(10,AObj.attrs (jc++[(S "finished",vB bz)])),(0,AObj.inst d6 10),(1,AObj.ba b),(2,AObj.list [v])] Q=
 (Q (vI 0) [(20,AObj.list row),(10,AObj.attrs [(S "_share_strings",vB bp),(S "_share_keys",vB bz),(S "_force_min_bit_width",vI 0),(S "_string_pool",AV.pv (PV.obj 1099 [(S "_pool",PV.list [])])),(S "_key_pool",AV.pv (PV.obj 1099 [(S "_pool",PV.list [])])),(S "_finished",vB bp),(S "_buf",AV.loc 1),(S "_stack",AV.loc 2),(S "finished",vB bz)]),(0,AObj.inst 1384 10),(1,AObj.ba b),(2,AObj.list [v])]):=by kernel_rfl
theorem Vm(x:Str)(row:List PV)(b:List UInt8)(v:PV)(Q:AV->St->Prop):aR b8 (dz (FCtx.mk (FnD.scope D_law) []) (gu D_law 1)) 192 (gj (fQ D_law 1)) [(S "one",AV.pv (PV.str x))] [(20,AObj.list row),(10,AObj.attrs (jc++[(S "finished",vB bz)])),(0,AObj.inst d6 10),(1,AObj.ba b),(2,AObj.list [v])] Q=
 (jj (bs x)<=1000/\Q (vI (↑(fW (bG (bs x))):Int)) [(20,AObj.list row),(10,AObj.attrs [(S "_share_strings",vB bp),(S "_share_keys",vB bz),(S "_force_min_bit_width",vI 0),(S "_string_pool",AV.pv (PV.obj 1099 [(S "_pool",PV.list [])])),(S "_key_pool",AV.pv (PV.obj 1099 [(S "_pool",PV.list [])])),(S "_finished",vB bp),(S "_buf",AV.loc 1),(S "_stack",AV.loc 2),(S "finished",vB bz)]),(0,AObj.inst 1384 10),(1,AObj.ba b),(2,AObj.list [v])]):=by kernel_rfl
def ya(c:Nat):Prop:=c=97\/c=90\/c=126\/c=233
theorem Vn(i:Int):ya (ng i):=by
 unfold ng ya
 split
 ·exact .inl rfl
 ·split
  ·exact .inr (.inl rfl)
  ·split
   ·exact .inr (.inr (.inl rfl))
   ·exact .inr (.inr (.inr rfl))
theorem Vo:∀(cs:List Nat),(∀c∈cs,ya c)->cs.all dh=true/\(∀a:Nat,(cs.map fun c=>if c<128 then 1 else 2).foldl (· +·) a=a+(cC cs).length)/\(cC cs).length<=2*cs.length:=by
 intro v0
 induction v0 with
 |nil=>
  intro _
  exact(bl rfl (λ_=>rfl) (c8 _))
 |cons c r ih=>
  intro h
  refine cP (ih fun d m=>h d (cU _ m)) fun h1 h2 h3=>?_
  have hc:=h c cM
  have e:cC (c::r)=bd c++cC r:=rfl
  have k:dh c=true/\(if c<128 then 1 else 2)=(bd c).length/\(bd c).length<=2:=by
   clear h;rcases hc with rfl |rfl |rfl |rfl <;> exact(bl (by decide) (by decide) (by decide))
  refine(bl (by simp only[sQ,k.1,h1];rfl) (λa=>?_) (?_))
  ·simp only[ey,GQ,h2,e,bB,k.2.1];exact iz (f3 1 [] (.p (.p v2 v1) v0) (.p v2 (.p v1 v0)) rfl (a:=↑(cC r).length) (b:=↑(bd c).length) (c:=↑a)) (f3 1 [] (.p v2 (.p v1 v0)) (.p (.p v2 v1) v0) rfl (a:=↑(cC r).length) (b:=↑(bd c).length) (c:=↑a))
  ·simp only[e,bB,ft];exact aO (f3 1 [(1,v0,.s 2 v1),(1,v2,.n 2)] (.p v2 v0) (.s 2 (.p v1 (.n 1))) rfl (a:=↑(cC r).length) (b:=↑r.length) (c:=↑(bd c).length) (aF h3) (aF k.2.2))
theorem Vp(v:Int):(cn v).all dh=true/\fW (cn v)=(cC (cn v)).length/\(cC (cn v)).length<=10/\(cn v).length<=5:=by
 have hl:(cn v).length<=5:=by
  have :=jO v (n:=6) (by decide)
  unfold cn
  simp only[dT,sW];exact aO (f2 1 [(1,.p v0 (.n 1),.n 6),(1,v1,v0)] v1 (.n 5) rfl this.2 (dO (f1 1 [(1,.n 0,v0)] (.n 0) v0 rfl (a:=v.fmod 6) this.1)))
 refine cP (Vo (cn v) fun c m=>by
  obtain⟨k,_,rfl⟩:=List.mem_map.mp m
  exact Vn _) fun h1 h2 h3=>?_
 exact(eC h1 (by have :=h2 0;simp only[nI] at this;exact this) (aO (f2 1 [(2,v0,.n 5),(1,v1,.s 2 v0)] v1 (.n 10) rfl (aF hl) (aF h3))) hl)
abbrev gA(v:Int):Str:=⟨(cn v).toArray⟩
theorem yb(v:Int):(gA v).cps.toList.all dh=true/\(gA v).cps.size<=1000/\(bh (gA v)).length<=10/\fW (gA v).cps.toList=(bh (gA v)).length:=by
 refine fM (Vp v) fun h1 h2 h3 h4=>?_
 exact(eC h1 (by skip;simp only[cb];exact aO (f1 1 [(1,v0,.n 5)] v0 (.n 1000) rfl (aF h4))) h3 h2)
theorem Vq(v:Int):d7 (fE v):=by
 unfold fE
 split
 ·have :=jO v (n:=1048576) (by decide)
  exact⟨f1 1 [(1,.n 0,v0)] (.g (.n 524288)) (.m v0 (.n 524288)) rfl this.1,f1 1 [(1,.p v0 (.n 1),.n 1048576)] (.p (.m v0 (.n 524288)) (.n 1)) (.n 524288) rfl this.2⟩
 ·split
  ·trivial
  ·split
   ·refine fM (yb (aC v 4)) fun h1 h2 h3 _=>?_
    exact(bl h1 h2 h3)
   ·have :=jO (aC v 4) (n:=200) (by decide)
    exact⟨f1 1 [(1,.n 0,v0)] (.g (.n 524288)) (.m v0 (.n 100)) rfl this.1,f1 1 [(1,.p v0 (.n 1),.n 200)] (.p (.m v0 (.n 100)) (.n 1)) (.n 524288) rfl this.2⟩
theorem Vr(x:Int)(k:Nat)(h: -8388608<=x/\x<8388608): -8388608<=aC x (2^k)/\aC x (2^k)<8388608:=by
 have hp:(0:Int)<2^k:=Int.pow_pos (by decide)
 rw[yr _ (by exact f1 1 [(1,.p (.n 0) (.n 1),v0)] (.n 0) v0 rfl hp)]
 constructor
 ·refine Int.le_ediv_of_mul_le hp ?_
  have :(8388608:Int)*1<=8388608*2^k:=GN (by omega) (by decide)
  rw[Int.neg_mul];exact f2 1 [(1,.g (.n 8388608),v0),(1,.s 8388608 (.n 1),.s 8388608 v1)] (.g (.s 8388608 v1)) v0 rfl h.1 this
 ·refine Wz hp ?_
  have :(8388608:Int)*1<=8388608*2^k:=GN (by omega) (by decide)
  exact f2 1 [(1,.p v0 (.n 1),.n 8388608),(1,.s 8388608 (.n 1),.s 8388608 v1)] (.p v0 (.n 1)) (.s 8388608 v1) rfl h.2 this
theorem Vs(h: -8388608<=v/\v<8388608):0<=cg v/\cg v<=2/\(cg v<=1↔ -32768<=v/\v<32768):=by
 unfold cg
 by_cases c:v*2>=0
 ·rw[if_pos c];unfold bE;split
  ·omega
  ·split
   ·omega
   ·rw[if_pos (by exact f1 1 [(2,.p v0 (.n 1),.n 8388608)] (.p (.t v0 2) (.n 1)) (.n 4294967296) rfl h.2)];omega
 ·rw[if_neg c,xz];unfold bE;split
  ·omega
  ·split
   ·omega
   ·rw[if_pos (by exact f1 1 [(2,.g (.n 8388608),v0)] (.p (.m (.g (.t v0 2)) (.n 1)) (.n 1)) (.n 4294967296) rfl h.1)];omega
theorem Vt{v w:Int}(h: -8388608<=v/\v<8388608)(hw:w=2\/w=4):(2^(cg v).toNat<=w↔(-(1*2^(8*w-1).toNat)<=v/\v<1*2^(8*w-1).toNat)):=by
 refine(let G:=_;(?_:G));refine cP (Vs h) fun h0 h2 h1=>?_
 rcases hw with rfl |rfl
 ·show _↔(-(1*32768)<=v/\v<1*32768)
  rcases(by omega:cg v=0\/cg v=1\/cg v=2) with e |e |e <;> rw[e] at h1 ⊢
  ·show(1:Int)<=2↔_;omega
  ·show(2:Int)<=2↔_;omega
  ·show(4:Int)<=2↔_;omega
 ·show _↔(-(1*2147483648)<=v/\v<1*2147483648)
  rcases(by omega:cg v=0\/cg v=1\/cg v=2) with e |e |e <;> rw[e]
  ·show(1:Int)<=4↔_;omega
  ·show(2:Int)<=4↔_;omega
  ·show(4:Int)<=4↔_;omega
theorem Gh{x n:Int}(h:x=n):(!(x == n))=false:=by rw[h];simp
theorem Vu{l row row' rm:List PV}{n w a m pl ro rl pw bw tt d:Int}{old v p:PV}{bf b:List UInt8}{QQ:Fl->aw->St->Prop}(hb:(b.length:Int)=n)(hs:gJ row pl p=aa row')(hd:lT b row')(h1:row'.all kN=true)(h2:row'.length<=1000)
  (q:QQ .next (bJ l n w a m pl old bf ro rl pw bw tt d++[(S "new",AV.pv p),(S "told",vB true),(S "due",vB true)]) (bu row' b v rm)):
  kX b8 cL xn (br D_law) 186 (dc 2 (dc 5 (bj D_law 6))) QQ .next (bJ l n w a m pl old bf ro rl pw bw tt d++[(S "new",AV.pv p),(S "told",vB true),(S "due",vB true)]) (bu row b v rm):=by
 show bt b8 cL xn (br D_law) 186 (dc 2 (dc 5 (bj D_law 6))) (bJ l n w a m pl old bf ro rl pw bw tt d++[(S "new",AV.pv p),(S "told",vB true),(S "due",vB true)]) (bu row b v rm) QQ
 simp only[Gg]
 refine fT (by rfl) (fT (Gh hb) ?_)
 refine bg (by rfl) ?_
 simp only[hs]
 exact(i13 row' hd (bl rfl h1 h2) q)
theorem Vv{l row rm:List PV}{n w a m pl ro rl pw bw tt d:Int}{old v p:PV}{b:List UInt8}{QQ:Fl->aw->St->Prop}(hb:(b.length:Int)=n)(hd:lT b row)(h1:row.all kN=true)(h2:row.length<=1000)
  (q:QQ .next (bJ l n w a m pl old b ro rl pw bw tt d++[(S "new",AV.pv p),(S "told",vB false),(S "due",vB false)]) (bu row b v rm)):
  kX b8 cL xn (br D_law) 186 (dc 2 (dc 5 (bj D_law 6))) QQ .next (bJ l n w a m pl old b ro rl pw bw tt d++[(S "new",AV.pv p),(S "told",vB false),(S "due",vB false)]) (bu row b v rm):=by
 show bt b8 cL xn (br D_law) 186 (dc 2 (dc 5 (bj D_law 6))) (bJ l n w a m pl old b ro rl pw bw tt d++[(S "new",AV.pv p),(S "told",vB false),(S "due",vB false)]) (bu row b v rm) QQ
 simp only[Gg]
 refine fT (by rfl) (fT (Gh hb) ?_)
 refine fT (by rfl) ?_
 exact(i23 (b.map fun c=>(c.toNat:Int)) (b.map fun c=>(c.toNat:Int)) (by rw[yF];rfl) (by rw[yF];rfl) (fT (by simp) (i13 row hd (bl rfl h1 h2) q)))
theorem Lay.simp(h:Lay b row w loc rm):row.all kN=true/\row.length<=1000:=by
 refine⟨du.mpr fun p m=>?_,by have :=h.hn;exact aO (f1 1 [(1,v0,.n 9)] v0 (.n 1000) rfl (aF this.2))⟩
 refine e11 (List.mem_iff_getElem?.mp m) fun i e=>?_
 have hi:i<row.length:=(List.getElem?_eq_some_iff.mp e).1
 have :=h.el i p _ e (eH (by simp only[h.rml];exact hi))
 clear m;clear e;cases p with
 |int _=>rfl
 |bool _=>rfl
 |str _=>rfl
 |_=>exact this.elim
theorem sA{α:Type}{l:List α}{i:Nat}{a:α}(h:i<l.length):gJ l (i:Int) a=aa (l.set i a):=by
 unfold gJ
 rw[decide_eq_true (ee i),decide_eq_true (Int.ofNat_lt.mpr h)];rfl
theorem Gi{α:Type}{l:List α}{i:Nat}{a:α}(h:l[i]? =aa a):cI l (i:Int)=aa a:=by
 unfold cI
 rw[decide_eq_true (ee i)];exact h
abbrev sB:List Str:=[S "script",S "row",S "octets",S "size",S "width",S "room"]
noncomputable abbrev d8(rm:List Int):List PV:=rm.map .int
theorem Vw{rm:List Int}{i:Nat}{r:Int}(h:i<rm.length):gJ (d8 rm) (i:Int) (.int r)=aa (d8 (rm.set i r)):=by
 rw[sA (by simp only[dT];exact h)]
 show aa ((rm.map PV.int).set i (.int r))=aa ((rm.set i r).map PV.int)
 simp only[List.map_set]
theorem Vx{rm:List Int}{i:Nat}{r:Int}(h:rm[i]? =aa r):cI (d8 rm) (i:Int)=aa (.int r):=
 Gi (by simp only[io,h];rfl)
abbrev Gj(l:List PV)(n w loc:Int)(v:PV)(QQ:Fl->aw->St->Prop):Prop:=
 ∀row b rm env,Lay b row w loc rm->(b.length:Int)=n->cutE sB env=nv l n w->QQ .next env (bu row b v (d8 rm))/\QQ .cont env (bu row b v (d8 rm))
structure Ends(l:List PV)(n w loc:Int)(v:PV)(KK:Fl->aw->St->Prop):Prop where
 t:∀{row row':List PV} {rm:List Int} {a m pl ro rl pw bw tt d:Int} {old p:PV} {bf b:List UInt8} {env:aw},env=bJ l n w a m pl old bf ro rl pw bw tt d++[(S "new",AV.pv p),(S "told",vB true),(S "due",vB true)]->
  gJ row pl p=aa row'->Lay b row' w loc rm->(b.length:Int)=n->KK .next env (bu row b v (d8 rm))
 f:∀{row:List PV} {rm:List Int} {a m pl ro rl pw bw tt d:Int} {old p:PV} {b:List UInt8} {env:aw},env=bJ l n w a m pl old b ro rl pw bw tt d++[(S "new",AV.pv p),(S "told",vB false),(S "due",vB false)]->
  Lay b row w loc rm->(b.length:Int)=n->KK .next env (bu row b v (d8 rm))
 c:∀{row:List PV} {rm:List Int} {a m pl ro rl pw bw tt d:Int} {old p:PV} {b:List UInt8} {env:aw},env=bJ l n w a m pl old b ro rl pw bw tt d++[(S "new",AV.pv p)]->
  Lay b row w loc rm->(b.length:Int)=n->KK .cont env (bu row b v (d8 rm))
theorem Vy(hq:Gj l n w loc v QQ):Ends l n w loc v (kX b8 cL xn (br D_law) 186 (dc 2 (dc 5 (bj D_law 6))) QQ) where
 t:=by
  intro row row' rm a m pl ro rl pw bw tt d old p bf b env he hs L hb
  subst he
  exact Vu hb hs L.doc L.simp.1 L.simp.2 (hq _ _ _ _ L hb (by kernel_rfl)).1
 f:=by
  intro row rm a m pl ro rl pw bw tt d old p b env he L hb
  subst he
  exact Vv hb L.doc L.simp.1 L.simp.2 (hq _ _ _ _ L hb (by kernel_rfl)).1
 c:=by
  intro row rm a m pl ro rl pw bw tt d old p b env he L hb
  subst he
  exact(hq _ _ _ _ L hb (by kernel_rfl)).2
theorem Lay.at(h:Lay b row w loc rm)(hi:row[i]? =aa p):aM w=true/\i<row.length/\0<=loc+i*w/\loc+i*w+w<=b.length/\b.length<=1000/\(0:Int)<=row.length*w/\loc+(row.length*w+i)<b.length/\(0:Int)<=i*w/\0<w:=by
 refine ju h.root fun _ _ _ _ _ _ hwb=>?_
 have hl:=h.len
 have hn:=h.hn
 have hll:=h.hl
 have hil:i<row.length:=(List.getElem?_eq_some_iff.mp hi).1
 have hm:(0:Int)<=row.length*w/\row.length*w<=36/\0<w:=by rcases h.hw with e |e <;> rw[e] <;> omega
 have e0:(0:Int)<=(i:Int)*w:=gU (f1 1 [(1,.n 0,v0)] (.n 0) v0 rfl aY) (by omega)
 have e1:(i:Int)*w+w<=row.length*w:=by
  have :((i:Int)+1)*w<=row.length*w:=pn (f2 1 [(1,.p v1 (.n 1),v0)] (.p v1 (.n 1)) v0 rfl (dD hil)) (by omega)
  simp only[nC,ik] at this;exact this
 exact(n0 hwb hil (f3 1 [(1,v1,v0),(1,.p (.n 0) (.n 1),v1),(1,.n 0,v2)] (.n 0) (.p v0 v2) rfl hll.1 hm.2.2 e0) (f6 1 [(1,.p (.p v1 (.p v2 v3)) (.n 3),v0),(1,.p v5 v4,v2),(1,.n 0,v3)] (.p (.p v1 v5) v4) v0 rfl (cz hl) e1 aY) (aO (f4 1 [(1,v0,.p (.p v1 (.p v2 v3)) (.n 3)),(1,v3,.n 9),(1,v1,.n 400),(1,v2,.n 36)] v0 (.n 1000) rfl (dR hl) (aF hn.2) hll.2 hm.2.1)) (f1 1 [(1,.n 0,v0)] (.n 0) v0 rfl hm.1) (f5 1 [(1,.p (.p v1 (.p v2 v3)) (.n 3),v0),(1,.p v4 (.n 1),v3)] (.p (.p v1 (.p v2 v4)) (.n 1)) v0 rfl (cz hl) (dD hil)) e0 hm.2.2)
theorem yc(x:Int)(h:0<n):nn (aJ x n)=true:=by
 have :=(jO x h).1
 generalize aJ x n=z at *
 clear h;cases z with
 |ofNat _=>rfl
 |negSucc k=>omega
theorem yd(m:Int): -8388608<=aC (aJ (aC m 3) 16777216-8388608) (2^aj (aJ (aC m 3) 24))/\aC (aJ (aC m 3) 16777216-8388608) (2^aj (aJ (aC m 3) 24))<8388608:=
 Vr _ _ (by have :=jO (aC m 3) (n:=16777216) (by decide);exact⟨f1 1 [(1,.n 0,v0)] (.g (.n 8388608)) (.m v0 (.n 8388608)) rfl this.1,f1 1 [(1,.p v0 (.n 1),.n 16777216)] (.p (.m v0 (.n 8388608)) (.n 1)) (.n 8388608) rfl this.2⟩)
theorem Vz(h:w=2\/w=4):cf 1 (8*w-1)=true:=by rcases h with rfl |rfl <;> decide
section
variable{l row:List PV}{rm:List Int}{n w a m loc ro rl bw:Int}{i:Nat}{v:PV}{b:List UInt8}{KK:Fl->aw->St->Prop}(h:Lay b row w loc rm)(hb:(b.length:Int)=n)(K:Ends l n w loc v KK){F:aw->St->(Fl->aw->St->Prop)->Prop}(hF:bt b8 cL xn (br D_law) 188 (gi 2 (dc 5 (bj D_law 6)))=F)
include h hb K hF
theorem VA(hi:row[i]? =aa (.int x))(er:ro=loc+i*w):F (bJ l n w a m i (.int x) b ro rl w bw 1 0) (bu row b v (d8 rm)) KK:=by
 subst er
 refine zb (h.at hi) fun hwb hil f1 f2 f3 _=>?_
 have hr:=yd m
 have hs:=Vz h.hw
 simp only[<-hF,Va]
 generalize aC (aJ (aC m 3) 16777216-8388608) (2^aj (aJ (aC m 3) 24))=y at *
 have td:=Vt hr h.hw
 refine bg (yc _ (by decide)) ⟨⟨by omega,by omega⟩,bg hwb (gR (λc=>⟨(bl f1 f2 (by omega)),?_⟩) fun c=>?_)⟩
 ·refine ax (td.mp c) fun g1 g2=>?_
  have g3: -(2^(8*w-1).toNat)<=y/\y<2^(8*w-1).toNat:=by
   rw[ik] at g1 g2;exact⟨g1,g2⟩
  refine Fz hwb g3 (bg hs (ia g1 (bg hs ?_)))
  rw[decide_eq_true g2]
  have L:=h.int hi g3
  exact K.t (p:=.int y) rfl (sA hil) L.1 (by rw[L.2];exact hb)
 ·refine bg hs (gR (λc1=>bg hs ?_) fun c1=>?_)
  ·have c2:¬y<1*2^(8*w-1).toNat:=λc2=>c (td.mpr ⟨c1,c2⟩)
   rw[decide_eq_false c2]
   exact K.f (p:=.int y) rfl h hb
  ·exact K.f (p:=.int y) rfl h hb
theorem VB:F (bJ l n w a m i (.bool x) b ro rl w bw 26 0) (bu row b v (d8 rm)) KK:=by
 simp only[<-hF,Vb]
 have hr:=yd m
 generalize aC (aJ (aC m 3) 16777216-8388608) (2^aj (aJ (aC m 3) 24))=y at *
 refine bg (yc _ (by decide)) ⟨⟨f1 1 [(1,.g (.n 8388608),v0)] (.g (.n 9223372036854775808)) v0 rfl hr.1,f1 1 [(1,.p v0 (.n 1),.n 8388608)] (.p v0 (.n 1)) (.n 9223372036854775808) rfl hr.2⟩,?_⟩
 exact K.f (p:=.int y) rfl h hb
theorem VC:F (bJ l n w a m i (.str x) b ro rl w bw 5 0) (bu row b v (d8 rm)) KK:=by
 simp only[<-hF,Vc]
 have hr:=yd m
 generalize aC (aJ (aC m 3) 16777216-8388608) (2^aj (aJ (aC m 3) 24))=y at *
 refine bg (yc _ (by decide)) ⟨⟨f1 1 [(1,.g (.n 8388608),v0)] (.g (.n 9223372036854775808)) v0 rfl hr.1,f1 1 [(1,.p v0 (.n 1),.n 8388608)] (.p v0 (.n 1)) (.n 9223372036854775808) rfl hr.2⟩,?_⟩
 exact K.f (p:=.int y) rfl h hb
theorem VD:F (bJ l n w a m i (.int x) b ro rl w bw 1 1) (bu row b v (d8 rm)) KK:=by
 simp only[<-hF,Vd]
 exact K.f (p:=.bool (aJ (aC m 3) 2 == 1)) rfl h hb
theorem VE:F (bJ l n w a m i (.str x) b ro rl w bw 5 1) (bu row b v (d8 rm)) KK:=by
 simp only[<-hF,Vf]
 exact K.f (p:=.bool (aJ (aC m 3) 2 == 1)) rfl h hb
theorem VF(hi:row[i]? =aa (.bool x))(er:ro=loc+i*w):F (bJ l n w a m i (.bool x) b ro rl w bw 26 1) (bu row b v (d8 rm)) KK:=by
 subst er
 refine zb (h.at hi) fun hwb hil f1 f2 f3 _=>?_
 simp only[<-hF,Ve]
 generalize(aJ (aC m 3) 2 == 1)=y at *
 refine bg hwb ⟨(bl f1 f2 (by omega)),?_⟩
 have L:=h.bool (v:=y) hi
 refine nl (v:=if y then 1 else 0) hwb (by cases y <;> rfl) (by clear hwb;clear f1;clear f2;rcases h.hw with rfl |rfl <;> cases y <;> decide) ?_
 exact K.t (p:=.bool y) rfl (sA hil) L.1 (by rw[L.2];exact hb)
theorem VG:F (bJ l n w a m i (.int x) b ro rl w bw 1 2) (bu row b v (d8 rm)) KK:=by
 simp only[<-hF,Vg]
 exact K.c (p:=.str (gA (aC m 3))) rfl h hb
theorem VH:F (bJ l n w a m i (.bool x) b ro rl w bw 26 2) (bu row b v (d8 rm)) KK:=by
 simp only[<-hF,Vh]
 exact K.c (p:=.str (gA (aC m 3))) rfl h hb
theorem VI{x:Str}(hi:row[i]? =aa (.str x))(er:ro=loc+i*w):F (bJ l n w a m i (.str x) b ro rl w 1 5 2) (bu row b v (d8 rm)) KK:=by
 subst er
 refine ju (h.at hi) fun hwb hil f1 f2 f3 f4 _=>?_
 have hir:i<rm.length:=by simp only[h.rml];exact hil
 obtain⟨r,hr⟩:∃r,rm[i]? =aa r:=⟨_,eH hir⟩
 refine fM (yb (aC m 3)) fun t1 t2 t3 t4=>?_
 refine mf (h.el i _ r hi hr) fun e1 e2 e3 e4 e5 e6 e7 e8 e9=>?_
 have hll:=h.hl
 have hlen:=h.len
 have Ls:((bh (gA (aC m 3))).length:Int)<=r->_:=λc=>h.str (s':=gA (aC m 3)) hi hr t1 t2 c
 have hlo:w<=loc:=hll.1
 have g1:au b (loc+i*w) w<=b.length:=by omega
 have g2:0<=r/\r<=1000000:=by omega
 have g3:au b (loc+i*w) w+r<=b.length:=by omega
 have g4:0<=au b (loc+i*w) w+ -1:=by omega
 have g5:((bh (gA (aC m 3))).length:Int)<256:=by omega
 have g6:b.length<=15000000:=by omega
 have hsr:rm.set i r=rm:=by
  have :=(List.getElem?_eq_some_iff.mp hr).2
  rw[<-this];exact List.set_getElem_self hir
 have hn:=Vx hr
 have hs:=λz=>Vw (r:=z) hir
 clear e1 e2 e3 e4 e5 e6 e7 e9 hll hlen hlo t3 hr f3 f4
 rw[<-hF,Vi]
 rw[e8,hn]
 have t4':fW (bG (bs (cR (c7 (cn (aC m 3))))))=(bh (gA (aC m 3))).length:=t4
 rw[t4']
 have t5:cC (bG (bs (cR (c7 (cn (aC m 3))))))=bh (gA (aC m 3)):=rfl
 rw[t5]
 refine bg hwb (bg rfl ⟨(n0 f1 f2 g6 g4 g1 t1 t2 g2.1 g2.2),gR (λc=>(bl ⟨g3,g5⟩ t2 (?_))) fun c=>⟨t2,?_⟩⟩)
 ·refine ia c ⟨t2,dJ (hs _) ?_⟩
  rw[decide_eq_true c]
  have L:=Ls c
  exact K.t (p:=.str (gA (aC m 3))) rfl (sA hil) L.1 (by rw[L.2];exact hb)
 ·refine m8 c (dJ rfl (dJ (hs _) ?_))
  rw[decide_eq_false c,hsr]
  exact K.f (p:=.str (gA (aC m 3))) rfl h hb
end
theorem VJ:bt b8 cL xn (br D_law) 193 (bj D_law 6) env σ QQ=bt b8 cL xn (br D_law) 193 (gi 5 (bj D_law 6)) env σ (kX b8 cL xn (br D_law) 188 (dc 5 (bj D_law 6)) QQ):=
 su 5 187 (bj D_law 6) env σ (dv (by kernel_rfl))
theorem kX_next{T:aI}:kX T U N C n r Q .next env σ=bt T U N C n r env σ Q:=rfl
theorem VK:kX b8 cL xn (br D_law) 188 (dc 5 (bj D_law 6)) QQ .next env σ=bt b8 cL xn (br D_law) 188 (gi 2 (dc 5 (bj D_law 6))) env σ (kX b8 cL xn (br D_law) 186 (dc 2 (dc 5 (bj D_law 6))) QQ):=
 kX_next.trans (su 2 185 (dc 5 (bj D_law 6)) env σ (dv (by kernel_rfl)))
theorem VL(h:Lay b row w loc rm)(hb:(b.length:Int)=n)(hq:Gj l n w loc v QQ)(hG:bt b8 cL xn (br D_law) 193 (bj D_law 6)=G):
  G (sr l n w a m) (bu row b v (d8 rm)) QQ:=by
 refine ju h.root fun r1 r2 r3 r4 r5 r6 r7=>?_
 have hn:=h.hn
 have hl:=h.len
 have hll:=h.hl
 have hz:mq (row.length:Int)=true:=by
  rcases(by lia:row.length=3\/row.length=4\/row.length=5\/row.length=6\/row.length=7\/row.length=8\/row.length=9) with e |e |e |e |e |e |e <;> rw[e] <;> decide
 have hpl:=jO (aC m 3+a) (n:=row.length) (f1 3 [(1,.n 3,v0),(2,.n 0,v0)] (.p (.n 0) (.n 1)) v0 rfl (aF hn.1) aY)
 obtain⟨i,hi⟩:∃i:Nat,aJ (aC m 3+a) row.length=i:=⟨_,(l4 hpl.1).symm⟩
 replace hpl:=hi▸hpl
 have hil:i<row.length:=dx (f2 1 [(1,.p v1 (.n 1),v0)] (.p v1 (.n 1)) v0 rfl hpl.2)
 obtain⟨p,hp⟩:∃p,row[i]? =aa p:=⟨_,eH hil⟩
 obtain⟨r,hr⟩:∃r,rm[i]? =aa r:=⟨_,eH (by simp only[h.rml];exact hil)⟩
 refine mf (h.at hp) fun _ _ f1 f2 f3 f4 f5 f6 f7=>?_
 have e:=h.el i p r hp hr
 have K:=Vy hq
 have hk:wk w=1\/wk w=2:=by unfold wk;split <;> simp
 have hw8:w<=8:=by clear hl;clear hll;clear f1;clear f2;clear f4;clear f5;clear f6;clear f7;clear hk;clear hq;rcases h.hw with rfl |rfl <;> decide
 have hd:=jO m (n:=3) (by decide)
 have h8:bc b (loc+(row.length*w+i))<108:=by
  clear hd;cases p with
  |int x=>rw[e.1];omega
  |bool x=>rw[e.1];omega
  |str x=>rw[e.1];decide
  |_=>exact e.elim
 rw[<-hG,VJ,U8,hi,Gi hp,r6,r4,h.cnt,r3,r2]
 refine bg hz (dJ rfl ⟨r1,bg rfl (bg rfl (bg r7 (bl (eC (by omega) (by lia) (by omega) (by lia)) (zc (by lia) (by omega) (by lia) (by lia) (by omega) (by lia) (by omega) (by omega) (by omega) h8) (?_))))⟩)
 simp only[VK]
 generalize hb2:(b.length:Int)-(loc+i*w)=rl
 generalize hF:bt b8 cL xn (br D_law) 188 (gi 2 (dc 5 (bj D_law 6)))=F
 clear h8;clear hb2;cases p with
 |int x=>
  have ht:bc b (loc+(row.length*w+i))/4=1:=by rw[e.1];omega
  rw[ht]
  rcases(by omega:aJ m 3=0\/aJ m 3=1\/aJ m 3=2) with d |d |d <;> rw[d]
  ·exact VA h hb K hF hp rfl
  ·exact VD h hb K hF
  ·exact VG h hb K hF
 |bool x=>
  have ht:bc b (loc+(row.length*w+i))/4=26:=by rw[e.1];omega
  rw[ht]
  rcases(by omega:aJ m 3=0\/aJ m 3=1\/aJ m 3=2) with d |d |d <;> rw[d]
  ·exact VB h hb K hF
  ·exact VF h hb K hF hp rfl
  ·exact VH h hb K hF
 |str x=>
  have ht:bc b (loc+(row.length*w+i))/4=5:=by rw[e.1];decide
  have hw1:(2:Int)^aj (bc b (loc+(row.length*w+i))%4)=1:=by rw[e.1];decide
  rw[ht,hw1]
  rcases(by omega:aJ m 3=0\/aJ m 3=1\/aJ m 3=2) with d |d |d <;> rw[d]
  ·exact VC h hb K hF
  ·exact VE h hb K hF
  ·exact VI h hb K hF hp rfl
 |_=>exact e.elim
theorem VM(hQ:∀row b rm,Lay b row w loc rm->Q .next (nv l n w) (bu row b v (d8 rm)))(hG:bt b8 cL xn (br D_law) 193 (bj D_law 6)=G):∀(items row:List PV) (b:List UInt8) (rm:List Int) (env:aw),
  (∀x∈items,∃a m:Int,x=.tuple [.int a,.int m])->Lay b row w loc rm->(b.length:Int)=n->cutE sB env=nv l n w->c9 G (gt D_law 5) [] sB items env (bu row b v (d8 rm)) Q:=by
 intro v0
 induction v0 with
 |nil=>
  intro row b rm env _ h hb he
  show Q .next (cutE sB env) (bu row b v (d8 rm))
  rw[he];exact hQ row b rm h
 |cons x r ih=>
  intro row b rm env hx h hb he
  obtain⟨a,m,rfl⟩:=hx x cM
  refine mY (env1:=sr l n w a m) (by rw[he];kernel_rfl) fun QQ hq=>VL h hb (λrow' b' rm' env' L hb' he'=>?_) hG
  exact hq env' _ trivial (ih row' b' rm' env' (λy my=>hx y (cU _ my)) L hb' he')
theorem ye(f:α->β)(lo hi:Option Int)(l:List α):slice lo hi (l.map f)=(slice lo hi l).map f:=by
 unfold slice
 rw[dT,List.map_drop,GV]
theorem VN(l:List α):(slice none (aa 6) l).length<=6:=by
 show((l.take (min 6 l.length)).drop 0).length<=6
 rw[jR,ip];lia
theorem VO(l:List α):(slice none (aa 3) l).length<=3:=by
 show((l.take (min 3 l.length)).drop 0).length<=3
 rw[jR,ip];lia
theorem VP(l:List α):(slice (aa 6) (aa 12) l).length<=12:=by
 show((l.take (min 12 l.length)).drop (min 6 l.length)).length<=12
 rw[jR,ip];lia
abbrev VQ(js:List Int):List PV:=js.map fE++[PV.int 300,PV.str (S "Za~Za"),PV.bool true]
theorem VR(h:p∈VQ js):d7 p/\∀s,p=.str s->fW s.cps.toList=(bh s).length:=by
 refine(let G:=_;(?_:G));rcases List.mem_append.mp h with h |h
 ·obtain⟨v,_,rfl⟩:=List.mem_map.mp h
  refine⟨Vq v,λs e=>?_⟩
  unfold fE at e
  split at e
  ·refine(let G1:=_;(?_:G1));cases e
  ·split at e
   ·refine(let G2:=_;(?_:G2));cases e
   ·split at e
    ·cases e;exact(yb (aC v 4)).2.2.2
    ·cases e
 ·simp only[cT,fu,or_false] at h
  rcases h with rfl |rfl |rfl
  ·exact⟨⟨by decide,by decide⟩,λs e=>nomatch e⟩
  ·exact⟨(bl (by decide) (by decide) (by decide)),λs e=>by refine(let G3:=_;(?_:G3));cases e;decide⟩
  ·exact⟨trivial,λs e=>nomatch e⟩
theorem VS(hp:∀p∈row,d7 p/\∀s,p=.str s->fW s.cps.toList=(bh s).length)(hR:R (d8 (row.map kU)) [(20,AObj.list row),(10,AObj.attrs (jc++[(S "finished",vB true)])),(0,AObj.inst d6 10),(1,AObj.ba b),(2,AObj.list [v])]):
  ga (λc=>aR b8 c 192) (dz (FCtx.mk (FnD.scope D_law) []) (gu D_law 1)) (gj (fQ D_law 1)) (lP D_law 1) [(20,row)] row [] [] [(20,AObj.list row),(10,AObj.attrs (jc++[(S "finished",vB true)])),(0,AObj.inst d6 10),(1,AObj.ba b),(2,AObj.list [v])] R:=by
 have h:=oN (α:=PV) (f:=λp=>p) (g:=λp=>.int (kU p)) (xs:=row) (E:=λy=>[(S "one",.pv y)]) (E0:=λc=>aR b8 c 192) (Cc:=(dz (FCtx.mk (FnD.scope D_law) []) (gu D_law 1))) (el:=gj (fQ D_law 1)) (t:=lP D_law 1) (src:=[(20,row)]) (R:=R)
  (σ:=[(20,AObj.list row),(10,AObj.attrs (jc++[(S "finished",vB true)])),(0,AObj.inst d6 10),(1,AObj.ba b),(2,AObj.list [v])]) (λ_=>by kernel_rfl) (λ_ _=>by kernel_rfl) ⟨by rfl,trivial⟩ (λp m K hK=>by
   refine ax (hp p m) fun g1 g2=>?_
   clear m;cases p with
   |int x=>simp only[Vk];exact hK
   |bool x=>simp only[Vl];exact hK
   |str x=>
    simp only[Vm]
    refine⟨g1.2.1,?_⟩
    rw[g2 x rfl];exact hK
   |_=>exact g1.elim) (by rw[show row.map (λp=>PV.int (kU p))=d8 (row.map kU) from by skip;simp only[yF];rfl];exact hR)
 rw[List.map_id'] at h
 exact h
theorem VT(h:Q):gd true Q:=h
def VU:Spec:=bS 181 DK fe fun l _ Q=>(∃is:List Int,l=is.map .int)/\∀σ',Q (vB true) σ'
theorem VV(g:G0 E):FXOk E [(rc,VU)]:=
 eN g (l:=x6) (bud:=180) (D:=D_law) (Uw g) (a8 (i:=78) rfl) (by kernel_rfl) (by decide) (bZ fun l _ Q h=>by
  obtain⟨⟨is,rfl⟩,q⟩:=h
  show RX b8 cL D_law [.pv (.list (is.map .int))] [] [] Q
  rw[RX_eq,UU,su 5 194 (bj D_law 0) _ _ (dv (by kernel_rfl)),UT,ye]
  have s6:=VN is
  generalize slice none (aa 6) is=js at *
  refine⟨by rw[dT];exact aO (f1 1 [(1,v0,.n 6)] v0 (.n 16777216) rfl (aF s6)),?_⟩
  refine oN (E:=λy=>[(S "number",.pv y)]) (g:=fE) (λ_=>by kernel_rfl) (λ_ _=>by kernel_rfl) (by exact trivial) (λm _ K hK=>?_) ⟨rfl,?_⟩
  ·simp only[Vj];exact hK
  have hlen:(js.map fE++[PV.int 300,PV.str (S "Za~Za"),PV.bool true]).length=js.length+3:=by
   simp only[bB,dT];rfl
  refine⟨by rw[dT];exact aO (f1 1 [(1,v0,.n 6)] (.p v0 (.n 3)) (.n 16777216) rfl (a:=↑js.length) (aF s6)),bg ?_ ⟨trivial,?_⟩⟩
  ·clear s6;clear hlen;cases js <;> rfl
  have hn:3<=(js.map fE++[PV.int 300,PV.str (S "Za~Za"),PV.bool true]).length/\(js.map fE++[PV.int 300,PV.str (S "Za~Za"),PV.bool true]).length<=9:=⟨aO (f2 1 [(1,.p v0 (.n 3),v1),(1,.n 0,v0)] (.n 3) v1 rfl (a:=↑js.length) (b:=↑(gC fE js++[PV.int 300,PV.str (S "Za~Za"),PV.bool true]).length) (fZ hlen) aY),aO (f2 1 [(1,v0,.n 6),(1,v1,.p v0 (.n 3))] v1 (.n 9) rfl (a:=↑js.length) (b:=↑(gC fE js++[PV.int 300,PV.str (S "Za~Za"),PV.bool true]).length) (aF s6) (eO hlen))⟩
  have hp:∀p∈js.map fE++[PV.int 300,PV.str (S "Za~Za"),PV.bool true],d7 p/\∀s,p=.str s->fW s.cps.toList=(bh s).length:=λp m=>VR m
  have h3:PV.int 300∈js.map fE++[PV.int 300,PV.str (S "Za~Za"),PV.bool true]:=GX _ cM
  generalize js.map fE++[PV.int 300,PV.str (S "Za~Za"),PV.bool true]=row at *
  refine US (λp m=>(hp p m).1) hn h3 fun b v n loc L=>?_
  refine ju L.root fun r1 r2 r3 r4 r5 r6 r7=>?_
  have hl:=L.len
  have hll:=L.hl
  have hn0:0<n:=by rcases L.hw with e |e <;> simp only[e] <;> decide
  have hm:(0:Int)<=row.length*n:=gU (f1 1 [(1,.n 0,v0)] (.n 0) v0 rfl aY) (by rcases L.hw with e |e <;> simp only[e] <;> decide)
  rw[r6,r4,r3,r2]
  refine⟨r1,bg rfl (bg rfl (bg r7 (bl (eC (by omega) (f2 1 [(1,v0,.m v1 (.n 3))] (.p v0 (.n 1)) v1 rfl (dR r5)) (f2 1 [(1,v0,v1)] (.n 0) (.p v1 (.g v0)) rfl hll.1) (f4 403 [(400,.p (.p v2 (.p v3 v0)) (.n 3),v1),(3,v2,.n 400),(400,.n 0,v3),(400,.n 0,v0),(3,.n 0,v1)] v2 v1 rfl (cz hl) hll.2 hm aY aY)) (aO (f1 1 [(1,v0,.n 9)] v0 (.n 16777216) rfl (aF hn.2))) (?_))))⟩
  refine VS hp ⟨rfl,?_⟩
  simp only[kX_next,UV,UW,UX,UY]
  refine VT ?_
  rw[UZ,ye,ye]
  have s3:=VO is
  have s12:=VP is
  generalize slice none (aa 3) is=ks at *
  generalize slice (aa 6) (aa 12) is=ms at *
  refine⟨by simp only[dT,dT];exact aO (f2 1 [(1,v0,.n 3),(1,v1,.n 12)] (.p v1 v0) (.n 16777216) rfl (aF s3) (aF s12)),?_⟩
  refine VM (l:=is.map .int) (loc:=loc) (λrow' b' rm' L'=>?_) rfl _ row b (row.map kU) _ (λx hx=>?_) L rfl (by kernel_rfl)
  ·simp only[U9]
   exact(i13 row' L'.doc (bl rfl L'.simp.1 L'.simp.2) (q _))
  ·refine(let G:=_;(?_:G));obtain⟨⟨p,k⟩,hm',rfl⟩:=List.mem_map.mp hx
   have e:=(List.mem_zipIdx hm').2.2
   have hm2:p∈(ms++ks).map PV.int:=by
    simp only[WV,e];exact yE _
   refine e12 (List.mem_map.mp hm2) fun y _ hy=>?_
   exact(i21 k y (by simp only[<-hy])))
theorem VW(h:(KK P).lookup a=aa o):a∈KA/\(T8 P).get a=aa o:=by
 unfold KK at h
 have :∀l:List Addr,(l.filterMap fun a=>((T8 P).get a).map fun o=>(a,o)).lookup a=aa o->a∈l/\(T8 P).get a=aa o:=by
  intro l
  induction l with
  |nil=>intro h;exact aD h
  |cons b l ih=>
   intro h
   rw[sR] at h
   cases q:(T8 P).get b with
   |none=>rw[q] at h;exact⟨cU _ (ih h).1,(ih h).2⟩
   |some x=>
    rw[q] at h
    change bN a ((b,x)::_)=aa o at h
    simp only[cr] at h
    cases e:a == b with
    |true=>replace h:=e▸h;have z0:=ac h;refine eqL z0 ?_;rw[cE e];exact⟨cM,q⟩
    |false=>replace h:=e▸h;exact⟨cU _ (ih h).1,(ih h).2⟩
 exact this KA h
theorem VX(h:a∈KA):(H1 P).get? a=(T8 P).get a:=by
 have k:=du.mp (N1 P) a h
 replace k:=b2 k
 have hl:a<1440:=by have :=k.1;unfold Hb at this;exact dv this
 cases q:(T8 P).get a with
 |none=>replace k:=q▸k;exact bn k.2
 |some o=>
  replace k:=q▸k
  unfold H1
  rw[abs_get hl q]
  have :o.isFreed=false:=by have :=k.2;simpa using this
  obtain⟨c,d,dt,sl⟩:=o
  clear q;clear k;cases dt with
  |freed=>exact bn this.symm
  |_=>rfl
def says(w:bD)(h:Heap):Prop:=∀a o,(KK w.params).lookup a=aa o->h.get? a=aa o
def hook:Hook where
 α:=List (Option Obj)
 obs:=λs=>KA.map fun a=>s.heap.get? a
 val:=λw=>KA.map fun a=>(T8 w.params).get a
 says:=says
 of:=λw s h a o e=>by
  obtain⟨m,g⟩:=VW e
  rw[<-g]
  exact List.map_inj_left.mp h a m
 keeps:=λw h h' k keep a o e=>keep a o (k a o e)
theorem look_hook(w:bD)(os:jU):hook.obs ⟨H1 w.params,⟨[]⟩,{},2205,os⟩=hook.val w:=
 List.map_inj_left.mpr fun a m=>VX m
theorem yf{K:Frag}{h:Heap}{a:Addr}{m:Str->Option Value}{x:Str}{r:Option Value}(hK:∀a o,K.lookup a=aa o->h.get? a=aa o)(hn:h.Ns a m)(e:iR K a x=aa r):m x=r:=by
 refine e34 hn fun o es ep h1 h2 _ h4=>?_
 unfold iR at e
 split at e
 ·rename_i c d es' n sl ho
  have :=hK _ _ ho
  replace this:=h1▸this
  have z0:=ac this;clear h1;clear ho;clear this;subst z0
  cases h2
  rw[<-h4]
  unfold nsFind findBy
  rw[<-Wd]
  split at e
  ·rename_i en he;rw[he];have z1:=ac e;refine eqL z1 ?_;rfl
  ·rename_i he
   rw[he]
   split at e
   ·exact aD e
   ·have z2:=ac e;refine eqL z2 ?_;rfl
 ·exact aD e
theorem VY:RoomX pG 181:=⟨⟨by decide,by decide,rfl⟩,rfl⟩
abbrev Gk(q:Program)(loose:List Str)(YP:bD->Heap->Prop)(r:RowW)(d:DefRec)(kwd:List (Str×Expr)):Prop:=
 ∀(w:bD) (s₀ s₁:Shared) (mg mb:Str->Option Value),Ground q loose r.records (λ_ _=>True) w s₀ mg mb s₁.heap->YP w s₁.heap->∀(a:Addr),mg d.name=aa (.ref a)->s₁.gens=#[]->
  ∀(args:List WData) (vals:List Value),r.claim.pre args=true->Xz args=true->(∃ord,layAllW r.records (classAt s₀.heap) w.params ord args s₀=aa (vals,s₁))->
   aG (aH r.prog w) pG (bO (.ref a) vals) (λv s'=>GoodWG r.claim (classAt s₀.heap) (ExcName.means s₀.heap) args s₁ (.ok (.ret v)) s') s₁
theorem holds_Y{r:OpenRow}{q:Program}{loose:List Str}{α:Type}{Xt:Shared->Bool}{Yf:Shared->α}{Ya:bD->α}{YP:bD->Heap->Prop}{d:DefRec}{kwd:List (Str×Expr)}{N:Nat}
  (left:LeftO r.prog q loose Xt Yf Ya N) (hY:∀w s,Yf s=Ya w->YP w s.heap) (hYk:∀w h h',YP w h->(∀b o,h.get? b=aa o->h'.get? b=aa o)->YP w h')
  (hdef:defOf q r.name=aa (d,kwd)) (hp:r.prog.theDef r.name=aa (d.params,d.body,d.scope)) (hk:kwWritten? d.params.kwonlyargs d.params.kw_defaults=aa kwd) (hRf:∀s,Xt s=true->RecFacts r.records s.heap) (hwr:(!r.writes||r.records.isEmpty)=true)
  (k1:r.wellSaid=true) (ok:(chainsOk q&&opensWell r.prog&&(frees r.toRowW&&r.within.isEmpty))=true) (hb:r.prog.bare) (hw:r.toRowW.promised)
  (call:Gk q loose YP r.toRowW d kwd):r.Holds:=by
 refine(let G:=_;(?_:G));refine ax (Bool.and_eq_true_iff.mp ok) fun ok k5=>?_
 refine ax (Bool.and_eq_true_iff.mp ok) fun hch o1=>?_
 refine ax (Bool.and_eq_true_iff.mp k5) fun k5 k6=>?_
 refine fN (frees_parts k5) fun hsame hu ha hap hm=>?_
 refine⟨k1,hw,(bl hb o1 (by show r.makers.map _=[];rw[hm];rfl)),hw.witness,λw=>⟨(left.behind (XP:=λ_ _=>True) (λ_ _=>trivial) hch w).1,λs' hs'=>?_⟩⟩
 refine(let G1:=_;(?_:G1));obtain⟨s₀,hf,hg0,s,hT,hz,hgens,hg,G00,y⟩:=(left.behind (XP:=λ_ h=>True/\RecFacts r.records h) (λs hs=>⟨trivial,hRf s hs⟩) hch w).2 s' hs'
 have G0:Ground q loose [] (λ_ _=>True) w s (s.heap.nsMap mainGlobals) (s.heap.nsMap nN) s.heap:=⟨G00.T,G00.B,G00.D,G00.TE,G00.TD,G00.W,G00.X.1,G00.cls,G00.has,G00.apart,G00.once,G00.K⟩
 have RF:=G00.X.2
 have hT':=hT
 refine⟨s₀,hf,hg0,s,hT,λn hn=>?_,RF.1,RF.2.1,?_⟩
 ·obtain rfl:n=r.name:=by split at hn <;> simp_all
  exact pinned_of_view hg G0 hdef hp hk
 have hgens:s.gens=#[]:=Array.eq_empty_of_size_eq_zero (beq_iff_eq.mp hgens)
 have G:Ground q loose r.records (λ_ _=>True) w s _ _ s.heap:=RF.ground G0
 refine Mn (c:=r.toRowW.claim) hz hgens fun args hpre hlay ord hord=>?_
 refine(let G2:=_;(?_:G2));refine e11 (Option.isSome_iff_exists.mp (layAllW_isSome (P:=w.params) (ord:=ord) G.has args r.args s (pre_splitW hpre).1)) fun z0 hlaid=>?_;obtain⟨vs,s₁⟩:=z0
 have keeps:=layAllW_keeps _ _ _ hlaid
 have hal:=layAllW_rest _ _ _ hlaid
 refine e13 (reads_layAllW hord _ _ _ hlaid hlay s₁.heap (λ_ _ e=>e)) fun as hrd hin hold=>?_
 have L:Laid r.records w s s₁ args vs as:=⟨(i12 ord hord hlaid),hrd,hin,hold,keeps,hal.1.trans hgens,hal.2.2.1⟩
 have G₁:=G.keeps (λ_ _ _ _ _=>trivial) keeps
 refine e75 (G₁.fn hdef) fun a o pm cd doc dV kV h1 h2 h3 h4 h5=>?_
 have hn:=defOf_name hdef
 have main:=call w s s₁ _ _ G₁ (hYk _ _ _ (hY w s y) keeps) a (hn▸h1) L.gens args vs hpre hlay ⟨ord,hlaid⟩
 have hi:=ident_freeW hu ha hap
 have hwi:r.toRowW.claim.within=[]:=GR.mp k6
 refine(i22 vs s₁ hlaid (?_))
 refine X.bind (X.up (wpAny_nsGet G₁.T.g ?_))
 simp only[h1]
 refine X.bind (X.mono main fun v s' g=>?_)
 refine X.pure (i12 _ rfl (?_))
 have z:=g.laid (c:=r.toRowW.claim) hsame hwi hi L
 exact(eC z.1 z.2.1 z.2.2 (λq=>⟨namesKept_of hT' hg _ keeps g.2.1.old,noTable hwr q⟩))
theorem VZ{ord:List DictEntry->List DictEntry}:∀(is:List Int) (s:Shared) (r:List Value×Shared),layAllW R cl P ord (is.map .int) s=aa r->All2 (RepP P' I) (is.map .int) r.1:=by
 intro v0
 induction v0 with
 |nil=>
  intro s r h
  have :r=([],s):=by
   have h:aa (([]:List Value),s)=aa r:=h
   have z0:=ac h;refine eqR z0 ?_;rfl
  rw[this];exact All2.nil
 |cons i is ih=>
  intro s r h
  obtain⟨a,q,h1,h2,rfl⟩:=layAllW_cons h
  have e:a=(.int i s.toks,{s with toks:=s.toks+1}):=by
   have h1:aa (Ho i s.toks,{s with toks:=s.toks+1})=aa a:=h1
   have z1:=ac h1;clear h;clear h1;refine eqR z1 ?_;rfl
  rw[e] at h2 ⊢
  exact All2.cons .int (ih _ _ h2)
theorem V6:∀is:List Int,is.length<=Hu (is.map .int):=by
 intro v0
 induction v0 with
 |nil=>
  exact iQ _
 |cons i is ih=>
  have :=ih
  show is.length+1<=WData.weight (.int i)+1+Hu (is.map .int)
  exact aO (f3 1 [(1,v0,v1),(1,.n 0,v2)] (.p v0 (.n 1)) (.p (.p v2 (.n 1)) v1) rfl (aF ih) aY)
theorem V7(P:bq):iR (KK P) 3 lawD.name=aa (aa (.ref rc)):=by kernel_rfl
theorem V8(Y:says w h)(hg:h.Ns mainGlobals mg)(hb:∀x:Str,x≠"__name__"->mb x=tm x):G0 ⟨pw,w,KK w.params,mg,mb⟩ where
 p:=by dsimp only
 K:=by dsimp only
 m1:=by
  intro x v e
  dsimp only at e ⊢
  exact yf (K:=KK w.params) (a:=3) Y hg e
 m0:=by
  intro x e
  dsimp only at e ⊢
  exact yf (K:=KK w.params) (a:=3) Y hg e
 b:=hb
theorem V9{E:Env0}(g:G0 E){s:Shared}(B:Base E s.heap.get?){is:List Int}{ws:List Value}{a:Addr}(hl:s.heap.get? a=aa (bQ ws 0))(hz:All2 (RepP E.w.params s.heap.get?) (is.map .int) ws)(hb:(is.map PV.int).length<=aW):
  aG E.M pG (bO (.ref rc) [.ref a]) (λv s'=>v=.bool true/\(∀b o,s.heap.get? b=aa o->s'.heap.get? b=aa o)/\s'.os=s.os/\s'.gens=s.gens) s:=by
 have V:HInv E ⟨s.heap.get?,λ_=>none,[]⟩ s.heap:=⟨B,λ_ _ e=>e,λk o e=>(nomatch e),λk a e=>(nomatch e),λk a e=>(nomatch e),λk j a e=>(nomatch e)⟩
 have R:=(VV g _ (List.mem_singleton.mpr rfl)).1 pG s ⟨s.heap.get?,λ_=>none,[]⟩ [.pv (.list (is.map .int))] [.ref a] [] [] (λr _=>r=vB true) VY V (All2.cons (RepA.pv (RepP.list hl hb hz.1 hz.2)) All2.nil) All2.nil ⟨⟨is,rfl⟩,λ_=>rfl⟩
 refine X.mono R fun v s' h=>?_
 obtain⟨d,r,x,V',rp,rfl,_,_,_,_,hg,_,hos⟩:=h
 refine⟨?_,λb o e=>V'.keep b o (x.I b o e),hos,hg⟩
 cases rp with
 |pv rp=>cases rp;rfl
theorem Wa(Y:says w h)(hg:h.Ns mainGlobals mg)(hn:h.Ns nN mb)(hl:h.NoLimit)(hb:∀x:Str,x≠"__name__"->mb x=tm x):Base ⟨pw,w,KK w.params,mg,mb⟩ h.get? where
 K:=by
  intro a o e
  dsimp only at e
  exact Y a o e
 top:=by
  intro h' k
  dsimp only
  exact⟨hg.keeps k,hn.keeps k,hl.keeps k⟩
 blt:=hb
theorem Wb:rw2.toRowW.prog=pw:=by kernel_rfl
theorem Wc:rw2.toRowW.args=[.list .int]:=by kernel_rfl
theorem walk2:Gk hq mR says rw2.toRowW lawD []:=by
 intro w s₀ s₁ mg mb G Y a hga hgens args vals hpre hlay hl
 obtain⟨ord,hl⟩:=hl
 have h0:=(pre_splitW hpre).1
 rw[Wc] at h0
 obtain⟨d,r,rfl,h1,h2⟩:=hasAllW_cons h0
 obtain rfl:=hasAllW_nil h2
 obtain⟨xs,rfl,h3⟩:=hasW_list h1
 obtain⟨is,rfl⟩:=items_int h3
 obtain⟨b,q,e1,e2,e3⟩:=layAllW_cons hl
 obtain⟨z,l1,rfl⟩:=layW_list e1
 have e2:aa (([]:List Value),_)=aa q:=e2
 cases e2
 obtain⟨rfl,rfl⟩:=Prod.mk.inj e3
 have g:=V8 Y G.T.g G.T.builtins
 have ha:a=rc:=by
  have :=yf (K:=KK w.params) (a:=3) Y G.T.g (V7 w.params)
  rw[hga] at this
  cases this;rfl
 subst ha
 have hbig:(is.map PV.int).length<=aW:=by
  have hw:=hlay
  have hw:=(layW_cons hw).1
  unfold WData.layable at hw
  rw[bC,decide_eq_true_iff] at hw
  have :=V6 is
  have hw2:Hu (is.map .int)<=2^20:=hw.2
  rw[dT]
  show _<=16777216
  omega
 have R:=V9 g (Wa Y G.T.g G.T.b G.T.nolimit G.T.builtins) (d9 _ rfl) (VZ is _ _ l1) hbig
 unfold Env0.M at R
 dsimp only at R
 rw[Wb]
 refine X.mono R fun v s' h=>?_
 obtain⟨rfl,hk,hos,hg⟩:=h
 exact⟨.inl ⟨_,_,[],rfl,λ_=>rfl,ReadsW.bool true,(by wrow_post),λ_=>⟨G4,λ_ hm=>(nomatch hm)⟩⟩,OldK.of_keep hk,hos,AllBare.of_eq (hg.trans hgens)⟩
end Mine
end
noncomputable section
open PySem PySem.W PySem.Calls PyProof.Rows
namespace Mine
theorem rw2_recs:rw2.toRowW.records=[]:=by kernel_rfl
theorem rw2_wr:(!rw2.writes||rw2.records.isEmpty)=true:=by kernel_rfl
end Mine
theorem PySem.Challenge.cw_jd0011_02_holds : PySem.Challenge.rw_jd0011_02.Holds :=
 holds_law Mine.wsaid fun wk=>Mine.holds_Y (Mine.headLeft Mine.hook Mine.look_hook) Mine.hook.of Mine.hook.keeps Mine.hdef2 Mine.theDef Mine.kww (λ_ _=>recFacts_nil Mine.rw2_recs) Mine.rw2_wr wk Mine.oks Mine.rbare Mine.promised Mine.walk2
end
