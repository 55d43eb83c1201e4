import PyProof.Rows.All
import Lean
import Wide.All
import OpenK.AllK
import Wide.FinOn
import PyProof.Draws
import PyProof.GenRules
import PyProof.GenObj
import PyProof.StrLoop
import PyProof.PureStr
import PyProof.MeetsSeq
import PyProof.AutoSeq1
import PyProof.JoinWalk
import PyProof.GenCompD
import KE.KSuper
import PyProof.EnumMake
import PyProof.ListNew
import PyProof.PvWalk
import PyProof.RaisesMany
import PyProof.RulesAs
import KE.KIntText
import PyProof.CallFns
import PyProof.MeetsDict
import PyProof.DictStraight
import PyProof.AutoIntG4
import PyProof.AutoIntOps
import PyProof.PureInt
import PyProof.EqLayable
import PyProof.Rows.TupAssign
import PyProof.ForAny
import PyProof.SliceList
import PyProof.StrLawsIn
import PyProof.CompMap
import PyProof.RulesAssignMore
import PySem.Challenge.RW_te0068_01
set_option Elab.async false
set_option maxRecDepth 100000
set_option maxHeartbeats 8000000
set_option linter.all false
set_option tactic.hygienic false
set_option genInjectivity false
set_option genSizeOf false
set_option genSizeOfSpec false
section
open And renaming intro->ě
open Array renaming getElem?_eq_some_iff->iq,getElem?_eq_getElem->wG,getElem?_setIfInBounds_self_of_lt->zj,size->zO,getD_eq_getD_getElem?->Co,getElem?_eq_none->Cv,ext'->DJ,getElem?_setIfInBounds_ne->K9,size_setIfInBounds->Kj,size_eq_zero_iff->Kn,getElem?_push_lt->Ko,mem_of_getElem?->Ks,mem_toList_iff->Kx
open Bool renaming false->X,true->U,and_eq_true->ox,false_ne_true->zp,false_eq_true->õ,and_eq_true_iff->Cz,false_and->D0,or_false->D9,or_eq_false_iff->Kw,noConfusion->Lc
open Classical renaming byContradiction->b7x,epsilon_spec->b83,epsilon->b88
open Iff renaming rfl->ua
open Int renaming toNat_natCast->wK,natCast_nonneg->CB,fmod_lt_of_pos->CC
open List renaming count_append->ft,count_cons->fv,mem_cons->fw,count_nil->fz,mem_append->fJ,length_map->gi,getElem?_eq_getElem->gv,nodup_cons->gI,map_cons->ir,getElem?_map->iJ,mem_map->iN,range->iQ,mem_map_of_mem->jd,range'->lC,not_mem_nil->m9,length_cons->ma,map_append->mc,append_nil->md,getElem?_cons_succ->nA,getElem?_eq_some_iff->ot,nodup_append->ow,mem_of_getElem?->pv,mem_singleton->pw,nodup_nil->pB,length_append->qy,filterMap_cons->tF,mem_filterMap->tG,getElem?_eq_none->uP,replicate->uW,map_map->uY,eq_nil_of_length_eq_zero->wA,getD_eq_getElem?_getD->wB,getElem?_range->zo,nodup_range'->zq,getElem_mem->zv,length->zK,length_singleton->ò,getElem?_of_mem->ó,pairwise_map->ö,all_eq_true->ù,count->ď,map_inj_left->CE,length_range->CF,append_assoc->CI,cons_append->CK,length_nil->CR,mem_range->CY,map_nil->Dh,pairwise_iff_getElem->Kh,length_eq_zero_iff->Kl,perm_iff_count->KG,length_range'->KN,getElem_range->KO,size_toArray->KX,getElem?_inj->KY,ext_getElem?->KZ,range'_succ->L7,lookup_cons->L8,getElem_map->L9,ext_getElem->La,any_eq_true->Lb,nil_append->Lj,isPerm_iff->Lk,Pairwise->Lz
open List.Pairwise renaming imp_of_mem->ï
open List.Perm renaming swap->qD,refl->CZ,append_right->b82,append_left->b84
open List.cons renaming inj->rZ,injEq->CS
open Nat renaming le_of_ble_eq_true->cL,le_trans->dZ,lt_of_lt_of_le->fm,le_refl->gz,not_lt->iA,lt_irrefl->jq,ble->ju,beq->kq,ne_of_lt->kR,zero_add->lj,lt_succ_of_lt->lR,lt_succ_self->nC,ne_of_gt->oy,zero_le->oz,le_of_not_lt->pz,le_of_eq->pD,le_of_lt->qF,lt_of_le_of_lt->rV,le_succ_of_le->rX,succ_pos->s6,add_zero->s7,eq_of_beq_eq_true->tD,le_add_left->tH,not_lt_zero->uT,add_le_add_right->wH,add_left_cancel->wJ,succ_lt_succ->zt,le_add_right->zu,blt->r_,mul_assoc->ü,mul_comm->ă,mul_add->ć,le_succ->Ĉ,mod_lt->Ď,rec->ŋ,add_sub_cancel_left->Cr,lt_succ_of_le->CD,add_assoc->D7,mul_zero->Df,lt_trans->Dg,one_mul->Dx,pos_of_ne_zero->KL,lt_trichotomy->KW,succ_le_succ->L5,not_lt_of_le->L6,beq_refl->LJ,add_comm->LK,mul_one->LP,not_le->M5,blt_eq->M6
open Nat.succ renaming inj->De
open Ne renaming symm->mr
open Option renaming some->Y,none->W,map_eq_some_iff->jc,bind_eq_some_iff->pq,isSome_iff_exists->Ki,map_some->Li
open Option.some renaming inj->jo
open Prod.mk renaming inj->eo
open PyProof.Rows renaming IntsAre->FN,Assign_Tuple->b7w
open PySem renaming Addr->bU,Obj->bV,Value->bX,model->bZ,Str->cb,Shared->cc,wpAny->cm,Tok->cp,Sem->cD,wpAny_bind->cJ,Code->cN,Around->cR,Stmt->dd,Env->di,execs->dj,Pos->dK,codeAny->dQ,Result->dX,wpAny_pure->ed,Heap->eV,GenState->eY,Fin->fE,table->fV,Params->g9,denote->gp,eval->gr,Flow->gK,sizeLine->iR,wpAt->je,wpAny_field->jr,Frame->jx,codeAny_call_builtin->kg,Args->kF,wpAt_of_wpAny->kQ,wpAny_mono->kS,World->lJ,newExc->lS,wpAny_throw->ml,rawInt->mA,pushEnvs->mS,field->mZ,wpAny_newObj_type->nB,FuncData->nE,pyIter->nM,code->oH,starEach->oI,pyNext->oO,foldedSetIterable->px,wpAny_standAt->pC,typeIs_str->pE,DictEntry->pF,leaving->pH,backTo->pM,rule->q8,letOwnedTupleGo->qz,firstArgMember->qC,wpAny_holding->qE,execs_cons->qH,standAt->qN,wpAny_setField->rY,raiseNew->s9,envsOf->se,Resume->sf,strIterType->tL,call->tO,noteFrame->tP,OsState->tY,Keyword->tZ,Model->uu,codeAny_builtin->uS,isSubtype_type->uU,slot_gen_next->uX,keywordEach->uZ,wpAny_rule->v8,typeIs_int->v9,methodCall->vb,isSubtype->vf,backToKw->vk,holding->vo,argsOk->vB,Gives->vT,theTreesLotGoes->wL,ExceptHandler->wN,wpAny_of_eq->wW,pushEnvs_eq->wX,isTrue->wY,treeTable->xd,cStatics->xf,unitsOf->xr,notedBy->xt,runOwn->xJ,assign->xK,exec->yx,checkBuiltinCall->zr,wpAt_bind->zw,wpAny_updateSeq->zx,recursionLimit->zy,wpAny_handled->zE,plainId_quiet->zF,attributeBase->zG,sizeLine_eq->zJ,wpAny_load->zL,frameCount->zM,updateSeq->zV,seqItems?->zW,newTuple->h_,entryFor->i_,ReadsAll->j_,newList->p_,PyData->C',slot_listiter_next->ô,wpAny_roomToWake->ø,wpAny_ite_true->ú,wpAny_typeOf->þ,codeAny_mono->ÿ,wpAny_letGo->ą,isInstance->č,swapsWith->ĕ,slicePick->Ė,numTextOf->ė,numSeenOf->Ę,marksOver->ę,passing->Ň,forTurn->ň,wpAny_letOwnedTupleGo_enum->Cp,codeAny_call_builtin_at->Cq,wpAny_handleBy_builtin->Cs,wpAny_stack_any->CM,wpAny_specialOf->CN,wpAny_genNumber->CO,execs_cons_wrap->CP,wpAny_listPart->CU,wpAny_genState->CV,newFunctionEnv->CW,entry_gen_next->CX,wpAt_mono->D3,wpAny_onRaise->D4,arm_eval_Call->D5,args_gen_next->D6,mainGlobals->Dm,interactive->Dn,strKind_is->DG,setFlight->E5,compareOp->E6,IsEnumOut->E8,joinTail->EG,bindName->EH,strKind->FF,getAttr->FH,collect->FI,callerA->FJ,Program->FK,Builtin->FL,wpAny_callSpecial?_slot->Kk,codeAny_compStart_list->Km,wpAny_pyIter_listiter->Kq,codeAny_compLoop_list->Kr,unbindBehindTheSuite->Kt,entry_listiter_next->Ky,ks_wpAt_execs_cons->KH,args_listiter_next->KI,wpAny_pyIter_strU->KP,wpAny_pyIter_list->KQ,wpAny_Try_except->L1,ks_wpAt_Expr_any->L3,runs_wrap_of_wp->Ld,importedModules->Lg,wpAny_seqItems->Lm,wpAny_ListComp->Ln,code_inj->Lo,sub_enumerate->Lw,Comprehension->Ly
open PySem.Around renaming under_plainId->uQ,mark->Dw
open PySem.AutoIntG4 renaming int___floordiv___int_int_1->b2k
open PySem.AutoIntG6 renaming int___mod___int_int_1->b7u
open PySem.AutoListH renaming list_append_list_val_0->b7r
open PySem.Builtin renaming divisionGoesByPylong->Kb
open PySem.Builtin.Generator renaming genWake->wC,genLeft->wF,madeByALambda->b7t,genEscaped->b7v
open PySem.Builtin.List renaming listExtendWith->zk,listSameRef->î,listItems->ñ,listSubscript?->Kd,listLengthHint->Ke,listUpdate->b80,listTouch->b81
open PySem.Builtin.Str renaming tooLong->KE,occurrences->KV,glued->b87
open PySem.Challenge renaming rw_te0068_01->nz,pw_te0068_01->Ka
open PySem.Code renaming func->lD,weight->Du,cUnits->Dv,forLoop->LH,guards->LO,block->M4,envs->MT
open PySem.Data renaming fields->LN,func->MS
open PySem.EntryCells renaming newEntry->KD
open PySem.F renaming plain_extend_loop->rU,entry_extend_loop->zl,slot_str_ascii_iterator_next->ì,slot_str_iterator_next->í,entry_enumerate_new->Cy,slot_str_join->CQ,args_str_ascii_iterator_next_1->K7,entry_str_ascii_iterator_next->K8,args_str_iterator_next_1->Kf,entry_str_iterator_next->Kg,slot_dict_contains->Kv,slot_list_getitem->Kz,slot_dict_getitem->KC,ks_slot_super_ga->KJ,plain_list_iadd->KU,slot_str_split->L4,slot_str_len->Lq
open PySem.Frame renaming where_->tK
open PySem.GenResult renaming yielded->KS
open PySem.GenStatus renaming fresh->Lh
open PySem.Heap renaming lt_size->fc,get?_push_of_some->gF,get?_push_size->kj,size_push->mf,get?->nD,get?_update_self->ou,push->tQ,SameBut->wV,get?_update_other->ð,size_after_update->Cu,get?_none_of_le->Ku
open PySem.Heap.SameBut renaming update->rR
open PySem.Manifest renaming find?->Lp
open PySem.MeetsSeq.EqGives renaming int->b86
open PySem.NumText renaming step->Ă,prefix?->Ŋ,digit?->Ť
open PySem.Obj renaming mapSeq->ll,mapFields->zH,isFreed_of_fields->Cw,data_mapFields->CA
open PySem.PyData renaming canLayAll0->rW,depthAll->wM,strOk->wQ,canLay0->zA,depth->ā,eqv->DI
open PySem.Reads renaming none->M3
open PySem.Resume renaming send->Ć,throw->LG
open PySem.Sem renaming wrap_wrap->mj,bind_eq_wrap'->mP,bind_eq_wrap->uR,wrap_congr->uV,onRaise_eq_wrap->wI,wp->xN,wp_mono->Ds,onRaise->Dt,wp_bind'->LF,wrap->P4
open PySem.SeqAt renaming shaped->Ā,compareNe_shaped->Ct
open PySem.Str renaming mk->bW,ofString->gj,length->zN,join->P2
open PySem.StrLaws renaming found_one->b7z
open PySem.Value renaming ref->R,none->jt,type->T,str->S,int->I
open PySem.W renaming boot_heap->vg,topFrame->Į,behindTheImports->CJ
open PySem.W.BT renaming get_node->Dq,get_ins->DH,get_set->M2
open PySem.W.Fast renaming te14364793385576792824->ë,te5923862056798008813->JZ,sEq_iff->LD,sEq->P1,te15667345088766844465->b44,te14374325043358763698->b45,te14082659384304107361->b46,te11892475500146522536->b47,te10110043849684766642->b48,te9446332074065402090->b6f,te8920871248978507458->b6g,te4187177175401517315->b6h
open PySem.W.R renaming filterR->xe
open PySem.W.SZ renaming s658472552662922059x5->Cn,s7801419657504700863x10->JR,s7689518266570723881x14->JS,s5991306692159431302x13->JT,s4278001404047624695x13->JU,s3492446563574874994x13->JV,s15660640913423913556x4->JW,s14340494229221121180x9->JX,s14018661285674007319x4->JY,s9222952809800978799x4->K1,s6658869562736209489x6->K3,s4674234679698826739x5->K4,s4290257624100764138x5->K5,s2766695959194262286x5->K6,s18239426817015966623x15->b30,s18039099521571816885x18->b31,s17722149559621369488x16->b32,s17586630440231065808x18->b33,s17481586968713580700x14->b34,s17467278006356818441x17->b35,s16656946322747308186x12->b36,s16626165730633575011x14->b37,s16115879512475548326x12->b38,s16067994140765818257x11->b39,s15920661018069861047x16->b3a,s15679963881808890155x10->b3b,s15234114252648025395x21->b3c,s15183661809925369436x15->b3d,s14816307405966870543x14->b3e,s14755015743595814543x17->b3f,s14539662485746970245x23->b3g,s14457978657717015782x11->b3h,s14400166428656793546x20->b3i,s14288496050688921416x11->b3j,s14119380538032626715x11->b3k,s14090480608605856794x12->b3l,s13915890719876406383x10->b3m,s13500813778147066322x18->b3n,s13351283678309829046x18->b3o,s13337502604062700212x15->b3p,s13114017843053701147x15->b3q,s13042696260734638735x12->b3r,s12913350958174193794x18->b3s,s12411053484034534018x21->b3t,s12041534306414923332x18->b3u,s11817881795495490833x17->b3v,s11665532747177232413x24->b3w,s11643622729373238714x14->b3x,s11443829558043349243x14->b3y,s10779130036587390575x21->b3z,s10696252587037064777x22->b40,s10220274742760427390x26->b41,e14090480608605856794x12->b42,e13500813778147066322x18->b43,s9001593270443806431x14->b49,s8991790508128307865x19->b4a,s8682627914449686677x12->b4b,s8496462677383758984x14->b4c,s8117915138073963741x13->b4d,s8008927332132565319x10->b4e,s7855274175708717672x17->b4f,s7852717498200857586x20->b4g,s7804999707787243718x20->b4h,s7410770068591931388x13->b4i,s7097527257260152453x26->b4j,s6882542574934516792x11->b4k,s6779124196712981104x10->b4l,s6668348653404991179x15->b4m,s6585700554429387442x18->b4n,s6511155373996960695x17->b4o,s6070975301684473832x10->b4p,s6016482663378992977x10->b4q,s6011586214260557989x15->b4r,s5857708277339239366x20->b4s,s5735081916595925998x15->b4t,s5699418376593618685x17->b4u,s5430567037509283100x13->b4v,s5160863994218179198x17->b4w,s5144983644357021410x12->b4x,s4428170145600203450x18->b4y,s4156966113859768872x10->b4z,s3871700062485845797x15->b50,s3865607918536308442x17->b51,s3834378056692298002x18->b52,s3544116645089599534x10->b53,s3423317712779056401x25->b54,s3386828779285465597x17->b55,s2924395122027826103x14->b56,s2531307568338490285x13->b57,s2450899226349176912x13->b58,s2327743974964600596x11->b59,s2007317383269046180x15->b5a,s17925004256654032244x4->b5b,s17659931425627118568x2->b5c,s17651547275483570877x7->b5d,s1753610191782819921x11->b5e,s17162191345867700912x4->b5f,s16789243406116112673x4->b5g,s16463266125957815391x5->b5h,s15791221867095933363x3->b5i,s15725212667919936108x3->b5j,s15722918466584999320x5->b5k,s15721156781594690315x7->b5l,s15574269061696679450x3->b5m,s15281542589158584767x7->b5n,s15201008993051130160x6->b5o,s15185746759980889043x6->b5p,s14403400214490484960x8->b5q,s14365286008749172514x8->b5r,s14339709457334898076x3->b5s,s14270485950484850486x7->b5t,s14114244577727609259x3->b5u,s13935586738268321596x6->b5v,s13761710972054866084x4->b5w,s13459172003223722735x3->b5x,s13429844117177748173x6->b5y,s13014049009108672802x3->b5z,s12896375587409280029x5->b60,s1270395311379034370x22->b61,s11695548795398191787x4->b62,s11437920000406562045x9->b63,s10852414792293593619x7->b64,s10796804682411823810x3->b65,s10557405761357834076x3->b66,s1031832959479892071x19->b67,s10061844253413749634x4->b68,e7801419657504700863x10->b69,e7689518266570723881x14->b6a,e5991306692159431302x13->b6b,e3492446563574874994x13->b6c,e14340494229221121180x9->b6d,e14018661285674007319x4->b6e,s9501651726347032510x9->b6i,s9496514870978017513x5->b6j,s9436932552931045734x7->b6k,s8899691144933366716x7->b6l,s8879979712987360175x4->b6m,s8755793994789770505x5->b6n,s8200498257699607233x3->b6o,s8192189862530294059x4->b6p,s8101838861749082086x8->b6q,s8069831620301644142x5->b6r,s7929333955151719606x9->b6s,s7174869446012820540x8->b6t,s7066276694103001551x3->b6u,s7038307821325472102x4->b6v,s6377248116197321094x8->b6w,s631175304937289666x17->b6x,s6181755712446570794x6->b6y,s6063217899685152688x5->b6z,s5946037652744460706x9->b70,s591115383303110208x11->b71,s5856160107412720595x4->b72,s5662562618415449548x6->b73,s5596568736180474577x8->b74,s4922535414793169389x9->b75,s4233737765568776869x3->b76,s4036449017235975746x7->b77,s3642769012341782148x3->b78,s2839554839881490554x3->b79,s2804747833354056582x9->b7a,s2754603736356183583x3->b7b,s2742458400755230247x6->b7c,s2508922471967985374x5->b7d,s1801250619170735830x3->b7e,s1688129525768580628x8->b7f,s1499430450269397089x4->b7g,s1438033511350832697x5->b7h,e9222952809800978799x4->b7i,e7929333955151719606x9->b7j,e6181755712446570794x6->b7k,e4674234679698826739x5->b7l,e4290257624100764138x5->b7m,e2766695959194262286x5->b7n,s741896355592496720x3->b7o,s725004073602090463x7->b7p,s462964344163437139x3->b7q,s81309575031448614x3->b7s
open PySem.W.X renaming SegX->da,s_skim->ku,skim->kZ,okMark->mT,s_again->nH,x_skim->xM,s_yield->q_,s_end->O_,wake_any->į
open PySem.W.X.KT renaming get_node->Dp
open PySem.W.X.SegX renaming mono->Ě
open PySem.W.ZFast renaming zw8711993805878244202->Cm,zw11113344188204177931->JL,ze11113344188204177931->JM,zw9782568553167038054->JN,zw7536695828754713326->JO,ze9782568553167038054->JP,ze7536695828754713326->JQ,zw17772580674575903948->b1t,zw17772548960776305114->b1u,zw17346088374725804007->b1v,zw15418851999007992765->b1w,zw15112759502256325868->b1x,zw14851354246082423155->b1y,zw14044960220447912780->b1z,zw13401596951702201221->b20,zw12563942051412417395->b21,zw12210062019545310541->b22,zw11892475500146522536->b23,zw11478286150595567475->b24,zw10380811246957099773->b25,ze17772580674575903948->b26,ze17772548960776305114->b27,ze17346088374725804007->b28,ze15418851999007992765->b29,ze15112759502256325868->b2a,ze14851354246082423155->b2b,ze14044960220447912780->b2c,ze13401596951702201221->b2d,ze12563942051412417395->b2e,ze12210062019545310541->b2f,ze11892475500146522536->b2g,ze11478286150595567475->b2h,ze10380811246957099773->b2j,zw9404975358583537561->b2l,zw8468629109055619292->b2m,zw7998390705656384164->b2n,zw6600643334278800223->b2o,zw6571733998842723752->b2p,zw4926136581373384958->b2q,zw1243936422450756474->b2r,ze9404975358583537561->b2s,ze8711993805878244202->b2t,ze8468629109055619292->b2u,ze7998390705656384164->b2v,ze6600643334278800223->b2w,ze6571733998842723752->b2x,ze4926136581373384958->b2y,ze1243936422450756474->b2z,tableZ_eq->b7y,tableZ->b85
open PySem.WalksS renaming of_in1->Lx
local macro_rules |`(⋯)=>`(by first|kernel_rfl|exact Nat.le_of_ble_eq_true (by kernel_rfl)|decide)
section
namespace Mine
section
universe u0 u1 u2 u3 u4 u5 u6 u7 u8 u9 u10 u11
theorem eA{m:Prop}{p1:Prop}{af:Prop}(aa:m/\p1)(G:∀(h0:m)(z:p1),af):af:=G aa.1 aa.2
theorem eE{A:Sort u0}{m:A->Prop}{af:Prop}(aa:∃a,m a)(G:∀(a:A)(h0:m a),af):af:=aa.elim G
theorem mM{m:Prop}{p1:Prop}{p2:Prop}{af:Prop}(aa:m/\p1/\p2)(G:∀(h0:m)(z:p1)(E:p2),af):af:=eA aa.2 (G aa.1)
theorem cK{A:Sort u0}{m:A->Prop}{p1:A->Prop}{af:Prop}(aa:∃a,m a/\p1 a)(G:∀(a:A)(h0:m a)(z:p1 a),af):af:=aa.elim λ a k=>eA k (G a)
theorem zb{A:Sort u0}{o:Sort u1}{m:A->o->Prop}{af:Prop}(aa:∃a,∃c,m a c)(G:∀(a:A)(c:o)(h0:m a c),af):af:=aa.elim λ a k=>eE k (G a)
theorem cZ{m:Prop}{p1:Prop}{p2:Prop}(h0:m)(z:p1)(E:p2):m/\p1/\p2:=⟨h0,⟨z,E⟩⟩
theorem fM{A:Sort u0}{m:Prop}{p1:A->Prop}(h0:m)(a:A)(z:p1 a):m/\∃a,p1 a:=⟨h0,⟨a,z⟩⟩
theorem cI{A:Sort u0}{m:A->Prop}{p1:A->Prop}(a:A)(h0:m a)(z:p1 a):∃a,m a/\p1 a:=⟨a,⟨h0,z⟩⟩
theorem rI{A:Sort u0}{o:Sort u1}{m:A->o->Prop}(a:A)(c:o)(h0:m a c):∃a,∃c,m a c:=⟨a,⟨c,h0⟩⟩
theorem sJ{A:Sort u0}{m:A->Prop}{p1:A->Prop}{p2:A->Prop}{af:Prop}(aa:∃a,m a/\p1 a/\p2 a)(G:∀(a:A)(h0:m a)(z:p1 a)(E:p2 a),af):af:=aa.elim λ a k=>mM k (G a)
theorem yr{A:Sort u0}{o:Sort u1}{m:A->o->Prop}{p1:A->o->Prop}{af:Prop}(aa:∃a,∃c,m a c/\p1 a c)(G:∀(a:A)(c:o)(h0:m a c)(z:p1 a c),af):af:=aa.elim λ a k=>cK k (G a)
theorem iC{m:Prop}{p1:Prop}{p2:Prop}{V:Prop}(h0:m)(z:p1)(E:p2)(h3:V):m/\p1/\p2/\V:=⟨h0,cZ z E h3⟩
theorem B0{A:Sort u0}{m:Prop}{p1:A->Prop}{p2:A->Prop}(h0:m)(a:A)(z:p1 a)(E:p2 a):m/\∃a,p1 a/\p2 a:=⟨h0,cI a z E⟩
theorem gn{A:Sort u0}{m:A->Prop}{p1:A->Prop}{p2:A->Prop}(a:A)(h0:m a)(z:p1 a)(E:p2 a):∃a,m a/\p1 a/\p2 a:=⟨a,cZ h0 z E⟩
theorem mF{A:Sort u0}{o:Sort u1}{m:A->Prop}{p1:A->o->Prop}(a:A)(h0:m a)(c:o)(z:p1 a c):∃a,m a/\∃c,p1 a c:=⟨a,fM h0 c z⟩
theorem vY{A:Sort u0}{o:Sort u1}{m:A->o->Prop}{p1:A->o->Prop}(a:A)(c:o)(h0:m a c)(z:p1 a c):∃a,∃c,m a c/\p1 a c:=⟨a,cI c h0 z⟩
theorem J_{m:Prop}{p1:Prop}{p2:Prop}{V:Prop}{p:Prop}{af:Prop}(aa:m/\p1/\p2/\V/\p)(G:∀(h0:m)(z:p1)(E:p2)(h3:V)(h4:p),af):af:=mM aa.2.2 (G aa.1 aa.2.1)
theorem HI{A:Sort u0}{m:Prop}{p1:Prop}{p2:A->Prop}{V:A->Prop}{af:Prop}(aa:m/\p1/\∃a,p2 a/\V a)(G:∀(h0:m)(z:p1)(a:A)(E:p2 a)(h3:V a),af):af:=cK aa.2.2 (G aa.1 aa.2.1)
theorem um{A:Sort u0}{m:A->Prop}{p1:A->Prop}{p2:A->Prop}{V:A->Prop}{af:Prop}(aa:∃a,m a/\p1 a/\p2 a/\V a)(G:∀(a:A)(h0:m a)(z:p1 a)(E:p2 a)(h3:V a),af):af:=aa.elim λ a k=>mM k.2 (G a k.1)
theorem HF{A:Sort u0}{o:Sort u1}{m:A->Prop}{p1:A->o->Prop}{p2:A->o->Prop}{af:Prop}(aa:∃a,m a/\∃c,p1 a c/\p2 a c)(G:∀(a:A)(h0:m a)(c:o)(z:p1 a c)(E:p2 a c),af):af:=aa.elim λ a k=>cK k.2 (G a k.1)
theorem HE{A:Sort u0}{o:Sort u1}{m:A->o->Prop}{p1:A->o->Prop}{p2:A->o->Prop}{af:Prop}(aa:∃a,∃c,m a c/\p1 a c/\p2 a c)(G:∀(a:A)(c:o)(h0:m a c)(z:p1 a c)(E:p2 a c),af):af:=aa.elim λ a k=>sJ k (G a)
theorem ź{A:Sort u0}{o:Sort u1}{γ:Sort u2}{m:A->o->γ->Prop}{p1:A->o->γ->Prop}{af:Prop}(aa:∃a,∃c,∃f,m a c f/\p1 a c f)(G:∀(a:A)(c:o)(f:γ)(h0:m a c f)(z:p1 a c f),af):af:=aa.elim λ a k=>yr k (G a)
theorem HD{A:Sort u0}{o:Sort u1}{γ:Sort u2}{b:Sort u3}{m:A->o->γ->b->Prop}{af:Prop}(aa:∃a,∃c,∃f,∃g,m a c f g)(G:∀(a:A)(c:o)(f:γ)(g:b)(h0:m a c f g),af):af:=aa.elim λ a k=>k.elim λ c H1=>zb H1 (G a c)
theorem i6{m:Prop}{p1:Prop}{p2:Prop}{V:Prop}{p:Prop}(h0:m)(z:p1)(E:p2)(h3:V)(h4:p):m/\p1/\p2/\V/\p:=⟨h0,iC z E h3 h4⟩
theorem ŷ{A:Sort u0}{m:Prop}{p1:Prop}{p2:A->Prop}{V:A->Prop}(h0:m)(z:p1)(a:A)(E:p2 a)(h3:V a):m/\p1/\∃a,p2 a/\V a:=⟨h0,B0 z a E h3⟩
theorem Hw{A:Sort u0}{o:Sort u1}{m:Prop}{p1:A->o->Prop}{p2:A->o->Prop}(h0:m)(a:A)(c:o)(z:p1 a c)(E:p2 a c):m/\∃a,∃c,p1 a c/\p2 a c:=⟨h0,vY a c z E⟩
theorem ŵ{A:Sort u0}{m:A->Prop}{p1:A->Prop}{p2:A->Prop}{V:A->Prop}(a:A)(h0:m a)(z:p1 a)(E:p2 a)(h3:V a):∃a,m a/\p1 a/\p2 a/\V a:=⟨a,iC h0 z E h3⟩
theorem Ww{A:Sort u0}{o:Sort u1}{m:A->Prop}{p1:A->Prop}{p2:A->o->Prop}(a:A)(h0:m a)(z:p1 a)(c:o)(E:p2 a c):∃a,m a/\p1 a/\∃c,p2 a c:=⟨a,⟨h0,fM z c E⟩⟩
theorem eC{A:Sort u0}{o:Sort u1}{m:A->o->Prop}{p1:A->o->Prop}{p2:A->o->Prop}(a:A)(c:o)(h0:m a c)(z:p1 a c)(E:p2 a c):∃a,∃c,m a c/\p1 a c/\p2 a c:=⟨a,gn c h0 z E⟩
theorem Ŵ{A:Sort u0}{o:Sort u1}{γ:Sort u2}{m:A->o->γ->Prop}{p1:A->o->γ->Prop}(a:A)(c:o)(f:γ)(h0:m a c f)(z:p1 a c f):∃a,∃c,∃f,m a c f/\p1 a c f:=⟨a,vY c f h0 z⟩
theorem Hv{A:Sort u0}{o:Sort u1}{γ:Sort u2}{b:Sort u3}{m:A->o->γ->b->Prop}(a:A)(c:o)(f:γ)(g:b)(h0:m a c f g):∃a,∃c,∃f,∃g,m a c f g:=⟨a,⟨c,rI f g h0⟩⟩
theorem ue{A:Sort u0}{m:Prop}{p1:Prop}{p2:Prop}{V:A->Prop}{p:A->Prop}{af:Prop}(aa:m/\p1/\p2/\∃a,V a/\p a)(G:∀(h0:m)(z:p1)(E:p2)(a:A)(h3:V a)(h4:p a),af):af:=HI aa.2 (G aa.1)
theorem GN{A:Sort u0}{m:A->Prop}{p1:A->Prop}{p2:A->Prop}{V:A->Prop}{p:A->Prop}{af:Prop}(aa:∃a,m a/\p1 a/\p2 a/\V a/\p a)(G:∀(a:A)(h0:m a)(z:p1 a)(E:p2 a)(h3:V a)(h4:p a),af):af:=aa.elim λ a k=>J_ k (G a)
theorem GK{A:Sort u0}{o:Sort u1}{m:A->o->Prop}{p1:A->o->Prop}{p2:A->o->Prop}{V:A->o->Prop}{af:Prop}(aa:∃a,∃c,m a c/\p1 a c/\p2 a c/\V a c)(G:∀(a:A)(c:o)(h0:m a c)(z:p1 a c)(E:p2 a c)(h3:V a c),af):af:=aa.elim λ a k=>um k (G a)
theorem x_{A:Sort u0}{o:Sort u1}{γ:Sort u2}{m:A->o->γ->Prop}{p1:A->o->γ->Prop}{p2:A->o->γ->Prop}{af:Prop}(aa:∃a,∃c,∃f,m a c f/\p1 a c f/\p2 a c f)(G:∀(a:A)(c:o)(f:γ)(h0:m a c f)(z:p1 a c f)(E:p2 a c f),af):af:=aa.elim λ a k=>HE k (G a)
theorem Uv{A:Sort u0}{o:Sort u1}{γ:Sort u2}{b:Sort u3}{i:Sort u4}{m:A->o->γ->b->i->Prop}{af:Prop}(aa:∃a,∃c,∃f,∃g,∃d,m a c f g d)(G:∀(a:A)(c:o)(f:γ)(g:b)(d:i)(h0:m a c f g d),af):af:=aa.elim λ a k=>HD k (G a)
theorem jv{m:Prop}{p1:Prop}{p2:Prop}{V:Prop}{p:Prop}{p5:Prop}(h0:m)(z:p1)(E:p2)(h3:V)(h4:p)(h5:p5):m/\p1/\p2/\V/\p/\p5:=⟨h0,i6 z E h3 h4 h5⟩
theorem Gs{A:Sort u0}{m:Prop}{p1:Prop}{p2:Prop}{V:A->Prop}{p:A->Prop}(h0:m)(z:p1)(E:p2)(a:A)(h3:V a)(h4:p a):m/\p1/\p2/\∃a,V a/\p a:=⟨h0,ŷ z E a h3 h4⟩
theorem TX{A:Sort u0}{o:Sort u1}{m:Prop}{p1:Prop}{p2:A->o->Prop}{V:A->o->Prop}(h0:m)(z:p1)(a:A)(c:o)(E:p2 a c)(h3:V a c):m/\p1/\∃a,∃c,p2 a c/\V a c:=⟨h0,Hw z a c E h3⟩
theorem nK{A:Sort u0}{o:Sort u1}{m:Prop}{p1:A->o->Prop}{p2:A->o->Prop}{V:A->o->Prop}(h0:m)(a:A)(c:o)(z:p1 a c)(E:p2 a c)(h3:V a c):m/\∃a,∃c,p1 a c/\p2 a c/\V a c:=⟨h0,eC a c z E h3⟩
theorem Gr{A:Sort u0}{m:A->Prop}{p1:A->Prop}{p2:A->Prop}{V:A->Prop}{p:A->Prop}(a:A)(h0:m a)(z:p1 a)(E:p2 a)(h3:V a)(h4:p a):∃a,m a/\p1 a/\p2 a/\V a/\p a:=⟨a,i6 h0 z E h3 h4⟩
theorem xx{A:Sort u0}{o:Sort u1}{m:A->o->Prop}{p1:A->o->Prop}{p2:A->o->Prop}{V:A->o->Prop}(a:A)(c:o)(h0:m a c)(z:p1 a c)(E:p2 a c)(h3:V a c):∃a,∃c,m a c/\p1 a c/\p2 a c/\V a c:=⟨a,ŵ c h0 z E h3⟩
theorem ś{A:Sort u0}{o:Sort u1}{γ:Sort u2}{b:Sort u3}{m:A->o->γ->b->Prop}{p1:A->o->γ->b->Prop}(a:A)(c:o)(f:γ)(g:b)(h0:m a c f g)(z:p1 a c f g):∃a,∃c,∃f,∃g,m a c f g/\p1 a c f g:=⟨a,Ŵ c f g h0 z⟩
theorem Ś{A:Sort u0}{o:Sort u1}{γ:Sort u2}{b:Sort u3}{i:Sort u4}{m:A->o->γ->b->i->Prop}(a:A)(c:o)(f:γ)(g:b)(d:i)(h0:m a c f g d):∃a,∃c,∃f,∃g,∃d,m a c f g d:=⟨a,Hv c f g d h0⟩
theorem Fp{A:Sort u0}{m:A->Prop}{p1:A->Prop}{p2:A->Prop}{V:A->Prop}{p:A->Prop}{p5:A->Prop}{af:Prop}(aa:∃a,m a/\p1 a/\p2 a/\V a/\p a/\p5 a)(G:∀(a:A)(h0:m a)(z:p1 a)(E:p2 a)(h3:V a)(h4:p a)(h5:p5 a),af):af:=aa.elim λ a k=>J_ k.2 (G a k.1)
theorem Ń{A:Sort u0}{o:Sort u1}{m:A->o->Prop}{p1:A->o->Prop}{p2:A->o->Prop}{V:A->o->Prop}{p:A->o->Prop}{af:Prop}(aa:∃a,∃c,m a c/\p1 a c/\p2 a c/\V a c/\p a c)(G:∀(a:A)(c:o)(h0:m a c)(z:p1 a c)(E:p2 a c)(h3:V a c)(h4:p a c),af):af:=aa.elim λ a k=>GN k (G a)
theorem Fn{A:Sort u0}{o:Sort u1}{γ:Sort u2}{m:A->o->γ->Prop}{p1:A->o->γ->Prop}{p2:A->o->γ->Prop}{V:A->o->γ->Prop}{af:Prop}(aa:∃a,∃c,∃f,m a c f/\p1 a c f/\p2 a c f/\V a c f)(G:∀(a:A)(c:o)(f:γ)(h0:m a c f)(z:p1 a c f)(E:p2 a c f)(h3:V a c f),af):af:=aa.elim λ a k=>GK k (G a)
theorem tX{A:Sort u0}{o:Sort u1}{γ:Sort u2}{b:Sort u3}{m:A->o->γ->b->Prop}{p1:A->o->γ->b->Prop}{p2:A->o->γ->b->Prop}{af:Prop}(aa:∃a,∃c,∃f,∃g,m a c f g/\p1 a c f g/\p2 a c f g)(G:∀(a:A)(c:o)(f:γ)(g:b)(h0:m a c f g)(z:p1 a c f g)(E:p2 a c f g),af):af:=aa.elim λ a k=>x_ k (G a)
theorem kW{m:Prop}{p1:Prop}{p2:Prop}{V:Prop}{p:Prop}{p5:Prop}{B:Prop}(h0:m)(z:p1)(E:p2)(h3:V)(h4:p)(h5:p5)(h6:B):m/\p1/\p2/\V/\p/\p5/\B:=⟨h0,jv z E h3 h4 h5 h6⟩
theorem i3{A:Sort u0}{o:Sort u1}{m:Prop}{p1:A->o->Prop}{p2:A->o->Prop}{V:A->o->Prop}{p:A->o->Prop}(h0:m)(a:A)(c:o)(z:p1 a c)(E:p2 a c)(h3:V a c)(h4:p a c):m/\∃a,∃c,p1 a c/\p2 a c/\V a c/\p a c:=⟨h0,xx a c z E h3 h4⟩
theorem Ff{A:Sort u0}{m:A->Prop}{p1:A->Prop}{p2:A->Prop}{V:A->Prop}{p:A->Prop}{p5:A->Prop}(a:A)(h0:m a)(z:p1 a)(E:p2 a)(h3:V a)(h4:p a)(h5:p5 a):∃a,m a/\p1 a/\p2 a/\V a/\p a/\p5 a:=⟨a,jv h0 z E h3 h4 h5⟩
theorem Ľ{A:Sort u0}{o:Sort u1}{m:A->o->Prop}{p1:A->o->Prop}{p2:A->o->Prop}{V:A->o->Prop}{p:A->o->Prop}(a:A)(c:o)(h0:m a c)(z:p1 a c)(E:p2 a c)(h3:V a c)(h4:p a c):∃a,∃c,m a c/\p1 a c/\p2 a c/\V a c/\p a c:=⟨a,Gr c h0 z E h3 h4⟩
theorem m_{A:Sort u0}{o:Sort u1}{γ:Sort u2}{m:A->o->γ->Prop}{p1:A->o->γ->Prop}{p2:A->o->γ->Prop}{V:A->o->γ->Prop}(a:A)(c:o)(f:γ)(h0:m a c f)(z:p1 a c f)(E:p2 a c f)(h3:V a c f):∃a,∃c,∃f,m a c f/\p1 a c f/\p2 a c f/\V a c f:=⟨a,xx c f h0 z E h3⟩
theorem Fe{A:Sort u0}{o:Sort u1}{γ:Sort u2}{b:Sort u3}{m:A->o->γ->b->Prop}{p1:A->o->γ->b->Prop}{p2:A->o->γ->b->Prop}(a:A)(c:o)(f:γ)(g:b)(h0:m a c f g)(z:p1 a c f g)(E:p2 a c f g):∃a,∃c,∃f,∃g,m a c f g/\p1 a c f g/\p2 a c f g:=⟨a,⟨c,eC f g h0 z E⟩⟩
theorem mQ{A:Sort u0}{o:Sort u1}{m:Prop}{p1:A->o->Prop}{p2:A->o->Prop}{V:A->o->Prop}{p:A->o->Prop}{p5:A->o->Prop}{af:Prop}(aa:m/\∃a,∃c,p1 a c/\p2 a c/\V a c/\p a c/\p5 a c)(G:∀(h0:m)(a:A)(c:o)(z:p1 a c)(E:p2 a c)(h3:V a c)(h4:p a c)(h5:p5 a c),af):af:=Ń aa.2 (G aa.1)
theorem NV{A:Sort u0}{o:Sort u1}{γ:Sort u2}{b:Sort u3}{i:Sort u4}{m:A->Prop}{p1:A->o->γ->b->i->Prop}{p2:A->o->γ->b->i->Prop}{af:Prop}(aa:∃a,m a/\∃c,∃f,∃g,∃d,p1 a c f g d/\p2 a c f g d)(G:∀(a:A)(h0:m a)(c:o)(f:γ)(g:b)(d:i)(z:p1 a c f g d)(E:p2 a c f g d),af):af:=aa.elim λ a k=>k.2.elim λ f t=>ź t (G a k.1 f)
theorem vj{A:Sort u0}{o:Sort u1}{γ:Sort u2}{b:Sort u3}{i:Sort u4}{m:A->o->γ->b->i->Prop}{p1:A->o->γ->b->i->Prop}{p2:A->o->γ->b->i->Prop}{af:Prop}(aa:∃a,∃c,∃f,∃g,∃d,m a c f g d/\p1 a c f g d/\p2 a c f g d)(G:∀(a:A)(c:o)(f:γ)(g:b)(d:i)(h0:m a c f g d)(z:p1 a c f g d)(E:p2 a c f g d),af):af:=aa.elim λ a k=>tX k (G a)
theorem vi{m:Prop}{p1:Prop}{p2:Prop}{V:Prop}{p:Prop}{p5:Prop}{B:Prop}{q:Prop}(h0:m)(z:p1)(E:p2)(h3:V)(h4:p)(h5:p5)(h6:B)(h7:q):m/\p1/\p2/\V/\p/\p5/\B/\q:=⟨h0,kW z E h3 h4 h5 h6 h7⟩
theorem s8{A:Sort u0}{o:Sort u1}{m:Prop}{p1:A->o->Prop}{p2:A->o->Prop}{V:A->o->Prop}{p:A->o->Prop}{p5:A->o->Prop}(h0:m)(a:A)(c:o)(z:p1 a c)(E:p2 a c)(h3:V a c)(h4:p a c)(h5:p5 a c):m/\∃a,∃c,p1 a c/\p2 a c/\V a c/\p a c/\p5 a c:=⟨h0,Ľ a c z E h3 h4 h5⟩
theorem NG{A:Sort u0}{o:Sort u1}{γ:Sort u2}{m:A->o->γ->Prop}{p1:A->o->γ->Prop}{p2:A->o->γ->Prop}{V:A->o->γ->Prop}{p:A->o->γ->Prop}(a:A)(c:o)(f:γ)(h0:m a c f)(z:p1 a c f)(E:p2 a c f)(h3:V a c f)(h4:p a c f):∃a,∃c,∃f,m a c f/\p1 a c f/\p2 a c f/\V a c f/\p a c f:=⟨a,Ľ c f h0 z E h3 h4⟩
theorem d_{A:Sort u0}{o:Sort u1}{γ:Sort u2}{b:Sort u3}{m:A->o->γ->b->Prop}{p1:A->o->γ->b->Prop}{p2:A->o->γ->b->Prop}{V:A->o->γ->b->Prop}(a:A)(c:o)(f:γ)(g:b)(h0:m a c f g)(z:p1 a c f g)(E:p2 a c f g)(h3:V a c f g):∃a,∃c,∃f,∃g,m a c f g/\p1 a c f g/\p2 a c f g/\V a c f g:=⟨a,m_ c f g h0 z E h3⟩
theorem ND{A:Sort u0}{o:Sort u1}{γ:Sort u2}{b:Sort u3}{i:Sort u4}{m:A->o->γ->b->i->Prop}{p1:A->o->γ->b->i->Prop}{p2:A->o->γ->b->i->Prop}(a:A)(c:o)(f:γ)(g:b)(d:i)(h0:m a c f g d)(z:p1 a c f g d)(E:p2 a c f g d):∃a,∃c,∃f,∃g,∃d,m a c f g d/\p1 a c f g d/\p2 a c f g d:=⟨a,Fe c f g d h0 z E⟩
theorem xc{A:Sort u0}{o:Sort u1}{γ:Sort u2}{m:A->o->γ->Prop}{p1:A->o->γ->Prop}{p2:A->o->γ->Prop}{V:A->o->γ->Prop}{p:A->o->γ->Prop}{p5:A->o->γ->Prop}{af:Prop}(aa:∃a,∃c,∃f,m a c f/\p1 a c f/\p2 a c f/\V a c f/\p a c f/\p5 a c f)(G:∀(a:A)(c:o)(f:γ)(h0:m a c f)(z:p1 a c f)(E:p2 a c f)(h3:V a c f)(h4:p a c f)(h5:p5 a c f),af):af:=aa.elim λ a k=>k.elim λ c H1=>Fp H1 (G a c)
theorem zT{A:Sort u0}{o:Sort u1}{γ:Sort u2}{b:Sort u3}{i:Sort u4}{m:A->o->γ->b->i->Prop}{p1:A->o->γ->b->i->Prop}{p2:A->o->γ->b->i->Prop}{V:A->o->γ->b->i->Prop}{af:Prop}(aa:∃a,∃c,∃f,∃g,∃d,m a c f g d/\p1 a c f g d/\p2 a c f g d/\V a c f g d)(G:∀(a:A)(c:o)(f:γ)(g:b)(d:i)(h0:m a c f g d)(z:p1 a c f g d)(E:p2 a c f g d)(h3:V a c f g d),af):af:=aa.elim λ a k=>k.elim λ c H1=>Fn H1 (G a c)
theorem ē{m:Prop}{p1:Prop}{p2:Prop}{V:Prop}{p:Prop}{p5:Prop}{B:Prop}{q:Prop}{t:Prop}(h0:m)(z:p1)(E:p2)(h3:V)(h4:p)(h5:p5)(h6:B)(h7:q)(D:t):m/\p1/\p2/\V/\p/\p5/\B/\q/\t:=⟨h0,vi z E h3 h4 h5 h6 h7 D⟩
theorem Ē{A:Sort u0}{o:Sort u1}{γ:Sort u2}{m:A->o->γ->Prop}{p1:A->o->γ->Prop}{p2:A->o->γ->Prop}{V:A->o->γ->Prop}{p:A->o->γ->Prop}{p5:A->o->γ->Prop}(a:A)(c:o)(f:γ)(h0:m a c f)(z:p1 a c f)(E:p2 a c f)(h3:V a c f)(h4:p a c f)(h5:p5 a c f):∃a,∃c,∃f,m a c f/\p1 a c f/\p2 a c f/\V a c f/\p a c f/\p5 a c f:=⟨a,⟨c,Ff f h0 z E h3 h4 h5⟩⟩
theorem Mr{A:Sort u0}{o:Sort u1}{γ:Sort u2}{b:Sort u3}{i:Sort u4}{m:A->o->γ->b->i->Prop}{p1:A->o->γ->b->i->Prop}{p2:A->o->γ->b->i->Prop}{V:A->o->γ->b->i->Prop}(a:A)(c:o)(f:γ)(g:b)(d:i)(h0:m a c f g d)(z:p1 a c f g d)(E:p2 a c f g d)(h3:V a c f g d):∃a,∃c,∃f,∃g,∃d,m a c f g d/\p1 a c f g d/\p2 a c f g d/\V a c f g d:=⟨a,d_ c f g d h0 z E h3⟩
theorem DD{m:Prop}{p1:Prop}{p2:Prop}{V:Prop}{p:Prop}{p5:Prop}{B:Prop}{q:Prop}{t:Prop}{C:Prop}(h0:m)(z:p1)(E:p2)(h3:V)(h4:p)(h5:p5)(h6:B)(h7:q)(D:t)(h9:C):m/\p1/\p2/\V/\p/\p5/\B/\q/\t/\C:=⟨h0,ē z E h3 h4 h5 h6 h7 D h9⟩
theorem ý{A:Sort u0}{o:Sort u1}{γ:Sort u2}{b:Sort u3}{m:Prop}{p1:Prop}{p2:A->o->γ->b->Prop}{V:A->o->γ->b->Prop}{p:A->o->γ->b->Prop}{p5:A->o->γ->b->Prop}{B:A->o->γ->b->Prop}{q:A->o->γ->b->Prop}{af:Prop}(aa:m/\p1/\∃a,∃c,∃f,∃g,p2 a c f g/\V a c f g/\p a c f g/\p5 a c f g/\B a c f g/\q a c f g)(G:∀(h0:m)(z:p1)(a:A)(c:o)(f:γ)(g:b)(E:p2 a c f g)(h3:V a c f g)(h4:p a c f g)(h5:p5 a c f g)(h6:B a c f g)(h7:q a c f g),af):af:=aa.2.2.elim λ f t=>xc t (G aa.1 aa.2.1 f)
theorem Dd{A:Sort u0}{o:Sort u1}{γ:Sort u2}{b:Sort u3}{m:A->Prop}{p1:A->Prop}{p2:A->o->γ->b->Prop}{V:A->o->γ->b->Prop}{p:A->o->γ->b->Prop}{p5:A->o->γ->b->Prop}{B:A->o->γ->b->Prop}{q:A->o->γ->b->Prop}{af:Prop}(aa:∃a,m a/\p1 a/\∃c,∃f,∃g,p2 a c f g/\V a c f g/\p a c f g/\p5 a c f g/\B a c f g/\q a c f g)(G:∀(a:A)(h0:m a)(z:p1 a)(c:o)(f:γ)(g:b)(E:p2 a c f g)(h3:V a c f g)(h4:p a c f g)(h5:p5 a c f g)(h6:B a c f g)(h7:q a c f g),af):af:=aa.elim λ a k=>xc k.2.2 (G a k.1 k.2.1)
theorem tJ{A:Sort u0}{o:Sort u1}{γ:Sort u2}{b:Sort u3}{m:Prop}{p1:Prop}{p2:A->o->γ->b->Prop}{V:A->o->γ->b->Prop}{p:A->o->γ->b->Prop}{p5:A->o->γ->b->Prop}{B:A->o->γ->b->Prop}{q:A->o->γ->b->Prop}(h0:m)(z:p1)(a:A)(c:o)(f:γ)(g:b)(E:p2 a c f g)(h3:V a c f g)(h4:p a c f g)(h5:p5 a c f g)(h6:B a c f g)(h7:q a c f g):m/\p1/\∃a,∃c,∃f,∃g,p2 a c f g/\V a c f g/\p a c f g/\p5 a c f g/\B a c f g/\q a c f g:=⟨h0,⟨z,⟨a,Ē c f g E h3 h4 h5 h6 h7⟩⟩⟩
theorem Lv{A:Sort u0}{o:Sort u1}{γ:Sort u2}{b:Sort u3}{i:Sort u4}{n:Sort u5}{l:Sort u6}{m:A->o->γ->b->i->n->l->Prop}{p1:A->o->γ->b->i->n->l->Prop}{p2:A->o->γ->b->i->n->l->Prop}{V:A->o->γ->b->i->n->l->Prop}{p:A->o->γ->b->i->n->l->Prop}{p5:A->o->γ->b->i->n->l->Prop}{af:Prop}(aa:∃a,∃c,∃f,∃g,∃d,∃j,∃e,m a c f g d j e/\p1 a c f g d j e/\p2 a c f g d j e/\V a c f g d j e/\p a c f g d j e/\p5 a c f g d j e)(G:∀(a:A)(c:o)(f:γ)(g:b)(d:i)(j:n)(e:l)(h0:m a c f g d j e)(z:p1 a c f g d j e)(E:p2 a c f g d j e)(h3:V a c f g d j e)(h4:p a c f g d j e)(h5:p5 a c f g d j e),af):af:=aa.elim λ a k=>k.elim λ c H1=>H1.elim λ f t=>t.elim λ g B=>xc B (G a c f g)
theorem zB{A:Sort u0}{o:Sort u1}{γ:Sort u2}{b:Sort u3}{i:Sort u4}{n:Sort u5}{l:Sort u6}{m:A->o->γ->b->i->n->l->Prop}{p1:A->o->γ->b->i->n->l->Prop}{p2:A->o->γ->b->i->n->l->Prop}{V:A->o->γ->b->i->n->l->Prop}{p:A->o->γ->b->i->n->l->Prop}{p5:A->o->γ->b->i->n->l->Prop}(a:A)(c:o)(f:γ)(g:b)(d:i)(j:n)(e:l)(h0:m a c f g d j e)(z:p1 a c f g d j e)(E:p2 a c f g d j e)(h3:V a c f g d j e)(h4:p a c f g d j e)(h5:p5 a c f g d j e):∃a,∃c,∃f,∃g,∃d,∃j,∃e,m a c f g d j e/\p1 a c f g d j e/\p2 a c f g d j e/\V a c f g d j e/\p a c f g d j e/\p5 a c f g d j e:=⟨a,⟨c,⟨f,⟨g,Ē d j e h0 z E h3 h4 h5⟩⟩⟩⟩
theorem Kp{A:Sort u0}{o:Sort u1}{γ:Sort u2}{b:Sort u3}{i:Sort u4}{n:Sort u5}{l:Sort u6}{x:Sort u7}{v:Sort u8}{u:Sort u9}{m:A->o->γ->b->i->n->l->x->v->u->Prop}{p1:A->o->γ->b->i->n->l->x->v->u->Prop}{p2:A->o->γ->b->i->n->l->x->v->u->Prop}{V:A->o->γ->b->i->n->l->x->v->u->Prop}{p:A->o->γ->b->i->n->l->x->v->u->Prop}{p5:A->o->γ->b->i->n->l->x->v->u->Prop}{B:A->o->γ->b->i->n->l->x->v->u->Prop}{q:A->o->γ->b->i->n->l->x->v->u->Prop}{t:A->o->γ->b->i->n->l->x->v->u->Prop}{C:A->o->γ->b->i->n->l->x->v->u->Prop}{y:A->o->γ->b->i->n->l->x->v->u->Prop}(a:A)(c:o)(f:γ)(g:b)(d:i)(j:n)(e:l)(k:x)(s:v)(r:u)(h0:m a c f g d j e k s r)(z:p1 a c f g d j e k s r)(E:p2 a c f g d j e k s r)(h3:V a c f g d j e k s r)(h4:p a c f g d j e k s r)(h5:p5 a c f g d j e k s r)(h6:B a c f g d j e k s r)(h7:q a c f g d j e k s r)(D:t a c f g d j e k s r)(h9:C a c f g d j e k s r)(b3:y a c f g d j e k s r):∃a,∃c,∃f,∃g,∃d,∃j,∃e,∃k,∃s,∃r,m a c f g d j e k s r/\p1 a c f g d j e k s r/\p2 a c f g d j e k s r/\V a c f g d j e k s r/\p a c f g d j e k s r/\p5 a c f g d j e k s r/\B a c f g d j e k s r/\q a c f g d j e k s r/\t a c f g d j e k s r/\C a c f g d j e k s r/\y a c f g d j e k s r:=⟨a,⟨c,⟨f,⟨g,⟨d,⟨j,⟨e,⟨k,⟨s,⟨r,⟨h0,DD z E h3 h4 h5 h6 h7 D h9 b3⟩⟩⟩⟩⟩⟩⟩⟩⟩⟩⟩
end
theorem gB{g l c t:Nat}(a:g<=l)(e:c+l<=t+g:=by simp+arith only):c<=t:=by omega
theorem hV{g l B af c t:Nat}(a:g<=l)(i:B<=af)(e:c+(l+af)<=t+(g+B):=by simp+arith only):c<=t:=by omega
theorem uD{g l B af C O c t:Nat}(a:g<=l)(i:B<=af)(r:C<=O)(e:c+(l+(af+O))<=t+(g+(B+C)):=by simp+arith only):c<=t:=by omega
theorem Je{g l B af C O v y c t:Nat}(a:g<=l)(i:B<=af)(r:C<=O)(m:v<=y)(e:c+(l+(af+(O+y)))<=t+(g+(B+(C+v))):=by simp+arith only):c<=t:=by omega
theorem rx{g l:Nat}(a:g=l):g<=l:=pD a
theorem oa{g l:Nat}(a:g=l):l<=g:=pD a.symm
theorem wc{g l:Nat}(a:¬g<l):l<=g:=pz a
theorem Bm{g l:Nat}(a:l<=g):¬g<l:=L6 a
theorem uC{i H:Nat}:¬i+H<H:=L6 (tH H i)
theorem lN(a:g<l+1)(e:¬g=l):g<l:=Nat.lt_of_le_of_ne (Nat.le_of_lt_succ a) e
theorem ooZ(a:g=0):¬0<g:=λ i=>oy i a
theorem yF{g l B:Nat}(a:g<l)(e:l<=B:=by decide):g<=B:=dZ (qF a) e
theorem yE{g l B:Nat}(a:g<=l)(e:l<=B:=by decide):g<=B:=dZ a e
theorem lZ{g i l:Nat}(a:g+i<l):g<l:=rV (zu g i) a
theorem qf(a:¬g=0):0<g:=KL a
theorem mi{A:Type}{r:List A}{g:A}(i:Nat)(a:r[i]?=Y g:=by rfl):g∈r:=pv a
end Mine
end
section
open PySem PySem.W PySem.W.X PyProof.Rows PySem.Calls
namespace Mine
noncomputable abbrev bY:FK:=Ka
namespace Bs
noncomputable def h(F:g9)(f:cb):Int:=PyData.keyHash F f
noncomputable def b1l:dd->List dd| .FunctionDef _ _ l _ _ _ _ _ _ _=>l| .ClassDef _ _ _ l _ _ _ _ _ _ _=>l|_=>[]
noncomputable def J5:List dd->List Nat->dd|r,[v]=>r.getD v default|r,v::d=>J5 (b1l (r.getD v default)) d|_,[]=>default
noncomputable def fnD(q:cb)(c:bU)(k:List (cb×bU))(af b a f:bX)(j:Option bU)(B d:bX)(i:bU):dd->nE| .FunctionDef H g l _ _ _ e _ _ _=>⟨H,q,g, .stmts l,e,c,k,af,b,a,f,j,B,d,i⟩|_=>default
noncomputable def fn(u:List Nat)(q:cb)(c:bU)(k:List (cb×bU))(af b a f:bX)(j:Option bU)(B d:bX)(i:bU):nE:=fnD q c k af b a f j B d i (J5 bY.main.body u)
noncomputable def y0:String:=K6
noncomputable def y1:String:=b72
noncomputable def y2:String:=b6t
noncomputable def y3:String:=b7c
noncomputable def y4:String:=JY
noncomputable def y5:String:=b3f
noncomputable def y6:String:=b5f
noncomputable def y7:String:=b3y
noncomputable def y8:String:=b4u
noncomputable def y9:String:=b4l
noncomputable def sN:String:=b56
noncomputable def w8:String:=b41
noncomputable def yz:String:=b4o
noncomputable def yy:String:=b3t
noncomputable def Ì:String:=b70
noncomputable def Bc:String:=K1
noncomputable def Bb:String:=b64
noncomputable def sx(r:Array Nat):cb:=⟨r⟩
noncomputable def n0:=sx #[47,99,108,97,105,109,47,99,117,116,46,112,121]
noncomputable def n1:=sx #[115,101,108,102]
noncomputable def n2:=sx #[95,95,105,110,105,116,95,95]
noncomputable def n3:=sx #[95,95,109,111,100,117,108,101,95,95]
noncomputable def n4:=sx #[95,95,102,105,114,115,116,108,105,110,101,110,111,95,95]
noncomputable def n5:=sx #[95,95,115,116,97,116,105,99,95,97,116,116,114,105,98,117,116,101,115,95,95]
noncomputable def n6:=sx #[95,95,114,101,112,114,95,95]
noncomputable def n7:=sx #[112,112,99,105,46,108,97,110,103,46,99,46,108,101,120,101,114]
noncomputable def n8:=sx #[95,95,100,111,99,95,95]
noncomputable def n9:=sx #[112,112,99,105,46,108,97,110,103,46,116,111,111,108,115,46,104,97,110,100,108,101,120,101,114]
noncomputable def oh:=sx #[95,95,119,101,97,107,114,101,102,95,95]
noncomputable def rD:=sx #[95,95,113,117,97,108,110,97,109,101,95,95]
noncomputable def lO:=sx #[108,111,99]
noncomputable def qk:=sx #[95,95,100,105,99,116,95,95]
noncomputable def pd:=sx #[108,97,119,95,116,101,48,48,54,56,95,48,49]
noncomputable def tf:=sx #[108,101,120,95,116,101,120,116]
noncomputable def qi:=sx #[116,121,112]
noncomputable def qh:=sx #[118,97,108]
noncomputable def pa:=sx #[112,112,99,105,46,108,97,110,103,46,99,46,111,112,116,105,111,110,115]
noncomputable def qg:=sx #[112,112,99,105,46,108,97,110,103,46,99,111,109,109,111,110]
noncomputable def rC:=sx #[102,105,108,101,110,97,109,101]
noncomputable def rz:=sx #[114,111,119]
noncomputable def wh:=sx #[116,111,107,101,110,105,122,101]
noncomputable def t9:=sx #[84,111,107,101,110]
noncomputable def t8:=sx #[83,111,117,114,99,101,76,111,99,97,116,105,111,110]
noncomputable def t7:=sx #[67,84,111,107,101,110]
noncomputable def t6:=sx #[67,111,109,112,105,108,101,114,69,114,114,111,114]
noncomputable def sZ:=sx #[67,104,97,114]
noncomputable def sY:=sx #[72,97,110,100,76,101,120,101,114,66,97,115,101]
noncomputable def sX:=sx #[83,111,117,114,99,101,70,105,108,101]
noncomputable def sW:=sx #[67,76,101,120,101,114]
noncomputable def sV:=sx #[67,79,112,116,105,111,110,115]
noncomputable def sU:=sx #[99,111,108]
noncomputable def Û:=sx #[95,95,115,108,111,116,115,95,95]
noncomputable def uF:=sx #[115,111,117,114,99,101]
noncomputable def sT:=sx #[99,104,97,114]
noncomputable def Ú:=sx #[115,101,116]
noncomputable def wg:=sx #[108,101,110,103,116,104]
noncomputable def uE:=sx #[112,112,99,105,46,108,97,110,103,46,99,46,116,111,107,101,110]
noncomputable def yX:=sx #[95,119,97,108,108]
noncomputable def yW:=sx #[114,101,112,108,97,99,101,95,101,115,99,97,112,101,95,99,111,100,101,115]
noncomputable def yV:=sx #[95,104,101,120,95,101,110,100]
noncomputable def yU:=sx #[99,104,97,114,118,97,108]
noncomputable def yT:=sx #[99,114,101,97,116,101,95,99,104,97,114,97,99,116,101,114,115]
noncomputable def yS:=sx #[95,108,105,110,101,115]
noncomputable def yR:=sx #[95,108,97,119,95,83,72,79,82,84]
noncomputable def yQ:=sx #[95,108,97,119,95,66,82,79,75,69,78]
noncomputable def yP:=sx #[95,108,97,119,95,70,69,87]
noncomputable def yO:=sx #[95,108,97,119,95,66,65,82,69]
noncomputable def yN:=sx #[95,108,97,119,95,68,73,71,73,84,83]
noncomputable def yM:=sx #[95,108,97,119,95,115,112,101,108,108,101,100]
noncomputable def yL:=sx #[95,108,97,119,95,99,111,110,116,101,110,116]
noncomputable def yK:=sx #[95,108,97,119,95,119,111,114,116,104]
noncomputable def yJ:=sx #[95,108,97,119,95,115,116,111,112]
noncomputable def yI:=sx #[108,97,119]
noncomputable def wd:=sx #[95,95,99,108,97,115,115,95,95]
noncomputable def Ù:=sx #[95,95,109,97,105,110,95,95]
noncomputable def yH:=sx #[116,120,116]
noncomputable def BV:=sx #[95,95,115,116,114,95,95]
noncomputable def BU:=sx #[99,111,112,121]
noncomputable def yG:=sx #[112,112,99,105,46,99,111,109,109,111,110]
noncomputable def BS:=sx #[110,101,120,116,95,99,104,97,114]
noncomputable def BR:=sx #[98,97,99,107,117,112,95,99,104,97,114]
noncomputable def BQ:=sx #[101,109,105,116]
noncomputable def BP:=sx #[105,103,110,111,114,101]
noncomputable def BN:=sx #[97,99,99,101,112,116]
noncomputable def BM:=sx #[97,99,99,101,112,116,95,114,117,110]
noncomputable def BL:=sx #[97,99,99,101,112,116,95,115,101,113,117,101,110,99,101]
noncomputable def BK:=sx #[101,114,114,111,114]
noncomputable def BJ:=sx #[101,120,112,101,99,116]
noncomputable def BI:=sx #[108,101,120]
noncomputable def BH:=sx #[108,101,120,95,99]
noncomputable def BG:=sx #[108,101,120,95,105,100,101,110,116,105,102,105,101,114]
noncomputable def BF:=sx #[108,101,120,95,110,117,109,98,101,114]
noncomputable def BD:=sx #[108,101,120,95,102,108,111,97,116]
noncomputable def BC:=sx #[108,101,120,95,119,104,105,116,101,115,112,97,99,101]
noncomputable def BB:=sx #[108,101,120,95,108,105,110,101,99,111,109,109,101,110,116]
noncomputable def Bz:=sx #[108,101,120,95,98,108,111,99,107,99,111,109,109,101,110,116]
noncomputable def By:=sx #[108,101,120,95,115,116,114,105,110,103]
noncomputable def Bx:=sx #[108,101,120,95,99,104,97,114]
noncomputable def Bw:=sx #[95,104,97,110,100,108,101,95,101,115,99,97,112,101,95,99,104,97,114,97,99,116,101,114]
noncomputable def Bv:=sx #[97,100,100,95,105,110,99,108,117,100,101,95,112,97,116,104]
noncomputable def Bu:=sx #[97,100,100,95,105,110,99,108,117,100,101,95,112,97,116,104,115]
noncomputable def Bt:=sx #[101,110,97,98,108,101]
noncomputable def Br:=sx #[100,105,115,97,98,108,101]
noncomputable def Bq:=sx #[95,95,103,101,116,105,116,101,109,95,95]
noncomputable def Bp:=sx #[97,100,100,95,100,101,102,105,110,101]
noncomputable def Jp:=sx #[95,95,110,97,109,101,95,95]
noncomputable def Jo:=sx #[95,95,112,97,99,107,97,103,101,95,95]
noncomputable def Jn:=sx #[95,95,108,111,97,100,101,114,95,95]
noncomputable def Jm:=sx #[95,95,115,112,101,99,95,95]
noncomputable def Ø:=sx #[60,109,111,100,117,108,101,62]
noncomputable def Ö:=sx #[115,112,97,99,101]
noncomputable def Õ:=sx #[102,105,114,115,116]
noncomputable def Ô:=sx #[99,104,97,114,97,99,116,101,114,115]
noncomputable def Ó:=sx #[118,97,108,105,100]
noncomputable def Ò:=sx #[116,101,120,116]
noncomputable def Jl:=sx #[108,111,119,101,114,95,108,101,116,116,101,114,115]
noncomputable def Jk:=sx #[117,112,112,101,114,95,108,101,116,116,101,114,115]
noncomputable def Jj:=sx #[98,105,110,97,114,121,95,110,117,109,98,101,114,115]
noncomputable def IG:=sx #[111,99,116,97,108,95,110,117,109,98,101,114,115]
noncomputable def IF:=sx #[110,117,109,98,101,114,115]
noncomputable def IE:=sx #[104,101,120,95,110,117,109,98,101,114,115]
noncomputable def ID:=sx #[95,95,99,108,97,115,115,99,101,108,108,95,95]
noncomputable def IC:=sx #[98,117,105,108,116,105,110,115]
noncomputable def AV:=sx #[112,112,99,105,46,108,97,110,103,46,99,46,117,116,105,108,115]
noncomputable def AU:=sx #[84,111,107,101,110,46,95,95,105,110,105,116,95,95]
noncomputable def AS:=sx #[84,111,107,101,110,46,95,95,114,101,112,114,95,95]
noncomputable def AR:=sx #[83,111,117,114,99,101,76,111,99,97,116,105,111,110,46,95,95,105,110,105,116,95,95]
noncomputable def AQ:=sx #[83,111,117,114,99,101,76,111,99,97,116,105,111,110,46,95,95,114,101,112,114,95,95]
noncomputable def AO:=sx #[67,84,111,107,101,110,46,95,95,105,110,105,116,95,95]
noncomputable def AN:=sx #[67,84,111,107,101,110,46,95,95,114,101,112,114,95,95]
noncomputable def AL:=sx #[67,84,111,107,101,110,46,95,95,115,116,114,95,95]
noncomputable def AK:=sx #[67,84,111,107,101,110,46,99,111,112,121]
noncomputable def AJ:=sx #[67,111,109,112,105,108,101,114,69,114,114,111,114,46,95,95,105,110,105,116,95,95]
noncomputable def AI:=sx #[67,111,109,112,105,108,101,114,69,114,114,111,114,46,95,95,114,101,112,114,95,95]
noncomputable def AH:=sx #[67,104,97,114,46,95,95,105,110,105,116,95,95]
noncomputable def AG:=sx #[67,104,97,114,46,95,95,114,101,112,114,95,95]
noncomputable def AF:=sx #[72,97,110,100,76,101,120,101,114,66,97,115,101,46,95,95,105,110,105,116,95,95]
noncomputable def AE:=sx #[72,97,110,100,76,101,120,101,114,66,97,115,101,46,116,111,107,101,110,105,122,101]
noncomputable def AD:=sx #[72,97,110,100,76,101,120,101,114,66,97,115,101,46,110,101,120,116,95,99,104,97,114]
noncomputable def AA:=sx #[72,97,110,100,76,101,120,101,114,66,97,115,101,46,98,97,99,107,117,112,95,99,104,97,114]
noncomputable def Az:=sx #[72,97,110,100,76,101,120,101,114,66,97,115,101,46,101,109,105,116]
noncomputable def Ay:=sx #[72,97,110,100,76,101,120,101,114,66,97,115,101,46,105,103,110,111,114,101]
noncomputable def Ax:=sx #[72,97,110,100,76,101,120,101,114,66,97,115,101,46,97,99,99,101,112,116]
noncomputable def Aw:=sx #[72,97,110,100,76,101,120,101,114,66,97,115,101,46,97,99,99,101,112,116,95,114,117,110]
noncomputable def Av:=sx #[72,97,110,100,76,101,120,101,114,66,97,115,101,46,97,99,99,101,112,116,95,115,101,113,117,101,110,99,101]
noncomputable def Au:=sx #[72,97,110,100,76,101,120,101,114,66,97,115,101,46,101,114,114,111,114]
noncomputable def As:=sx #[72,97,110,100,76,101,120,101,114,66,97,115,101,46,101,120,112,101,99,116]
noncomputable def Ar:=sx #[83,111,117,114,99,101,70,105,108,101,46,95,95,105,110,105,116,95,95]
noncomputable def Aq:=sx #[83,111,117,114,99,101,70,105,108,101,46,95,95,114,101,112,114,95,95]
noncomputable def Ap:=sx #[115,111,117,114,99,101,95,102,105,108,101]
noncomputable def Ao:=sx #[99,111,112,116,105,111,110,115]
noncomputable def An:=sx #[67,76,101,120,101,114,46,95,95,105,110,105,116,95,95]
noncomputable def Am:=sx #[67,76,101,120,101,114,46,108,101,120]
noncomputable def Al:=sx #[67,76,101,120,101,114,46,108,101,120,95,116,101,120,116]
noncomputable def Ak:=sx #[67,76,101,120,101,114,46,116,111,107,101,110,105,122,101]
noncomputable def Aj:=sx #[67,76,101,120,101,114,46,108,101,120,95,99]
noncomputable def Ai:=sx #[67,76,101,120,101,114,46,108,101,120,95,105,100,101,110,116,105,102,105,101,114]
noncomputable def Ah:=sx #[67,76,101,120,101,114,46,108,101,120,95,110,117,109,98,101,114]
noncomputable def Af:=sx #[67,76,101,120,101,114,46,108,101,120,95,102,108,111,97,116]
noncomputable def Ae:=sx #[67,76,101,120,101,114,46,108,101,120,95,119,104,105,116,101,115,112,97,99,101]
noncomputable def Ad:=sx #[67,76,101,120,101,114,46,108,101,120,95,108,105,110,101,99,111,109,109,101,110,116]
noncomputable def Ac:=sx #[67,76,101,120,101,114,46,108,101,120,95,98,108,111,99,107,99,111,109,109,101,110,116]
noncomputable def Ab:=sx #[67,76,101,120,101,114,46,108,101,120,95,115,116,114,105,110,103]
noncomputable def Aa:=sx #[67,76,101,120,101,114,46,108,101,120,95,99,104,97,114]
noncomputable def A9:=sx #[67,76,101,120,101,114,46,95,104,97,110,100,108,101,95,101,115,99,97,112,101,95,99,104,97,114,97,99,116,101,114]
noncomputable def A8:=sx #[67,79,112,116,105,111,110,115,46,95,95,105,110,105,116,95,95]
noncomputable def A7:=sx #[67,79,112,116,105,111,110,115,46,97,100,100,95,105,110,99,108,117,100,101,95,112,97,116,104]
noncomputable def A6:=sx #[67,79,112,116,105,111,110,115,46,97,100,100,95,105,110,99,108,117,100,101,95,112,97,116,104,115]
noncomputable def A5:=sx #[115,101,116,116,105,110,103]
noncomputable def A4:=sx #[67,79,112,116,105,111,110,115,46,101,110,97,98,108,101]
noncomputable def ω:=sx #[67,79,112,116,105,111,110,115,46,100,105,115,97,98,108,101]
noncomputable def ψ:=sx #[67,79,112,116,105,111,110,115,46,115,101,116]
noncomputable def χ:=sx #[67,79,112,116,105,111,110,115,46,95,95,103,101,116,105,116,101,109,95,95]
noncomputable def φ:=sx #[67,79,112,116,105,111,110,115,46,97,100,100,95,100,101,102,105,110,101]
noncomputable def b0x:=sx #[95,95,98,117,105,108,100,95,99,108,97,115,115,95,95]
noncomputable def b0w:=sx #[95,95,105,109,112,111,114,116,95,95]
noncomputable def b0v:=sx #[97,98,115]
noncomputable def b0u:=sx #[97,108,108]
noncomputable def b0t:=sx #[97,110,121]
noncomputable def b0s:=sx #[97,115,99,105,105]
noncomputable def b0r:=sx #[98,105,110]
noncomputable def b0q:=sx #[98,114,101,97,107,112,111,105,110,116]
noncomputable def b0p:=sx #[99,97,108,108,97,98,108,101]
noncomputable def b0o:=sx #[99,104,114]
noncomputable def b0n:=sx #[99,111,109,112,105,108,101]
noncomputable def b0m:=sx #[100,101,108,97,116,116,114]
noncomputable def b0l:=sx #[100,105,114]
noncomputable def b0k:=sx #[100,105,118,109,111,100]
noncomputable def b0j:=sx #[101,118,97,108]
noncomputable def b0i:=sx #[101,120,101,99]
noncomputable def b0h:=sx #[102,111,114,109,97,116]
noncomputable def b0g:=sx #[103,101,116,97,116,116,114]
noncomputable def b0f:=sx #[103,108,111,98,97,108,115]
noncomputable def b0e:=sx #[104,97,115,97,116,116,114]
noncomputable def b0d:=sx #[104,97,115,104]
noncomputable def b0c:=sx #[104,101,120]
noncomputable def b0b:=sx #[105,100]
noncomputable def b0a:=sx #[105,110,112,117,116]
noncomputable def b09:=sx #[105,115,105,110,115,116,97,110,99,101]
noncomputable def b08:=sx #[105,115,115,117,98,99,108,97,115,115]
noncomputable def b07:=sx #[105,116,101,114]
noncomputable def b06:=sx #[97,105,116,101,114]
noncomputable def b05:=sx #[108,101,110]
noncomputable def b04:=sx #[108,111,99,97,108,115]
noncomputable def b03:=sx #[109,97,120]
noncomputable def b02:=sx #[109,105,110]
noncomputable def b01:=sx #[110,101,120,116]
noncomputable def b00:=sx #[97,110,101,120,116]
noncomputable def a9z:=sx #[111,99,116]
noncomputable def a9y:=sx #[111,114,100]
noncomputable def a9x:=sx #[112,111,119]
noncomputable def a9w:=sx #[112,114,105,110,116]
noncomputable def a9v:=sx #[114,101,112,114]
noncomputable def a9u:=sx #[114,111,117,110,100]
noncomputable def a9t:=sx #[115,101,116,97,116,116,114]
noncomputable def a9s:=sx #[115,111,114,116,101,100]
noncomputable def a9r:=sx #[115,117,109]
noncomputable def a9q:=sx #[118,97,114,115]
noncomputable def a9p:=sx #[78,111,110,101]
noncomputable def a9o:=sx #[69,108,108,105,112,115,105,115]
noncomputable def a9n:=sx #[78,111,116,73,109,112,108,101,109,101,110,116,101,100]
noncomputable def a9m:=sx #[70,97,108,115,101]
noncomputable def a9l:=sx #[84,114,117,101]
noncomputable def a9k:=sx #[98,111,111,108]
noncomputable def a9j:=sx #[109,101,109,111,114,121,118,105,101,119]
noncomputable def a9i:=sx #[98,121,116,101,97,114,114,97,121]
noncomputable def a9h:=sx #[98,121,116,101,115]
noncomputable def a9g:=sx #[99,108,97,115,115,109,101,116,104,111,100]
noncomputable def a9f:=sx #[99,111,109,112,108,101,120]
noncomputable def a9e:=sx #[100,105,99,116]
noncomputable def a9d:=sx #[101,110,117,109,101,114,97,116,101]
noncomputable def a9c:=sx #[102,105,108,116,101,114]
noncomputable def a9b:=sx #[102,108,111,97,116]
noncomputable def a9a:=sx #[102,114,111,122,101,110,115,101,116]
noncomputable def a99:=sx #[112,114,111,112,101,114,116,121]
noncomputable def a98:=sx #[105,110,116]
noncomputable def a97:=sx #[108,105,115,116]
noncomputable def a96:=sx #[109,97,112]
noncomputable def a95:=sx #[111,98,106,101,99,116]
noncomputable def a94:=sx #[114,97,110,103,101]
noncomputable def a93:=sx #[114,101,118,101,114,115,101,100]
noncomputable def a92:=sx #[115,108,105,99,101]
noncomputable def a91:=sx #[115,116,97,116,105,99,109,101,116,104,111,100]
noncomputable def a90:=sx #[115,116,114]
noncomputable def a8z:=sx #[115,117,112,101,114]
noncomputable def a8y:=sx #[116,117,112,108,101]
noncomputable def a8x:=sx #[116,121,112,101]
noncomputable def a8w:=sx #[122,105,112]
noncomputable def a8v:=sx #[95,95,100,101,98,117,103,95,95]
noncomputable def a8u:=sx #[66,97,115,101,69,120,99,101,112,116,105,111,110]
noncomputable def a8t:=sx #[66,97,115,101,69,120,99,101,112,116,105,111,110,71,114,111,117,112]
noncomputable def a8s:=sx #[69,120,99,101,112,116,105,111,110]
noncomputable def a8r:=sx #[71,101,110,101,114,97,116,111,114,69,120,105,116]
noncomputable def a8q:=sx #[75,101,121,98,111,97,114,100,73,110,116,101,114,114,117,112,116]
noncomputable def a8p:=sx #[83,121,115,116,101,109,69,120,105,116]
noncomputable def a8o:=sx #[65,114,105,116,104,109,101,116,105,99,69,114,114,111,114]
noncomputable def a8n:=sx #[65,115,115,101,114,116,105,111,110,69,114,114,111,114]
noncomputable def a8m:=sx #[65,116,116,114,105,98,117,116,101,69,114,114,111,114]
noncomputable def a8l:=sx #[66,117,102,102,101,114,69,114,114,111,114]
noncomputable def a8k:=sx #[69,79,70,69,114,114,111,114]
noncomputable def a8j:=sx #[73,109,112,111,114,116,69,114,114,111,114]
noncomputable def a8i:=sx #[76,111,111,107,117,112,69,114,114,111,114]
noncomputable def a8h:=sx #[77,101,109,111,114,121,69,114,114,111,114]
noncomputable def a8g:=sx #[78,97,109,101,69,114,114,111,114]
noncomputable def a8f:=sx #[79,83,69,114,114,111,114]
noncomputable def a8e:=sx #[82,101,102,101,114,101,110,99,101,69,114,114,111,114]
noncomputable def a8d:=sx #[82,117,110,116,105,109,101,69,114,114,111,114]
noncomputable def a8c:=sx #[83,116,111,112,65,115,121,110,99,73,116,101,114,97,116,105,111,110]
noncomputable def a8b:=sx #[83,116,111,112,73,116,101,114,97,116,105,111,110]
noncomputable def a8a:=sx #[83,121,110,116,97,120,69,114,114,111,114]
noncomputable def a89:=sx #[83,121,115,116,101,109,69,114,114,111,114]
noncomputable def a88:=sx #[84,121,112,101,69,114,114,111,114]
noncomputable def a87:=sx #[86,97,108,117,101,69,114,114,111,114]
noncomputable def a86:=sx #[87,97,114,110,105,110,103]
noncomputable def a85:=sx #[70,108,111,97,116,105,110,103,80,111,105,110,116,69,114,114,111,114]
noncomputable def a84:=sx #[79,118,101,114,102,108,111,119,69,114,114,111,114]
noncomputable def a83:=sx #[90,101,114,111,68,105,118,105,115,105,111,110,69,114,114,111,114]
noncomputable def a82:=sx #[66,121,116,101,115,87,97,114,110,105,110,103]
noncomputable def a81:=sx #[68,101,112,114,101,99,97,116,105,111,110,87,97,114,110,105,110,103]
noncomputable def a80:=sx #[69,110,99,111,100,105,110,103,87,97,114,110,105,110,103]
noncomputable def a7z:=sx #[70,117,116,117,114,101,87,97,114,110,105,110,103]
noncomputable def a7y:=sx #[73,109,112,111,114,116,87,97,114,110,105,110,103]
noncomputable def a7x:=sx #[80,101,110,100,105,110,103,68,101,112,114,101,99,97,116,105,111,110,87,97,114,110,105,110,103]
noncomputable def a7w:=sx #[82,101,115,111,117,114,99,101,87,97,114,110,105,110,103]
noncomputable def a7v:=sx #[82,117,110,116,105,109,101,87,97,114,110,105,110,103]
noncomputable def a7u:=sx #[83,121,110,116,97,120,87,97,114,110,105,110,103]
noncomputable def a7t:=sx #[85,110,105,99,111,100,101,87,97,114,110,105,110,103]
noncomputable def a7s:=sx #[85,115,101,114,87,97,114,110,105,110,103]
noncomputable def a7r:=sx #[66,108,111,99,107,105,110,103,73,79,69,114,114,111,114]
noncomputable def a7q:=sx #[67,104,105,108,100,80,114,111,99,101,115,115,69,114,114,111,114]
noncomputable def a7p:=sx #[67,111,110,110,101,99,116,105,111,110,69,114,114,111,114]
noncomputable def a7o:=sx #[70,105,108,101,69,120,105,115,116,115,69,114,114,111,114]
noncomputable def a7n:=sx #[70,105,108,101,78,111,116,70,111,117,110,100,69,114,114,111,114]
noncomputable def a7m:=sx #[73,110,116,101,114,114,117,112,116,101,100,69,114,114,111,114]
noncomputable def a7l:=sx #[73,115,65,68,105,114,101,99,116,111,114,121,69,114,114,111,114]
noncomputable def a7k:=sx #[78,111,116,65,68,105,114,101,99,116,111,114,121,69,114,114,111,114]
noncomputable def a7j:=sx #[80,101,114,109,105,115,115,105,111,110,69,114,114,111,114]
noncomputable def a7i:=sx #[80,114,111,99,101,115,115,76,111,111,107,117,112,69,114,114,111,114]
noncomputable def a7h:=sx #[84,105,109,101,111,117,116,69,114,114,111,114]
noncomputable def a7g:=sx #[73,110,100,101,110,116,97,116,105,111,110,69,114,114,111,114]
noncomputable def a7f:=sx #[95,73,110,99,111,109,112,108,101,116,101,73,110,112,117,116,69,114,114,111,114]
noncomputable def a7e:=sx #[73,110,100,101,120,69,114,114,111,114]
noncomputable def a7d:=sx #[75,101,121,69,114,114,111,114]
noncomputable def a7c:=sx #[77,111,100,117,108,101,78,111,116,70,111,117,110,100,69,114,114,111,114]
noncomputable def a7b:=sx #[78,111,116,73,109,112,108,101,109,101,110,116,101,100,69,114,114,111,114]
noncomputable def a7a:=sx #[80,121,116,104,111,110,70,105,110,97,108,105,122,97,116,105,111,110,69,114,114,111,114]
noncomputable def a79:=sx #[82,101,99,117,114,115,105,111,110,69,114,114,111,114]
noncomputable def a78:=sx #[85,110,98,111,117,110,100,76,111,99,97,108,69,114,114,111,114]
noncomputable def a77:=sx #[85,110,105,99,111,100,101,69,114,114,111,114]
noncomputable def a76:=sx #[66,114,111,107,101,110,80,105,112,101,69,114,114,111,114]
noncomputable def a75:=sx #[67,111,110,110,101,99,116,105,111,110,65,98,111,114,116,101,100,69,114,114,111,114]
noncomputable def a74:=sx #[67,111,110,110,101,99,116,105,111,110,82,101,102,117,115,101,100,69,114,114,111,114]
noncomputable def a73:=sx #[67,111,110,110,101,99,116,105,111,110,82,101,115,101,116,69,114,114,111,114]
noncomputable def a72:=sx #[84,97,98,69,114,114,111,114]
noncomputable def a71:=sx #[85,110,105,99,111,100,101,68,101,99,111,100,101,69,114,114,111,114]
noncomputable def a70:=sx #[85,110,105,99,111,100,101,69,110,99,111,100,101,69,114,114,111,114]
noncomputable def a6z:=sx #[85,110,105,99,111,100,101,84,114,97,110,115,108,97,116,101,69,114,114,111,114]
noncomputable def a6y:=sx #[69,120,99,101,112,116,105,111,110,71,114,111,117,112]
noncomputable def a6x:=sx #[69,110,118,105,114,111,110,109,101,110,116,69,114,114,111,114]
noncomputable def a6w:=sx #[73,79,69,114,114,111,114]
noncomputable def a6v:=sx #[111,112,101,110]
noncomputable def a6u:=sx #[113,117,105,116]
noncomputable def a6t:=sx #[101,120,105,116]
noncomputable def a6s:=sx #[99,111,112,121,114,105,103,104,116]
noncomputable def a6r:=sx #[99,114,101,100,105,116,115]
noncomputable def a6q:=sx #[108,105,99,101,110,115,101]
noncomputable def a6p:=sx #[104,101,108,112]
noncomputable def a6o:=sx #[116,121,112,101,46,95,95,115,117,98,99,108,97,115,115,101,115,95,95,46,69,120,99,101,112,116,105,111,110,46,48]
noncomputable def a6n:=sx #[116,121,112,101,46,95,95,115,117,98,99,108,97,115,115,101,115,95,95,46,69,120,99,101,112,116,105,111,110,46,110]
noncomputable def a6m:=sx #[95,95,97,110,110,111,116,97,116,105,111,110,115,95,95]
noncomputable def a6l:=sx #[95,95,98,117,105,108,116,105,110,115,95,95]
noncomputable def a6k:=sx #[95,95,102,105,108,101,95,95]
noncomputable def a6j:=sx #[95,95,99,97,99,104,101,100,95,95]
noncomputable def IB:=sx #[112,111,115]
noncomputable def IA:=sx #[101,110,100,112,111,115]
noncomputable def Iz:=sx #[112,97,114,116,115]
noncomputable def Iy:=sx #[109,115,103]
noncomputable def Iw:=sx #[104,105,110,116,115]
noncomputable def Iv:=sx #[116,111,107,101,110]
noncomputable def Iu:=sx #[110,97,109,101]
noncomputable def It:=sx #[97,98,99,100,101,102,103,104,105,106,107,108,109,110,111,112,113,114,115,116,117,118,119,120,121,122]
noncomputable def Ir:=sx #[65,66,67,68,69,70,71,72,73,74,75,76,77,78,79,80,81,82,83,84,85,86,87,88,89,90]
noncomputable def Iq:=sx #[48,49,50,51,52,53,54,55]
noncomputable def Ip:=sx #[48,49,50,51,52,53,54,55,56,57]
noncomputable def Io:=sx #[48,49,50,51,52,53,54,55,56,57,97,98,99,100,101,102,65,66,67,68,69,70]
noncomputable def Im:=sx #[118,97,108,117,101]
noncomputable def co(g:cb)(D:Nat)(l:cb)(r e q u A:Int)(o:bX)(O:Bool)(c:Nat)(p y n a b:bX)(t:Nat)(C:cb)(ty:String):bV:=⟨T ty,W, .fields #[S g D,S l (D+1),S C (D+2),I r 0,I e 0,I q 0,I u 0,I A 0,o, .bool O,I c 0,p,y,n,a,b,I t 0,I r 0,S C (t+1)],#[]⟩
noncomputable def cf(u:List Nat)(q:cb):bV:=⟨.none,W, .func (fn u q 0 [] .none .none .none .none W .none .none 0),#[]⟩
noncomputable def fu(u:List Nat)(q:cb)(k:List (cb×bU))(af a:bX)(B:bU)(d:bX):bV:=⟨T y2,W, .func (fn u q 3 k af .none .none a W (R B) d 0),#[]⟩
noncomputable def sq(r:Array bX):bV:=⟨T y0,W, .seq r 0,#[]⟩
noncomputable def fi(D:String)(r:Array bX):bV:=⟨T D,W, .fields r,#[]⟩
noncomputable def en(F:g9)(i:cb)(D:Nat)(b:bX):pF:=⟨h F i,S i D,b⟩
noncomputable def o0(F:g9):bV:=⟨T y4,W, .dict #[en F Jp 1 (S IC 160),en F n8 2 (.builtin "builtins.__doc__:str#opaque"),en F Jo 3 (.builtin "builtins.__package__:str#opaque"),en F Jn 4 (.builtin "builtins.__loader__:shared#opaque"),en F Jm 5 (.builtin b3w),en F b0x 6 (.builtin b3d),en F b0w 7 (.builtin b3m),en F b0v 8 (.builtin b5x),en F b0u 9 (.builtin b66),en F b0t 10 (.builtin b76),en F b0s 11 (.builtin b7d),en F b0r 12 (.builtin b5m),en F b0q 13 (.builtin b4q),en F b0p 14 (.builtin b74),en F b0o 15 (.builtin b79),en F b0n 16 (.builtin b7p),en F b0m 17 (.builtin b6k),en F b0l 18 (.builtin b7b),en F b0k 19 (.builtin b5p),en F b0j 20 (.builtin b6p),en F b0i 21 (.builtin b6v),en F b0h 22 (.builtin b73),en F b0g 23 (.builtin b5n),en F b0f 24 (.builtin b5d),en F b0e 25 (.builtin b77),en F b0d 26 (.builtin b6m),en F b0c 27 (.builtin b7e),en F b0b 28 (.builtin b5c),en F b0a 29 (.builtin b6z),en F b09 30 (.builtin b4e),en F b08 31 (.builtin b53),en F b07 32 (.builtin b5w),en F b06 33 (.builtin b60),en F b05 34 (.builtin b5z),en F b04 35 (.builtin b5v),en F b03 36 (.builtin b6o),en F b02 37 (.builtin b5u),en F b01 38 (.builtin b7g),en F b00 39 (.builtin b6n),en F a9z 40 (.builtin b5j),en F a9y 41 (.builtin b5i),en F a9x 42 (.builtin b7s),en F a9w 43 (.builtin b6r),en F a9v 44 (.builtin b68),en F a9u 45 (.builtin b6j),en F a9t 46 (.builtin b6l),en F a9s 47 (.builtin b5o),en F a9r 48 (.builtin b7o),en F a9q 49 (.builtin b5b),en F a9p 50 .none,en F a9o 51 .ellipsis,en F a9n 52 .notImplemented,en F a9m 53 (.bool X),en F a9l 54 (.bool U),en F a9k 55 (T b62),en F a9j 56 (T b4z),en F a9i 57 (T b6i),en F a9h 58 (T b5k),en F a9g 59 (T b71),en F a9f 60 (T b5l),en F a9e 61 (T y4),en F a9d 62 (T JX),en F a9c 63 (T b5y),en F a9b 64 (T b5h),en F a9a 65 (T b75),en F a99 66 (T b6q),en F a98 67 (T b6u),en F a97 68 (T Bc),en F a96 69 (T b7q),en F a95 70 (T y3),en F a94 71 (T b7h),en F a93 72 (T b5r),en F Ú 73 (T b78),en F a92 74 (T K4),en F a91 75 (T b36),en F a90 76 (T b65),en F a8z 77 (T K5),en F a8y 78 (T y0),en F a8x 79 (T y6),en F a8w 80 (T b5s),en F a8v 81 (.bool U),en F a8u 82 (T JU),en F a8t 83 (T b4n),en F a8s 84 (T Ì),en F a8r 85 (T b4i),en F a8q 86 (T b3v),en F a8p 87 (T b3b),en F a8o 88 (T b50),en F a8n 89 (T JS),en F a8m 90 (T b49),en F a8l 91 (T b4k),en F a8k 92 (T b5q),en F a8j 93 (T b3h),en F a8i 94 (T b5e),en F a8h 95 (T b3k),en F a8g 96 (T b63),en F a8f 97 (T Bb),en F a8e 98 (T b3e),en F a8d 99 (T b4b),en F a8c 100 (T b4y),en F a8b 101 (T JT),en F a8a 102 (T b39),en F a89 103 (T b59),en F a88 104 (T b7a),en F a87 105 (T b4p),en F a86 106 (T b5t),en F a85 107 (T b3u),en F a84 108 (T b57),en F a83 109 (T b6x),en F a82 110 (T b4x),en F a81 111 (T b31),en F a80 112 (T b4r),en F a7z 113 (T b4v),en F a7y 114 (T b4d),en F a7x 115 (T b54),en F a7w 116 (T b5a),en F a7v 117 (T b34),en F a7u 118 (T b58),en F a7t 119 (T b37),en F a7s 120 (T b3j),en F a7r 121 (T b4t),en F a7q 122 (T b51),en F a7p 123 (T b3p),en F a7o 124 (T b3q),en F a7n 125 (T b35),en F a7m 126 (T b32),en F a7l 127 (T b4f),en F a7k 128 (T b3o),en F a7j 129 (T b4m),en F a7i 130 (T b3s),en F a7h 131 (T b38),en F a7g 132 (T b3a),en F a7f 133 (T b3z),en F a7e 134 (T JR),en F a7d 135 (T b7f),en F a7c 136 (T b67),en F a7b 137 (T b4a),en F a7a 138 (T b3g),en F a79 139 (T b3x),en F a78 140 (T b55),en F a77 141 (T b3r),en F a76 142 (T b30),en F a75 143 (T b61),en F a74 144 (T b40),en F a73 145 (T b4g),en F a72 146 (T b6w),en F a71 147 (T b52),en F a70 148 (T b33),en F a6z 149 (T b3c),en F a6y 150 (T b4c),en F a6x 151 (T Bb),en F a6w 152 (T Bb),en F a6v 153 (.builtin b5g),en F a6u 154 (.builtin b3i),en F a6t 155 (.builtin b4s),en F a6s 156 (.builtin "builtins.copyright#opaque"),en F a6r 157 (.builtin "builtins.credits#opaque"),en F a6q 158 (.builtin "builtins.license#opaque"),en F a6p 159 (.builtin b4h)] 159,#[]⟩
noncomputable def o1(F:g9):bV:=⟨T y4,W, .dict #[en F IC 162 (R 4),en F Ù 163 (R 5)] 2,#[]⟩
noncomputable def o2(F:g9):bV:=⟨.none,W, .dict #[en F a6o 429 (I 177 0),en F a6n 430 (I 1 0)] 2,#[]⟩
noncomputable def o3(F:g9):bV:=⟨T y4,W, .dict #[en F Jp 165 (S pd 903),en F n8 166 .none,en F Jo 167 .none,en F Jn 168 (.builtin b4j),en F Jm 169 .none,en F a6m 170 (R 6),en F a6l 171 (R 4),en F a6k 173 (S n0 172),en F a6j 174 .none,en F yX 193 (R 21),en F yW 209 (R 28),en F yV 218 (R 35),en F yU 225 (R 42),en F t9 273 (R 68),en F t8 329 (R 100),en F t7 390 (R 148),en F t6 432 (R 177),en F sZ 472 (R 204),en F sY 594 (R 296),en F sX 633 (R 324),en F yT 646 (R 335),en F yS 655 (R 342),en F tf 664 (R 349),en F sW 811 (R 460),en F sV 902 (R 528),en F yR 910 (R 539),en F yQ 916 (R 546),en F yP 922 (R 553),en F yO 928 (R 560),en F yN 934 (R 567),en F yM 945 (R 574),en F yL 955 (R 581),en F yK 962 (R 588),en F yJ 970 (R 595),en F yI 976 (R 600)] 35,#[]⟩
noncomputable def o4:bV:=⟨T K3,Y 0,.plain,#[]⟩
noncomputable def o5:bV:=⟨T K3,Y 3,.plain,#[]⟩
noncomputable def o6:bV:=⟨T y4,W, .dict #[] 0,#[]⟩
noncomputable def o7:=sq #[]
noncomputable def o8:bV:=⟨.none,W, .fields #[],#[]⟩
noncomputable def o9:=co Ø 176 Ø 1 0 0 0 0 (R 7) X 175 (R 8) .none .none .none .none 179 n0 y1
noncomputable def o10:bV:=⟨T Cn,W,.plain,#[Y (R 9),Y (R 3),Y (R 3),W,Y (S Ù 164),W,Y (R 0)]⟩
noncomputable def o12:bV:=⟨.none,W, .fields #[I 1 0,I 0 0,R 20,I 5 0,I 0 0,R 27,I 41 0,I 0 0,R 34,I 45 0,I 0 0,R 41,I 54 0,I 0 0,R 48,I 65 0,I 0 0,R 79,I 78 0,I 0 0,R 114,I 94 0,I 0 0,R 158,I 108 0,I 0 0,R 186,I 116 0,I 0 0,R 214,I 191 0,I 0 0,R 306,I 199 0,I 0 0,R 334,I 206 0,I 0 0,R 341,I 212 0,I 0 0,R 348,I 215 0,I 0 0,R 356,I 507 0,I 0 0,R 468,I 540 0,I 0 0,R 538,I 542 0,I 0 0,R 545,I 544 0,I 0 0,R 552,I 546 0,I 0 0,R 559,I 548 0,I 0 0,R 566,I 550 0,I 0 0,R 573,I 556 0,I 0 0,R 580,I 573 0,I 0 0,R 587,I 580 0,I 0 0,R 594,I 586 0,I 0 0,R 599],#[]⟩
noncomputable def o13:=co Ø 182 Ø 1 0 0 0 0 (R 11) X 181 (R 12) .none .none .none .none 185 n0 y1
noncomputable def o14:bV:=⟨T Cn,W,.plain,#[Y (R 13),Y (R 3),Y (R 3),W,Y (S Ù 164),W,Y (R 0)]⟩
noncomputable def o17:=sq #[S ⟨#[107]⟩ 190]
noncomputable def o19:=cf [0] yX
noncomputable def o20:=co yX 187 yX 1 1 0 0 3 (R 15) U 181 (R 16) .none (R 17) (R 18) (R 19) 191 n0 y1
noncomputable def o21:=fu [0] yX [] .none (S Ù 164) 20 .none
noncomputable def o24:=sq #[S yH 199,S ⟨#[109,112]⟩ 200,S IB 201,S IA 202,S Iz 203,S ⟨#[99]⟩ 204,S ⟨#[107]⟩ 205,S ⟨#[101,110,100]⟩ 206]
noncomputable def o26:=cf [2] yW
noncomputable def o27:=co yW 196 yW 5 1 0 0 3 (R 22) U 181 (R 23) .none (R 24) (R 25) (R 26) 207 n0 y1
noncomputable def o28:=fu [2] yW [] .none (S AV 194) 27 .none
noncomputable def o31:=sq #[S yH 213,S IB 214,S IA 215]
noncomputable def o33:=cf [3] yV
noncomputable def o34:=co yV 210 yV 41 3 0 0 3 (R 29) U 181 (R 30) .none (R 31) (R 32) (R 33) 216 n0 y1
noncomputable def o35:=fu [3] yV [] .none (S AV 194) 34 .none
noncomputable def o38:=sq #[S yH 222]
noncomputable def o40:=cf [4] yU
noncomputable def o41:=co yU 219 yU 45 1 0 0 3 (R 36) U 181 (R 37) .none (R 38) (R 39) (R 40) 223 n0 y1
noncomputable def o42:=fu [4] yU [] .none (S AV 194) 41 .none
noncomputable def o50:bV:=⟨T Bc,W, .seq #[S qi 240,S qh 241,S lO 242] 0,#[]⟩
noncomputable def o53:=sq #[S n1 247,S qi 248,S qh 249,S lO 250]
noncomputable def o55:=cf [6,1] AU
noncomputable def o56:=co n2 244 AU 57 4 0 0 3 (R 51) U 181 (R 52) .none (R 53) (R 54) (R 55) 251 n0 y1
noncomputable def o57:=fu [6,1] AU [] .none (S qg 226) 56 .none
noncomputable def o60:=sq #[S n1 257]
noncomputable def o62:=cf [6,2] AS
noncomputable def o63:=co n6 254 AS 63 1 0 0 3 (R 58) U 181 (R 59) .none (R 60) (R 61) (R 62) 258 n0 y1
noncomputable def o64:=fu [6,2] AS [] .none (S qg 226) 63 .none
noncomputable def o65:=sq #[S lO 261,S qi 262,S qh 263]
noncomputable def o67(F:g9):bV:=⟨T y4,W, .dict #[en F n3 235 (S qg 226),en F n4 239 (I 54 238),en F Û 243 (R 50),en F n2 253 (R 57),en F n6 260 (R 64),en F n5 264 (R 65),en F lO 266 (R 69),en F qi 268 (R 70),en F qh 270 (R 71),en F n8 271 .none] 5,#[]⟩
noncomputable def o68:bV:=⟨T y6,W, .cls ⟨t9,[T y3],[R 68,T y3],67,t9,X,[lO,qi,qh],[R 148],X,W,X⟩,#[W,W,Y (S t9 228),Y (S t9 236),Y (.builtin y7),Y (.bool X)]⟩
noncomputable def o69:=fi y8 #[S lO 265,R 68, .builtin y9, .builtin sN,I 2 0]
noncomputable def o70:=fi y8 #[S qi 267,R 68, .builtin y9, .builtin sN,I 1 0]
noncomputable def o71:=fi y8 #[S qh 269,R 68, .builtin y9, .builtin sN,I 0 0]
noncomputable def o81:bV:=⟨T Bc,W, .seq #[S rC 286,S rz 287,S sU 288,S wg 289,S uF 290] 0,#[]⟩
noncomputable def o82:=sq #[.none]
noncomputable def o85:=sq #[S n1 295,S rC 296,S rz 297,S sU 298,S ⟨#[108,110]⟩ 299,S uF 300]
noncomputable def o87:=cf [7,1] AR
noncomputable def o88:=co n2 292 AR 68 6 0 0 3 (R 83) U 181 (R 84) .none (R 85) (R 86) (R 87) 301 n0 y1
noncomputable def o89:=fu [7,1] AR [] (R 82) (S qg 226) 88 .none
noncomputable def o92:=sq #[S n1 307]
noncomputable def o94:=cf [7,2] AQ
noncomputable def o95:=co n6 304 AQ 75 1 0 0 3 (R 90) U 181 (R 91) .none (R 92) (R 93) (R 94) 308 n0 y1
noncomputable def o96:=fu [7,2] AQ [] .none (S qg 226) 95 .none
noncomputable def o97:=sq #[S sU 311,S rC 312,S wg 313,S rz 314,S uF 315]
noncomputable def o99(F:g9):bV:=⟨T y4,W, .dict #[en F n3 281 (S qg 226),en F n4 285 (I 65 284),en F Û 291 (R 81),en F n2 303 (R 89),en F n6 310 (R 96),en F n5 316 (R 97),en F sU 318 (R 101),en F rC 320 (R 102),en F wg 322 (R 103),en F rz 324 (R 104),en F uF 326 (R 105),en F n8 327 .none] 7,#[]⟩
noncomputable def a6f:bV:=⟨T y6,W, .cls ⟨t8,[T y3],[R 100,T y3],99,t8,X,[sU,rC,wg,rz,uF],[],X,W,X⟩,#[W,W,Y (S t8 274),Y (S t8 282),Y (.builtin y7),Y (.bool X)]⟩
noncomputable def a6e:=fi y8 #[S sU 317,R 100, .builtin y9, .builtin sN,I 4 0]
noncomputable def a6d:=fi y8 #[S rC 319,R 100, .builtin y9, .builtin sN,I 3 0]
noncomputable def a6c:=fi y8 #[S wg 321,R 100, .builtin y9, .builtin sN,I 2 0]
noncomputable def a6b:=fi y8 #[S rz 323,R 100, .builtin y9, .builtin sN,I 1 0]
noncomputable def a6a:=fi y8 #[S uF 325,R 100, .builtin y9, .builtin sN,I 0 0]
noncomputable def a67:=sq #[R 68]
noncomputable def a65:bV:=⟨T JW,W, .cell (Y (R 148)),#[]⟩
noncomputable def a61:=sq #[R 111]
noncomputable def a60:=sq #[S wd 347]
noncomputable def a5z:=sq #[S n1 348,S qi 349,S qh 350,S Ö 351,S Õ 352,S lO 353]
noncomputable def a5y:=cf [9,0] AO
noncomputable def a5x:=co n2 344 AO 80 6 0 0 3 (R 117) U 181 (R 118) .none (R 119) (R 120) (R 121) 354 n0 y1
noncomputable def a5w:=fu [9,0] AO [(wd,111)] .none (S uE 330) 122 (R 116)
noncomputable def a5v:=sq #[S n1 360]
noncomputable def a5u:=cf [9,1] AN
noncomputable def a5t:=co n6 357 AN 85 1 0 0 3 (R 124) U 181 (R 125) .none (R 126) (R 127) (R 128) 361 n0 y1
noncomputable def a5s:=fu [9,1] AN [] .none (S uE 330) 129 .none
noncomputable def a5r:=sq #[S n1 367]
noncomputable def a5q:=cf [9,2] AL
noncomputable def a5p:=co BV 364 AL 88 1 0 0 3 (R 131) U 181 (R 132) .none (R 133) (R 134) (R 135) 368 n0 y1
noncomputable def a5o:=fu [9,2] AL [] .none (S uE 330) 136 .none
noncomputable def Il:=sq #[.none,.none]
noncomputable def a5n:=sq #[S n1 374,S Ö 375,S Õ 376]
noncomputable def a5m:=cf [9,3] AK
noncomputable def a5l:=co BU 371 AK 91 3 0 0 3 (R 139) U 181 (R 140) .none (R 141) (R 142) (R 143) 377 n0 y1
noncomputable def a5k:=fu [9,3] AK [] (R 138) (S uE 330) 144 .none
noncomputable def a5j:=sq #[S Õ 380,S Ö 381]
noncomputable def a5i(F:g9):bV:=⟨T y4,W, .dict #[en F n3 339 (S uE 330),en F n4 343 (I 78 342),en F n2 356 (R 123),en F n6 363 (R 130),en F BV 370 (R 137),en F BU 379 (R 145),en F n5 382 (R 146),en F qk 385 (R 149),en F oh 387 (R 150),en F n8 388 .none] 5,#[]⟩
noncomputable def a5h:bV:=⟨T y6,W, .cls ⟨t7,[R 68],[R 148,R 68,T y3],147,t7,U,[lO,qi,qh],[],X,W,X⟩,#[Y (R 108),W,Y (S t7 332),Y (S t7 340),Y (.builtin y7),Y (.bool U)]⟩
noncomputable def a5g:=fi y5 #[S qk 384,R 148, .builtin yz, .builtin yy]
noncomputable def a5f:=fi y5 #[S oh 386,R 148, .builtin w8,.none]
noncomputable def a5c:=sq #[T Ì]
noncomputable def a57:=sq #[S n1 408,S Iy 409,S lO 410,S Iw 411]
noncomputable def a56:=cf [11,0] AJ
noncomputable def a55:=co n2 405 AJ 96 4 0 0 3 (R 161) U 181 (R 162) .none (R 163) (R 164) (R 165) 412 n0 y1
noncomputable def a54:=fu [11,0] AJ [] (R 160) (S yG 391) 166 .none
noncomputable def a53:=sq #[S n1 418]
noncomputable def a52:=cf [11,1] AI
noncomputable def a51:=co n6 415 AI 105 1 0 0 3 (R 168) U 181 (R 169) .none (R 170) (R 171) (R 172) 419 n0 y1
noncomputable def a50:=fu [11,1] AI [] .none (S yG 391) 173 .none
noncomputable def a4z:=sq #[S Iw 422,S lO 423,S Iy 424]
noncomputable def a4y(F:g9):bV:=⟨T y4,W, .dict #[en F n3 400 (S yG 391),en F n4 404 (I 94 403),en F n2 414 (R 167),en F n6 421 (R 174),en F n5 425 (R 175),en F oh 427 (R 178),en F n8 428 .none] 3,#[]⟩
noncomputable def a4x:bV:=⟨T y6,W, .cls ⟨t6,[T Ì],[R 177,T Ì,T JU,T y3],176,t6,U,[],[],X,W,X⟩,#[Y (R 153),W,Y (S t6 393),Y (S t6 401),Y (.builtin b4w),Y (.bool U)]⟩
noncomputable def a4w:=fi y5 #[S oh 426,R 177, .builtin w8,.none]
noncomputable def a4p:=sq #[S n1 450,S sT 451,S lO 452]
noncomputable def a4o:=cf [13,0] AH
noncomputable def a4n:=co n2 447 AH 110 3 0 0 3 (R 188) U 181 (R 189) .none (R 190) (R 191) (R 192) 453 n0 y1
noncomputable def a4m:=fu [13,0] AH [] .none (S n9 433) 193 .none
noncomputable def a4l:=sq #[S n1 459]
noncomputable def a4k:=cf [13,1] AG
noncomputable def a4j:=co n6 456 AG 114 1 0 0 3 (R 195) U 181 (R 196) .none (R 197) (R 198) (R 199) 460 n0 y1
noncomputable def a4i:=fu [13,1] AG [] .none (S n9 433) 200 .none
noncomputable def a4h:=sq #[S sT 463,S lO 464]
noncomputable def a4g(F:g9):bV:=⟨T y4,W, .dict #[en F n3 442 (S n9 433),en F n4 446 (I 108 445),en F n2 455 (R 194),en F n6 462 (R 201),en F n5 465 (R 202),en F qk 467 (R 205),en F oh 469 (R 206),en F n8 470 .none] 4,#[]⟩
noncomputable def a4f:bV:=⟨T y6,W, .cls ⟨sZ,[T y3],[R 204,T y3],203,sZ,U,[],[],X,W,X⟩,#[W,W,Y (S sZ 435),Y (S sZ 443),Y (.builtin y7),Y (.bool U)]⟩
noncomputable def a4e:=fi y5 #[S qk 466,R 204, .builtin yz, .builtin yy]
noncomputable def a4d:=fi y5 #[S oh 468,R 204, .builtin w8,.none]
noncomputable def a46:=sq #[S n1 488]
noncomputable def a45:=cf [14,0] AF
noncomputable def a44:=co n2 485 AF 118 1 0 0 3 (R 216) U 181 (R 217) .none (R 218) (R 219) (R 220) 489 n0 y1
noncomputable def a43:=fu [14,0] AF [] .none (S n9 433) 221 .none
noncomputable def a42:=sq #[S n1 495,S Ô 496,S ⟨#[115,116,97,114,116,95,115,116,97,116,101]⟩ 497,S ⟨#[115,116,97,116,101]⟩ 498]
noncomputable def a41:=cf [14,1] AE
noncomputable def a40:=co wh 492 AE 123 3 0 0 35 (R 223) U 181 (R 224) .none (R 225) (R 226) (R 227) 499 n0 y1
noncomputable def a3z:=fu [14,1] AE [] .none (S n9 433) 228 .none
noncomputable def a3y:=sq #[ .bool U]
noncomputable def a3x:=sq #[S n1 505,S ⟨#[101,111,102]⟩ 506,S sT 507]
noncomputable def a3w:=cf [14,2] AD
noncomputable def a3v:=co BS 502 AD 131 2 0 0 3 (R 231) U 181 (R 232) .none (R 233) (R 234) (R 235) 508 n0 y1
noncomputable def a3u:=fu [14,2] AD [] (R 230) (S n9 433) 236 .none
noncomputable def a3t:=sq #[S n1 514,S sT 515]
noncomputable def a3s:=cf [14,3] AA
noncomputable def a3r:=co BR 511 AA 142 2 0 0 3 (R 238) U 181 (R 239) .none (R 240) (R 241) (R 242) 516 n0 y1
noncomputable def a3q:=fu [14,3] AA [] .none (S n9 433) 243 .none
noncomputable def a3p:=sq #[S n1 522,S qi 523,S qh 524,S lO 525,S Iv 526]
noncomputable def a3o:=cf [14,4] Az
noncomputable def a3n:=co BQ 519 Az 147 2 0 0 3 (R 245) U 181 (R 246) .none (R 247) (R 248) (R 249) 527 n0 y1
noncomputable def a3m:=fu [14,4] Az [] .none (S n9 433) 250 .none
noncomputable def a3l:=sq #[S n1 533]
noncomputable def a3k:=cf [14,5] Ay
noncomputable def a3j:=co BP 530 Ay 154 1 0 0 3 (R 252) U 181 (R 253) .none (R 254) (R 255) (R 256) 534 n0 y1
noncomputable def a3i:=fu [14,5] Ay [] .none (S n9 433) 257 .none
noncomputable def a3h:=sq #[S n1 540,S Ó 541,S sT 542]
noncomputable def a3g:=cf [14,6] Ax
noncomputable def a3f:=co BN 537 Ax 157 2 0 0 3 (R 259) U 181 (R 260) .none (R 261) (R 262) (R 263) 543 n0 y1
noncomputable def a3e:=fu [14,6] Ax [] .none (S n9 433) 264 .none
noncomputable def a3d:=sq #[S n1 549,S Ó 550]
noncomputable def a3c:=cf [14,7] Aw
noncomputable def a3b:=co BM 546 Aw 165 2 0 0 3 (R 266) U 181 (R 267) .none (R 268) (R 269) (R 270) 551 n0 y1
noncomputable def a3a:=fu [14,7] Aw [] .none (S n9 433) 271 .none
noncomputable def a39:=sq #[S n1 557,S ⟨#[115,101,113,117,101,110,99,101]⟩ 558,S ⟨#[99,104,97,114,115]⟩ 559,S Ó 560,S sT 561]
noncomputable def a38:=cf [14,8] Av
noncomputable def a37:=co BL 554 Av 169 2 0 0 3 (R 273) U 181 (R 274) .none (R 275) (R 276) (R 277) 562 n0 y1
noncomputable def a36:=fu [14,8] Av [] .none (S n9 433) 278 .none
noncomputable def a35:=sq #[S n1 568,S ⟨#[109,101,115,115,97,103,101]⟩ 569,S sT 570,S lO 571]
noncomputable def a34:=cf [14,9] Au
noncomputable def a33:=co BK 565 Au 182 2 0 0 3 (R 280) U 181 (R 281) .none (R 282) (R 283) (R 284) 572 n0 y1
noncomputable def a32:=fu [14,9] Au [] .none (S n9 433) 285 .none
noncomputable def a31:=sq #[S n1 578,S Ó 579]
noncomputable def a30:=cf [14,10] As
noncomputable def a2z:=co BJ 575 As 187 2 0 0 3 (R 287) U 181 (R 288) .none (R 289) (R 290) (R 291) 580 n0 y1
noncomputable def a2y:=fu [14,10] As [] .none (S n9 433) 292 .none
noncomputable def a2x:=sq #[S Ô 583,S ⟨#[99,117,114,114,101,110,116,95,116,101,120,116]⟩ 584,S ⟨#[112,117,115,104,101,100,95,98,97,99,107]⟩ 585,S ⟨#[116,111,107,101,110,95,98,117,102,102,101,114]⟩ 586]
noncomputable def a2w(F:g9):bV:=⟨T y4,W, .dict #[en F n3 480 (S n9 433),en F n4 484 (I 116 483),en F n2 491 (R 222),en F wh 501 (R 229),en F BS 510 (R 237),en F BR 518 (R 244),en F BQ 529 (R 251),en F BP 536 (R 258),en F BN 545 (R 265),en F BM 553 (R 272),en F BL 564 (R 279),en F BK 574 (R 286),en F BJ 582 (R 293),en F n5 587 (R 294),en F qk 589 (R 297),en F oh 591 (R 298),en F n8 592 .none] 4,#[]⟩
noncomputable def a2v:bV:=⟨T y6,W, .cls ⟨sY,[T y3],[R 296,T y3],295,sY,U,[],[R 460],X,W,X⟩,#[W,W,Y (S sY 473),Y (S sY 481),Y (.builtin y7),Y (.bool U)]⟩
noncomputable def a2u:=fi y5 #[S qk 588,R 296, .builtin yz, .builtin yy]
noncomputable def a2t:=fi y5 #[S oh 590,R 296, .builtin w8,.none]
noncomputable def a2l:=sq #[S n1 612,S Iu 613]
noncomputable def a2k:=cf [16,0] Ar
noncomputable def a2j:=co n2 609 Ar 193 2 0 0 3 (R 308) U 181 (R 309) .none (R 310) (R 311) (R 312) 614 n0 y1
noncomputable def a2i:=fu [16,0] Ar [] .none (S n7 595) 313 .none
noncomputable def a2h:=sq #[S n1 620]
noncomputable def a2g:=cf [16,1] Aq
noncomputable def a2f:=co n6 617 Aq 197 1 0 0 3 (R 315) U 181 (R 316) .none (R 317) (R 318) (R 319) 621 n0 y1
noncomputable def a2e:=fu [16,1] Aq [] .none (S n7 595) 320 .none
noncomputable def a2d:=sq #[S rC 624,S rz 625]
noncomputable def a2c(F:g9):bV:=⟨T y4,W, .dict #[en F n3 604 (S n7 595),en F n4 608 (I 191 607),en F n2 616 (R 314),en F n6 623 (R 321),en F n5 626 (R 322),en F qk 628 (R 325),en F oh 630 (R 326),en F n8 631 .none] 4,#[]⟩
noncomputable def a2b:bV:=⟨T y6,W, .cls ⟨sX,[T y3],[R 324,T y3],323,sX,U,[],[],X,W,X⟩,#[W,W,Y (S sX 597),Y (S sX 605),Y (.builtin y7),Y (.bool U)]⟩
noncomputable def a2a:=fi y5 #[S qk 627,R 324, .builtin yz, .builtin yy]
noncomputable def a29:=fi y5 #[S oh 629,R 324, .builtin w8,.none]
noncomputable def a26:=sq #[S ⟨#[102]⟩ 637,S Ap 638,S rz 639,S ⟨#[108,105,110,101]⟩ 640,S sU 641,S sT 642,S lO 643]
noncomputable def a25:=cf [17] yT
noncomputable def a24:=co yT 634 yT 199 2 0 0 35 (R 329) U 181 (R 330) .none (R 331) (R 332) (R 333) 644 n0 y1
noncomputable def a23:=fu [17] yT [] .none (S n7 595) 334 .none
noncomputable def a22:=sq #[S yH 650,S Iz 651,S ⟨#[112,97,114,116]⟩ 652]
noncomputable def a21:=cf [18] yS
noncomputable def a20:=co yS 647 yS 206 1 0 0 35 (R 336) U 181 (R 337) .none (R 338) (R 339) (R 340) 653 n0 y1
noncomputable def a1z:=fu [18] yS [] .none (S n7 595) 341 .none
noncomputable def a1y:=sq #[S Ò 659,S Ao 660,S ⟨#[108,101,120,101,114]⟩ 661]
noncomputable def a1x:=cf [19] tf
noncomputable def a1w:=co tf 656 tf 212 2 0 0 3 (R 343) U 181 (R 344) .none (R 345) (R 346) (R 347) 662 n0 y1
noncomputable def a1v:=fu [19] tf [] .none (S n7 595) 348 .none
noncomputable def a1u:=sq #[R 296]
noncomputable def a1s:bV:=⟨T JW,W, .cell (Y (R 460)),#[]⟩
noncomputable def Ik:=sq #[R 353]
noncomputable def a1o:=sq #[S wd 692]
noncomputable def a1n:=sq #[S n1 693,S Ao 694]
noncomputable def a1m:=cf [20,6] An
noncomputable def a1l:=co n2 689 An 223 2 0 0 3 (R 359) U 181 (R 360) .none (R 361) (R 362) (R 363) 695 n0 y1
noncomputable def a1k:=fu [20,6] An [(wd,353)] .none (S n7 595) 364 (R 358)
noncomputable def a1j:=sq #[S n1 701,S ⟨#[115,114,99]⟩ 702,S Ap 703]
noncomputable def a1i:=cf [20,7] Am
noncomputable def a1h:=co BI 698 Am 227 3 0 0 3 (R 366) U 181 (R 367) .none (R 368) (R 369) (R 370) 704 n0 y1
noncomputable def a1g:=fu [20,7] Am [] .none (S n7 595) 371 .none
noncomputable def a1f:=sq #[S n1 710,S yH 711,S ⟨#[102]⟩ 712,S rC 713,S Ap 714,S Ô 715]
noncomputable def a1e:=cf [20,8] Al
noncomputable def a1d:=co tf 707 Al 230 2 0 0 3 (R 373) U 181 (R 374) .none (R 375) (R 376) (R 377) 716 n0 y1
noncomputable def a1c:=fu [20,8] Al [] .none (S n7 595) 378 .none
noncomputable def a1b:=sq #[S wd 722]
noncomputable def a1a:=sq #[S n1 723,S Ô 724,S Ö 725,S Õ 726,S Iv 727]
noncomputable def a19:=cf [20,9] Ak
noncomputable def a18:=co wh 719 Ak 237 2 0 0 35 (R 381) U 181 (R 382) .none (R 383) (R 384) (R 385) 728 n0 y1
noncomputable def a17:=fu [20,9] Ak [(wd,353)] .none (S n7 595) 386 (R 380)
noncomputable def a16:=sq #[S n1 734,S ⟨#[114]⟩ 735]
noncomputable def a15:=cf [20,10] Aj
noncomputable def a14:=co BH 731 Aj 256 1 0 0 3 (R 388) U 181 (R 389) .none (R 390) (R 391) (R 392) 736 n0 y1
noncomputable def a13:=fu [20,10] Aj [] .none (S n7 595) 393 .none
noncomputable def a0z:=sq #[S n1 742,S ⟨#[105,100,95,99,104,97,114,115]⟩ 743]
noncomputable def a0y:=cf [20,11] Ai
noncomputable def a0x:=co BG 739 Ai 410 1 0 0 3 (R 395) U 181 (R 396) .none (R 397) (R 398) (R 399) 744 n0 y1
noncomputable def a0w:=fu [20,11] Ai [] .none (S n7 595) 400 .none
noncomputable def a0v:=sq #[S n1 750,S ⟨#[110,117,109,98,101,114,95,99,104,97,114,115]⟩ 751]
noncomputable def a0u:=cf [20,12] Ah
noncomputable def a0t:=co BF 747 Ah 416 1 0 0 3 (R 402) U 181 (R 403) .none (R 404) (R 405) (R 406) 752 n0 y1
noncomputable def a0s:=fu [20,12] Ah [] .none (S n7 595) 407 .none
noncomputable def a0r:=sq #[S n1 758]
noncomputable def a0q:=cf [20,13] Af
noncomputable def a0p:=co BD 755 Af 436 1 0 0 3 (R 409) U 181 (R 410) .none (R 411) (R 412) (R 413) 759 n0 y1
noncomputable def a0o:=fu [20,13] Af [] .none (S n7 595) 414 .none
noncomputable def a0n:=sq #[S n1 765]
noncomputable def a0m:=cf [20,14] Ae
noncomputable def a0l:=co BC 762 Ae 444 1 0 0 3 (R 416) U 181 (R 417) .none (R 418) (R 419) (R 420) 766 n0 y1
noncomputable def a0k:=fu [20,14] Ae [] .none (S n7 595) 421 .none
noncomputable def a0j:=sq #[S n1 772,S ⟨#[99]⟩ 773]
noncomputable def a0i:=cf [20,15] Ad
noncomputable def a0h:=co BB 769 Ad 449 1 0 0 3 (R 423) U 181 (R 424) .none (R 425) (R 426) (R 427) 774 n0 y1
noncomputable def a0g:=fu [20,15] Ad [] .none (S n7 595) 428 .none
noncomputable def a0f:=sq #[S n1 780]
noncomputable def a0e:=cf [20,16] Ac
noncomputable def a0d:=co Bz 777 Ac 457 1 0 0 3 (R 430) U 181 (R 431) .none (R 432) (R 433) (R 434) 781 n0 y1
noncomputable def a0c:=fu [20,16] Ac [] .none (S n7 595) 435 .none
noncomputable def a0b:=sq #[S n1 787,S ⟨#[99]⟩ 788]
noncomputable def a0a:=cf [20,17] Ab
noncomputable def a09:=co By 784 Ab 467 1 0 0 3 (R 437) U 181 (R 438) .none (R 439) (R 440) (R 441) 789 n0 y1
noncomputable def a08:=fu [20,17] Ab [] .none (S n7 595) 442 .none
noncomputable def a07:=sq #[S n1 795]
noncomputable def a06:=cf [20,18] Aa
noncomputable def a05:=co Bx 792 Aa 476 1 0 0 3 (R 444) U 181 (R 445) .none (R 446) (R 447) (R 448) 796 n0 y1
noncomputable def a04:=fu [20,18] Aa [] .none (S n7 595) 449 .none
noncomputable def a03:=sq #[S n1 802]
noncomputable def a02:=cf [20,19] A9
noncomputable def a01:=co Bw 799 A9 485 1 0 0 3 (R 451) U 181 (R 452) .none (R 453) (R 454) (R 455) 803 n0 y1
noncomputable def a00:=fu [20,19] A9 [] .none (S n7 595) 456 .none
noncomputable def ZZ:=sq #[S Ao 806]
noncomputable def ZY(F:g9):bV:=⟨T y4,W, .dict #[en F n3 672 (S n7 595),en F n4 676 (I 215 675),en F Jl 678 (S It 677),en F Jk 680 (S Ir 679),en F Jj 682 (S ⟨#[48,49]⟩ 681),en F IG 684 (S Iq 683),en F IF 686 (S Ip 685),en F IE 688 (S Io 687),en F n2 697 (R 365),en F BI 706 (R 372),en F tf 718 (R 379),en F wh 730 (R 387),en F BH 738 (R 394),en F BG 746 (R 401),en F BF 754 (R 408),en F BD 761 (R 415),en F BC 768 (R 422),en F BB 776 (R 429),en F Bz 783 (R 436),en F By 791 (R 443),en F Bx 798 (R 450),en F Bw 805 (R 457),en F n5 807 (R 458),en F n8 809 .none] 3,#[]⟩
noncomputable def ZX:bV:=⟨T y6,W, .cls ⟨sW,[R 296],[R 460,R 296,T y3],459,sW,U,[],[],X,W,X⟩,#[Y (R 350),W,Y (S sW 665),Y (S sW 673),Y (.builtin y7),Y (.bool U)]⟩
noncomputable def ZQ:=sq #[S n1 829]
noncomputable def ZP:=cf [22,0] A8
noncomputable def ZO:=co n2 826 A8 509 1 0 0 3 (R 470) U 181 (R 471) .none (R 472) (R 473) (R 474) 830 n0 y1
noncomputable def ZN:=fu [22,0] A8 [] .none (S pa 812) 475 .none
noncomputable def ZM:=sq #[S n1 836,S ⟨#[112,97,116,104]⟩ 837]
noncomputable def ZL:=cf [22,1] A7
noncomputable def ZK:=co Bv 833 A7 519 2 0 0 3 (R 477) U 181 (R 478) .none (R 479) (R 480) (R 481) 838 n0 y1
noncomputable def ZJ:=fu [22,1] A7 [] .none (S pa 812) 482 .none
noncomputable def ZI:=sq #[S n1 844,S ⟨#[112,97,116,104,115]⟩ 845]
noncomputable def ZH:=cf [22,2] A6
noncomputable def ZG:=co Bu 841 A6 522 2 0 0 3 (R 484) U 181 (R 485) .none (R 486) (R 487) (R 488) 846 n0 y1
noncomputable def ZF:=fu [22,2] A6 [] .none (S pa 812) 489 .none
noncomputable def ZE:=sq #[S n1 852,S A5 853]
noncomputable def ZD:=cf [22,3] A4
noncomputable def ZC:=co Bt 849 A4 525 2 0 0 3 (R 491) U 181 (R 492) .none (R 493) (R 494) (R 495) 854 n0 y1
noncomputable def ZA:=fu [22,3] A4 [] .none (S pa 812) 496 .none
noncomputable def Zz:=sq #[S n1 860,S A5 861]
noncomputable def Zy:=cf [22,4] ω
noncomputable def Zx:=co Br 857 ω 528 2 0 0 3 (R 498) U 181 (R 499) .none (R 500) (R 501) (R 502) 862 n0 y1
noncomputable def Zw:=fu [22,4] ω [] .none (S pa 812) 503 .none
noncomputable def Zv:=sq #[S n1 868,S A5 869,S Im 870]
noncomputable def Zu:=cf [22,5] ψ
noncomputable def Zt:=co Ú 865 ψ 531 3 0 0 3 (R 505) U 181 (R 506) .none (R 507) (R 508) (R 509) 871 n0 y1
noncomputable def Zr:=fu [22,5] ψ [] .none (S pa 812) 510 .none
noncomputable def Zq:=sq #[S n1 877,S ⟨#[105,110,100,101,120]⟩ 878]
noncomputable def Zp:=cf [22,6] χ
noncomputable def Zo:=co Bq 874 χ 534 2 0 0 3 (R 512) U 181 (R 513) .none (R 514) (R 515) (R 516) 879 n0 y1
noncomputable def Zn:=fu [22,6] χ [] .none (S pa 812) 517 .none
noncomputable def Zm:=sq #[S n1 885,S Iu 886,S Im 887]
noncomputable def Zl:=cf [22,7] φ
noncomputable def Zk:=co Bp 882 φ 537 3 0 0 3 (R 519) U 181 (R 520) .none (R 521) (R 522) (R 523) 888 n0 y1
noncomputable def Zj:=fu [22,7] φ [] .none (S pa 812) 524 .none
noncomputable def Zi:=sq #[S ⟨#[105,110,99,108,117,100,101,95,100,105,114,101,99,116,111,114,105,101,115]⟩ 891,S ⟨#[109,97,99,114,111,115]⟩ 892,S ⟨#[115,101,116,116,105,110,103,115]⟩ 893,S ⟨#[117,110,100,101,102,105,110,101,95,109,97,99,114,111,115]⟩ 894]
noncomputable def Zh(F:g9):bV:=⟨T y4,W, .dict #[en F n3 821 (S pa 812),en F n4 825 (I 507 824),en F n2 832 (R 476),en F Bv 840 (R 483),en F Bu 848 (R 490),en F Bt 856 (R 497),en F Br 864 (R 504),en F Ú 873 (R 511),en F Bq 881 (R 518),en F Bp 890 (R 525),en F n5 895 (R 526),en F qk 897 (R 529),en F oh 899 (R 530),en F n8 900 .none] 4,#[]⟩
noncomputable def Zg:bV:=⟨T y6,W, .cls ⟨sV,[T y3],[R 528,T y3],527,sV,U,[],[],X,W,X⟩,#[W,W,Y (S sV 814),Y (S sV 822),Y (.builtin y7),Y (.bool U)]⟩
noncomputable def Zf:=fi y5 #[S qk 896,R 528, .builtin yz, .builtin yy]
noncomputable def Ze:=fi y5 #[S oh 898,R 528, .builtin w8,.none]
noncomputable def Zb:=cf [24] yR
noncomputable def Za:=co yR 905 yR 540 0 0 0 3 (R 533) U 181 (R 534) .none (R 535) (R 536) (R 537) 908 n0 y1
noncomputable def Z9:=fu [24] yR [] .none (S pd 903) 538 .none
noncomputable def Z8:=cf [25] yQ
noncomputable def Z7:=co yQ 911 yQ 542 0 0 0 3 (R 540) U 181 (R 541) .none (R 542) (R 543) (R 544) 914 n0 y1
noncomputable def Z6:=fu [25] yQ [] .none (S pd 903) 545 .none
noncomputable def Z5:=cf [26] yP
noncomputable def Z4:=co yP 917 yP 544 0 0 0 3 (R 547) U 181 (R 548) .none (R 549) (R 550) (R 551) 920 n0 y1
noncomputable def Z3:=fu [26] yP [] .none (S pd 903) 552 .none
noncomputable def Z2:=cf [27] yO
noncomputable def Z1:=co yO 923 yO 546 0 0 0 3 (R 554) U 181 (R 555) .none (R 556) (R 557) (R 558) 926 n0 y1
noncomputable def Z0:=fu [27] yO [] .none (S pd 903) 559 .none
noncomputable def YZ:=cf [28] yN
noncomputable def YY:=co yN 929 yN 548 0 0 0 3 (R 561) U 181 (R 562) .none (R 563) (R 564) (R 565) 932 n0 y1
noncomputable def YX:=fu [28] yN [] .none (S pd 903) 566 .none
noncomputable def YW:=sq #[S ⟨#[118]⟩ 938,S ⟨#[98,97,115,101]⟩ 939,S ⟨#[119,105,100,116,104]⟩ 940,S ⟨#[100,105,103,105,116,115]⟩ 941,S Ò 942]
noncomputable def YV:=cf [29] yM
noncomputable def YU:=co yM 935 yM 550 4 0 0 3 (R 568) U 181 (R 569) .none (R 570) (R 571) (R 572) 943 n0 y1
noncomputable def YT:=fu [29] yM [] .none (S pd 903) 573 .none
noncomputable def YS:=sq #[S ⟨#[107,105,110,100]⟩ 949,S ⟨#[109]⟩ 950,S ⟨#[118]⟩ 951,S ⟨#[115,105,103,110]⟩ 952]
noncomputable def YR:=cf [30] yL
noncomputable def YQ:=co yL 946 yL 556 2 0 0 3 (R 575) U 181 (R 576) .none (R 577) (R 578) (R 579) 953 n0 y1
noncomputable def YP:=fu [30] yL [] .none (S pd 903) 580 .none
noncomputable def YO:=sq #[S Ò 959]
noncomputable def YN:=cf [31] yK
noncomputable def YM:=co yK 956 yK 573 1 0 0 3 (R 582) U 181 (R 583) .none (R 584) (R 585) (R 586) 960 n0 y1
noncomputable def YL:=fu [31] yK [] .none (S pd 903) 587 .none
noncomputable def YK:=sq #[S Ò 966,S ⟨#[102,97,117,108,116]⟩ 967]
noncomputable def YJ:=cf [32] yJ
noncomputable def YI:=co yJ 963 yJ 580 1 0 0 3 (R 589) U 181 (R 590) .none (R 591) (R 592) (R 593) 968 n0 y1
noncomputable def YH:=fu [32] yJ [] .none (S pd 903) 594 .none
noncomputable def YG:=cf [33] yI
noncomputable def YF:=co yI 971 yI 586 1 0 0 3 (R 596) U 181 (R 597) .none .none .none (R 598) 974 n0 y1
noncomputable def YE:=fu [33] yI [] .none (S pd 903) 599 .none
noncomputable def m4:bV:=⟨T "tuple" ,W, .seq #[] 0,#[]⟩
noncomputable def ry:bV:=⟨T "builtin_function_or_method" ,W, .fields #[ .builtin "type.__prepare__" ,T "type" ],#[]⟩
noncomputable def o45(F:g9):bV:=⟨T "dict" ,W, .dict #[en F n3 235 (S qg 226),en F rD 237 (S t9 236),en F n4 239 (I 54 238),en F Û 243 (R 50),en F n2 253 (R 57),en F n6 260 (R 64),en F n5 264 (R 65)] 7,#[]⟩
noncomputable def o47:bV:=⟨.none,W, .fields #[I 57 0,I 4 0,R 56,I 63 0,I 4 0,R 63],#[]⟩
noncomputable def o48:=co t9 230 t9 54 0 0 0 0 (R 46) X 181 (R 47) .none .none .none .none 233 n0 "code"
noncomputable def o49:bV:=⟨T "frame" ,W,.plain,#[Y (R 48),Y (R 3),Y (R 45),W,Y (S qg 226),W,Y (R 0)]⟩
noncomputable def o66:bV:=⟨T "list" ,W, .seq #[S qi 240,S qh 241,S lO 242] 1,#[]⟩
noncomputable def o72:bV:=⟨T "super" ,W, .fields #[R 68,R 68,R 68],#[]⟩
noncomputable def o73:bV:=⟨T "builtin_function_or_method" ,W, .fields #[ .builtin "object.__init_subclass__" ,R 68],#[]⟩
noncomputable def o76(F:g9):bV:=⟨T "dict" ,W, .dict #[en F n3 281 (S qg 226),en F rD 283 (S t8 282),en F n4 285 (I 65 284),en F Û 291 (R 81),en F n2 303 (R 89),en F n6 310 (R 96),en F n5 316 (R 97)] 7,#[]⟩
noncomputable def o78:bV:=⟨.none,W, .fields #[I 68 0,I 4 0,R 88,I 75 0,I 4 0,R 95],#[]⟩
noncomputable def o79:=co t8 276 t8 65 0 0 0 0 (R 77) X 181 (R 78) .none .none .none .none 279 n0 "code"
noncomputable def o80:bV:=⟨T "frame" ,W,.plain,#[Y (R 79),Y (R 3),Y (R 76),W,Y (S qg 226),W,Y (R 0)]⟩
noncomputable def o98:bV:=⟨T "list" ,W, .seq #[S rC 286,S rz 287,S sU 288,S wg 289,S uF 290] 1,#[]⟩
noncomputable def a69:bV:=⟨T "super" ,W, .fields #[R 100,R 100,R 100],#[]⟩
noncomputable def a68:bV:=⟨T "builtin_function_or_method" ,W, .fields #[ .builtin "object.__init_subclass__" ,R 100],#[]⟩
noncomputable def a66(F:g9):bV:=⟨T "dict" ,W, .dict #[en F n3 339 (S uE 330),en F rD 341 (S t7 340),en F n4 343 (I 78 342),en F n2 356 (R 123),en F n6 363 (R 130),en F BV 370 (R 137),en F BU 379 (R 145),en F n5 382 (R 146),en F ID 383 (R 111)] 9,#[]⟩
noncomputable def a64:bV:=⟨.none,W, .fields #[I 80 0,I 4 0,R 122,I 85 0,I 4 0,R 129,I 88 0,I 4 0,R 136,I 91 0,I 4 0,R 144],#[]⟩
noncomputable def a63:=co t7 334 t7 78 0 0 0 0 (R 112) X 181 (R 113) .none .none .none .none 337 n0 "code"
noncomputable def a62:bV:=⟨T "frame" ,W,.plain,#[Y (R 114),Y (R 3),Y (R 110),W,Y (S uE 330),W,Y (R 0)]⟩
noncomputable def a5e:bV:=⟨T "super" ,W, .fields #[R 148,R 148,R 148],#[]⟩
noncomputable def a5d:bV:=⟨T "builtin_function_or_method" ,W, .fields #[ .builtin "object.__init_subclass__" ,R 148],#[]⟩
noncomputable def a5b(F:g9):bV:=⟨T "dict" ,W, .dict #[en F n3 400 (S yG 391),en F rD 402 (S t6 401),en F n4 404 (I 94 403),en F n2 414 (R 167),en F n6 421 (R 174),en F n5 425 (R 175)] 6,#[]⟩
noncomputable def a5a:bV:=⟨.none,W, .fields #[I 96 0,I 4 0,R 166,I 105 0,I 4 0,R 173],#[]⟩
noncomputable def a59:=co t6 395 t6 94 0 0 0 0 (R 156) X 181 (R 157) .none .none .none .none 398 n0 "code"
noncomputable def a58:bV:=⟨T "frame" ,W,.plain,#[Y (R 158),Y (R 3),Y (R 155),W,Y (S yG 391),W,Y (R 0)]⟩
noncomputable def a4v:bV:=⟨T "super" ,W, .fields #[R 177,R 177,R 177],#[]⟩
noncomputable def a4u:bV:=⟨T "builtin_function_or_method" ,W, .fields #[ .builtin "object.__init_subclass__" ,R 177],#[]⟩
noncomputable def a4t(F:g9):bV:=⟨T "dict" ,W, .dict #[en F n3 442 (S n9 433),en F rD 444 (S sZ 443),en F n4 446 (I 108 445),en F n2 455 (R 194),en F n6 462 (R 201),en F n5 465 (R 202)] 6,#[]⟩
noncomputable def a4s:bV:=⟨.none,W, .fields #[I 110 0,I 4 0,R 193,I 114 0,I 4 0,R 200],#[]⟩
noncomputable def a4r:=co sZ 437 sZ 108 0 0 0 0 (R 184) X 181 (R 185) .none .none .none .none 440 n0 "code"
noncomputable def a4q:bV:=⟨T "frame" ,W,.plain,#[Y (R 186),Y (R 3),Y (R 183),W,Y (S n9 433),W,Y (R 0)]⟩
noncomputable def a4c:bV:=⟨T "super" ,W, .fields #[R 204,R 204,R 204],#[]⟩
noncomputable def a4b:bV:=⟨T "builtin_function_or_method" ,W, .fields #[ .builtin "object.__init_subclass__" ,R 204],#[]⟩
noncomputable def a4a(F:g9):bV:=⟨T "dict" ,W, .dict #[en F n3 480 (S n9 433),en F rD 482 (S sY 481),en F n4 484 (I 116 483),en F n2 491 (R 222),en F wh 501 (R 229),en F BS 510 (R 237),en F BR 518 (R 244),en F BQ 529 (R 251),en F BP 536 (R 258),en F BN 545 (R 265),en F BM 553 (R 272),en F BL 564 (R 279),en F BK 574 (R 286),en F BJ 582 (R 293),en F n5 587 (R 294)] 15,#[]⟩
noncomputable def a49:bV:=⟨.none,W, .fields #[I 118 0,I 4 0,R 221,I 123 0,I 4 0,R 228,I 131 0,I 4 0,R 236,I 142 0,I 4 0,R 243,I 147 0,I 4 0,R 250,I 154 0,I 4 0,R 257,I 157 0,I 4 0,R 264,I 165 0,I 4 0,R 271,I 169 0,I 4 0,R 278,I 182 0,I 4 0,R 285,I 187 0,I 4 0,R 292],#[]⟩
noncomputable def a48:=co sY 475 sY 116 0 0 0 0 (R 212) X 181 (R 213) .none .none .none .none 478 n0 "code"
noncomputable def a47:bV:=⟨T "frame" ,W,.plain,#[Y (R 214),Y (R 3),Y (R 211),W,Y (S n9 433),W,Y (R 0)]⟩
noncomputable def a2s:bV:=⟨T "super" ,W, .fields #[R 296,R 296,R 296],#[]⟩
noncomputable def a2q:bV:=⟨T "builtin_function_or_method" ,W, .fields #[ .builtin "object.__init_subclass__" ,R 296],#[]⟩
noncomputable def a2p(F:g9):bV:=⟨T "dict" ,W, .dict #[en F n3 604 (S n7 595),en F rD 606 (S sX 605),en F n4 608 (I 191 607),en F n2 616 (R 314),en F n6 623 (R 321),en F n5 626 (R 322)] 6,#[]⟩
noncomputable def a2o:bV:=⟨.none,W, .fields #[I 193 0,I 4 0,R 313,I 197 0,I 4 0,R 320],#[]⟩
noncomputable def a2n:=co sX 599 sX 191 0 0 0 0 (R 304) X 181 (R 305) .none .none .none .none 602 n0 "code"
noncomputable def a2m:bV:=⟨T "frame" ,W,.plain,#[Y (R 306),Y (R 3),Y (R 303),W,Y (S n7 595),W,Y (R 0)]⟩
noncomputable def a28:bV:=⟨T "super" ,W, .fields #[R 324,R 324,R 324],#[]⟩
noncomputable def a27:bV:=⟨T "builtin_function_or_method" ,W, .fields #[ .builtin "object.__init_subclass__" ,R 324],#[]⟩
noncomputable def a1t(F:g9):bV:=⟨T "dict" ,W, .dict #[en F n3 672 (S n7 595),en F rD 674 (S sW 673),en F n4 676 (I 215 675),en F Jl 678 (S It 677),en F Jk 680 (S Ir 679),en F Jj 682 (S ⟨#[48,49]⟩ 681),en F IG 684 (S Iq 683),en F IF 686 (S Ip 685),en F IE 688 (S Io 687),en F n2 697 (R 365),en F BI 706 (R 372),en F tf 718 (R 379),en F wh 730 (R 387),en F BH 738 (R 394),en F BG 746 (R 401),en F BF 754 (R 408),en F BD 761 (R 415),en F BC 768 (R 422),en F BB 776 (R 429),en F Bz 783 (R 436),en F By 791 (R 443),en F Bx 798 (R 450),en F Bw 805 (R 457),en F n5 807 (R 458),en F ID 808 (R 353)] 25,#[]⟩
noncomputable def a1r:bV:=⟨.none,W, .fields #[I 223 0,I 4 0,R 364,I 227 0,I 4 0,R 371,I 230 0,I 4 0,R 378,I 237 0,I 4 0,R 386,I 256 0,I 4 0,R 393,I 410 0,I 4 0,R 400,I 416 0,I 4 0,R 407,I 436 0,I 4 0,R 414,I 444 0,I 4 0,R 421,I 449 0,I 4 0,R 428,I 457 0,I 4 0,R 435,I 467 0,I 4 0,R 442,I 476 0,I 4 0,R 449,I 485 0,I 4 0,R 456],#[]⟩
noncomputable def a1q:=co sW 667 sW 215 0 0 0 0 (R 354) X 181 (R 355) .none .none .none .none 670 n0 "code"
noncomputable def a1p:bV:=⟨T "frame" ,W,.plain,#[Y (R 356),Y (R 3),Y (R 352),W,Y (S n7 595),W,Y (R 0)]⟩
noncomputable def ZW:bV:=⟨T "super" ,W, .fields #[R 460,R 460,R 460],#[]⟩
noncomputable def ZV:bV:=⟨T "builtin_function_or_method" ,W, .fields #[ .builtin "object.__init_subclass__" ,R 460],#[]⟩
noncomputable def ZU(F:g9):bV:=⟨T "dict" ,W, .dict #[en F n3 821 (S pa 812),en F rD 823 (S sV 822),en F n4 825 (I 507 824),en F n2 832 (R 476),en F Bv 840 (R 483),en F Bu 848 (R 490),en F Bt 856 (R 497),en F Br 864 (R 504),en F Ú 873 (R 511),en F Bq 881 (R 518),en F Bp 890 (R 525),en F n5 895 (R 526)] 12,#[]⟩
noncomputable def ZT:bV:=⟨.none,W, .fields #[I 509 0,I 4 0,R 475,I 519 0,I 4 0,R 482,I 522 0,I 4 0,R 489,I 525 0,I 4 0,R 496,I 528 0,I 4 0,R 503,I 531 0,I 4 0,R 510,I 534 0,I 4 0,R 517,I 537 0,I 4 0,R 524],#[]⟩
noncomputable def ZS:=co sV 816 sV 507 0 0 0 0 (R 466) X 181 (R 467) .none .none .none .none 819 n0 "code"
noncomputable def ZR:bV:=⟨T "frame" ,W,.plain,#[Y (R 468),Y (R 3),Y (R 465),W,Y (S pa 812),W,Y (R 0)]⟩
noncomputable def Zd:bV:=⟨T "super" ,W, .fields #[R 528,R 528,R 528],#[]⟩
noncomputable def Zc:bV:=⟨T "builtin_function_or_method" ,W, .fields #[ .builtin "object.__init_subclass__" ,R 528],#[]⟩
noncomputable abbrev N:=BT.node
noncomputable abbrev Z:=BT.nil
noncomputable def bt(F:g9):BT:=N (o0 F) (N (o1 F) (N (o3 F) (N o7 (N o7 (N o31 (N o63 (N o7 (N o7 (N Zr Z Z) Z) (N a1a Z Z)) (N o7 (N a2g (N o7 Z Z) Z) (N o7 Z Z))) (N o95 (N a58 (N o7 (N o7 Z Z) Z) (N a0o Z Z)) (N o7 (N ry Z Z) (N ZM Z Z)))) (N o47 (N o79 (N a5m (N a3b (N (Zh F) Z Z) Z) (N a0y Z Z)) (N a4c (N a23 (N YK Z Z) Z) (N m4 Z Z))) (N a65 (N a4z (N (a2p F) (N Z1 Z Z) Z) (N o8 Z Z)) (N o8 (N o8 Z Z) (N ZD Z Z))))) (N o8 (N o7 (N o71 (N a5q (N a3g (N o7 Z Z) Z) (N o7 Z Z)) (N a4k (N a28 (N o8 Z Z) Z) (N a02 Z Z))) (N a6c (N a54 (N (a2w F) (N Z5 Z Z) Z) (N o7 Z Z)) (N o7 (N a1o Z Z) (N o7 Z Z)))) (N o55 (N o87 (N a5e (N a36 (N o7 Z Z) Z) (N a0t Z Z)) (N a47 (N o7 (N YF Z Z) Z) (N o8 Z Z))) (N a5z (N (a4t F) (N o7 (N YX Z Z) Z) (N a0b Z Z)) (N a3p (N a1f Z Z) (N Zx Z Z)))))) (N o7 (N o19 (N o35 (N (o67 F) (N o7 (N o7 (N o7 Z Z) Z) (N a17 Z Z)) (N o7 (N (a2c F) (N YR Z Z) Z) (N o7 Z Z))) (N (o99 F) (N a57 (N a30 (N o7 Z Z) Z) (N o7 Z Z)) (N a41 (N a1r Z Z) (N ZJ Z Z)))) (N o7 (N o7 (N (a5i F) (N a39 (N Zd Z Z) Z) (N o8 Z Z)) (N (a4a F) (N o7 (N YH Z Z) Z) (N ZT Z Z))) (N a62 (N a4v (N a2m (N o7 Z Z) Z) (N a0d Z Z)) (N a3r (N a1h Z Z) (N o8 Z Z))))) (N o27 (N m4 (N ry (N o7 (N o8 (N Zl Z Z) Z) (N o7 Z Z)) (N (a4g F) (N a26 (N YM Z Z) Z) (N (ZY F) Z Z))) (N a68 (N o7 (N a2s (N o8 Z Z) Z) (N a0i Z Z)) (N a3w (N a1m Z Z) (N o7 Z Z)))) (N o8 (N o8 (N (a5b F) (N o7 (N Z9 Z Z) Z) (N a0r Z Z)) (N o7 (N a1x Z Z) (N ZO Z Z))) (N a5w (N a4q (N o7 (N o7 Z Z) Z) (N a08 Z Z)) (N a3m (N a1c Z Z) (N Zv Z Z))))))) (N o5 (N o9 (N o17 (N o33 (N o65 (N a5t (N a3j (N o8 Z Z) Z) (N a19 Z Z)) (N a4n (N a2e (N YS Z Z) Z) (N a05 Z Z))) (N o97 (N o7 (N a31 (N Z7 Z Z) Z) (N o8 Z Z)) (N a42 (N a1s Z Z) (N ZL Z Z)))) (N o49 (N o81 (N a5k (N o7 (N Zf Z Z) Z) (N a0w Z Z)) (N m4 (N o8 (N YJ Z Z) Z) (N (ZU F) Z Z))) (N a64 (N a4x (N a2o (N o7 Z Z) Z) (N o7 Z Z)) (N o7 (N o7 Z Z) (N ZA Z Z))))) (N o7 (N o41 (N o73 (N a5o (N a3e (N Zm Z Z) Z) (N a14 Z Z)) (N a4i (N o7 (N o7 Z Z) Z) (N a00 Z Z))) (N a6a (N o8 (N a2u (N Z3 Z Z) Z) (N a0j Z Z)) (N a3x (N a1n Z Z) (N ZG Z Z)))) (N o57 (N o89 (N a5c (N o8 (N Zb Z Z) Z) (N o7 Z Z)) (N o8 (N a1y Z Z) (N o7 Z Z))) (N a5y (N a4s (N a2j (N o8 Z Z) Z) (N a0a Z Z)) (N a3o (N a1e Z Z) (N o7 Z Z)))))) (N o13 (N o21 (N o8 (N o69 (N a5r (N a3h (N Zo Z Z) Z) (N o8 Z Z)) (N a4l (N a2a (N YP Z Z) Z) (N a03 Z Z))) (N a6e (N a56 (N a2y (N o7 Z Z) Z) (N a0l Z Z)) (N a3z (N a1p Z Z) (N o8 Z Z)))) (N o53 (N o85 (N a5g (N a38 (N o7 Z Z) Z) (N o7 Z Z)) (N a49 (N a20 (N o8 Z Z) Z) (N ZR Z Z))) (N a60 (N m4 (N o8 (N YZ Z Z) Z) (N o7 Z Z)) (N o7 (N o7 Z Z) (N o7 Z Z))))) (N o7 (N (o45 F) (N m4 (N a5n (N o7 (N Zj Z Z) Z) (N a0z Z Z)) (N a4e (N a25 (N o7 Z Z) Z) (N ZW Z Z))) (N ry (N a51 (N m4 (N o7 Z Z) Z) (N a0g Z Z)) (N a3u (N a1k Z Z) (N ZE Z Z)))) (N o7 (N o7 (N a5a (N a33 (N o8 Z Z) Z) (N a0q Z Z)) (N a44 (N a1v Z Z) (N o7 Z Z))) (N o8 (N o8 (N a2h (N YU Z Z) Z) (N o8 Z Z)) (N o8 (N a1b Z Z) (N Zu Z Z)))))))) (N (o2 F) (N o4 (N o8 (N o8 (N o7 (N o64 (N a5u (N a3k (N o7 Z Z) Z) (N o7 Z Z)) (N a4o (N a2f (N o8 Z Z) Z) (N a06 Z Z))) (N o96 (N Il (N o8 (N Z8 Z Z) Z) (N o7 Z Z)) (N o8 (N (a1t F) Z Z) (N o7 Z Z)))) (N o48 (N o80 (N a5l (N a3a (N Zg Z Z) Z) (N a0x Z Z)) (N a4b (N o7 (N o7 Z Z) Z) (N ry Z Z))) (N m4 (N (a4y F) (N m4 (N Z0 Z Z) Z) (N a0f Z Z)) (N a3t (N a1j Z Z) (N ZC Z Z))))) (N o24 (N o40 (N o72 (N a5p (N a3f (N o8 Z Z) Z) (N a15 Z Z)) (N a4j (N a27 (N YO Z Z) Z) (N a01 Z Z))) (N a6b (N o7 (N a2v (N Z4 Z Z) Z) (N o8 Z Z)) (N o8 (N o8 Z Z) (N ZH Z Z)))) (N o56 (N o88 (N a5d (N o7 (N o7 Z Z) Z) (N a0s Z Z)) (N o7 (N o8 (N YE Z Z) Z) (N ZQ Z Z))) (N o7 (N m4 (N a2k (N o7 Z Z) Z) (N o7 Z Z)) (N o7 (N o7 Z Z) (N Zw Z Z)))))) (N o12 (N o20 (N o7 (N o68 (N o8 (N o8 (N Zp Z Z) Z) (N o7 Z Z)) (N o8 (N a2b (N YQ Z Z) Z) (N o8 Z Z))) (N a6f (N o7 (N a2z (N o8 Z Z) Z) (N a0m Z Z)) (N a40 (N a1q Z Z) (N o7 Z Z)))) (N o8 (N o8 (N a5h (N o7 (N Zc Z Z) Z) (N a0v Z Z)) (N m4 (N a21 (N o7 Z Z) Z) (N ZS Z Z))) (N a61 (N a4u (N o7 (N o7 Z Z) Z) (N a0c Z Z)) (N a3q (N a1g Z Z) (N Zz Z Z))))) (N o28 (N ry (N (o76 F) (N o8 (N a3d (N Zk Z Z) Z) (N o8 Z Z)) (N a4f (N o7 (N YL Z Z) Z) (N ZX Z Z))) (N a67 (N a52 (N a2q (N o7 Z Z) Z) (N a0h Z Z)) (N a3v (N a1l Z Z) (N o8 Z Z)))) (N o60 (N o92 (N m4 (N a34 (N o7 Z Z) Z) (N o7 Z Z)) (N a45 (N a1w Z Z) (N ZN Z Z))) (N o7 (N o7 (N o8 (N YV Z Z) Z) (N o7 Z Z)) (N o7 (N Ik Z Z) (N o7 Z Z))))))) (N o6 (N o10 (N o7 (N o34 (N o66 (N a5s (N a3i (N Zq Z Z) Z) (N a18 Z Z)) (N a4m (N a2d (N o7 Z Z) Z) (N a04 Z Z))) (N o98 (N o8 (N o7 (N Z6 Z Z) Z) (N a0n Z Z)) (N o7 (N m4 Z Z) (N ZK Z Z)))) (N o50 (N o82 (N a5j (N o8 (N Ze Z Z) Z) (N o7 Z Z)) (N ry (N a22 (N YI Z Z) Z) (N m4 Z Z))) (N a63 (N a4w (N a2n (N o8 Z Z) Z) (N a0e Z Z)) (N a3s (N a1i Z Z) (N o7 Z Z))))) (N o26 (N o42 (N m4 (N Il (N o7 (N o7 Z Z) Z) (N a13 Z Z)) (N a4h (N o8 (N YN Z Z) Z) (N ZZ Z Z))) (N a69 (N a53 (N a2t (N o7 Z Z) Z) (N o7 Z Z)) (N o7 (N o7 Z Z) (N ZF Z Z)))) (N o7 (N o7 (N ry (N a35 (N Za Z Z) Z) (N o8 Z Z)) (N a46 (N o7 Z Z) (N ZP Z Z))) (N a5x (N a4r (N a2i (N YW Z Z) Z) (N a09 Z Z)) (N a3n (N a1d Z Z) (N o8 Z Z)))))) (N o14 (N o7 (N o38 (N o70 (N o7 (N o7 (N Zn Z Z) Z) (N a16 Z Z)) (N o7 (N a29 (N o7 Z Z) Z) (N o7 Z Z))) (N a6d (N a55 (N a2x (N o7 Z Z) Z) (N a0k Z Z)) (N a3y (N Ik Z Z) (N ZI Z Z)))) (N o7 (N o7 (N a5f (N a37 (N o8 Z Z) Z) (N a0u Z Z)) (N a48 (N a1z (N YG Z Z) Z) (N o7 Z Z))) (N o8 (N ry (N a2l (N YY Z Z) Z) (N o8 Z Z)) (N o8 (N o8 Z Z) (N Zy Z Z))))) (N o8 (N m4 (N o78 (N o7 (N a3c (N Zi Z Z) Z) (N o7 Z Z)) (N a4d (N a24 (N o8 Z Z) Z) (N ZV Z Z))) (N (a66 F) (N a50 (N ry (N Z2 Z Z) Z) (N o7 Z Z)) (N o7 (N o7 Z Z) (N o7 Z Z)))) (N o62 (N o94 (N a59 (N a32 (N o7 Z Z) Z) (N a0p Z Z)) (N a43 (N a1u Z Z) (N o8 Z Z))) (N a5v (N a4p (N o7 (N YT Z Z) Z) (N a07 Z Z)) (N a3l (N o8 Z Z) (N Zt Z Z))))))))
end Bs
noncomputable def wx(F:g9):BT:=Bs.bt F
noncomputable def oA(F:g9):bV:=⟨T "tuple",W, .seq #[],#[]⟩
noncomputable def oB(F:g9):bV:=⟨.none,W, .fields #[],#[]⟩
noncomputable def oC(F:g9):bV:=⟨T "code",W, .fields #[S (gj "<module>") 182,S (gj "<module>") 183,S (gj "/claim/cut.py") 184,I 1 0,I 0 0,I 0 0,I 0 0,I 0 0,R 11, .bool X,I 181 0,R 12, .none, .none, .none, .none,I 185 0,I 1 0,S (gj "/claim/cut.py") 186],#[]⟩
noncomputable def oD(F:g9):bV:=⟨T "frame",W, .plain,#[Y (R 13),Y (R 3),Y (R 3),W,Y (S (gj "__main__") 164),W,Y (R 0)]⟩
noncomputable def Hx(F:g9):eV:={objs:=#[boot_o_0 F,boot_o_1 F,boot_o_2 F,boot_o_3 F,boot_o_4 F,boot_o_5 F,boot_o_6 F,boot_o_7 F,boot_o_8 F,boot_o_9 F,boot_o_10 F,oA F,oB F,oC F,oD F]}
noncomputable def VP(F:g9):BT:= .node (boot_o_0 F) (.node (boot_o_1 F) (.node (boot_o_3 F) (.node (boot_o_7 F) .nil .nil) (.node (oA F) .nil .nil)) (.node (boot_o_5 F) (.node (boot_o_9 F) .nil .nil) (.node (oC F) .nil .nil))) (.node (boot_o_2 F) (.node (boot_o_4 F) (.node (boot_o_8 F) .nil .nil) (.node (oB F) .nil .nil)) (.node (boot_o_6 F) (.node (boot_o_10 F) .nil .nil) (.node (oD F) .nil .nil)))
noncomputable def Ã:di:={scope:=bY.main.scope,locals:=mainNs,globals:=mainNs,cells:=[],code:=R 13,frame:=Y 14}
noncomputable def uL:cN:= .body (CJ bY) Ã
noncomputable def sS:dK:=⟨0,0,0,0⟩
noncomputable abbrev w5:Option bX:=Y (R 6)
noncomputable def S1(w:lJ)(os:tY):SharedT:=⟨VP w.params,15,{},#[],{},187,os⟩
theorem U4(w:lJ)(os:tY):topGo xd bY w 11 w5 12 ⟨vg w.params,#[],boot_drawn,boot_toks,os⟩ (topStub bY)=Y (⟨Hx w.params,#[],{},187,os⟩,⟨gp xd uL,uL,sS,[Į sS]⟩):=by rw[b44,ë,b47];kernel_rfl
theorem U7(w:lJ)(os:tY):segRun xd bY w 11 w5 1 1 ⟨Hx w.params,#[],{},187,os⟩ (blockOf (CJ bY) Ã uL sS [Į sS])=Y (.next,(S1 w os).abs,uL,sS):=by rw[b45,ë];kernel_rfl
theorem U5(w:lJ)(f:cc)(B:cN)(u:dK):topRun xd bY w 11 w5 2 f (restOf [] Ã B u [Į sS])=Y f:=by obtain⟨a,gs,af,i,os⟩:=f;rw[b46,ë];kernel_rfl
noncomputable def IL(w:lJ)(os:tY):SharedT:=⟨wx w.params,601,{},#[],{},977,os⟩
theorem U3(w:lJ)(os:tY):(segRunT xd bY w 11 w5 1 4200 (S1 w os) (piecesOf (CJ bY) Ã uL sS [Į sS])).map (λ d=>(d.1,d.2.1,d.2.2.1))=Y (.next,IL w os,uL):=by rw[b48,ë];kernel_rfl
noncomputable def qv:FK:={bY with main:={bY.main with body:=[bY.main.body.getD 33 default]}}
noncomputable def Þ:List cb:=[gj "_wall",gj "__name__",gj "replace_escape_codes",gj "_hex_end",gj "charval",gj "Token",gj "SourceLocation",gj "CToken",gj "CompilerError",gj "Char",gj "HandLexerBase",gj "SourceFile",gj "create_characters",gj "_lines",gj "lex_text",gj "CLexer",gj "COptions",gj "_law_SHORT",gj "_law_BROKEN",gj "_law_FEW",gj "_law_BARE",gj "_law_DIGITS",gj "_law_spelled",gj "_law_content",gj "_law_worth",gj "_law_stop"]
noncomputable def H1(F:g9):eV:=absHeap (wx F) 601 {}
theorem NK(w:lJ)(os:tY):(staticsOk (Lg bY.main.body) (vg w.params) (H1 w.params)&&namesBound bY (H1 w.params)&&gensDone ⟨H1 w.params,#[],{},977,os⟩&&laidKept (vg w.params) (H1 w.params))=U:=by rw[JZ];kernel_rfl
theorem NJ(w:lJ)(os:tY):openSeen qv Þ (Lg bY.main.body) (λ f=>xlAt qv [] f&&recOk [] f) U ⟨H1 w.params,#[],{},977,os⟩=openGood qv Þ:=by rw[b6h,JZ];kernel_rfl
theorem U1(w:lJ)(os:tY):topRun xd bY w 11 w5 (12+(1+(4200+2))) ⟨vg w.params,#[],boot_drawn,boot_toks,os⟩ (topStub bY)=Y ⟨H1 w.params,#[],{},977,os⟩:=by obtain⟨⟨C,aj,B,u⟩,z,E⟩:=jc.mp (U3 w os);obtain⟨rfl,h3⟩:=eo E;obtain⟨rfl,h4⟩:=eo h3;subst h4;have i:=piece_app (rest:=[]) (segRun_of z) (U5 w (IL w os).abs uL u);rw[md]at i;exact go_top (U4 w os) (piece_block (U7 w os) i)
theorem Qw:opening bY=plainProg bY.main.scope.names:=⋯
theorem NL(f:cc):fenceModules? bY f=Y f:=⋯
theorem Qu(w:lJ):((vg w.params).isNs Dm&&(#[]:Array eY).size==0,(vg w.params).objs.size,(vg w.params).nsMap Dm "__annotations__")=(U,11,w5):=by rw[b6g];kernel_rfl
theorem Qx:LeftO bY qv Þ (λ f=>xlAt qv [] f&&recOk [] f) (λ f=>f.heap.objs) (λ w=>(H1 w.params).objs) 4300:=LeftO.of_pieces (boot_open Qw rfl NL) Qu U1 rfl λ w=>funext λ os=>by rw[NK,NJ]
noncomputable def dOf:dd->DefRec| .FunctionDef H g l _ _ _ e _ _ u=>⟨H,g,l,e,u⟩|_=>⟨⟨#[]⟩,default,[],default,default⟩
noncomputable def ro:DefRec:=dOf (bY.main.body.getD 33 default)
noncomputable abbrev rO:OpenRow:=Fast.tw2368527892694137696 nz
noncomputable abbrev rN:cb->Bool:=Fast.tw13343964577679436407 rO.prog rO.prog.main.body
noncomputable abbrev rS:Bool:=R.allR (Fast.tw5923862056798008813 rO.prog.main.body) (@Fast.tw3471404346716756564 cb (@instBEqOfDecidableEq cb Fast.sDec) Fast.tw17691160309236699985)
noncomputable abbrev rB:List cb:=[⟨⟨[nat_lit 118,nat_lit 97,nat_lit 114,nat_lit 115]⟩⟩,⟨⟨[nat_lit 100,nat_lit 105,nat_lit 114]⟩⟩,⟨⟨[nat_lit 108,nat_lit 111,nat_lit 99,nat_lit 97,nat_lit 108,nat_lit 115]⟩⟩]
theorem WH:rN ⟨⟨[nat_lit 118,nat_lit 97,nat_lit 114,nat_lit 115]⟩⟩=X:=⋯
theorem WG:rN ⟨⟨[nat_lit 100,nat_lit 105,nat_lit 114]⟩⟩=X:=⋯
theorem WE:rN ⟨⟨[nat_lit 108,nat_lit 111,nat_lit 99,nat_lit 97,nat_lit 108,nat_lit 115]⟩⟩=X:=⋯
theorem rF{u:cb->Bool}{g:cb}{r:List cb}(a:u g=X):xe u (g::r)=xe u r:=by show@Bool.rec (λ _=>List cb) (xe u r) (g::xe u r) (u g)=_;rw[a]
theorem WC:rS=U:=⋯
theorem WB:xe rN rB=[]:=(rF WH).trans ((rF WG).trans (rF WE))
theorem WA:Fast.tw8326940854005059898 {strict:=!rS,foot:=W,bare:=xe rN rB} rO.prog.main.body=U:=by rw[WC,WB];kernel_rfl
theorem Wz:Fast.tw8377067652309620493 rO.prog=U:=⋯
theorem Wy:(Fast.tw17119622794617984870 rO.prog rO.prog.main.body λ _ H=>Fast.tw17868728402115742887 H)=U:=⋯
theorem Qv:nz.wellSaid=U:=by rw[b6f];unfold Fast.tw9446332074065402090 Fast.tw17960256430627541270 Fast.tw2436336058641802641 Fast.tw12908688711261696721;rw[WA,Wz,Wy];kernel_rfl
theorem U6:defOf qv nz.row.name=Y (ro,[]):=⋯
theorem U2:nz.row.prog.theDef nz.row.name=Y (ro.params,ro.body,ro.scope):=⋯
theorem WJ:kwWritten? ro.params.kwonlyargs ro.params.kw_defaults=Y []:=⋯
theorem WD:(chainsOk qv&&opensWell nz.row.prog&&(frees nz.row.toRowW&&nz.row.within.isEmpty))=U:=⋯
theorem Qy:nz.row.prog.bare:=⟨⋯,⋯,⋯,⋯,⋯,⋯⟩
noncomputable abbrev XO:Prop:=WalkX qv Þ (XL qv []) (λ f=>f.heap.objs) (λ w=>(H1 w.params).objs) nz.row.toRowW ro [] λ C vs=>tO C vs
theorem U8(b:XO):nz.Holds:=by refine holds_law Qv λ a=>?_;refine holds_openX (r:=nz.row) Qx (λ f e=>xl_of f (Cz.mp e).1) XL.keeps U6 U2 WJ (λ f e=>recFacts_of (Cz.mp e).2) ⋯ a WD Qy ?hw b;case hw=>w_witness2
abbrev AP:Type:=bU->Prop
abbrev VS:Type:=bX->cc->Prop
abbrev FA:Type:=Nat->bU
abbrev RS:Type:=dX->cc->Prop
abbrev hZ:Type:=gK->cc->Prop
abbrev ES:Type:=End->cc->Prop
abbrev US:Type:=Unit->cc->Prop
abbrev lh:Type:=gK->cD fE
abbrev om:Type:=bX->cD fE
noncomputable def Full:Nat->BT->Prop|H, .nil=>H=0|H, .node _ r d=>0<H/\Full (H/2) r/\Full ((H-1)/2) d
theorem Ĥ(k:bV):∀(Q:BT)(H:Nat),Full H Q->Full (H+1) (Q.ins H k)/\(Q.ins H k).get H=Y k
 | .nil,H,a=>by have:H=0:=a;subst this;exact⟨cZ Nat.zero_lt_one rfl rfl,rfl⟩
 | .node b r d,H,a=>by
  refine mM a λ h0 hl D=>?_;have hn:H≠0:=oy h0;rw[BT.ins_node,if_neg hn];by_cases p:H%2=1;·
   rw[if_pos p];have ih:=Ĥ k r (H/2) hl;refine⟨cZ (s6 _) ?_ ?_,?_⟩;·
    have:(H+1)/2=H/2+1:=by lia
    rw[this];exact ih.1
   ·have:(H+1-1)/2=(H-1)/2:=by lia
    rw[this];exact D
   ·rw[Dq,if_neg hn,if_pos p];exact ih.2
  ·rw[if_neg p];have e:H/2-1=(H-1)/2:=by omega
   have ih:=Ĥ k d ((H-1)/2) D;rw[e];refine⟨cZ (s6 _) ?_ ?_,?_⟩;·
    have:(H+1)/2=H/2:=by lia
    rw[this];exact hl
   ·have:(H+1-1)/2=(H-1)/2+1:=by lia
    rw[this];exact ih.1
   ·rw[Dq,if_neg hn,if_neg p,e];exact ih.2
noncomputable def B':List bV->BT->Nat->BT|[],Q,_=>Q|k::d,Q,H=>B' d (Q.ins H k) (H+1)
noncomputable def bt(r:List bV):BT:=B' r .nil 0
theorem DF:∀(r:List bV)(Q:BT)(H:Nat),Full H Q->(∀y,H<=y->Q.get y=W)->∀y,(B' r Q H).get y=if y<H then Q.get y else r[y-H]?
 |[],Q,H,_,hn,y=>by
  by_cases h:y<H;·rw[if_pos h];rfl
  ·rw[if_neg h];exact hn y (pz h)
 |k::d,Q,H,hf,hn,y=>by
  have C:=Ĥ k Q H hf;have O:=DH k Q H (by rw[C.2];rfl);show(B' d (Q.ins H k) (H+1)).get y=_;rw[DF d (Q.ins H k) (H+1) C.1 (λ y hj=>by rw[O,if_neg (oy hj)];exact hn y (qF hj)) y];by_cases h1:y<H;·rw[if_pos h1,if_pos (lR h1),O,if_neg (kR h1)]
  ·by_cases h2:y=H;·subst h2;rw[if_pos (nC _),O,if_pos rfl,if_neg h1,Nat.sub_self];rfl
   ·rw[if_neg (by lia),if_neg h1];have:y-H=(y-(H+1))+1:=by lia
    rw[this,nA]
theorem V2(r:List bV)(y:Nat):(bt r).get y=r[y]?:=by have:=DF r .nil 0 rfl (λ j j=>rfl) y;rw[if_neg (uT _),Nat.sub_zero]at this;exact this
noncomputable def pre:List bU->FA->Nat->bU|[],d,y=>d y|g::_,_,0=>g|_::r,d,y+1=>pre r d y
theorem nI:∀(r:List bU)(d:FA)(y:Nat)(g:bU),r[y]?=Y g->pre r d y=g|[],_,_,_,a=>by cases a|_::_,_,0,_,a=>by cases a;rfl|_::r,d,y+1,g,a=>nI r d y g (by rw[nA]at a;exact a)
theorem Ŗ:∀(r:List bU)(x:FA),(∀y g,r[y]?=Y g->x y=g)->pre r (λ y=>x (y+r.length))=x|[],x,_=>rfl|g::r,x,a=>by funext y;cases y with|zero=>exact(a 0 g rfl).symm|succ y=>have:=congrFun (Ŗ r (λ y=>x (y+1)) λ y l M=>a (y+1) l M) y;rw[<-this];show pre r (λ y=>x (y+(r.length+1))) y=pre r (λ y=>x (y+r.length+1)) y;rfl
noncomputable def Slots(a:eV):List bU->List bV->Prop|[],[]=>True|g::r,k::os=>a.get? g=Y k/\Slots a r os|_,_=>False
theorem Slots.len:∀{r:List bU}{os:List bV},Slots a r os->r.length=os.length|[],[],_=>rfl|_::_,_::_,aa=>congrArg (·+1) aa.2.len|[],_::_,aa=>aa.elim|_::_,[],aa=>aa.elim
theorem Slots.at:∀{r:List bU}{os:List bV},Slots a r os->∀{y:Nat}{k:bV},os[y]?=Y k->∃g,r[y]?=Y g/\a.get? g=Y k|[],[],_,_,_,e=>by cases e|g::_,_::_,aa,0,_,e=>by cases e;exact cI g rfl aa.1|_::r,_::os,aa,y+1,k,e=>by rw[nA]at e;refine cK (aa.2.at e) λ g z E=>?_;exact cI g (by rw[nA];exact z) E|[],_::_,aa,_,_,_=>aa.elim|_::_,[],aa,_,_,_=>aa.elim
noncomputable def xW(g:Nat):KT->Nat->Nat->KT| .nil,_,_=> .nil| .node b r d,f,l=> .node (match kq l g with|U=>W|X=>b) (xW g r (2*f) (f+l)) (xW g d (2*f) (2*f+l))
noncomputable def vX(af:Nat):KT->Nat->Nat->Bool| .nil,_,_=>U| .node b r d,f,l=>(b.isNone||r_ l af)&&(vX af r (2*f) (f+l)&&vX af d (2*f) (2*f+l))
theorem c_(af:Nat):∀(D:KT)(f l:Nat),vX af D f l=U->∀y k,D.get y=Y k->f*y+l<af
 | .nil,_,_,_,y,k,e=>by cases e
 | .node b r d,f,l,aa,y,k,e=>by
  unfold vX at aa;rw[ox,ox,Bool.or_eq_true]at aa;rw[Dp]at e;by_cases h0:y=0;·
   subst h0;rw[if_pos rfl]at e;rw[Df,lj];rcases aa.1 with q|q;·rw[e]at q;cases q
   ·exact cL q
  ·rw[if_neg h0]at e;by_cases p:y%2=1;·
    rw[if_pos p]at e;have j:=c_ af r _ _ aa.2.1 _ _ e;have:2*f*(y/2)+(f+l)=f*y+l:=by
     have hj:y=2*(y/2)+1:=by lia
     generalize y/2=q at hj;subst hj;rw[ć,LP,<-ü,ă f 2];simp+arith only
    exact this▸j
   ·rw[if_neg p]at e;have j:=c_ af d _ _ aa.2.2 _ _ e;have:2*f*(y/2-1)+(2*f+l)=f*y+l:=by
     have hj:y=2*(y/2-1)+2:=by lia
     generalize y/2-1=q at hj;subst hj;rw[ć,<-ü,ă f 2];simp+arith only
    exact this▸j
set_option tactic.hygienic true in theorem zU(g:Nat):∀(D:KT)(f l:Nat)(y:Nat)(k:bV),(xW g D f l).get y=Y k->D.get y=Y k/\f*y+l≠g
 | .nil,_,_,y,k,e=>by cases e
 | .node b r d,f,l,y,k,e=>by
  unfold xW at e;rw[Dp]at e⊢;by_cases h0:y=0;·
   subst h0;rw[if_pos rfl]at e⊢;rw[Df,lj];split at e;·cases e
   ·rename_i q;exact⟨e,Nat.ne_of_beq_eq_false q⟩
  ·rw[if_neg h0]at e⊢;by_cases p:y%2=1;·
    rw[if_pos p]at e⊢;have j:=zU g r _ _ _ _ e;refine⟨j.1,?_⟩;have:2*f*(y/2)+(f+l)=f*y+l:=by
     have hj:y=2*(y/2)+1:=by lia
     generalize y/2=q at hj;subst hj;rw[ć,LP,<-ü,ă f 2];simp+arith only
    rw[<-this];exact j.2
   ·rw[if_neg p]at e⊢;have j:=zU g d _ _ _ _ e;refine⟨j.1,?_⟩;have:2*f*(y/2-1)+(2*f+l)=f*y+l:=by
     have hj:y=2*(y/2-1)+2:=by lia
     generalize y/2-1=q at hj;subst hj;rw[ć,<-ü,ă f 2];simp+arith only
    rw[<-this];exact j.2
noncomputable def rE:BT->KT| .nil=> .nil| .node b r d=> .node (alive b) (rE r) (rE d)
theorem ļ:∀(D:BT)(g:Nat)(k:bV),(rE D).get g=Y k->∃b,D.get g=Y b/\alive b=Y k
 | .nil,_,_,e=>nomatch e
 | .node b r d,g,k,e=>by
  have e:(KT.node (alive b) (rE r) (rE d)).get g=Y k:=e;rw[Dp]at e;rw[Dq];by_cases h0:g=0;·rw[if_pos h0]at e⊢;exact cI b rfl e
  ·rw[if_neg h0]at e⊢;by_cases p:g%2=1;·rw[if_pos p]at e⊢;exact ļ r _ k e
   ·rw[if_neg p]at e⊢;exact ļ d _ k e
noncomputable def xq(w:lJ):Prop:=∀(au:cc)(vs:List bX)(c:List Int)(V:VS)(aw:VS)(i:eV),i.objs=(H1 w.params).objs->(∀l k,i.get? l=Y k->au.heap.get? l=Y k)->au.gens=#[]->au.heap.objs.size=602->au.heap.get? 601=Y {cls:=T "list",data:= .seq vs.toArray}->FN vs c->c.length<=63->(∀n,OldK au.heap n.heap/\n.os=au.os/\AllBare n.gens->V (.bool U) n)->cm (bZ bY w) FJ (tO (R 600) [R 601]) V aw au
noncomputable def w:lJ:=@b88 lJ ⟨aWorld 0⟩ λ w=>¬xq w
theorem XH(a:xq w)(b:lJ):xq b:=b7x λ q=>@b83 lJ (λ w=>¬xq w) ⟨b,q⟩ a
noncomputable def dp:KT:=xW 246 (rE (wx w.params)) 1 0
noncomputable def Base(a:eV):Prop:=∀g k,dp.get g=Y k->a.get? g=Y k
theorem TK:vX 602 dp 1 0=U:=⋯
noncomputable def wz(g:bU):Prop:=602<=g\/g=246
theorem wz.none(a:wz g):dp.get g=W:=by
 cases q:dp.get g with
  |none=>rfl
  |some k=>
   exfalso;rcases a with a|a;·have:=c_ 602 _ _ _ TK g k q;rw[Dx,s7]at this;exact(jq _ (fm this a)).elim
   ·subst a;have:=(zU 246 _ 1 0 246 k q).2;exact this rfl
noncomputable def b1:Bool:=w.params.followText "special-get-raises"
noncomputable def b2:Bool:=w.params.followText "comprehension-iter-twice"
noncomputable def wf(F:g9)(b1 b2:Bool):g9:={F with followText:=λ d=>bif kq (oH d) (oH "special-get-raises")then b1 else bif kq (oH d) (oH "comprehension-iter-twice")then b2 else F.followText d}
theorem Vg(F:g9):F=wf F (F.followText "special-get-raises") (F.followText "comprehension-iter-twice"):=by
 unfold wf;have:(λ d=>bif kq (oH d) (oH "special-get-raises")then F.followText "special-get-raises" else bif kq (oH d) (oH "comprehension-iter-twice")then F.followText "comprehension-iter-twice" else F.followText d)=F.followText:=by funext d;cases z:kq (oH d) (oH "special-get-raises")with|true=>rw[Lo _ _ (tD z)];rfl|false=>cases E:kq (oH d) (oH "comprehension-iter-twice")with|true=>rw[Lo _ _ (tD E)];rfl|false=>rfl
 rw[this]
structure Cx where
 prog:FK
 P:g9
 kt:KT
noncomputable def cx(l:Bool):Cx:=⟨Ka,wf w.params l b2,dp⟩
noncomputable abbrev cX:Cx:=cx b1
theorem hwP:w.params=cX.P:=Vg w.params
noncomputable def ş(k:Option bV):Bool:=match k with
 |Y k=>match k.data with
  | .dict b _=>b.toList.all λ e=>match e.key with| .str f _=>!(P1 f ("sys.recursionlimit" :cb))|_=>X
  |_=>X
 |W=>X
theorem MJ:ş (dp.get xf)=U:=⋯
noncomputable def dn:cN->cD Fin:=b23 b85
theorem pP(B:cN):gp fV B=dn B:=by unfold dn;rw[<-b2g,<-b7y]
noncomputable def bindZ:nE->kF->cD (List (cb×bX)):=JN
theorem Oz:@bindArgs=bindZ:=JP
noncomputable def IS:Scope->bU->List (cb×bU)->List (cb×bX)->cb->Option bU->bX->Option di->bU->cD di:=@JL
theorem QO:@CW=IS:=JM
noncomputable def ud:cN->Bool:=b1u
theorem Ml:@Code.quiet=ud:=b27
noncomputable def k_:cN->Nat:=b2r
theorem Dy:@Du=k_:=b2z
structure Dr where
 t:cp
 p:dK
 b:List (cN×dK)
 h:Int
abbrev FD:Type:=Nat->Dr
noncomputable abbrev GP:=AP->cc->Prop
abbrev FG:Type:=Nat->GP
structure Sm where
 room:Nat
 nn:Nat
 nd:Nat
 res:FA->FD->dX
 up:FA->FD->List (Nat×bV)
 new:FA->FD->List bV
 gh:Option (FA->FD->GP)
abbrev iG:Type:=FA->FD->Sm
structure Rc where
 c:cN
 T:BT
 n:Nat
 gh:GP
 sm:Sm
structure Mem where
 T:BT
 n:Nat
 i:Nat
 ja:List Nat
 ob:List (bU×Nat)
 sm:List iG
 rc:List Rc
 gh:GP
structure SF where
 c:cN
 hd:Option bX
 k:dX->cD Fin
inductive Cfg(A:Type)|b(D:cD A)|k(D:cD Fin)(B:cN)(fs:List SF)(o:Option bX)(H:dX->cD A)
noncomputable def l6{A:Type}(l:Bool)(c:Option A):Option A:=match l with|X=>W|U=>c
inductive Vw(o:Type)|oZ|pure(g:o)|raise(e:bX)|call(B:cN)(hd:Option bX)(i:dX->cD o)
noncomputable def vw{o:Type}(D:cD o):Vw o:=match D with| .pure g=> .pure g| .raise e=> .raise e| .call B hd _ _ i=> .call B hd i|_=> .oZ
section
variable(L:Cx)(x:FA)(p:FD)
noncomputable def lk(g:bU)(m:Mem):Option (bV×Mem):=match m.ja with|[]=>W|c::d=>match c with|0=>(L.kt.get g).map λ k=>(k,{m with ja:=d})|y+1=>(m.T.get y).map λ k=>(k,{m with ja:=d,ob:=(g,y)::m.ob})
noncomputable def Bh(g:bU)(C:bV->bV)(m:Mem):Option Mem:=match m.ja with|[]=>W|c::d=>match c with|0=>W|y+1=>(m.T.get y).bind λ k=>match(C k).isFreed with|U=>W|X=>Y {m with ja:=d,ob:=(g,y)::m.ob,T:=m.T.set y C}
noncomputable def Ck(k:bV)(m:Mem):Option Mem:=match k.isFreed with|U=>W|X=>((m.T.ins m.n k).get m.n).map λ j=>{m with T:=m.T.ins m.n k,n:=m.n+1}
noncomputable def sim{o:Type}(b:Option (cN×Option bX))(D:cD o)(m:Mem):Option (cD o×Mem):=match D with
 | .rule _ i=>Y (i (),m)
 | .at _ i=>Y (i (),m)
 | .point _ i=>Y (i (),m)
 | .ask i=>Y (i ⟨L.prog,L.P⟩,m)
 | .fresh i=>Y (i (p m.i).t,{m with i:=m.i+1})
 | .load g _ i=>(lk L g m).map λ u=>(i u.1,u.2)
 | .loadIfAlive g i=>(lk L g m).map λ u=>(i (Y u.1),u.2)
 | .update g _ C i=>(Bh g C m).map λ B=>(i (),B)
 | .alloc k i=>(Ck k m).map λ B=>(i (x m.n),B)
 | .handled F i=>match F with|X=>b.map λ q=>(i q.2,m)|U=>W
 | .stack i=>b.map λ q=>(i ((q.1,(p m.i).p)::(p m.i).b),{m with i:=m.i+1})
 |_=>W
noncomputable def W_{o:Type}(ih:cD o->Mem->Option (o×Mem))(D:cD o)(m:Mem):Vw o->Option (o×Mem)| .oZ=>(sim L x p W D m).bind λ d=>ih d.1 d.2| .pure g=>Y (g,m)|_=>W
noncomputable def sE{o:Type}(H:Nat):cD o->Mem->Option (o×Mem):=@ŋ (λ j=>cD o->Mem->Option (o×Mem)) (λ j j=>W) (λ j ih D m=>W_ L x p ih D m (vw D)) H
noncomputable def oU(o:Option bX):List SF->Option bX|[]=>o|C::fs=>C.hd.or (oU o fs)
noncomputable def kz:List SF->Nat|[]=>0|C::fs=>k_ C.c+1+kz fs
noncomputable def codeOk(b:nE):Bool:=match b.code with
 |R B=>match L.kt.get B with
  |Y k=>match k.data with
   | .fields vs=>match vs.toList with|_:: .str q _::_=>P1 q b.qualname|_=>X
   |_=>X
  |W=>X
 |_=>X
noncomputable def fnX(C:bU):Option (nE×List dd):=match L.kt.get C with
 |W=>W
 |Y k=>match k.data with
  | .func b=>match b.scope.isCoroutine||b.scope.isGenerator||!codeOk L b with|U=>W|X=>match b.body with| .stmts l=>Y (b,l)|_=>W
  |_=>W
noncomputable def envOf(b:nE)(C:bU)(c:List (cb×bX)):cD di:=IS b.scope b.globals b.closure c (b.qualname++(".<locals>." :cb)) (Y C) b.code W b.builtins
noncomputable def enter(q:nE×List dd)(C:bU)(o:kF)(m:Mem):Option (di×Mem):=(sE L x p 1000 (bindZ q.1 o) m).bind λ d=>sE L x p 1000 (envOf q.1 C d.1) d.2
noncomputable def sH{A:Type}(fs:List SF)(o:Option bX)(H:dX->cD A)(d:dX):Cfg A:=match fs with|[]=> .b (H d)|C::fs=> .k (C.k d) C.c fs o H
noncomputable def putAll:List (Nat×bV)->BT->BT|[],Q=>Q|u::d,Q=>putAll d (Q.set u.1 λ j=>u.2)
noncomputable def vP(Q:BT):List (Nat×bV)->Bool
 |[]=>U
 |u::d=>match Q.get u.1 with
  |Y _=>match u.2.isFreed with|U=>X|X=>vP Q d
  |W=>X
noncomputable def xw:List bV->BT->Nat->Option BT|[],Q,_=>Y Q|k::d,Q,H=>match(Q.ins H k).get H with|Y _=>xw d (Q.ins H k) (H+1)|W=>W
noncomputable def yo(f:Sm)(g:FA)(af:FD)(O:GP):GP:=match f.gh with|Y u=>u g af|W=>O
noncomputable def dP(H:Nat)(g:FA):FA:=λ i=>match r_ i H with|U=>g i|X=>0
noncomputable def dC(H:Nat)(af:FD):FD:=λ i=>match r_ i H with|U=>af i|X=>⟨0,⟨0,0,0,0⟩,[],0⟩
noncomputable def Ő(f:Sm)(c':cN)(g:FA)(af:FD)(m:Mem)(d:List Nat)(b:List iG):Option Mem:=match vP m.T (f.up g af)with|X=>W|U=>match kq (f.new g af).length f.nn with|X=>W|U=>match xw (f.new g af) (putAll (f.up g af) m.T) m.n with|W=>W|Y Q=>Y ⟨Q,m.n+f.nn,m.i+f.nd,d,m.ob,b,⟨c',m.T,m.n,m.gh,f⟩::m.rc,yo f g af m.gh⟩
noncomputable def sumF{A:Type}(sm:Sm)(c':cN)(fs:List SF)(o:Option bX)(H:dX->cD A)(m:Mem)(d:List Nat)(b:List iG)(g:FA)(af:FD):Option (Cfg A×Mem):=(Ő sm c' g af m d b).map λ B=>(sH fs o H (sm.res g af),B)
noncomputable def vM{A:Type}(sm:Sm)(c':cN)(fs:List SF)(o:Option bX)(H:dX->cD A)(m:Mem)(d:List Nat)(b:List iG)(l:Bool):Option bX->Option (Cfg A×Mem)|W=>l6 l (sumF sm c' fs o H m d b (dP sm.nn λ i=>x (m.n+i)) (dC sm.nd λ i=>p (m.i+i)))|_=>W
noncomputable def υ(B:cN):Option (bU×kF):=match B with| .call (R C) o=>Y (C,o)|_=>W
noncomputable def xZ{A:Type}(c':cN)(fs:List SF)(o:Option bX)(H:dX->cD A)(m:Mem):Option (Cfg A×Mem):=(υ c').bind λ u=>(fnX L u.1).bind λ q=>(enter L x p q u.1 u.2 m).bind λ e=>Y (.k (dn (.func q.2 e.1)) (.func q.2 e.1) fs o H,e.2)
noncomputable def xY{A:Type}(ai:Nat)(c':cN)(fs:List SF)(o:Option bX)(H:dX->cD A)(m:Mem)(d:List Nat):List iG->Option (Cfg A×Mem)|[]=>W|C::b=>vM x p (C (dP m.n x) (dC m.i p)) c' fs o H m d b (ju (kz fs+(C (dP m.n x) (dC m.i p)).room) ai) (oU o fs)
noncomputable def Xp{A:Type}(ai:Nat)(c':cN)(fs:List SF)(o:Option bX)(H:dX->cD A)(m:Mem):List Nat->Option (Cfg A×Mem)|[]=>W|c::d=>match c with|0=>Y (.k (dn c') c' fs o H,{m with ja:=d})|1=>l6 (ju (kz fs) ai) (xZ L x p c' fs o H {m with ja:=d})|2=>xY x p ai c' fs o H m d m.sm|_=>W
noncomputable def callC{A:Type}(ai:Nat)(c':cN)(fs:List SF)(o:Option bX)(H:dX->cD A)(m:Mem):Option (Cfg A×Mem):=Xp L x p ai c' fs o H m m.ja
noncomputable def D_{A:Type}(ak:cN)(hv:Option bX)(ai:Nat)(D:cD A)(m:Mem):Vw A->Option (Cfg A×Mem)| .oZ=>(sim L x p (Y (ak,hv)) D m).bind λ d=>Y (.b d.1,d.2)| .call c' hd i=>l6 (mT hd) (callC L x p ai c' [] (hd.or hv) i m)|_=>W
noncomputable def stepK{A:Type}(ai:Nat)(D:cD Fin)(B:cN)(fs:List SF)(o:Option bX)(H:dX->cD A)(m:Mem):Vw Fin->Option (Cfg A×Mem)
 | .oZ=>(sim L x p (Y (B,oU o fs)) D m).bind λ d=>Y (.k d.1 B fs o H,d.2)
 | .pure aj=>match aj with| .done C=>Y (sH fs o H (.ok C),m)| .again c'=>l6 (ud c') (callC L x p ai c' fs o H m)
 | .raise e=>Y (sH fs o H (.error e),m)
 | .call c' hd i=>l6 (mT hd) (callC L x p ai c' (⟨B,hd,i⟩::fs) o H m)
noncomputable def step{A:Type}(ak:cN)(hv:Option bX)(ai:Nat)(O:Cfg A)(m:Mem):Option (Cfg A×Mem):=match O with| .b D=>D_ L x p ak hv ai D m (vw D)| .k D B fs o H=>stepK L x p ai D B fs o H m (vw D)
noncomputable def run{A:Type}(ak:cN)(hv:Option bX)(ai:Nat)(H:Nat):Cfg A->Mem->Cfg A×Mem:=@ŋ (λ j=>Cfg A->Mem->Cfg A×Mem) (λ O m=>(O,m)) (λ j ih O m=>match step L x p ak hv ai O m with|Y d=>ih d.1 d.2|W=>(O,m)) H
end
section
structure cj(ai:Nat)(hv:Option bX)(s:cR):Prop where
 h:s.handled=hv
 d:s.depth+ai<zy
 u:s.units+3*ai<cLine
structure Zs extends cc where
 fp:bU->Prop
noncomputable def dD(fp:AP)(γ:GP)(f:cc):Prop:=∀n:cc,(∀g k,fp g->f.heap.get? g=Y k->n.heap.get? g=Y k)->n.gens=f.gens->γ fp n
structure uN(H:Nat)(x:FA)(fp:AP)(f:cc):Prop where
 lt:∀g,fp g->g<f.heap.objs.size
 nk:∀g,fp g->cX.kt.get g=W
 ns:∀g,fp g->∀y,y<H->g≠x y
theorem uN.le(a:uN c b fp f)(hn:H<=c)(e:∀y,y<H->x y=b y):uN H x fp f:=⟨a.lt,a.nk,λ g ha y hj=>by rw[e y hj];exact a.ns g ha y (fm hj hn)⟩
inductive pZ(j:Zs)(H:Nat)(x:FA)(γ:GP)(f:cc):Prop|mk(fp:AP)(O:uN H x fp f)(k:∀g,fp g->j.fp g\/j.heap.objs.size<=g)(B:dD fp γ f):pZ j H x γ f
theorem pZ.le(a:pZ j c b γ f)(hn:H<=c)(e:∀y,y<H->x y=b y):pZ j H x γ f:=by obtain⟨fp,z,E,h3⟩:=a;exact⟨fp,z.le hn e,E,h3⟩
theorem dD.now(a:dD fp γ f):γ fp f:=a f (λ j j j a=>a) rfl
structure MH(j:Zs)(n0:Nat)(x:FA)(m:Mem)(f:cc):Prop where
 base:∀g k,cX.kt.get g=Y k->f.heap.get? g=Y k
 sl:∀y k,m.T.get y=Y k->y<m.n/\f.heap.get? (x y)=Y k
 inj:∀v y,v<m.n->y<m.n->x v=x y->v=y
 ap:∀y,y<m.n->cX.kt.get (x y)=W
 lt:∀y,y<m.n->x y<f.heap.objs.size
 keep:∀g k,j.heap.get? g=Y k->(∀y,y<n0->g≠x y)->¬j.fp g->f.heap.get? g=Y k
 new:∀y,n0<=y->y<m.n->j.heap.objs.size<=x y\/j.fp (x y)
 n0:n0<=m.n
 size:j.heap.objs.size<=f.heap.objs.size
 gens:pZ j m.n x m.gh f
 drawn:f.drawn=j.drawn
 os:f.os=j.os
noncomputable def Agree(L:FA)(P:FD)(m:Mem)(x:FA)(p:FD):Prop:=(∀y,y<m.n->x y=L y)/\∀v,v<m.i->p v=P v
theorem Agree.refl:Agree x p m x p:=⟨λ j j=>rfl,λ j j=>rfl⟩
section
variable{j:Zs}{n0:Nat}{L:FA}{P:FD}{m:Mem}{f:cc}
theorem MH.congr(aa:MH j n0 L m f)(e:∀y,y<m.n->x y=L y):MH j n0 x m f where
 base:=aa.base
 sl y o h:=⟨(aa.sl y o h).1,by rw[e y (aa.sl y o h).1];exact(aa.sl y o h).2⟩
 inj i y hi hj h:=aa.inj i y hi hj (by rw[<-e i hi,<-e y hj];exact h)
 ap y hj:=by rw[e y hj];exact aa.ap y hj
 lt y hj:=by rw[e y hj];exact aa.lt y hj
 keep a o h hn hz:=aa.keep a o h (λ y hj=>by rw[<-e y (fm hj aa.n0)];exact hn y hj) hz
 new y h1 h2:=by rw[e y h2];exact aa.new y h1 h2
 n0:=aa.n0
 size:=aa.size
 gens:=aa.gens.le (gz _) e
 drawn:=aa.drawn
 os:=aa.os
theorem MH.of_same(aa:MH j n0 L m f)(hT:B.T=m.T)(hn:B.n=m.n)(hG:B.gh=m.gh)(hh:n.heap=f.heap)(hg:n.gens=f.gens)(hd:n.drawn=f.drawn)(ho:n.os=f.os):MH j n0 L B n where
 base:=by rw[hh];exact aa.base
 sl:=by rw[hh,hT,hn];exact aa.sl
 inj:=by rw[hn];exact aa.inj
 ap:=by rw[hn];exact aa.ap
 lt:=by rw[hn,hh];exact aa.lt
 keep:=by rw[hh];exact aa.keep
 new:=by rw[hn];exact aa.new
 n0:=by rw[hn];exact aa.n0
 size:=by rw[hh];exact aa.size
 gens:=by obtain⟨fp,z,E,h3⟩:=aa.gens;rw[hn,hG];refine⟨fp,⟨by rw[hh];exact z.lt,z.nk,z.ns⟩,E,λ aK k1 k2=>h3 aK (λ g k ha ho=>k1 g k ha (by rw[hh];exact ho)) (k2.trans hg)⟩
 drawn:=hd.trans aa.drawn
 os:=ho.trans aa.os
noncomputable def pS{A:Type}(C:Nat->A)(H:Nat)(c:A):Nat->A:=λ y=>if y=H then c else C y
theorem kU{A:Type}(C:Nat->A)(H:Nat)(c:A):pS C H c H=c:=if_pos rfl
theorem iS{A:Type}(C:Nat->A)(c:A)(a:y<H):pS C H c y=C y:=if_neg (kR a)
theorem MH.alloc(aa:MH j n0 x m f)(hf:k.isFreed=X)(hg:((m.T.ins m.n k).get m.n).isSome=U)(hT:B.T=m.T.ins m.n k)(hn:B.n=m.n+1)(hG:B.gh=m.gh):MH j n0 (pS x m.n f.heap.objs.size) B {f with heap:=f.heap.push k}where
 base g o' h:=gF _ (aa.base g o' h)
 sl y o' h:=by
  rw[hT,DH k m.T m.n hg]at h;rw[hn];by_cases hj:y=m.n;·subst hj;rw[if_pos rfl]at h;cases h;refine⟨nC _,?_⟩;rw[kU];exact kj _ hf
  ·rw[if_neg hj]at h;have q:=aa.sl y o' h;refine⟨lR q.1,?_⟩;rw[iS _ _ q.1];exact gF _ q.2
 inj i y hi hj h:=by
  rw[hn]at hi hj;by_cases ei:i=m.n;·
   by_cases ej:y=m.n;·rw[ei,ej]
   ·have p:y<m.n:=by lia
    rw[ei,kU,iS _ _ p]at h;exact(jq _ (fm (aa.lt y p) (pD h))).elim
  ·have c:i<m.n:=lN hi ei;by_cases ej:y=m.n;·rw[ej,kU,iS _ _ c]at h;have:=aa.lt i c;exact(jq _ (fm (aa.lt i c) (pD h.symm))).elim
   ·have p:y<m.n:=lN hj ej;rw[iS _ _ c,iS _ _ p]at h;exact aa.inj i y c p h
 ap y hj:=by
  rw[hn]at hj;by_cases ej:y=m.n;·rw[ej,kU];cases q:cX.kt.get f.heap.objs.size with|none=>rfl|some o'=>exact absurd (fc (aa.base _ o' q)) (jq _)
  ·have p:y<m.n:=lN hj ej;rw[iS _ _ p];exact aa.ap y p
 lt y hj:=by
  rw[hn]at hj;show _<(f.heap.push k).objs.size;rw[mf];by_cases ej:y=m.n;·rw[ej,kU];exact nC _
  ·have p:y<m.n:=lN hj ej;rw[iS _ _ p];exact lR (aa.lt y p)
 keep g o' h hne hz:=gF _ (aa.keep g o' h (λ y hj=>by have:=hne y hj;rw[iS _ _ (fm hj aa.n0)]at this;exact this) hz)
 new y z E:=by
  rw[hn]at E;by_cases ej:y=m.n;·rw[ej,kU];exact .inl aa.size
  ·have p:y<m.n:=lN E ej;rw[iS _ _ p];exact aa.new y z p
 n0:=by rw[hn];exact rX aa.n0
 size:=by show _<=(f.heap.push k).objs.size;rw[mf];exact rX aa.size
 gens:=by
  obtain⟨fp,z,E,h3⟩:=aa.gens;rw[hn,hG];refine⟨fp,⟨λ g ha=>?_,z.nk,λ g ha y hj=>?_⟩,E,λ aK k1 k2=>h3 aK (λ g k ha ho=>k1 g k ha (gF _ ho)) k2⟩;·show _<(f.heap.push k).objs.size;rw[mf];exact lR (z.lt g ha)
  ·by_cases ej:y=m.n;·rw[ej,kU];exact kR (z.lt g ha)
   ·rw[iS _ _ (lN hj ej)];exact z.ns g ha y (lN hj ej)
 drawn:=aa.drawn
 os:=aa.os
theorem MH.update(aa:MH j n0 x m f)(e:m.T.get y=Y k)(hf:(C k).isFreed=X)(hT:B.T=m.T.set y C)(hn:B.n=m.n)(hG:B.gh=m.gh):MH j n0 x B {f with heap:=f.heap.update (x y) C}:=by
 have hj:=aa.sl y k e;have hs:=rR f.heap (x y) C;refine⟨?_,?_,?_,?_,?_,?_,?_,?_,?_,?_,aa.drawn,aa.os⟩;·
  intro g o' a;have:g≠x y:=by rintro rfl;rw[aa.ap y hj.1]at a;cases a
  exact(hs.2 g this).trans (aa.base g o' a)
 ·intro v o' a;rw[hT,M2]at a;rw[hn];by_cases hi:v=y;·subst hi;rw[if_pos rfl,e]at a;cases a;exact⟨hj.1,ou C hj.2 hf⟩
  ·rw[if_neg hi]at a;have q:=aa.sl v o' a;exact⟨q.1,(hs.2 (x v) λ w=>hi (aa.inj v y q.1 hj.1 w)).trans q.2⟩
 ·rw[hn];exact aa.inj
 ·rw[hn];exact aa.ap
 ·rw[hn];intro v hi;show _<(f.heap.update (x y) C).objs.size;rw[hs.1];exact aa.lt v hi
 ·intro g o' a ay hz;by_cases ha:g=x y;·
   subst ha;by_cases hj0:y<n0;·exact absurd rfl (ay y hj0)
   ·rcases aa.new y (pz hj0) hj.1 with q|q;·exact(jq _ (fm (fc a) q)).elim
    ·exact absurd q hz
  ·exact(hs.2 g ha).trans (aa.keep g o' a ay hz)
 ·rw[hn];exact aa.new
 ·rw[hn];exact aa.n0
 ·show _<=(f.heap.update (x y) C).objs.size;rw[hs.1];exact aa.size
 ·obtain⟨fp,z,E,h3⟩:=aa.gens;rw[hn,hG];exact⟨fp,⟨λ g ha=>by show _<(f.heap.update (x y) C).objs.size;rw[hs.1];exact z.lt g ha,z.nk,z.ns⟩,E,λ aK k1 k2=>h3 aK (λ g k ha ho=>k1 g k ha ((hs.2 g (z.ns g ha y hj.1)).trans ho)) k2⟩
end
universe u
section
variable{j:Zs}{n0:Nat}
structure St{o:Type}(b:Option (cN×Option bX))(Q:cD o->cc->Prop):Prop where
 rule:∀{D i f},Q (i ()) f->Q (.rule D i) f
 at_:∀{u i f},Q (i ()) f->Q (.at u i) f
 point:∀{r i f},Q (i ()) f->Q (.point r i) f
 ask:∀{i f},Q (i ⟨bY,w.params⟩) f->Q (.ask i) f
 fresh:∀{i f},Q (i f.toks) {f with toks:=f.toks+1}->Q (.fresh i) f
 load:∀{g q i k f},f.heap.get? g=Y k->Q (i k) f->Q (.load g q i) f
 alive:∀{g i k f},f.heap.get? g=Y k->Q (i (Y k)) f->Q (.loadIfAlive g i) f
 upd:∀{g q C i k f},f.heap.get? g=Y k->Q (i ()) {f with heap:=f.heap.update g C}->Q (.update g q C i) f
 alloc:∀{k i f},Q (i f.heap.objs.size) {f with heap:=f.heap.push k}->Q (.alloc k i) f
 handled:∀{i f q},b=Y q->Q (i q.2) f->Q (.handled X i) f
 stack:∀{i f q},b=Y q->(∀u l,Q (i ((q.1,u)::l)) f)->Q (.stack i) f
noncomputable def Le(m B:Mem):Prop:=(∀u∈m.ob,u∈B.ob)/\∀c∈m.rc,c∈B.rc
theorem Le.refl:Le m m:=⟨λ j a=>a,λ j a=>a⟩
theorem Le.trans(a:Le g l)(O:Le l B):Le g B:=⟨λ u c=>O.1 u (a.1 u c),λ u c=>O.2 u (a.2 u c)⟩
noncomputable def yd(m B:Mem):Prop:=B.T=m.T/\B.n=m.n/\B.gh=m.gh/\B.i=m.i
theorem yd.mh(aj:yd m B)(aa:MH j n0 x m f):MH j n0 x B f:=aa.of_same aj.1 aj.2.1 aj.2.2.1 rfl rfl rfl rfl
theorem yd.ag(aj:yd m B)(a:Agree L P B x p):Agree L P m x p:=⟨λ y hj=>a.1 y (aj.2.1.symm▸hj),λ y hj=>a.2 y (aj.2.2.2.symm▸hj)⟩
theorem ä(a:Agree L (pS P m.i af) {m with i:=m.i+1} x p):Agree L P m x p/\p m.i=af:=⟨⟨a.1,λ v hi=>(a.2 v (lR hi)).trans (iS _ _ hi)⟩,(a.2 m.i (nC _)).trans (kU _ _ _)⟩
theorem JJ(a:Agree (pS L m.n g) P {m with T:=Q,n:=m.n+1} x p):Agree L P m x p/\x m.n=g:=⟨⟨λ y hj=>(a.1 y (lR hj)).trans (iS _ _ hj),a.2⟩,(a.1 m.n (nC _)).trans (kU _ _ _)⟩
theorem uk(e:lk cX g m=Y u):Le m u.2/\yd m u.2/\(cX.kt.get g=Y u.1\/∃y,m.T.get y=Y u.1/\(g,y)∈u.2.ob):=by unfold lk at e;generalize m.ja=r at e;cases r with|nil=>cases e|cons c d=>cases c with|zero=>obtain⟨k,a,rfl⟩:=jc.1 e;exact⟨⟨λ j a=>a,λ j a=>a⟩,⟨rfl,rfl,rfl,rfl⟩, .inl a⟩|succ y=>obtain⟨k,a,rfl⟩:=jc.1 e;exact⟨⟨λ j a=> .tail _ a,λ j a=>a⟩,⟨rfl,rfl,rfl,rfl⟩, .inr ⟨y,a, .head _⟩⟩
theorem Hr(aa:MH j n0 x m f)(e:lk cX g m=Y u)(ho:∀q∈u.2.ob,q.1=x q.2):f.heap.get? g=Y u.1:=(uk e).2.2.elim (aa.base g _) λ⟨y,a,q⟩=>by rw[show g=x y from ho _ q];exact(aa.sl y _ a).2
theorem H7(e:Bh g C m=Y B):∃y k d,m.T.get y=Y k/\(C k).isFreed=X/\B={m with ja:=d,ob:=(g,y)::m.ob,T:=m.T.set y C}:=by unfold Bh at e;generalize m.ja=r at e;cases r with|nil=>cases e|cons c d=>cases c with|zero=>cases e|succ y=>obtain⟨k,a,e⟩:=pq.1 e;cases hf:(C k).isFreed with|true=>rw[hf]at e;cases e|false=>rw[hf]at e;cases e;exact⟨y,k,d,a,hf,rfl⟩
theorem HO(e:Ck k m=Y B):k.isFreed=X/\((m.T.ins m.n k).get m.n).isSome=U/\B={m with T:=m.T.ins m.n k,n:=m.n+1}:=by unfold Ck at e;cases hf:k.isFreed with|true=>rw[hf]at e;cases e|false=>rw[hf]at e;obtain⟨q,a,rfl⟩:=jc.1 e;exact⟨rfl,by rw[a];rfl,rfl⟩
theorem œ{o:Type}{D:cD o}{d:cD o×Mem}(e:sim cX x p b D m=Y d):Le m d.2:=by
 cases D with
  |load=>obtain⟨u,a,rfl⟩:=jc.1 e;exact(uk a).1
  |loadIfAlive=>obtain⟨u,a,rfl⟩:=jc.1 e;exact(uk a).1
  |update=>obtain⟨u,a,rfl⟩:=jc.1 e;obtain⟨y,k,d,_,_,rfl⟩:=H7 a;exact⟨λ j a=> .tail _ a,λ j a=>a⟩
  |alloc=>obtain⟨u,a,rfl⟩:=jc.1 e;obtain⟨_,_,rfl⟩:=HO a;exact⟨λ j a=>a,λ j a=>a⟩
  |handled F i=>cases F with|true=>cases e|false=>obtain⟨u,a,rfl⟩:=jc.1 e;exact Le.refl
  |stack=>obtain⟨u,a,rfl⟩:=jc.1 e;exact⟨λ j a=>a,λ j a=>a⟩
  |_=>cases e<;>exact⟨λ j a=>a,λ j a=>a⟩
noncomputable def ji{γ:Type u}(j:Zs)(n0:Nat)(L:FA)(P:FD)(m:Mem)(C:FA->FD->Option (γ×Mem))(aj:γ->cc->Prop):Prop:=∀aR ah ao az au,MH j n0 ao ah au->(∀x p,Agree ao az ah x p->Agree L P m x p/\C x p=Y (aR,ah))->aj aR au
theorem Sz{o:Type}{b:Option (cN×Option bX)}{Q:cD o->cc->Prop}(aj:St b Q){L:FA}{P:FD}{D:cD o}{m:Mem}{f:cc}(aa:MH j n0 L m f){d:cD o×Mem}(e:sim cX L P b D m=Y d)(ho:∀u∈d.2.ob,u.1=L u.2)(G:ji j n0 L P m (λ x p=>sim cX x p b D m) Q):Q D f:=by
 cases D with
  |rule=>exact aj.rule (G _ m L P f aa λ x p a=>⟨a,rfl⟩)
  |«at»=>exact aj.at_ (G _ m L P f aa λ x p a=>⟨a,rfl⟩)
  |point=>exact aj.point (G _ m L P f aa λ x p a=>⟨a,rfl⟩)
  |ask i=>refine aj.ask ?_;rw[hwP];exact G _ m L P f aa λ x p a=>⟨a,rfl⟩
  |fresh i=>exact aj.fresh (G (i f.toks) {m with i:=m.i+1} L (pS P m.i {P m.i with t:=f.toks}) _ (aa.of_same rfl rfl rfl rfl rfl rfl rfl) λ x p a=>⟨(ä a).1,by show Y (i (p m.i).t,_)=_;rw[(ä a).2]⟩)
  |load g q i=>obtain⟨u,a,rfl⟩:=jc.1 e;exact aj.load (Hr aa a ho) (G _ u.2 L P f ((uk a).2.1.mh aa) λ x p O=>⟨(uk a).2.1.ag O,e⟩)
  |loadIfAlive g i=>obtain⟨u,a,rfl⟩:=jc.1 e;exact aj.alive (Hr aa a ho) (G _ u.2 L P f ((uk a).2.1.mh aa) λ x p O=>⟨(uk a).2.1.ag O,e⟩)
  |update g q C i=>obtain⟨u,a,rfl⟩:=jc.1 e;obtain⟨y,k,d,hT,hf,rfl⟩:=H7 a;have ea:g=L y:=ho (g,y) (.head _);subst ea;exact aj.upd (aa.sl y k hT).2 (G _ {m with ja:=d,ob:=(L y,y)::m.ob,T:=m.T.set y C} L P _ (aa.update hT hf rfl rfl rfl) λ x p O=>⟨O,e⟩)
  |alloc k i=>obtain⟨u,a,rfl⟩:=jc.1 e;obtain⟨hf,hg,rfl⟩:=HO a;exact aj.alloc (G _ {m with T:=m.T.ins m.n k,n:=m.n+1} (pS L m.n f.heap.objs.size) P _ (aa.alloc hf hg rfl rfl rfl) λ x p O=>⟨(JJ O).1,jc.2 ⟨_,a,congrArg (λ g=>(i g,_)) (JJ O).2⟩⟩)
  |handled F i=>cases F with|true=>cases e|false=>obtain⟨q,a,rfl⟩:=jc.1 e;exact aj.handled a (G _ _ L P f aa λ x p O=>⟨O,e⟩)
  |stack i=>obtain⟨q,a,rfl⟩:=jc.1 e;exact aj.stack a λ u l=>G (i ((q.1,u)::l)) {m with i:=m.i+1} L (pS P m.i ⟨(P m.i).t,u,l,(P m.i).h⟩) f (aa.of_same rfl rfl rfl rfl rfl rfl rfl) λ x p O=>⟨(ä O).1,jc.2 ⟨q,a,congrArg (λ af:Dr=>(i ((q.1,af.p)::af.b),{m with i:=m.i+1})) (ä O).2⟩⟩
  |_=>cases e
end
end
end Mine
end
section
open PySem PySem.W PySem.W.X PySem.Calls
namespace Mine
section
universe u v
section
noncomputable def KA(s:cR):List SF->cR|[]=>s|C::fs=>((KA s fs).under C.c).mark C.hd
noncomputable def KR(s:cR)(ax:RS):List SF->dX->cc->Prop|[]=>ax|C::fs=>λ d f=>je (bZ bY w) ((KA s fs).under C.c) C.c (C.k d) (postC bY w (KA s fs) (KR s ax fs)) (postE (KR s ax fs)) f
noncomputable def ç(s:cR)(ax:RS)(fs:List SF)(B:cN)(D:cD Fin)(f:cc):Prop:=je (bZ bY w) ((KA s fs).under B) B D (postC bY w (KA s fs) (KR s ax fs)) (postE (KR s ax fs)) f
noncomputable def Sat{A:Type}(s:cR)(Bs:cD A->cc->Prop)(O:Cfg A)(f:cc):Prop:=match O with| .b D=>Bs D f| .k D B fs o H=>ç (s.mark o) (λ d n=>Bs (H d) n) fs B D f
noncomputable def oV{A:Type}(s:cR)(ak:cN)(V:A->cc->Prop)(aw:VS)(D:cD A)(f:cc):Prop:=je (bZ bY w) s ak D V aw f
theorem Č(a:s.handled=o):∀fs:List SF,(KA s fs).handled=oU o fs|[]=>a|C::fs=>by show C.hd.or (KA s fs).handled=C.hd.or (oU o fs);rw[Č a fs]
theorem Ĭ(s:cR):∀fs:List SF,(KA s fs).depth<=s.depth+kz fs|[]=>gz _|C::fs=>by have ih:=Ĭ s fs;show(KA s fs).depth+C.c.weight<=s.depth+(k_ C.c+1+kz fs);rw[<-Dy];exact gB ih
theorem LA(B:cN):B.cUnits<=1+3*B.weight:=by
 have hw:B.frames<=B.weight:=by unfold Du;simp+arith only
 unfold Dv;split<;>omega
theorem ī(s:cR):∀fs:List SF,(KA s fs).units<=s.units+3*kz fs|[]=>gz _|C::fs=>by have ih:=ī s fs;have:=LA C.c;show(KA s fs).units+C.c.cUnits<=s.units+3*(k_ C.c+1+kz fs);rw[<-Dy];exact hV ih this
theorem XR(J:cj ai hv s)(hw:kz fs<=ai):(KA (s.mark o) fs).depth<zy/\(KA (s.mark o) fs).units<cLine:=by have z:=Ĭ (s.mark o) fs;have E:=ī (s.mark o) fs;have e1:(s.mark o).depth=s.depth:=rfl;have e2:(s.mark o).units=s.units:=rfl;have:=J.d;have:=J.u;constructor<;>lia
theorem Dj(a:ç s ax fs B (dn B) f):dQ (bZ bY w) (KA s fs) B (KR s ax fs) f:=by refine codeAny_of_treeAt ?_;show je _ _ _ (gp fV B) _ _ f;rw[pP];exact D3 a (λ aj n c=>by cases aj<;>exact c) λ j j c=>c
theorem DK{A:Type}{s:cR}{B c':cN}{hd:Option bX}{O:Bool}{r:List bX}{i:dX->cD A}{V:A->cc->Prop}{aw:VS}{f:cc}(b:hd≠Y byPass)(a:dQ (bZ bY w) (s.mark hd) c' (λ d n=>je (bZ bY w) s B (i d) V aw n) f):je (bZ bY w) s B (.call c' hd O r i) V aw f:=λ v u hc Q=>wpCode_mono (λ j j q=>q v u hc Q) (a _ u rfl (Q.enter c' hd u b))
end
noncomputable def yg(sm:Sm)(g:FA)(af:FD)(fp:AP)(f n:cc):Prop:=match sm.gh with|Y u=>∃aw:AP,(∀l,aw l->(fp l\/f.heap.objs.size<=l)/\l<n.heap.objs.size/\∀i,i<sm.nn->l≠g i)/\dD aw (u (dP sm.nn g) (dC sm.nd af)) n|W=>n.gens=f.gens
noncomputable def Sm.gs(sm:Sm):Bool:=match sm.gh with|Y _=>U|W=>X
noncomputable def zi(d:Rc)(x:FA)(ax:RS)(fp:AP)(f:cc):Prop:=∀g af n,(d.sm.new (dP d.sm.nn g) (dC d.sm.nd af)).length=d.sm.nn->(∀i k,(d.sm.new (dP d.sm.nn g) (dC d.sm.nd af))[i]?=Y k->n.heap.get? (g i)=Y k)->(∀i,i<d.sm.nn->f.heap.objs.size<=g i\/(d.sm.gs=U/\fp (g i)))->(∀i k',i<d.sm.nn->k'<d.sm.nn->g i=g k'->i=k')->(∀u∈d.sm.up (dP d.sm.nn g) (dC d.sm.nd af),n.heap.get? (x u.1)=Y u.2)->(∀l k,f.heap.get? l=Y k->(∀u∈d.sm.up (dP d.sm.nn g) (dC d.sm.nd af),l≠x u.1)->(d.sm.gs=U->¬fp l)->n.heap.get? l=Y k)->f.heap.objs.size<=n.heap.objs.size->yg d.sm g af fp f n->n.drawn=f.drawn->n.os=f.os->ax (d.sm.res (dP d.sm.nn g) (dC d.sm.nd af)) n
noncomputable def IV(Q:BT)(H:Nat)(x:FA)(a:eV):Prop:=∀y k,Q.get y=Y k->y<H/\a.get? (x y)=Y k
noncomputable def XS(H:Nat)(x:FA):Prop:=∀v y,v<H->y<H->x v=x y->v=y
noncomputable def b1q(a:eV):Prop:=∀g k,cX.kt.get g=Y k->a.get? g=Y k
noncomputable def XQ(H:Nat)(x:FA):Prop:=∀y,y<H->cX.kt.get (x y)=W
noncomputable def cy(x:FA)(d:Rc):Prop:=∀(s:cR)(ax:RS)(f:cc)(fp:AP),cj d.sm.room W s->b1q f.heap->IV d.T d.n x f.heap->XS d.n x->XQ d.n x->uN d.n x fp f->dD fp d.gh f->zi d x ax fp f->dQ (bZ bY w) s d.c ax f
noncomputable def XP:Prop:=∀a:eV,(∀g k,cX.kt.get g=Y k->a.get? g=Y k)->a.NoLimit
set_option tactic.hygienic true in theorem Nv{a:eV}{d:Option bV}(hc:ş d=U)(M:∀k,d=Y k->a.get? xf=Y k):a.NoLimit:=by
 unfold ş at hc;split at hc;·
  rename_i k;split at hc;·
   rename_i b r hd;have c:=ù.mp hc;refine(cI (nsFind b) (m_ k b r (M k rfl) hd (λ e he=>?_) (λ j=>rfl)) ?_);·
    have:=c e (Kx.mpr he);split at this;·rename_i f D hk;exact rI f D hk
    ·cases this
   ·unfold nsFind findBy;have:b.find? (λ e=>e.key.isStr ("sys.recursionlimit" :cb))=W:=by
     rw[Array.find?_eq_none];intro e he q;have:=c e (Kx.mpr he);split at this;·
      rename_i f D hk;rw[hk]at q;have q':(f==("sys.recursionlimit" :cb))=U:=q;have e1:f=("sys.recursionlimit" :cb):=by simpa using q'
      rw[LD.mpr e1]at this;cases this
     ·cases this
    first|(rw[this];rfl)|(simp only[this];rfl)|simp[this]
  ·cases hc
 ·cases hc
theorem lF:XP:=λ a M=>Nv MJ λ k e=>M _ k e
section
variable{j:Zs}{n0:Nat}{L:FA}{P:FD}{m:Mem}{f:cc}
noncomputable def å(x:FA)(m:Mem):Prop:=(∀u∈m.ob,u.1=x u.2)/\∀c∈m.rc,cy x c
theorem Le.Bn{m B:Mem}(a:Le m B)(k:å x B):å x m:=⟨λ u q=>k.1 u (a.1 u q),λ u q=>k.2 u (a.2 u q)⟩
noncomputable def jn{γ:Type u}(L:FA)(P:FD)(m:Mem)(C:FA->FD->Option (γ×Mem)):Prop:=∀x p,Agree L P m x p->∃d,C x p=Y d/\å x d.2
theorem xj{γ:Type u}{b:Type v}{f1:FA->FD->Option (γ×Mem)}{f2:γ×Mem->FA->FD->Option (b×Mem)}{aj:b->cc->Prop}{S1:γ->cc->Prop}{af:Prop}(s:∀d x p c,f2 d x p=Y c->Le d.2 c.2)(hs:jn L P m λ x p=>(f1 x p).bind λ d=>f2 d x p)(G:ji j n0 L P m (λ x p=>(f1 x p).bind λ d=>f2 d x p) aj)(z:jn L P m f1->ji j n0 L P m f1 S1->af)(E:∀aR ah ao az au,MH j n0 ao ah au->jn ao az ah (f2 (aR,ah))->ji j n0 ao az ah (f2 (aR,ah)) aj->S1 aR au):af:=z (λ x p a=>by obtain⟨d,e,k⟩:=hs x p a;obtain⟨q,e1,e2⟩:=pq.1 e;exact⟨q,e1,(s q x p d e2).Bn k⟩) λ aR ah ao az au aa g=>E aR ah ao az au aa (λ x p a=>by obtain⟨d,e,k⟩:=hs x p (g x p a).1;have e':(f1 x p).bind (λ d=>f2 d x p)=Y d:=e;rw[(g x p a).2]at e';exact⟨d,e',k⟩) λ o i r n aJ t l=>G o i r n aJ t λ x p a=>⟨(g x p (l x p a).1).1,by show Option.bind _ _=_;rw[(g x p (l x p a).1).2];exact(l x p a).2⟩
theorem Ĵ{o:Type}{b:Option (cN×Option bX)}{Q:cD o->cc->Prop}(aj:St b Q){D:cD o}(aa:MH j n0 L m f)(hs:jn L P m λ x p=>sim cX x p b D m)(G:ji j n0 L P m (λ x p=>sim cX x p b D m) Q):Q D f:=by obtain⟨d,e,k⟩:=hs L P Agree.refl;exact Sz aj aa e k.1 G
theorem H9{o:Type}{b:Option (cN×Option bX)}{v:_}{V:_}{aw:_}(hf:∀q,b=Y q->q=(v.code,v.handled)):St b λ(D:cD o)f=>∀u,xN (bZ bY w) v D V aw u f where
 rule h u:=h u
 at_ h u:=h _
 point h u:=h u
 ask h u:=h u
 fresh h u:=h u
 load e h u:=⟨_,e,h u⟩
 alive{g i k f}e h u:=by show xN _ v (i (f.heap.get? g)) V aw u f;rw[e];exact h u
 upd{g q C i k f}e h u:=⟨by rw[e];rfl,h u⟩
 alloc h u:=h u
 handled e h u:=by cases hf _ e;exact h u
 stack e h u:=by cases hf _ e;exact h u _ u
noncomputable def VwP{o:Type}(D:cD o):Vw o->Prop| .oZ=>True| .pure g=>D= .pure g| .raise e=>D= .raise e| .call B hd i=>∃O r,D= .call B hd O r i
theorem Ũ{o:Type}(D:cD o):VwP D (vw D):=by cases D with|pure=>exact rfl|raise=>exact rfl|call=>exact⟨_,_,rfl⟩|_=>exact trivial
theorem xi{o:Type}:∀(H:Nat){D:cD o}{m:Mem}{d:o×Mem},sE cX x p H D m=Y d->Le m d.2|0,_,_,_,e=>by cases e|H+1,D,m,d,e=>by have e':W_ cX x p (sE cX x p H) D m (vw D)=Y d:=e;generalize vw D=b at e';cases b with|oZ=>obtain⟨q,g,l⟩:=pq.1 e';exact(œ g).trans (xi H l)|pure=>cases e';exact Le.refl|_=>cases e'
theorem ķ{o:Type}{V:o->cc->Prop}:∀(H:Nat)(D:cD o)(m:Mem)(L:FA)(P:FD)(f:cc),MH j n0 L m f->jn L P m (λ x p=>sE cX x p H D m)->ji j n0 L P m (λ x p=>sE cX x p H D m) V->cm (bZ bY w) s D V aw f|0,D,m,L,P,f,aa,hs,G=>by obtain⟨d,e,_⟩:=hs L P Agree.refl;cases e|H+1,D,m,L,P,f,aa,hs,G=>by have q:=Ũ D;have t:jn L P m λ x p=>W_ cX x p (sE cX x p H) D m (vw D):=hs;have K':ji j n0 L P m (λ x p=>W_ cX x p (sE cX x p H) D m (vw D)) V:=G;clear hs G;generalize vw D=b at q t K';cases b with|oZ=>exact λ v u Q=>xj (S1:=λ D f=>cm (bZ bY w) s D V aw f) (λ d x p c e=>xi H e) t K' (λ z E=>Ĵ (H9 (b:=W) λ q e=>by cases e) aa z (λ O ah ao az au F g u=>E O ah ao az au F g v u Q) u) λ O ah ao az au F g l=>ķ H O ah ao az au F g l|pure g=>cases q;exact ed (K' g m L P f aa λ x p a=>⟨a,rfl⟩)|_=>obtain⟨d,e,_⟩:=t L P Agree.refl;cases e
set_option tactic.hygienic true in theorem M0{b:nE}{a:eV}(e:codeOk cX b=U)(M:∀g k,cX.kt.get g=Y k->a.get? g=Y k):a.CodeRec b.code b.qualname:=by
 unfold codeOk at e;split at e;·
  rename_i B hc;split at e;·
   rename_i k ho;split at e;·
    rename_i vs hd;split at e;·rename_i c q D r hl;refine⟨B,k,vs,D,hc,M _ _ ho,hd,?_⟩;rw[LD.mp e]at hl;have:vs=⟨c::S b.qualname D::r⟩:=DJ hl;rw[this];rfl
    ·cases e
   ·cases e
  ·cases e
 ·cases e
theorem Uh(e:fnX cX C=Y q):∃k,cX.kt.get C=Y k/\k.data= .func q.1/\(q.1.scope.isCoroutine||q.1.scope.isGenerator||!codeOk cX q.1)=X/\q.1.body= .stmts q.2:=by
 unfold fnX at e;split at e;·cases e
 ·split at e;·
   split at e;·cases e
   ·split at e;·cases e;exact⟨_,‹_›,‹_›,‹_›,‹_›⟩
    ·cases e
  ·cases e
theorem NS{m:Mem}(e:enter cX x p q C o m=Y d):Le m d.2:=by obtain⟨c,g,l⟩:=pq.1 e;exact(xi _ g).trans (xi _ l)
theorem NR(hq:fnX cX C=Y q)(u:s.depth<zy)(aa:MH j n0 L m f)(hs:jn L P m λ x p=>enter cX x p q C o m)(G:ji j n0 L P m (λ x p=>enter cX x p q C o m) λ e f=>dQ (bZ bY w) s (.func q.2 e) ax f):dQ (bZ bY w) s (.call (R C) o) ax f:=by obtain⟨k,ho,hd,hc,M⟩:=Uh hq;have z:=Kw.1 hc;have E:=Kw.1 z.1;refine codeAny_call_function u (aa.base C k ho) hd E.1 E.2 M (M0 (Bool.not_eq_false' .. ▸z.2) aa.base) ?_;rw[Oz];exact xj (λ d x p c e=>xi _ e) hs G (λ z E=>ķ 1000 _ _ _ _ _ aa z E) λ g ah ao az au F z E=>by rw[QO];exact ķ 1000 _ _ _ _ _ F z λ aq i r n aJ l a=>⟨lF _ l.base,E aq i r n aJ l a⟩
end
end
section
variable{j:Zs}{n0:Nat}
theorem DB:∀(C:List (Nat×bV))(Q:BT)(y:Nat)(k:bV),(putAll C Q).get y=Y k->((∃u∈C,u.1=y/\k=u.2)\/(Q.get y=Y k/\∀u∈C,u.1≠y))
 |[],Q,y,k,a=> .inr ⟨a,λ j hp=>nomatch hp⟩
 |u::d,Q,y,k,a=>by
  rcases DB d _ y k a with⟨q,hq,e1,e2⟩|⟨e,hn⟩;·exact .inl ⟨q, .tail _ hq,e1,e2⟩
  ·rw[M2]at e;by_cases hj:y=u.1;·rw[if_pos hj]at e;cases hT:Q.get u.1 with|none=>rw[hT]at e;cases e|some o'=>rw[hT]at e;cases e;exact .inl ⟨u, .head _,hj.symm,rfl⟩
   ·rw[if_neg hj]at e;refine .inr ⟨e,λ q hq=>?_⟩;cases hq with|head=>exact λ w=>hj w.symm|tail _ hq=>exact hn q hq
set_option tactic.hygienic true in theorem ve:∀(C:List (Nat×bV))(Q:BT),vP Q C=U->∀u∈C,∃k,Q.get u.1=Y k
 |[],_,_,_,hq=>nomatch hq
 |u::d,Q,a,q,hq=>by
  unfold vP at a;split at a;·
   rename_i k ho;split at a;·cases a
   ·cases hq with|head=>exact⟨k,ho⟩|tail _ hq=>exact ve d Q a q hq
  ·cases a
theorem MH.sums{x:FA}{m B:Mem}{f n:cc}{C:List (Nat×bV)}(aa:MH j n0 x m f)(hT:B.T=putAll C m.T)(hn:B.n=m.n)(au:vP m.T C=U)(z:∀u∈C,n.heap.get? (x u.1)=Y u.2){a:AP}(c:∀g,a g->cX.kt.get g=W)(b:∀g,a g->∀y,y<m.n->g≠x y)(d:∀g,a g->j.fp g\/j.heap.objs.size<=g)(E:∀g k,f.heap.get? g=Y k->(∀u∈C,g≠x u.1)->¬a g->n.heap.get? g=Y k)(h3:f.heap.objs.size<=n.heap.objs.size)(h4:pZ j m.n x B.gh n)(h5:n.drawn=f.drawn)(h6:n.os=f.os):MH j n0 x B n where
 base g k h:=E g k (aa.base g k h) (λ u hp e=>by obtain⟨o',ae⟩:=ve C m.T au u hp;have:=aa.ap u.1 (aa.sl u.1 o' ae).1;rw[<-e,h]at this;cases this) λ q=>by rw[c g q]at h;cases h
 sl y k h:=by
  rw[hT]at h;rw[hn];rcases DB C m.T y k h with⟨u,hp,e1,e2⟩|⟨e,ay⟩;·obtain⟨o',ae⟩:=ve C m.T au u hp;subst e1 e2;exact⟨(aa.sl u.1 o' ae).1,z u hp⟩
  ·have q:=aa.sl y k e;refine⟨q.1,E _ _ q.2 (λ u hp e'=>ay u hp ?_) λ hq=>b _ hq y q.1 rfl⟩;obtain⟨o',ae⟩:=ve C m.T au u hp;exact(aa.inj y u.1 q.1 (aa.sl u.1 o' ae).1 e').symm
 inj:=by rw[hn];exact aa.inj
 ap:=by rw[hn];exact aa.ap
 lt:=by rw[hn];exact λ y hj=>fm (aa.lt y hj) h3
 keep g k h ay hz:=by
  by_cases hup:∃u∈C,g=x u.1;·
   obtain⟨u,hp,e⟩:=hup;obtain⟨o',ae⟩:=ve C m.T au u hp;have hj:=aa.sl u.1 o' ae;by_cases hp0:u.1<n0;·exact absurd e (ay u.1 hp0)
   ·have h7:=aa.new u.1 (pz hp0) hj.1;rw[<-e]at h7;rcases h7 with h7|h7;·exact(jq _ (fm (fc h) h7)).elim
    ·exact absurd h7 hz
  ·refine E g k (aa.keep g k h ay hz) (λ u hp e=>hup ⟨u,hp,e⟩) λ hq=>?_;rcases d g hq with h'|h';·exact hz h'
   ·exact jq _ (fm (fc h) h')
 new:=by rw[hn];exact aa.new
 n0:=by rw[hn];exact aa.n0
 size:=dZ aa.size h3
 gens:=by rw[hn];exact h4
 drawn:=h5.trans aa.drawn
 os:=h6.trans aa.os
theorem MH.adopt(aa:MH j n0 x m f)(ho:f.heap.get? g=Y k)(ha:cX.kt.get g=W)(ay:∀y,y<m.n->x y≠g)(hz:j.heap.objs.size<=g\/j.fp g)(hg:((m.T.ins m.n k).get m.n).isSome=U)(hT:B.T=m.T.ins m.n k)(hn:B.n=m.n+1)(hG:pZ j (m.n+1) (pS x m.n g) B.gh f):MH j n0 (pS x m.n g) B f where
 base:=aa.base
 sl y o' h:=by
  rw[hT,DH k m.T m.n hg]at h;rw[hn];by_cases hj:y=m.n;·subst hj;rw[if_pos rfl]at h;cases h;exact⟨nC _,by rw[kU];exact ho⟩
  ·rw[if_neg hj]at h;have q:=aa.sl y o' h;exact⟨lR q.1,by rw[iS _ _ q.1];exact q.2⟩
 inj i y hi hj h:=by
  rw[hn]at hi hj;by_cases ei:i=m.n;·
   by_cases ej:y=m.n;·rw[ei,ej]
   ·have p:y<m.n:=by lia
    rw[ei,kU,iS _ _ p]at h;exact absurd h.symm (ay y p)
  ·have c:i<m.n:=lN hi ei;by_cases ej:y=m.n;·rw[ej,kU,iS _ _ c]at h;exact absurd h (ay i c)
   ·have p:y<m.n:=lN hj ej;rw[iS _ _ c,iS _ _ p]at h;exact aa.inj i y c p h
 ap y hj:=by
  rw[hn]at hj;by_cases ej:y=m.n;·rw[ej,kU];exact ha
  ·have p:y<m.n:=lN hj ej;rw[iS _ _ p];exact aa.ap y p
 lt y hj:=by
  rw[hn]at hj;by_cases ej:y=m.n;·rw[ej,kU];exact fc ho
  ·have p:y<m.n:=lN hj ej;rw[iS _ _ p];exact aa.lt y p
 keep b o' h hn' hz':=aa.keep b o' h (λ y hj=>by have:=hn' y hj;rw[iS _ _ (fm hj aa.n0)]at this;exact this) hz'
 new y h1 h2:=by
  rw[hn]at h2;by_cases ej:y=m.n;·rw[ej,kU];exact hz
  ·have p:y<m.n:=lN h2 ej;rw[iS _ _ p];exact aa.new y h1 p
 n0:=by rw[hn];exact rX aa.n0
 size:=aa.size
 gens:=by rw[hn];exact hG
 drawn:=aa.drawn
 os:=aa.os
set_option tactic.hygienic true in theorem MH.ED:∀(r:List bV)(m B:Mem)(T':BT)(x b:FA),MH j n0 x m f->xw r m.T m.n=Y T'->B.T=T'->B.n=m.n+r.length->B.gh=m.gh->pZ j B.n b B.gh f->(∀y,y<m.n->b y=x y)->(∀i k,r[i]?=Y k->f.heap.get? (b (m.n+i))=Y k)->(∀i,i<r.length->cX.kt.get (b (m.n+i))=W/\(j.heap.objs.size<=b (m.n+i)\/j.fp (b (m.n+i))))->(∀i k',i<r.length->k'<r.length->b (m.n+i)=b (m.n+k')->i=k')->(∀y,y<m.n->∀i,i<r.length->b (m.n+i)≠x y)->MH j n0 b B f
 |[],m,B,T',x,b,aa,hi,hT,hn,hG,_,aU,_,_,_,_=>by cases hi;have v:=aa.congr aU;exact v.of_same hT hn hG rfl rfl rfl rfl
 |k::r,m,B,T',x,b,aa,hi,hT,hn,hG,hE,aU,n,g,c,a=>by
  unfold xw at hi;split at hi;·
   rename_i o' ae;have h0:f.heap.get? (b m.n)=Y k:=n 0 k rfl;have P:=g 0 (s6 _);have l:∀y,y<m.n->x y≠b m.n:=λ y hj e=>a y hj 0 (s6 _) e.symm;have H1:=aa.adopt (B:={m with T:=m.T.ins m.n k,n:=m.n+1}) h0 P.1 l P.2 (by rw[ae];rfl) rfl rfl (by
    rw[hG]at hE;refine hE.le (by rw[hn,ma];simp+arith only) λ y hj=>?_;by_cases e:y=m.n;·rw[e,kU]
    ·have:y<m.n:=lN hj e;rw[iS _ _ this];exact(aU y this).symm);refine MH.ED r {m with T:=m.T.ins m.n k,n:=m.n+1} B T' _ b H1 hi hT (by rw[hn,ma];show _=m.n+1+r.length;simp+arith only) hG hE (λ y hj=>?_) (λ i k hk=>?_) (λ i hk=>?_) (λ i k' z E e=>?_) λ y hj=>?_;·
    have p:y<m.n+1:=hj;by_cases e:y=m.n;·rw[e,kU]
    ·have:y<m.n:=lN p e;rw[iS _ _ this];exact aU y this
   ·have:=n (i+1) k (by rw[nA];exact hk);rw[show m.n+1+i=m.n+(i+1)from by simp+arith only];exact this
   ·rw[show m.n+1+i=m.n+(i+1)from by simp+arith only];exact g (i+1) (zt hk)
   ·have e':b (m.n+(i+1))=b (m.n+(k'+1)):=by rw[show m.n+(i+1)=m.n+1+i from by simp+arith only,show m.n+(k'+1)=m.n+1+k' from by simp+arith only];exact e
    have:=c (i+1) (k'+1) (zt z) (zt E) e';lia
   ·have p:y<m.n+1:=hj;by_cases e:y=m.n;·
     subst e;rw[kU];refine λ i hk e=>?_;have e':b (m.n+(i+1))=b (m.n+0):=by rw[show m.n+(i+1)=m.n+1+i from by simp+arith only];exact e
     have:=c (i+1) 0 (zt hk) (s6 _) e';cases this
    ·have d:y<m.n:=lN p e;rw[iS _ _ d];refine λ i hk=>?_;rw[show m.n+1+i=m.n+(i+1)from by simp+arith only];exact a y d (i+1) (zt hk)
  ·cases hi
set_option tactic.hygienic true in theorem Ą(a:Ő f c' g af m d b=Y B):vP m.T (f.up g af)=U/\(f.new g af).length=f.nn/\∃Q,xw (f.new g af) (putAll (f.up g af) m.T) m.n=Y Q/\B=⟨Q,m.n+f.nn,m.i+f.nd,d,m.ob,b,⟨c',m.T,m.n,m.gh,f⟩::m.rc,yo f g af m.gh⟩:=by
 unfold Ő at a;split at a;·cases a
 ·rename_i au;split at a;·cases a
  ·rename_i hl;split at a;·cases a
   ·rename_i Q hT;cases a;exact⟨au,tD hl,Q,hT,rfl⟩
structure Good{A:Type}(j:Zs)(n0:Nat)(aj:Cfg A->cc->Prop)(x:FA)(k:Cfg A×Mem):Prop where
 ob:å x k.2
 fin:∀f,MH j n0 x k.2 f->aj k.1 f
theorem DO(a:mT hd=U):hd≠Y byPass:=by rintro rfl;simp[mT]at a
variable{A:Type}{s:cR}{ak:cN}{hv:Option bX}{ai:Nat}{Bs:cD A->cc->Prop}
theorem Ģ{H:dX->cD A}(a:Sat s Bs (sH fs o H d) f):KR (s.mark o) (λ d n=>Bs (H d) n) fs d f:=by cases fs with|nil=>exact a|cons C fs=>exact a
theorem PM(J:s.handled=hv)(hd:Option bX):s.mark (hd.or hv)=s.mark hd:=by unfold Dw;rw[J];cases hd<;>cases hv<;>rfl
theorem Fc(J:s.handled=hv)(hd:Option bX):(s.mark (hd.or hv)).handled=hd.or hv:=by show(hd.or hv).or s.handled=hd.or hv;rw[J];cases hd<;>cases hv<;>rfl
noncomputable def nY(s:cR):Cfg A->Prop| .b _=>True| .k _ _ _ o _=>(s.mark o).handled=o
theorem ĺ{H:dX->cD A}(a:(s.mark o).handled=o):nY s (sH fs o H d):=by cases fs with|nil=>trivial|cons=>exact a
theorem Ou{H:dX->cD A}{d:Cfg A×Mem}(e:vM x p sm c' fs o H m r b l q=Y d):Le m d.2/\((s.mark o).handled=o->nY s d.1):=by cases q with|some=>cases e|none=>cases l with|false=>cases e|true=>obtain⟨B,a,rfl⟩:=jc.1 e;obtain⟨_,_,Q,_,e2⟩:=Ą a;exact⟨by rw[e2];exact⟨λ j a=>a,λ j a=> .tail _ a⟩,ĺ⟩
theorem g_{H:dX->cD A}{d:Cfg A×Mem}(e:callC cX x p ai c' fs o H m=Y d):Le m d.2/\((s.mark o).handled=o->nY s d.1):=by
 unfold callC at e;generalize m.ja=r at e;cases r with
  |nil=>cases e
  |cons c r=>
   cases c with
    |zero=>cases e;exact⟨⟨λ j a=>a,λ j a=>a⟩,λ a=>a⟩
    |succ c=>
     cases c with
      |zero=>have e':l6 (ju (kz fs) ai) (xZ cX x p c' fs o H {m with ja:=r})=Y d:=e;generalize ju (kz fs) ai=l at e';cases l with|false=>cases e'|true=>obtain⟨u,_,e1⟩:=pq.1 e';obtain⟨q,_,e2⟩:=pq.1 e1;obtain⟨c,hx,e3⟩:=pq.1 e2;cases e3;have af:=NS hx;exact⟨af,λ a=>a⟩
      |succ c=>
       cases c with
        |zero=>have e':xY x p ai c' fs o H m r m.sm=Y d:=e;generalize m.sm=b at e';cases b with|nil=>cases e'|cons=>exact Ou e'
        |succ=>cases e
theorem l_(J:s.handled=hv){O:Cfg A}{d:Cfg A×Mem}(e:step cX x p ak hv ai O m=Y d):Le m d.2/\(nY s O->nY s d.1):=by
 cases O with
  |b D=>
   have e':D_ cX x p ak hv ai D m (vw D)=Y d:=e;generalize vw D=b at e';cases b with
    |oZ=>obtain⟨q,g,l⟩:=pq.1 e';cases l;exact⟨œ g,λ j=>trivial⟩
    |call c' hd i=>have e2:l6 (mT hd) (callC cX x p ai c' [] (hd.or hv) i m)=Y d:=e';generalize mT hd=l at e2;cases l with|false=>cases e2|true=>exact⟨(g_ (s:=s) e2).1,λ j=>(g_ e2).2 (Fc J hd)⟩
    |_=>cases e'
  |k D B fs o H=>
   have e':stepK cX x p ai D B fs o H m (vw D)=Y d:=e;generalize vw D=b at e';cases b with
    |oZ=>obtain⟨q,g,l⟩:=pq.1 e';cases l;exact⟨œ g,λ a=>a⟩
    |pure aj=>cases aj with|done C=>cases e';exact⟨Le.refl,ĺ⟩|again c'=>have e2:l6 (ud c') (callC cX x p ai c' fs o H m)=Y d:=e';generalize ud c'=l at e2;cases l with|false=>cases e2|true=>exact g_ e2
    |raise=>cases e';exact⟨Le.refl,ĺ⟩
    |call c' hd i=>have e2:l6 (mT hd) (callC cX x p ai c' (⟨B,hd,i⟩::fs) o H m)=Y d:=e';generalize mT hd=l at e2;cases l with|false=>cases e2|true=>exact g_ e2
set_option tactic.hygienic true in theorem Sn(a:Agree L P m x p):dP m.n x=dP m.n L:=by
 funext k;unfold dP;split;·rename_i q;exact a.1 k (cL q)
 ·rfl
set_option tactic.hygienic true in theorem Sl(a:Agree L P m x p):dC m.i p=dC m.i P:=by
 funext k;unfold dC;split;·rename_i q;exact a.2 k (cL q)
 ·rfl
set_option tactic.hygienic true in theorem Ot(J:cj ai hv s)(hh:(s.mark o).handled=o){H:dX->cD A}(aa:MH j n0 L m f)(hw:kz fs+sm.room<=ai)(aZ:oU o fs=W)(hs:jn L P m λ x p=>sumF sm c' fs o H m r b (dP sm.nn λ i=>x (m.n+i)) (dC sm.nd λ i=>p (m.i+i)))(G:ji j n0 L P m (λ x p=>sumF sm c' fs o H m r b (dP sm.nn λ i=>x (m.n+i)) (dC sm.nd λ i=>p (m.i+i))) (Sat s Bs)):dQ (bZ bY w) (KA (s.mark o) fs) c' (KR (s.mark o) (λ d n=>Bs (H d) n) fs) f:=by
 have aj:cy L ⟨c',m.T,m.n,m.gh,sm⟩:=by obtain⟨d,e,k⟩:=hs L P Agree.refl;obtain⟨B,a,rfl⟩:=jc.1 e;obtain⟨_,_,Q,_,e2⟩:=Ą a;exact k.2 _ (by show _∈B.rc;rw[e2];exact .head _)
 have z:=Ĭ (s.mark o) fs;have E:=ī (s.mark o) fs;have e1:(s.mark o).depth=s.depth:=rfl;have e2:(s.mark o).units=s.units:=rfl;have aY:=J.d;have b4:=J.u;obtain⟨fp,ah,C,aR⟩:=aa.gens;refine aj (KA (s.mark o) fs) _ f fp ⟨by rw[Č hh fs];exact aZ,by show _+sm.room<_;exact Je hw z (rx e1) aY,by show _+3*sm.room<_;lia⟩ aa.base aa.sl aa.inj aa.ap ah aR λ g af n k0 k1 k2 k3 z E h3 h4 h5 h6=>?_;let ao:FA:=λ y=>if y<m.n then L y else g (y-m.n);let az:FD:=λ v=>if v<m.i then P v else af (v-m.i);have aU:Agree L P m ao az:=⟨λ y hj=>if_pos hj,λ v hi=>if_pos hi⟩;have va:∀i,ao (m.n+i)=g i:=λ i=>by show(if m.n+i<m.n then _ else g (m.n+i-m.n))=g i;rw[if_neg (by lia),Cr]
 have V:∀i,az (m.i+i)=af i:=λ i=>by show(if m.i+i<m.i then _ else af (m.i+i-m.i))=af i;rw[if_neg (by lia),Cr]
 have ta:∀x:FA,(∀y,y<m.n+sm.nn->x y=ao y)->(dP sm.nn λ i=>x (m.n+i))=dP sm.nn g:=λ x a=>by
  funext i;unfold dP;split;·rename_i q;have q':i<sm.nn:=cL q;exact(a _ (gB q')).trans (va i)
  ·rfl
 have td:∀p:FD,(∀y,y<m.i+sm.nd->p y=az y)->(dC sm.nd λ i=>p (m.i+i))=dC sm.nd af:=λ p a=>by
  funext i;unfold dC;split;·rename_i q;have q':i<sm.nd:=cL q;exact(a _ (gB q')).trans (V i)
  ·rfl
 obtain⟨d,D,_⟩:=hs _ _ aU;have D:sumF sm c' fs o H m r b (dP sm.nn λ i=>ao (m.n+i)) (dC sm.nd λ i=>az (m.i+i))=Y d:=D;rw[ta ao (λ t t=>rfl),td az (λ t t=>rfl)]at D;obtain⟨B,aM,_⟩:=jc.1 D;obtain⟨au,aq,Q,hT,e2⟩:=Ą aM;refine Ģ (G (sH fs o H (sm.res (dP sm.nn g) (dC sm.nd af))) B ao az n ?_ λ x p a=>?_);·
  have hE:pZ j B.n ao B.gh n:=by
   rw[e2];show pZ j (m.n+sm.nn) ao (yo sm (dP sm.nn g) (dC sm.nd af) m.gh) n;have O:∀y,y<m.n->L y<f.heap.objs.size:=aa.lt;have ay:∀{l:bU}{y:Nat},m.n<=y->y<m.n+sm.nn->ao y=g (y-m.n):=λ{l y}q1 _=>by show(if y<m.n then _ else g (y-m.n))=_;rw[if_neg (Bm q1)]
   have ax:∀{y:Nat},y<m.n->ao y=L y:=λ{y}q=>if_pos q;have aV:=h4;unfold yg at aV;have aJ:∀l k,f.heap.get? l=Y k->(∀u∈sm.up (dP sm.nn g) (dC sm.nd af),l≠L u.1)->(sm.gs=U->¬fp l)->n.heap.get? l=Y k:=E;have q:sm.gh=sm.gh:=rfl;have aQ:∀i,i<sm.nn->f.heap.objs.size<=g i\/(sm.gs=U/\fp (g i)):=k2;unfold Sm.gs at aJ aQ;unfold yo;revert aV aJ aQ;cases sm.gh with
    |none=>
     intro aV aJ aQ;refine⟨fp,⟨λ l M=>fm (ah.lt l M) h3,ah.nk,λ l M y hj=>?_⟩,C,λ aK q1 q2=>aR aK (λ l k M ho=>q1 l k M (aJ l k ho (λ u hp=>?_) λ q=>by cases q)) (q2.trans aV)⟩;·
      by_cases hj0:y<m.n;·rw[ax hj0];exact ah.ns l M y hj0
      ·rw[ay (l:=l) (pz hj0) hj];rcases aQ _ (by show y-m.n<sm.nn;omega)with a|a;·exact kR (fm (ah.lt l M) a)
       ·cases a.1
     ·obtain⟨o',ae⟩:=ve _ _ au u hp;exact ah.ns l M u.1 (aa.sl u.1 o' ae).1
    |some F=>
     rintro⟨aw,f1,f2⟩- -;refine⟨aw,⟨λ l M=>(f1 l M).2.1,λ l M=>?_,λ l M y hj=>?_⟩,λ l M=>?_,f2⟩;·
      rcases(f1 l M).1 with a|a;·exact ah.nk l a
      ·cases q:cX.kt.get l with|none=>rfl|some k=>exact(jq _ (fm (fc (aa.base l k q)) a)).elim
     ·by_cases hj0:y<m.n;·
       rw[ax hj0];rcases(f1 l M).1 with a|a;·exact ah.ns l a y hj0
       ·exact λ e=>jq _ (fm (O y hj0) (e▸a))
      ·rw[ay (l:=l) (pz hj0) hj];exact(f1 l M).2.2 _ (by show y-m.n<sm.nn;omega)
     ·rcases(f1 l M).1 with a|a;·exact C l a
      ·exact .inr (dZ aa.size a)
  have H1:MH j n0 L ⟨putAll (sm.up (dP sm.nn g) (dC sm.nd af)) m.T,m.n,m.i,r,m.ob,b,m.rc,yo sm (dP sm.nn g) (dC sm.nd af) m.gh⟩ n:=by refine aa.sums (a:=fp) rfl rfl au z ah.nk ah.ns C (λ l k q1 q2 q3=>E l k q1 q2 λ t=>q3) h3 ?_ h5 h6;have:=hE.le (H:=m.n) (x:=L) (by rw[e2];exact zu _ _) (λ y hj=>(if_pos hj).symm);rw[e2]at this;exact this
  have aX:∀l,f.heap.objs.size<=l->cX.kt.get l=W:=λ l M=>by cases q:cX.kt.get l with|none=>rfl|some k=>exact(jq _ (fm (fc (aa.base l k q)) M)).elim
  refine MH.ED (sm.new (dP sm.nn g) (dC sm.nd af)) _ B Q L _ H1 hT (by rw[e2]) (by rw[e2,aq]) (by rw[e2]) hE (λ y hj=>if_pos hj) (λ i k hk=>?_) (λ i hk=>?_) (λ i k' q1 q2 e=>?_) λ y hj i hk=>?_;·show n.heap.get? (ao (m.n+i))=Y k;rw[va];exact k1 i k hk
  ·show cX.kt.get (ao (m.n+i))=W/\(j.heap.objs.size<=ao (m.n+i)\/j.fp (ao (m.n+i)));rw[va];rcases k2 i (by rw[<-aq];exact hk)with a|a;·exact⟨aX _ a, .inl (dZ aa.size a)⟩
   ·exact⟨ah.nk _ a.2,(C _ a.2).symm⟩
  ·have e':ao (m.n+i)=ao (m.n+k'):=e;rw[va,va]at e';exact k3 i k' (by rw[<-aq];exact q1) (by rw[<-aq];exact q2) e'
  ·show ao (m.n+i)≠L y;rw[va];rcases k2 i (by rw[<-aq];exact hk)with a|a;·exact oy (fm (aa.lt y hj) a)
   ·exact ah.ns _ a.2 y hj
 ·have hn:B.n=m.n+sm.nn:=by rw[e2]
  have hi:B.i=m.i+sm.nd:=by rw[e2]
  have b3:Agree L P m x p:=⟨λ y hj=>(a.1 y (hV (oa hn) hj)).trans (if_pos hj),λ v c=>(a.2 v (hV (oa hi) c)).trans (if_pos c)⟩;refine⟨b3,?_⟩;show sumF _ _ _ _ _ _ _ _ _ _=_;rw[ta x (λ y hj=>a.1 y (hn▸hj)),td p (λ v c=>a.2 v (hi▸c))];exact jc.2 ⟨_,aM,rfl⟩
theorem PJ(e:υ B=Y u):B= .call (R u.1) u.2:=by
 unfold υ at e;split at e;·cases e;rfl
 ·cases e
theorem Ĩ(J:cj ai hv s)(hh:(s.mark o).handled=o){H:dX->cD A}(aa:MH j n0 L m f)(hs:jn L P m λ x p=>callC cX x p ai c' fs o H m)(G:ji j n0 L P m (λ x p=>callC cX x p ai c' fs o H m) (Sat s Bs)):dQ (bZ bY w) (KA (s.mark o) fs) c' (KR (s.mark o) (λ d n=>Bs (H d) n) fs) f:=by
 unfold callC at hs G;generalize m.ja=r at hs G;cases r with
  |nil=>obtain⟨d,e,_⟩:=hs L P Agree.refl;cases e
  |cons c r=>
   have v:MH j n0 L {m with ja:=r} f:=aa.of_same rfl rfl rfl rfl rfl rfl rfl;cases c with
    |zero=>exact Dj (G (.k (dn c') c' fs o H) {m with ja:=r} L P f v λ x p a=>⟨a,rfl⟩)
    |succ c=>
     cases c with
      |zero=>have t:jn L P m λ x p=>l6 (ju (kz fs) ai) (xZ cX x p c' fs o H {m with ja:=r}):=hs;have K':ji j n0 L P m (λ x p=>l6 (ju (kz fs) ai) (xZ cX x p c' fs o H {m with ja:=r})) (Sat s Bs):=G;clear hs G;obtain⟨d,e,_⟩:=t L P Agree.refl;cases M:ju (kz fs) ai with|false=>rw[M]at e;cases e|true=>rw[M]at e t K';obtain⟨u,hp,e1⟩:=pq.1 e;obtain⟨q,hq,e2⟩:=pq.1 e1;unfold xZ at t K';rw[hp]at t K';cases PJ hp;have aw:jn L P m λ x p=>(fnX cX u.1).bind λ q=>(enter cX x p q u.1 u.2 {m with ja:=r}).bind λ e=>Y ((.k (dn (.func q.2 e.1)) (.func q.2 e.1) fs o H:Cfg A),e.2):=t;have V:ji j n0 L P m (λ x p=>(fnX cX u.1).bind λ q=>(enter cX x p q u.1 u.2 {m with ja:=r}).bind λ e=>Y ((.k (dn (.func q.2 e.1)) (.func q.2 e.1) fs o H:Cfg A),e.2)) (Sat s Bs):=K';rw[hq]at aw V;exact xj (m:={m with ja:=r}) (f1:=λ x p=>enter cX x p q u.1 u.2 {m with ja:=r}) (f2:=λ e x p=>Y ((.k (dn (.func q.2 e.1)) (.func q.2 e.1) fs o H:Cfg A),e.2)) (λ d x p c e=>by cases e;exact Le.refl) aw V (λ z E=>NR hq (XR J (cL M)).1 v z E) λ e ah ao az au F g l=>Dj (l (.k (dn (.func q.2 e)) (.func q.2 e) fs o H) ah ao az au F λ x p a=>⟨a,rfl⟩)
      |succ c=>
       cases c with
        |succ=>obtain⟨d,e,_⟩:=hs L P Agree.refl;cases e
        |zero=>
         have t:jn L P m λ x p=>xY x p ai c' fs o H m r m.sm:=hs;have K':ji j n0 L P m (λ x p=>xY x p ai c' fs o H m r m.sm) (Sat s Bs):=G;clear hs G;generalize m.sm=b at t K';cases b with
          |nil=>obtain⟨d,e,_⟩:=t L P Agree.refl;cases e
          |cons C b=>
           generalize ae:C (dP m.n L) (dC m.i P)=sm;have hm:∀x p,Agree L P m x p->xY x p ai c' fs o H m r (C::b)=vM x p sm c' fs o H m r b (ju (kz fs+sm.room) ai) (oU o fs):=λ x p a=>by show vM x p (C (dP m.n x) (dC m.i p)) c' fs o H m r b (ju (kz fs+(C (dP m.n x) (dC m.i p)).room) ai) (oU o fs)=_;rw[Sn a,Sl a,ae]
           have aw:jn L P m λ x p=>vM x p sm c' fs o H m r b (ju (kz fs+sm.room) ai) (oU o fs):=λ x p a=>by obtain⟨d,e,k⟩:=t x p a;exact⟨d,(hm x p a).symm.trans e,k⟩
           have V:ji j n0 L P m (λ x p=>vM x p sm c' fs o H m r b (ju (kz fs+sm.room) ai) (oU o fs)) (Sat s Bs):=λ aR ah ao az au F g=>K' aR ah ao az au F λ x p a=>⟨(g x p a).1,(hm x p (g x p a).1).trans (g x p a).2⟩;clear t K';generalize M:ju (kz fs+sm.room) ai=l at aw V;generalize hq:oU o fs=q at aw V;obtain⟨d,e,_⟩:=aw L P Agree.refl;cases q with|some=>cases e|none=>cases l with|false=>cases e|true=>exact Ot J hh aa (cL M) hq aw V
structure uf(j:Zs)(n0:Nat)(s:cR)(ak:cN)(hv:Option bX){A:Type}(Bs:cD A->cc->Prop):Prop where
 simp:∀{L:FA}{P:FD}{D:cD A}{m:Mem}{f:cc},MH j n0 L m f->jn L P m (λ x p=>sim cX x p (Y (ak,hv)) D m)->ji j n0 L P m (λ x p=>sim cX x p (Y (ak,hv)) D m) Bs->Bs D f
 call:∀{c':cN}{hd:Option bX}{O:Bool}{r:List bX}{i:dX->cD A}{f:cc},hd≠Y byPass->dQ (bZ bY w) (s.mark hd) c' (λ d n=>Bs (i d) n) f->Bs (.call c' hd O r i) f
theorem E9{o:Type}{z:cR}{B:cN}{hw:Option bX}(hB:z.handled=hw){L:FA}{P:FD}{D:cD o}{m:Mem}{f:cc}{V:o->cc->Prop}{aw:VS}(aa:MH j n0 L m f)(hs:jn L P m λ x p=>sim cX x p (Y (B,hw)) D m)(G:ji j n0 L P m (λ x p=>sim cX x p (Y (B,hw)) D m) λ D f=>je (bZ bY w) z B D V aw f):je (bZ bY w) z B D V aw f:=λ v u hc Q=>Ĵ (H9 λ q e=>by cases e;rw[hc,Q.1.trans hB]) aa hs (λ O ah ao az au F g u=>G O ah ao az au F g v u hc Q) u
theorem u'(J:s.handled=hv){V:A->cc->Prop}:uf j n0 s ak hv (oV s ak V aw)where
 simp H h K:=E9 J H h K
 call hn h:=DK hn h
theorem Ļ{γ:Type}{L:FA}{P:FD}{m:Mem}{l:Bool}{C:FA->FD->Option (γ×Mem)}(hs:jn L P m λ x p=>l6 l (C x p)):l=U:=by obtain⟨d,e,_⟩:=hs L P Agree.refl;cases l with|true=>rfl|false=>cases e
theorem EN(BO:uf j n0 s ak hv Bs)(J:cj ai hv s){O:Cfg A}(hg:nY s O)(aa:MH j n0 L m f)(hs:jn L P m λ x p=>step cX x p ak hv ai O m)(G:ji j n0 L P m (λ x p=>step cX x p ak hv ai O m) (Sat s Bs)):Sat s Bs O f:=by
 cases O with
  |b D=>have q:=Ũ D;have t:jn L P m λ x p=>D_ cX x p ak hv ai D m (vw D):=hs;have K':ji j n0 L P m (λ x p=>D_ cX x p ak hv ai D m (vw D)) (Sat s Bs):=G;clear hs G;generalize vw D=b at q t K';cases b with|oZ=>exact xj (S1:=Bs) (λ d x p c e=>by cases e;exact Le.refl) t K' (λ z E=>BO.simp aa z E) λ O ah ao az au F g l=>l (.b O) ah ao az au F λ x p a=>⟨a,rfl⟩|call c' hd i=>obtain⟨k,r,rfl⟩:=q;have M:mT hd=U:=Ļ t;have aw:jn L P m λ x p=>l6 (mT hd) (callC cX x p ai c' [] (hd.or hv) i m):=t;have V:ji j n0 L P m (λ x p=>l6 (mT hd) (callC cX x p ai c' [] (hd.or hv) i m)) (Sat s Bs):=K';refine BO.call (DO M) ?_;rw[M]at aw V;rw[<-PM J.h hd];exact Ĩ (fs:=[]) J (Fc J.h hd) aa aw V|_=>obtain⟨d,e,_⟩:=t L P Agree.refl;cases e
  |k D B fs o H=>
   have hh:(s.mark o).handled=o:=hg;have q:=Ũ D;have t:jn L P m λ x p=>stepK cX x p ai D B fs o H m (vw D):=hs;have K':ji j n0 L P m (λ x p=>stepK cX x p ai D B fs o H m (vw D)) (Sat s Bs):=G;clear hs G;generalize vw D=b at q t K';cases b with
    |oZ=>exact xj (S1:=λ D f=>Sat s Bs (.k D B fs o H) f) (λ d x p c e=>by cases e;exact Le.refl) t K' (λ z E=>E9 (z:=(KA (s.mark o) fs).under B) (Č hh fs) aa z E) λ O ah ao az au F g l=>l (.k O B fs o H) ah ao az au F λ x p a=>⟨a,rfl⟩
    |pure aj=>cases q;cases aj with|done C=>exact λ v u hc Q=>Ģ (K' (sH fs o H (.ok C)) m L P f aa λ x p a=>⟨a,rfl⟩)|again c'=>have M:ud c'=U:=Ļ t;have aw:jn L P m λ x p=>l6 (ud c') (callC cX x p ai c' fs o H m):=t;have V:ji j n0 L P m (λ x p=>l6 (ud c') (callC cX x p ai c' fs o H m)) (Sat s Bs):=K';rw[M]at aw V;exact λ v u hc Q=>⟨by rw[Ml];exact M,Ĩ (fs:=fs) J hh aa aw V⟩
    |raise e=>cases q;exact λ v u hc Q=>Ģ (K' (sH fs o H (.error e)) m L P f aa λ x p a=>⟨a,rfl⟩)
    |call c' hd i=>obtain⟨k,r,rfl⟩:=q;have M:mT hd=U:=Ļ t;have aw:jn L P m λ x p=>l6 (mT hd) (callC cX x p ai c' (⟨B,hd,i⟩::fs) o H m):=t;have V:ji j n0 L P m (λ x p=>l6 (mT hd) (callC cX x p ai c' (⟨B,hd,i⟩::fs) o H m)) (Sat s Bs):=K';rw[M]at aw V;exact DK (DO M) (Ĩ (fs:=⟨B,hd,i⟩::fs) J hh aa aw V)
theorem Ġ{O:Cfg A}{d:Cfg A×Mem}(e:step cX x p ak hv ai O m=Y d):run cX x p ak hv ai (H+1) O m=run cX x p ak hv ai H d.1 d.2:=by show(match step cX x p ak hv ai O m with|Y d=>run cX x p ak hv ai H d.1 d.2|W=>(O,m))=_;rw[e]
theorem Ej{O:Cfg A}(e:step cX x p ak hv ai O m=W):run cX x p ak hv ai (H+1) O m=(O,m):=by show(match step cX x p ak hv ai O m with|Y d=>run cX x p ak hv ai H d.1 d.2|W=>(O,m))=_;rw[e]
theorem G6(J:s.handled=hv):∀(H:Nat)(O:Cfg A)(m:Mem),Le m (run cX x p ak hv ai H O m).2|0,_,_=>Le.refl|H+1,O,m=>by cases e:step cX x p ak hv ai O m with|none=>rw[Ej e];exact Le.refl|some d=>rw[Ġ e];exact(l_ J e).1.trans (G6 J H d.1 d.2)
theorem SE(BO:uf j n0 s ak hv Bs)(J:cj ai hv s):∀(H:Nat)(O:Cfg A)(m:Mem)(L:FA)(P:FD)(f:cc),nY s O->MH j n0 L m f->(∀x p,Agree L P m x p->Good j n0 (Sat s Bs) x (run cX x p ak hv ai H O m))->Sat s Bs O f:=by
 intro H;induction H with
  |zero=>intro O m L P f _ aa af;exact(af L P Agree.refl).fin f aa
  |succ H ih=>
   intro O m L P f hg aa af;by_cases hbad:∃ao az,Agree L P m ao az/\step cX ao az ak hv ai O m=W;·obtain⟨ao,az,a,e⟩:=hbad;have g1:=(af ao az a).fin;rw[Ej e]at g1;exact g1 f (aa.congr a.1)
   ·refine EN (P:=P) BO J hg aa (λ x p a=>?_) λ aR ah ao az au F b=>?_;·cases D:step cX x p ak hv ai O m with|none=>exact absurd ⟨x,p,a,D⟩ hbad|some d=>have g1:=af x p a;rw[Ġ D]at g1;exact⟨d,D,(G6 J.h H d.1 d.2).Bn g1.ob⟩
    ·refine ih aR ah ao az au ((l_ J.h (b ao az Agree.refl).2).2 hg) F λ x p a=>?_;have g1:=af x p (b x p a).1;rw[Ġ (b x p a).2]at g1;exact g1
end
noncomputable def fW:cN:= .whileLoop default [] [] default
noncomputable def fB(os:List bV)(ay:List Nat)(sm:List iG)(l:GP):Mem:=⟨bt os,os.length,0,ay,[],sm,[],l⟩
section
variable{s:cR}{ai:Nat}{f:cc}{r:List bU}{os:List bV}
noncomputable def q7(r:List bU)(fp:AP)(f:cc):Prop:=∀g,fp g->g<f.heap.objs.size/\dp.get g=W/\g∉r
noncomputable def gZ:AP:=λ j=>False
theorem q7.no:q7 r gZ f:=λ j a=>a.elim
theorem tU:dD gZ (λ j c=>c.gens=f.gens) f:=λ j j a=>a
theorem DP(hB:Base f.heap)(hl:Slots f.heap r os)(aa:∀g∈r,dp.get g=W)(L:r.Nodup)(x:FA)(a:∀y g,r[y]?=Y g->x y=g)(ay:List Nat)(sm:List iG)(l:GP)(t:n0<=os.length)(hz:∀y g,n0<=y->r[y]?=Y g->b g)(hf:q7 r fp f)(C:∀g,fp g->b g)(P:dD fp l f):MH ⟨f,b⟩ n0 x (fB os ay sm l) f where
 base:=hB
 sl y o h:=by have h':(bt os).get y=Y o:=h;rw[V2]at h';refine cK (hl.at h') λ g z E=>?_;exact⟨(ot.mp h').1,by rw[a y g z];exact E⟩
 inj i y hi hj h:=by
  have c:i<r.length:=by rw[hl.len];exact hi
  have p:y<r.length:=by rw[hl.len];exact hj
  rw[a i _ (gv c),a y _ (gv p)]at h;have F:=Kh.mp (show Lz (·≠·) r from L);rcases KW i y with q|q|q;·exact absurd h (F i y c p q)
  ·exact q
  ·exact absurd h.symm (F y i p c q)
 ap y hj:=by
  have p:y<r.length:=by rw[hl.len];exact hj
  rw[a y _ (gv p)];exact aa _ (zv p)
 lt y hj:=by
  have p:y<r.length:=by rw[hl.len];exact hj
  have d:y<os.length:=hj;refine cK (hl.at (gv d)) λ g z E=>?_;rw[a y g z];exact fc E
 keep g o h _ _:=h
 new y z E:=by
  have p:y<r.length:=by rw[hl.len];exact E
  rw[a y _ (gv p)];exact .inr (hz y _ z (gv p))
 n0:=t
 size:=gz _
 gens:=⟨fp,⟨λ g ha=>(hf g ha).1,λ g ha=>(hf g ha).2.1,λ g ha y hj e=>(hf g ha).2.2 (by
  have p:y<r.length:=by rw[hl.len];exact hj
  rw[e,a y _ (gv p)];exact zv p)⟩,λ g ha=> .inl (C g ha),P⟩
 drawn:=rfl
 os:=rfl
theorem zZ{A:Type}{Bs:cD A->cc->Prop}(BO:uf ⟨f,b⟩ n0 s ak hv Bs)(J:cj ai hv s)(hB:Base f.heap)(hl:Slots f.heap r os)(aa:∀g∈r,dp.get g=W)(L:r.Nodup)(O:Cfg A)(hg:nY s O)(H:Nat)(ay:List Nat)(sm:List iG)(l:GP)(t:n0<=os.length)(hz:∀y g,n0<=y->r[y]?=Y g->b g)(hf:q7 r fp f)(C:∀g,fp g->b g)(P:dD fp l f)(af:∀(d:FA)(p:FD),(run (cx b1) (pre r d) p ak hv ai H O (fB os ay sm l)).2.ob.map (·.1)=(run (cx b1) (pre r d) p ak hv ai H O (fB os ay sm l)).2.ob.map (λ u=>pre r d u.2)/\(∀c∈(run (cx b1) (pre r d) p ak hv ai H O (fB os ay sm l)).2.rc,cy (pre r d) c)/\(∀n,MH ⟨f,b⟩ n0 (pre r d) (run (cx b1) (pre r d) p ak hv ai H O (fB os ay sm l)).2 n->Sat s Bs (run (cx b1) (pre r d) p ak hv ai H O (fB os ay sm l)).1 n)):Sat s Bs O f:=by
 refine SE (j:=⟨f,b⟩) (n0:=n0) BO J H O (fB os ay sm l) (pre r λ q=>0) (λ q=>⟨0,default,[],0⟩) f hg (DP hB hl aa L _ (λ y g a=>nI r _ y g a) ay sm l t hz hf C P) ?_;intro x p aU;have e:pre r (λ y=>x (y+r.length))=x:=Ŗ r x λ y g a=>by
  have hj:y<os.length:=by rw[<-hl.len];exact(ot.mp a).1
  rw[aU.1 y hj];exact nI r _ y g a
 have O:=af (λ y=>x (y+r.length)) p;rw[e]at O;refine⟨⟨λ u hp=>?_,O.2.1⟩,O.2.2⟩;have:=O.1;have aQ:∀(ob:List (bU×Nat)),ob.map (·.1)=ob.map (λ u=>x u.2)->∀u∈ob,u.1=x u.2:=by intro ob;induction ob with|nil=>intro _ u hp;cases hp|cons c d ih=>intro a u hp;rw[ir,ir,CS]at a;cases hp with|head=>exact a.1|tail _ hp=>exact ih a.2 u hp
 exact aQ _ this u hp
theorem PE{A:Type}{Bs:cD A->cc->Prop}(BO:∀n0,uf ⟨f,fp⟩ n0 s ak hv Bs)(J:cj ai hv s)(hB:Base f.heap)(hl:Slots f.heap r os)(aa:∀g∈r,dp.get g=W)(L:r.Nodup)(O:Cfg A)(hg:nY s O)(H:Nat)(ay:List Nat)(sm:List iG)(l:GP)(hf:q7 r fp f)(P:dD fp l f)(af:∀(d:FA)(p:FD),(run (cx b1) (pre r d) p ak hv ai H O (fB os ay sm l)).2.ob.map (·.1)=(run (cx b1) (pre r d) p ak hv ai H O (fB os ay sm l)).2.ob.map (λ u=>pre r d u.2)/\(∀c∈(run (cx b1) (pre r d) p ak hv ai H O (fB os ay sm l)).2.rc,cy (pre r d) c)/\(∀n,MH ⟨f,fp⟩ os.length (pre r d) (run (cx b1) (pre r d) p ak hv ai H O (fB os ay sm l)).2 n->Sat s Bs (run (cx b1) (pre r d) p ak hv ai H O (fB os ay sm l)).1 n)):Sat s Bs O f:=zZ (BO _) J hB hl aa L O hg H ay sm l (gz _) (λ y g z E=>by have:=(ot.mp E).1;rw[hl.len]at this;exact absurd z (M5.mpr this)) hf (λ j a=>a) P af
theorem DC:∀(l1 l2:List bU)(d:FA),pre (l1++l2) d=pre l1 (pre l2 d)|[],_,_=>rfl|g::l1,l2,d=>by funext y;cases y with|zero=>rfl|succ y=>exact congrFun (DC l1 l2 d) y
theorem Slots.append:∀{l1 l2:List bU}{o1 o2:List bV},Slots a l1 o1->Slots a l2 o2->Slots a (l1++l2) (o1++o2)|[],_,[],_,_,aa=>aa|_::_,_,_::_,_,H1,t=>⟨H1.1,Slots.append H1.2 t⟩|[],_,_::_,_,aa,_=>aa.elim|_::_,_,[],_,aa,_=>aa.elim
theorem QC{v:Ctx}(Q:v.Below s):(v.goto fW).In s:=by
 refine(i6 Q.1 ?_ (λ r hl=>?_) (λ O hg=>?_) ?_);·
  have:(v.goto fW).code.weight=0:=by show Du fW=0;rfl
  rw[this];exact Q.2.1
 ·show MT fW++se v.below=r;rw[show MT fW=[]from rfl];exact Q.2.2.1 r hl
 ·show LO fW++guardsOf v.below=O;rw[show LO fW=[]from rfl];exact Q.2.2.2.1 O hg
 ·show Dv fW+xr v.below<=s.units;rw[show Dv fW=0 from rfl];have:=Q.2.2.2.2;exact gB this
set_option tactic.hygienic true in theorem xb(J:s.handled=hv):s.mark hv=s:=by unfold Dw;cases s;cases J;rename_i hd _ _ _ _;cases hd<;>rfl
theorem LC(J:s.handled=hv)(i:dQ (bZ bY w) (s.mark hv) B (λ d n=>je (bZ bY w) s fW (.pure d:cD dX) ax (λ j j=>False) n) f):dQ (bZ bY w) s B ax f:=by rw[xb J]at i;intro v u hc Q;refine wpCode_mono (λ d n q=>?_) (i v u hc Q);have q':je (bZ bY w) s fW (.pure d:cD dX) ax (λ j j=>False) n:=q;exact q' (v.goto fW) u rfl (QC Q)
theorem û(J:s.handled=hv)(a:Sat s (oV s fW ax λ j j=>False) (.k (.pure (.again B)) fW [] hv .pure) f):dQ (bZ bY w) s B ax f:=by refine LC J ?_;intro v u hc Q;have b:(v.goto fW).Below (s.mark hv):=Q;have z:=a (v.goto fW) u rfl b.in;have E:B.quiet=U/\dQ (bZ bY w) (s.mark hv) B _ f:=z;exact E.2 v u hc Q
theorem Nq(a:ax d f):Sat s (oV s fW ax λ j j=>False) (.b (.pure d):Cfg dX) f:=λ j j j j=>a
end
noncomputable def rc0:Rc:=⟨.call .none {}, .nil,0,λ j j=>True,⟨0,0,0,λ j j=> .ok .next,λ j j=>[],λ j j=>[],W⟩⟩
noncomputable def rf(r:List Rc)(v:Nat):Rc:=r.getD v rc0
noncomputable def eH(x:FA)(d:Rc):List (Nat×bU×bV)->Prop|[]=>True|u::r=>d.T.get u.1=Y u.2.2/\x u.1=u.2.1/\eH x d r
section
variable{x:FA}{d:Rc}{f:cc}
theorem eH.slots(hs:∀y k,d.T.get y=Y k->y<d.n/\f.heap.get? (x y)=Y k):∀{ps:List (Nat×bU×bV)},eH x d ps->Slots f.heap (ps.map (·.2.1)) (ps.map (·.2.2))|[],_=>trivial|u::_,aa=>⟨by show f.heap.get? u.2.1=Y u.2.2;rw[<-aa.2.1];exact(hs _ _ aa.1).2,eH.slots hs aa.2.2⟩
theorem eH.addr(hs:∀y k,d.T.get y=Y k->y<d.n/\f.heap.get? (x y)=Y k):∀{ps:List (Nat×bU×bV)},eH x d ps->ps.map (·.2.1)=(ps.map (·.1)).map x/\∀y∈ps.map (·.1),y<d.n|[],_=>⟨rfl,λ j a=>nomatch a⟩|u::r,aa=>by have ih:=eH.addr hs aa.2.2;refine⟨by rw[ir,ir,ir,ih.1,aa.2.1],λ y hj=>?_⟩;rw[ir]at hj;cases hj with|head=>exact(hs _ _ aa.1).1|tail _ a=>exact ih.2 y a
theorem eH.nodup(hs:∀y k,d.T.get y=Y k->y<d.n/\f.heap.get? (x y)=Y k)(aQ:∀v y,v<d.n->y<d.n->x v=x y->v=y)(aa:eH x d ps)(hd:(ps.map (·.1)).Nodup):(ps.map (·.2.1)).Nodup:=by have q:=eH.addr hs aa;rw[q.1];refine ö.mpr (ï (λ{g l}ha M ay e=>ay (aQ g l (q.2 g ha) (q.2 l M) e)) hd)
theorem eH.own(hs:∀y k,d.T.get y=Y k->y<d.n/\f.heap.get? (x y)=Y k)(ap:∀y,y<d.n->dp.get (x y)=W)(aa:eH x d ps):∀g∈ps.map (·.2.1),dp.get g=W:=by have q:=eH.addr hs aa;rw[q.1];intro g ha;(refine cK (iN.mp ha) λ y hj a=>?_;subst a);exact ap y (q.2 y hj)
noncomputable def tA(Q:BT)(m:List Nat):List (Nat×bV)->List Nat->Prop|[],_=>True|u::C,v::A=>m[v]?=Y u.1/\Q.get v=Y u.2/\tA Q m C A|_::_,[]=>False
noncomputable def oN(Q:BT)(C:List (Nat×bV)):List Nat->List bV->Nat->Prop|[],_,_=>True|y::m,k::os,v=>((C.any λ u=>kq u.1 y)=U\/Q.get v=Y k)/\oN Q C m os (v+1)|_::_,[],_=>False
variable{n0:Nat}{B:Mem}{n:cc}{m:List Nat}{os:List bV}{g:FA}{fp:AP}
theorem Ga(a:m[v]?=Y y):pre (m.map x) g v=x y:=nI _ _ _ _ (by rw[iJ,a];rfl)
theorem tA.end(aa:MH ⟨f,fp⟩ n0 (pre (m.map x) g) B n):∀{C:List (Nat×bV)}{A:List Nat},tA B.T m C A->∀u∈C,n.heap.get? (x u.1)=Y u.2
 |[],_,_,_,hp=>nomatch hp
 |u::C,v::A,a,q,hq=>by cases hq with|head=>rw[<-Ga (x:=x) (g:=g) a.1];exact(aa.sl _ _ a.2.1).2|tail _ hq=>exact tA.end aa a.2.2 q hq
 |_::_,[],a,_,_=>a.elim
theorem oN.at:∀{m:List Nat}{os:List bV}{v:Nat},oN Q C m os v->∀{i y:Nat},m[i]?=Y y->(∃u∈C,u.1=y)\/∃k,os[i]?=Y k/\Q.get (v+i)=Y k
 |[],_,_,_,_,_,a=>by cases a
 |y::m,k::os,v,aa,0,b,a=>by
  cases a;rcases aa.1 with q|q;·refine cK (Lb.mp q) λ u hp e=>?_;exact .inl (cI u hp (tD e))
  ·exact .inr (cI k rfl q)
 |y::m,k::os,v,aa,i+1,b,a=>by
  rw[nA]at a;rcases oN.at aa.2 a with q|⟨o',z,E⟩;·exact .inl q
  ·exact .inr (cI o' (by rw[nA];exact z) (by rw[<-E];congr 1;simp+arith only))
 |_::_,[],_,aa,_,_,_=>aa.elim
theorem oN.end(aa:MH ⟨f,fp⟩ n0 (pre (m.map x) g) B n)(t:n0=os.length)(hl:Slots f.heap (m.map x) os)(hk:oN B.T C m os 0):∀l k,f.heap.get? l=Y k->(∀u∈C,l≠x u.1)->¬fp l->n.heap.get? l=Y k:=by
 intro l k M ay hz;by_cases hm:∃i:Nat,(m.map x)[i]?=Y l;·
  refine eE hm λ i aJ=>?_;rw[iJ]at aJ;cases q:m[i]? with
   |none=>rw[q]at aJ;cases aJ
   |some y=>
    rw[q]at aJ;have e:x y=l:=jo aJ;rcases hk.at q with⟨u,hp,e1⟩|⟨o',z,E⟩;·exact absurd (by rw[e1,e]) (ay u hp)
    ·rw[lj]at E;have j:=(aa.sl _ _ E).2;rw[Ga q,e]at j;refine cK (hl.at z) λ v bb hg=>?_;rw[iJ,q]at bb;have e3:x y=v:=jo bb;rw[<-e3,e,M]at hg;cases hg;exact j
 ·refine aa.keep l k M (λ y hj e=>hm ⟨y,?_⟩) hz;have p:y<(m.map x).length:=by rw[hl.len,<-t];exact hj
  rw[e,nI (m.map x) g y ((m.map x)[y]) (gv p)];exact gv p
end
noncomputable def ur(Q:BT)(b:FA)(D:FA)(n0:Nat):List bV->List Nat->Nat->Prop|[],[],_=>True|k::os,v::A,i=>Q.get v=Y k/\D i=b v/\ju n0 v=U/\ur Q b D n0 os A (i+1)|_,_,_=>False
theorem ur.at:∀{os:List bV}{A:List Nat}{k0:Nat},ur Q b D n0 os A k0->∀{i:Nat}{k:bV},os[i]?=Y k->∃v,A[i]?=Y v/\Q.get v=Y k/\D (k0+i)=b v/\n0<=v|k::os,v::A,k0,aa,0,_,a=>by cases a;exact ŵ v rfl aa.1 aa.2.1 (cL aa.2.2.1)|_::os,_::A,k0,aa,i+1,k,a=>by rw[nA]at a;refine um (ur.at aa.2.2.2 a) λ v z E h3 h4=>?_;exact ŵ v (by rw[nA];exact z) E (by rw[<-h3];congr 1;simp+arith only) h4|[],_,_,_,_,_,a=>by cases a|_::_,[],_,aa,_,_,_=>aa.elim
noncomputable abbrev dY(ps:List (Nat×bU×bV)):List bU:=ps.map (·.2.1)
noncomputable abbrev objs(ps:List (Nat×bU×bV)):List bV:=ps.map (·.2.2)
noncomputable abbrev nums(ps:List (Nat×bU×bV)):List Nat:=ps.map (·.1)
structure Ba(Q:BT)(b:FA)(C:AP)(c:cc)(m:List Nat):Prop where
 at':∀v∈m,∀k,Q.get v=Y k->c.heap.get? (b v)=Y k
 nf:∀v∈m,¬C (b v)
 inj:∀v∈m,∀y∈m,b v=b y->v=y
noncomputable def Nat.xQ(v:Nat):List Nat->Bool|[]=>U|i::r=>!(kq i v)&&Nat.xQ v r
theorem Nat.DR:∀{r:List Nat},Nat.xQ v r=U->v∉r|[],_,a=>nomatch a|i::r,e,a=>by unfold Nat.xQ at e;rw[ox]at e;cases a with|head=>rw[LJ]at e;cases e.1|tail _ a=>exact Nat.DR e.2 a
noncomputable def vS(Q:BT)(n0:Nat)(b:List Nat):List Nat->Bool|[]=>U|v::r=>ju n0 v&&(Q.get v).isSome&&Nat.xQ v b&&vS Q n0 b r
theorem EF:∀{m:List Nat},vS Q n0 b m=U->∀v∈m,n0<=v/\(∃k,Q.get v=Y k)/\v∉b|[],_,_,a=>nomatch a|i::r,e,v,a=>by unfold vS at e;rw[ox,ox,ox]at e;cases a with|head=>exact cZ (cL e.1.1.1) (Ki.mp e.1.1.2) (Nat.DR e.1.2)|tail _ a=>exact EF e.2 v a
structure xH(d:Rc)(ps:List (Nat×bU×bV))(r:List bU)(g:FA)(gs:Array eY)(k:Cfg dX×Mem)(D:FA)(o:FD)(A b m:List Nat):Prop where
 ob:k.2.ob.map (·.1)=k.2.ob.map (λ u=>pre (dY ps++r) g u.2)
 rc:∀c∈k.2.rc,cy (pre (dY ps++r) g) c
 res:k.1= .b (.pure (d.sm.res (dP d.sm.nn D) (dC d.sm.nd o)))
 up:tA k.2.T (nums ps) (d.sm.up (dP d.sm.nn D) (dC d.sm.nd o)) A
 kp:oN k.2.T (d.sm.up (dP d.sm.nn D) (dC d.sm.nd o)) (nums ps) (objs ps) 0
 nw:ur k.2.T (pre (dY ps++r) g) D ps.length (d.sm.new (dP d.sm.nn D) (dC d.sm.nd o)) b 0
 nl:(d.sm.new (dP d.sm.nn D) (dC d.sm.nd o)).length=d.sm.nn
 nd:b.Nodup
 abo:vS k.2.T ps.length b m=U
 gh:match d.sm.gh with|W=>∀C c,k.2.gh C c->c.gens=gs|Y F=>∀C c,k.2.gh C c->Ba k.2.T (pre (dY ps++r) g) C c m->F (dP d.sm.nn D) (dC d.sm.nd o) (λ l=>C l\/l∈m.map (pre (dY ps++r) g)) c
section
variable{x:FA}{d:Rc}{ps:List (Nat×bU×bV)}
theorem Ee(hc:d.c=B)(aa:eH x d ps)(hd:(nums ps).Nodup)(O:Cfg dX)(hg:∀s:cR,s.handled=W->nY s O)(az:∀{s:cR}{ax:RS}{f:cc},s.handled=W->Sat s (oV s fW ax λ j j=>False) O f->dQ (bZ bY w) s B ax f)(ae:∀(f:cc)(fp:AP),Base f.heap->uN d.n x fp f->dD fp d.gh f->∃(r:List bU)(os:List bV)(C:AP)(γ:GP)(H:Nat)(ay:List Nat)(u:List iG),Slots f.heap r os/\r.Nodup/\(∀c∈r,d.sm.gs=U/\fp c)/\(∀c,C c->(d.sm.gs=U/\fp c)/\c∉r)/\dD C γ f/\∀(g:FA)(p:FD),∃D o A b m,xH d ps r g f.gens (run (cx b1) (pre (dY ps++r) g) p fW W d.sm.room H O (fB (objs ps++os) ay u γ)) D o A b m):cy x d:=by
 intro s ax f fp J M hs aQ ap ah P G;rw[hc];refine az J.h ?_;have au:=aa.slots hs;have aR:=aa.addr hs;have aq:(objs ps).length=ps.length:=gi ..;have aU:(dY ps).length=ps.length:=gi ..;have ea:dY ps=(nums ps).map x:=aR.1;refine Lv (ae f fp M ah P) λ r os C γ H ay u u1 u2 u3 Q u5 af=>?_;have aM:∀c,fp c->c∉dY ps:=λ c hx hm=>by rw[ea]at hm;refine cK (iN.mp hm) λ y hj e=>?_;exact ah.ns c hx y (aR.2 y hj) e.symm
 refine zZ (b:=λ l=>d.sm.gs=U/\fp l) (fp:=C) (n0:=ps.length) (u' J.h) J M (au.append u1) (λ c hx=>?_) ?_ O (hg s J.h) H ay u γ (by rw[qy,aq];exact zu _ _) (λ y c hj e=>?_) (λ c hx=>(cZ (ah.lt c (Q c hx).1.2) (ah.nk c (Q c hx).1.2) (λ hm=>?_))) (λ c hx=>(Q c hx).1) u5 λ g p=>?_;·
  rcases fJ.mp hx with a|a;·exact aa.own hs ap c a
  ·exact ah.nk c (u3 c a).2
 ·refine ow.mpr (cZ (aa.nodup hs aQ hd) u2 (λ c z t E e=>aM t (u3 t E).2 (e▸z)))
 ·rw[List.getElem?_append_right (by rw[aU];exact hj)]at e;exact u3 c (pv e)
 ·rcases fJ.mp hm with a|a;·exact aM c (Q c hx).1.2 a
  ·exact(Q c hx).2 a
 refine Uv (af g p) λ D o A b m aj=>?_;refine(cZ aj.ob aj.rc (λ n ak=>?_));revert aj ak;generalize run (cx b1) (pre (dY ps++r) g) p fW W d.sm.room H O (fB (objs ps++os) ay u γ)=k;intro aj ak;rw[aj.res];have M':MH ⟨f,λ l=>d.sm.gs=U/\fp l⟩ ps.length (pre ((nums ps).map x) (pre r g)) k.2 n:=by rw[<-ea,<-DC];exact ak
 have oi:=EF aj.abo;refine Nq (G D o n aj.nl (λ i k hk=>?_) (λ i hk=>?_) (λ i k' z E e=>?_) (tA.end M' aj.up) (λ l k z E h3=>oN.end M' aq.symm (by rw[<-ea];exact au) aj.kp l k z E λ a=>h3 a.1 a.2) ak.size ?_ ak.drawn ak.os);·refine um (aj.nw.at hk) λ v _ E h3 _=>?_;rw[lj]at h3;rw[h3];exact(ak.sl _ _ E).2
 ·have aJ:i<(d.sm.new (dP d.sm.nn D) (dC d.sm.nd o)).length:=by rw[aj.nl];exact hk
  refine um (aj.nw.at (gv aJ)) λ v _ E h3 h4=>?_;rw[lj]at h3;rw[h3];exact ak.new v h4 (ak.sl _ _ E).1
 ·have ao:i<(d.sm.new (dP d.sm.nn D) (dC d.sm.nd o)).length:=by rw[aj.nl];exact z
  have ai:k'<(d.sm.new (dP d.sm.nn D) (dC d.sm.nd o)).length:=by rw[aj.nl];exact E
  refine um (aj.nw.at (gv ao)) λ v q1 q2 q3 _=>?_;refine um (aj.nw.at (gv ai)) λ i' p1 p2 V _=>?_;rw[lj]at q3 V;rw[q3,V]at e;have ei:=ak.inj v i' (ak.sl _ _ q2).1 (ak.sl _ _ p2).1 e;subst ei;refine eE (ot.mp q1) λ l1 e1=>?_;refine eE (ot.mp p1) λ l2 e2=>?_;have F:=Kh.mp (show Lz (·≠·) b from aj.nd);rcases KW i k' with q|q|q;·exact absurd (e1.trans e2.symm) (F i k' l1 l2 q)
  ·exact q
  ·exact absurd (e2.trans e1.symm) (F k' i l2 l1 q)
 ·have L:=aj.gh;unfold yg;cases q:d.sm.gh with
   |none=>simp only[q]at L;obtain⟨aw,_,_,h3⟩:=ak.gens;exact L aw _ h3.now
   |some F=>
    simp only[q]at L;obtain⟨aw,z,E,h3⟩:=ak.gens;refine(cI (λ l=>aw l\/l∈m.map (pre (dY ps++r) g)) (λ l M=>(cZ ?_ ?_ (λ i hk=>?_))) (λ aK k1 k2=>?_));·
     rcases M with M|M;·
      rcases E l M with a|a;·exact .inl a.2
      ·exact .inr a
     ·(refine cK (iN.mp M) λ v hi aY=>?_;subst aY);(refine mM (oi v hi) λ q1 b3 q3=>?_;refine eE b3 λ o' q2=>?_);rcases ak.new v q1 (ak.sl _ _ q2).1 with a|a;·exact .inr a
      ·exact .inl a.2
    ·rcases M with M|M;·exact z.lt l M
     ·(refine cK (iN.mp M) λ v hi b6=>?_;subst b6);(refine mM (oi v hi) λ q1 b7 q3=>?_;refine eE b7 λ o' q2=>?_);exact ak.lt v (ak.sl _ _ q2).1
    ·have aJ:i<(d.sm.new (dP d.sm.nn D) (dC d.sm.nd o)).length:=by rw[aj.nl];exact hk
     refine um (aj.nw.at (gv aJ)) λ v p1 q2 q3 q4=>?_;rw[lj]at q3;rw[q3];rcases M with M|M;·exact z.ns l M v (ak.sl _ _ q2).1
     ·(refine cK (iN.mp M) λ i' hi aX=>?_;subst aX);(refine mM (oi i' hi) λ _ b4 V=>?_;refine eE b4 λ o' p2=>?_);intro e;have:=ak.inj i' v (ak.sl _ _ p2).1 (ak.sl _ _ q2).1 e;subst this;exact V (pv p1)
    ·refine L aw aK (h3 aK (λ l k M ho=>k1 l k (.inl M) ho) k2) ⟨λ v hi k ho=>?_,λ v hi hf=>?_,λ v hi y hj e=>?_⟩;·exact k1 _ k (.inr (iN.mpr (cI v hi rfl))) (ak.sl _ _ ho).2
     ·(refine mM (oi v hi) λ _ aZ _=>?_;refine eE aZ λ o' p2=>?_);exact z.ns _ hf v (ak.sl _ _ p2).1 rfl
     ·(refine mM (oi v hi) λ _ aV _=>?_;refine eE aV λ o1 p1=>?_);(refine mM (oi y hj) λ _ b5 _=>?_;refine eE b5 λ o2 p2=>?_);exact ak.inj v y (ak.sl _ _ p1).1 (ak.sl _ _ p2).1 e
structure ž(d:Rc)(ps:List (Nat×bU×bV))(g:FA)(γ:GP)(k:Cfg dX×Mem)(D:FA)(o:FD)(A b:List Nat):Prop where
 ob:k.2.ob.map (·.1)=k.2.ob.map (λ u=>pre (dY ps) g u.2)
 rc:∀c∈k.2.rc,cy (pre (dY ps) g) c
 res:k.1= .b (.pure (d.sm.res (dP d.sm.nn D) (dC d.sm.nd o)))
 up:tA k.2.T (nums ps) (d.sm.up (dP d.sm.nn D) (dC d.sm.nd o)) A
 kp:oN k.2.T (d.sm.up (dP d.sm.nn D) (dC d.sm.nd o)) (nums ps) (objs ps) 0
 nw:ur k.2.T (pre (dY ps) g) D ps.length (d.sm.new (dP d.sm.nn D) (dC d.sm.nd o)) b 0
 nl:(d.sm.new (dP d.sm.nn D) (dC d.sm.nd o)).length=d.sm.nn
 nd:b.Nodup
 gh:match d.sm.gh with|W=>k.2.gh=γ|Y F=>∀C O,k.2.gh C O->F (dP d.sm.nn D) (dC d.sm.nd o) (λ l=>C l\/l∈([]:List bU)) O
theorem Pl(hc:d.c=B)(aa:eH x d ps)(hd:(nums ps).Nodup)(O:Cfg dX)(hg:∀s:cR,s.handled=W->nY s O)(az:∀{s:cR}{ax:RS}{f:cc},s.handled=W->Sat s (oV s fW ax λ j j=>False) O f->dQ (bZ bY w) s B ax f)(H:Nat)(ay:List Nat)(u:List iG)(af:∀(g:FA)(p:FD)(γ:GP),(d.sm.gs=U->∀C c,γ C c->d.gh C c)->∃D o A b,ž d ps g γ (run (cx b1) (pre (dY ps) g) p fW W d.sm.room H O (fB (objs ps) ay u γ)) D o A b):cy x d:=by
 refine Ee hc aa hd O hg az λ f fp hB ah P=>?_;have e:∀(γ:GP),(d.sm.gs=U->∀C c,γ C c->d.gh C c)->(d.sm.gh=W->γ=λ j c=>c.gens=f.gens)->∀(g:FA)(p:FD),∃D o A b m,xH d ps [] g f.gens (run (cx b1) (pre (dY ps++[]) g) p fW W d.sm.room H O (fB (objs ps++[]) ay u γ)) D o A b m:=λ γ z E g p=>by refine HD (af g p γ z) λ D o A b aj=>?_;rw[md,md];refine(Ś D o A b [] ⟨by rw[md];exact aj.ob,by rw[md];exact aj.rc,aj.res,aj.up,aj.kp,by rw[md];exact aj.nw,aj.nl,aj.nd,rfl,?_⟩);have L:=aj.gh;cases q:d.sm.gh with|none=>simp only[q]at L⊢;intro C c hx;rw[L,E q]at hx;exact hx|some F=>simp only[q]at L⊢;exact λ C c hx j=>L C c hx
 cases q:d.sm.gh with
  |none=>
   have t:d.sm.gs=X:=by unfold Sm.gs;rw[q]
   exact zB [] [] gZ (λ j c=>c.gens=f.gens) H ay u trivial .nil (λ j a=>(nomatch a)) (λ j a=>a.elim) tU (e _ (λ a=>by rw[t]at a;cases a) λ j=>rfl)
  |some F=>
   have t:d.sm.gs=U:=by unfold Sm.gs;rw[q]
   exact zB [] [] fp d.gh H ay u trivial .nil (λ j a=>(nomatch a)) (λ c a=>⟨⟨t,a⟩,λ a=>(nomatch a)⟩) P (e _ (λ j j j a=>a) λ a=>by rw[q]at a;cases a)
theorem Nk(hc:d.c=B)(aa:eH x d ps)(hd:(nums ps).Nodup)(H:Nat)(ay:List Nat)(u:List iG)(af:∀(g:FA)(p:FD)(γ:GP),(d.sm.gs=U->∀C c,γ C c->d.gh C c)->∃D o A b,ž d ps g γ (run (cx b1) (pre (dY ps) g) p fW W d.sm.room H (.k (.pure (.again B)) fW [] W .pure) (fB (objs ps) ay u γ)) D o A b):cy x d:=Pl hc aa hd _ (λ s J=>by show(s.mark W).handled=W;rw[xb J];exact J) (λ J a=>û J a) H ay u af
end
theorem w_{F:Rc->Prop}(a:r=[]):∀c∈r,F c:=by rw[a];exact λ j hx=>nomatch hx
theorem b8c{F:Rc->Prop}(a:r=[rf r 0])(h0:F (rf r 0)):∀c∈r,F c:=by rw[a];intro c hx;cases hx with|head=>exact h0|tail _ hx=>cases hx
theorem Hk{F:Rc->Prop}(a:∀v,v<r.length->F (rf r v)):∀c∈r,F c:=λ c hx=>by refine eE (ó hx) λ v hi=>?_;have hl:=(ot.mp hi).1;have:=a v hl;unfold rf at this;rw[wB,hi]at this;exact this
theorem b8a{F:Rc->Prop}(a:r.length=3)(h0:F (rf r 0))(z:F (rf r 1))(E:F (rf r 2)):∀c∈r,F c:=Hk λ v hi=>by rw[a]at hi;match v,hi with|0,_=>exact h0|1,_=>exact z|2,_=>exact E
noncomputable def I7(b:cR)(B:cN)(fs:List jx)(F:ES)(D:cD Fin)(f:cc):Prop:=da (bZ bY w) b B D fs f F
section
variable{j:Zs}{n0:Nat}{b:cR}{B:cN}{fs:List jx}{F:ES}
theorem PD(J:(b.over B fs).handled=hv):uf j n0 (b.over B fs) B hv (I7 b B fs F)where
 simp H hs K:=Ĵ {rule:=λ{D i f}a=>ku bY w b B fs F f (.rule D i) 1 a,at_:=λ{u i f}a=>ku bY w b B fs F f (.at u i) 1 a,point:=λ{r i f}a=>ku bY w b B fs F f (.point r i) 1 a,ask:=λ{i f}a=>ku bY w b B fs F f (.ask i) 1 a,fresh:=λ{i f}a=>s_fresh bY w b B fs F f.heap f.gens f.drawn f.toks f.os i a,load:=λ{g q i k f}e a=>s_load bY w b B fs F f.heap f.gens f.drawn f.toks f.os g q i k e a,alive:=λ{g i k f}e a=>s_alive bY w b B fs F f.heap f.gens f.drawn f.toks f.os g i k e a,upd:=λ{g q C i k f}e a=>s_cmd bY w b B fs F (m:=updatePart g q C) (k:=i) (wpAny_updatePart e a),alloc:=λ{k i f}a=>s_cmd bY w b B fs F (m:=PySem.alloc k) (k:=i) (wpAny_alloc a),handled:=λ{i f q}e a=>by cases e;exact s_handled bY w b B fs F f i (by rw[J];exact a),stack:=λ{i f q}e a=>by cases e;exact s_stack bY w b B fs F f i λ u c t=>a u c} H hs K
 call{c' hd O r i f}hn a:=by refine s_cmd bY w b B fs F (m:=(Sem.call c' hd O r (λ d=> .pure d):cD dX)) (k:=i) ?_;exact x_call (k:=λ d=> .pure d) (ÿ a λ d n q=>ed q) hn
end
noncomputable def fZ:List dd->di->cD gK:=b21
theorem i2:dj=fZ:=b2e
noncomputable def nF:Expr->di->bX->cD Unit:=b1t
theorem v7:xK=nF:=b26
noncomputable def sj(aq:di):bX->cD Unit:=λ c=>do
 tP c aq
 wL c
noncomputable def vH(i:Expr)(v:bX)(t g:List dd)(aq:di):gK->cD Fin:=λ C=>match C with| .next| .cont=>again (.forLoop i v t g aq)| .brk=>pure (.done .next)| .ret b=>pure (.done (.ret b))
noncomputable def xO(i:Expr)(v:bX)(t g:List dd)(aq:di)(b:bX):cD Fin:=Dt (nF i aq b>>=λ j=>fZ t aq>>=vH i v t g aq) (sj aq)
section
variable{s:cR}{B:cN}{fs:List jx}{F:ES}
theorem mv{A:Type}{m:cD A}{G:A->cD Fin}(a:cm (bZ bY w) (s.over B fs) m (λ g n=>da (bZ bY w) s B (G g) fs n F) (λ c n=>da (bZ bY w) s B (aa c) fs n F) f):da (bZ bY w) s B (m.wrap G aa l b) fs f F:=by rintro v u rfl Q;refine yr (Ld (Φ:=λ e n=>e.quiet=U/\F e n) G aa l b m (a (v.over fs) u (Q.over fs)) (λ g p' n h'=>h' v p' rfl Q) (λ c p' n h'=>h' v p' rfl Q)) λ e n D hq=>?_;exact vY e n D hq
theorem uh(a:cm (bZ bY w) (s.over (.forLoop i v t g aq) fs) (oO v) (λ c n=>match c with|W=>da (bZ bY w) s (.forLoop i v t g aq) (.pure (.again (.block g aq))) fs n F|Y b=>cm (bZ bY w) (s.over (.forLoop i v t g aq) fs) (qz i v b) (λ j aK=>da (bZ bY w) s (.forLoop i v t g aq) (xO i v t g aq b) fs aK F) (λ j j=>False) n) (λ j j=>False) f):da (bZ bY w) s (.forLoop i v t g aq) (gp fV (.forLoop i v t g aq)) fs f F:=by show da _ s _ ((ň i v t g aq).onRaise (sj aq)) fs f F;unfold ň;refine ku bY w s _ fs F f _ 1 ?_;show da _ s _ (Dt ((oO v).onRaise (λ j=>qN {i.pos with line:=0})>>=λ d=>_) (sj aq)) fs f F;rw[wI,mP,mj];refine mv (D4 (kS a (λ c n hx=>?_) λ j j c=>c.elim));cases c with|none=>exact hx|some b=>show da _ s _ ((qz i v b>>=λ j=>xK i aq b>>=λ j=>dj t aq>>=vH i v t g aq:cD fE).wrap .pure _ id id) fs n F;rw[mP,mj];refine mv (kS hx (λ j aK hx=>?_) λ j j c=>c.elim);rw[<-wI,v7,i2];exact hx
end
noncomputable def kv(aq:di):om:=λ e=>(sj aq e).wrap (λ j=> .raise e) .raise id id
noncomputable def Â(d:Expr)(t g:List dd)(aq:di):lh:=λ C=>match C with| .next| .cont=> .pure (.again (.whileLoop d t g aq))| .brk=> .pure (.done .next)| .ret b=> .pure (.done (.ret b))
noncomputable def doneF:lh:=λ C=> .pure (.done C)
noncomputable def lr(aq:di)(G:lh)(aa:om):dX->cD fE:=λ d=>((match d with| .ok C=>(.pure C:cD gK)| .error e=> .raise e).onRaise λ(c:bX)=>do
 if(<-mZ c 1)==jt then
  unsupported "frame.own-activation:exception-without-traceback"
 E5 c aq.frame).wrap G aa id id
noncomputable def mX(ak:List dd)(aq:di)(G:lh)(aa:om):lh:=λ C=>match C with| .next=>(fZ ak aq).wrap G aa id id|C=>G C
section
variable{s:cR}{B:cN}{fs:List jx}{F:ES}{f:cc}{aq:di}{G:lh}{aa:om}
theorem ub{st:dd}(a:da (bZ bY w) s B ((yx st aq).wrap (mX ak aq G aa) aa id id) fs f F):da (bZ bY w) s B ((dj (st::ak) aq).wrap G aa id id) fs f F:=by rw[CP];rw[uV (yx st aq) _ _ (K':=mX ak aq G aa) (H':=aa) (λ C=>by cases C<;>first|rfl|(show(dj ak aq).wrap G aa id id=(fZ ak aq).wrap G aa id id;rw[i2])) (λ j=>rfl)];exact a
theorem EJ(a:∀u,da (bZ bY w) s (.whileLoop d t g aq) (gp fV (.whileLoop d t g aq)) (.ret (lr aq G aa) W X [] B u []::fs) f F):da (bZ bY w) s B ((yx (.While d t g o) aq).wrap G aa id id) fs f F:=by refine ku bY w s B fs F f _ 1 ?_;exact s_call bY w s B fs F f _ _ _ _ _ a
noncomputable def oK:Expr->di->cD bX->cD Bool:=@b1w
theorem tM:@wY=oK:=b29
theorem zI(a:cm (bZ bY w) (s.over (.whileLoop d t g aq) fs) (wY d aq (gr d aq)) (λ l n=>if l=U then da (bZ bY w) s (.whileLoop d t g aq) ((dj t aq).wrap (Â d t g aq) (kv aq) id id) fs n F else da (bZ bY w) s (.whileLoop d t g aq) ((dj g aq).wrap doneF (kv aq) id id) fs n F) (λ j j=>False) f):da (bZ bY w) s (.whileLoop d t g aq) (gp fV (.whileLoop d t g aq)) fs f F:=by
 show da _ s _ ((whileTurn d t g aq).onRaise (λ c=>do
  tP c aq
  wL c)) fs f F;unfold whileTurn;rw[wI,mP,mj];refine mv (kS a (λ l n M=>?_) λ c n hx=>hx.elim);cases l with
  |true=>
   rw[if_pos rfl]at M;show da _ s _ (P4 _ _ _ _ (if U=U then _ else _)) fs n F;rw[if_pos rfl,mP,mj];rw[uV (dj t aq) _ _ (K':=Â d t g aq) (H':=kv aq) (λ C=>by cases C<;>rfl) (λ e=>by
    first|exact uR _ _|
     (
      show(do
       tP e aq
       wL e:cD Unit).bind (λ j=> .raise e)=_;rw[uR];rfl))];exact M
  |false=>
   rw[if_neg zp]at M;show da _ s _ (P4 _ _ _ _ (if X=U then _ else _)) fs n F;rw[if_neg zp,mP,mj];rw[uV (dj g aq) _ _ (K':=doneF) (H':=kv aq) (λ C=>by rfl) (λ e=>by
    first|exact uR _ _|
     (
      show(do
       tP e aq
       wL e:cD Unit).bind (λ j=> .raise e)=_;rw[uR];rfl))];exact M
theorem ť(a:da (bZ bY w) s B (G .next) fs f F):da (bZ bY w) s B ((dj [] aq).wrap G aa id id) fs f F:=a
theorem t_(a:da (bZ bY w) s c (G .next) fs f F):da (bZ bY w) s B (.pure (.done .next)) (.ret (lr aq G aa) W X [] c E []::fs) f F:=s_pop bY w s B fs F f (.ok .next) _ rfl _ _ _ _ _ _ _ a
noncomputable def pX:lh:=λ C=> .pure (.done (.ret (match C with| .ret b=>b|_=> .none)))
noncomputable def jJ(aq:di):om:=λ e=>(pH aq e).wrap (λ j=> .raise e) .raise id id
theorem s_(a:da (bZ bY w) s (.func t aq) ((dj t aq).wrap pX (jJ aq) id id) fs f F):da (bZ bY w) s (.func t aq) (gp fV (.func t aq)) fs f F:=by show da _ s _ (.point [] λ j=>((dj t aq).onRaise (pH aq))>>=_) fs f F;refine ku bY w s _ fs F f _ 1 ?_;show da _ s _ (((dj t aq).onRaise (pH aq))>>=_) fs f F;rw[wI,mP,mj];rw[uV (dj t aq) _ _ (K':=pX) (H':=jJ aq) (λ C=>by cases C<;>rfl) (λ e=>by rw[uR,mj];rfl)];exact a
theorem Ŧ(hf:∀c,px b aq c=pure c)(a:cm (bZ bY w) (s.over B fs) (gr b aq) (λ c au=>cm (bZ bY w) (s.over B fs) (nM c) (λ v aJ=>∀u,da (bZ bY w) s (.forLoop i v t g aq) (gp fV (.forLoop i v t g aq)) (.ret (lr aq G aa) W X [] B u []::fs) aJ F) (λ j j=>False) au) (λ j j=>False) f):da (bZ bY w) s B ((yx (.For i b t g o) aq).wrap G aa id id) fs f F:=by refine ku bY w s B fs F f _ 1 ?_;show da _ s B ((gr b aq>>=λ c=>px b aq c>>=λ c=>(qN b.pos>>=λ j=>vo [c] (nM c)>>=λ v=>xJ (.forLoop i v t g aq) aq):cD gK).wrap G aa id id) fs f F;rw[mP,mj];refine mv (kS a (λ c au x=>?_) λ j j c=>c.elim);rw[hf c];show da _ s B ((qN b.pos>>=λ j=>vo [c] (nM c)>>=λ v=>xJ (.forLoop i v t g aq) aq:cD gK).wrap G aa id id) fs au F;refine ku bY w s B fs F au _ 1 ?_;show da _ s B ((vo [c] (nM c)>>=λ v=>xJ (.forLoop i v t g aq) aq:cD gK).wrap G aa id id) fs au F;rw[mP,mj];refine mv (qE (kS x (λ v aJ A=>?_) λ j j c=>c.elim));exact s_call bY w s B fs F aJ _ _ _ _ _ A
end
noncomputable def steps{A:Type}(x:FA)(p:FD)(ak:cN)(hv:Option bX)(ai:Nat)(H:Nat):Cfg A->Mem->Option (Cfg A×Mem):=@ŋ (λ j=>Cfg A->Mem->Option (Cfg A×Mem)) (λ O m=>Y (O,m)) (λ j ih O m=>match step cX x p ak hv ai O m with|Y d=>ih d.1 d.2|W=>W) H
section
variable{j:Zs}{n0:Nat}{s:cR}{A:Type}{ak:cN}{hv:Option bX}{ai:Nat}{Bs:cD A->cc->Prop}
theorem ĉ{O:Cfg A}{d:Cfg A×Mem}(e:step cX x p ak hv ai O m=Y d):steps x p ak hv ai (H+1) O m=steps x p ak hv ai H d.1 d.2:=by show(match step cX x p ak hv ai O m with|Y d=>steps x p ak hv ai H d.1 d.2|W=>W)=_;rw[e]
theorem Dz{O:Cfg A}{k:Cfg A×Mem}(a:steps x p ak hv ai (H+1) O m=Y k):∃d,step cX x p ak hv ai O m=Y d/\steps x p ak hv ai H d.1 d.2=Y k:=by cases e:step cX x p ak hv ai O m with|none=>have h':(match step cX x p ak hv ai O m with|Y d=>steps x p ak hv ai H d.1 d.2|W=>W)=Y k:=a;rw[e]at h';cases h'|some d=>exact cI d rfl (by rw[<-ĉ e];exact a)
theorem Eb(J:s.handled=hv):∀(H:Nat){O:Cfg A}{m:Mem}{k:Cfg A×Mem},steps x p ak hv ai H O m=Y k->Le m k.2|0,_,_,_,a=>by cases a;exact Le.refl|H+1,O,m,k,a=>by refine cK (Dz a) λ d e h'=>?_;exact(l_ J e).1.trans (Eb J H h')
theorem MX(BO:uf j n0 s ak hv Bs)(J:cj ai hv s):∀(H:Nat)(O:Cfg A)(m:Mem)(L:FA)(P:FD)(f:cc),nY s O->MH j n0 L m f->jn L P m (λ x p=>steps x p ak hv ai H O m)->ji j n0 L P m (λ x p=>steps x p ak hv ai H O m) (Sat s Bs)->Sat s Bs O f:=by
 intro H;induction H with
  |zero=>intro O m L P f _ aa _ G;exact G O m L P f aa λ x p a=>⟨a,rfl⟩
  |succ H ih=>
   intro O m L P f hg aa af G;refine EN (P:=P) BO J hg aa (λ x p a=>?_) λ aR ah ao az au F b=>?_;·refine cK (af x p a) λ k ho z=>?_;refine cK (Dz ho) λ d e h'=>?_;exact⟨d,e,(Eb J.h H h').Bn z⟩
   ·refine ih aR ah ao az au ((l_ J.h (b ao az Agree.refl).2).2 hg) F (λ x p a=>?_) λ o i r n aJ l E=>?_;·refine cK (af x p (b x p a).1) λ k ho z=>?_;have ae:steps x p ak hv ai (H+1) O m=Y k:=ho;rw[ĉ (b x p a).2]at ae;exact⟨k,ae,z⟩
    ·refine G o i r n aJ l λ x p a=>⟨(b x p (E x p a).1).1,?_⟩;show steps x p ak hv ai (H+1) O m=_;rw[ĉ (b x p (E x p a).1).2];exact(E x p a).2
end
section
variable{s:cR}{ai:Nat}{f:cc}{r:List bU}{os:List bV}{A:Type}{V:A->cc->Prop}{aw:VS}
theorem ņ(J:cj ai W s)(hB:Base f.heap)(hl:Slots f.heap r os)(aa:∀g∈r,dp.get g=W)(L:r.Nodup)(D:cD A)(H:Nat)(ay:List Nat)(sm:List iG)(l:GP)(hf:q7 r fp f)(P:dD fp l f)(af:∀(B:cN)(d:FA)(p:FD),(run (cx b1) (pre r d) p B W ai H (.b D) (fB os ay sm l)).2.ob.map (·.1)=(run (cx b1) (pre r d) p B W ai H (.b D) (fB os ay sm l)).2.ob.map (λ u=>pre r d u.2)/\(∀c∈(run (cx b1) (pre r d) p B W ai H (.b D) (fB os ay sm l)).2.rc,cy (pre r d) c)/\∃b,(run (cx b1) (pre r d) p B W ai H (.b D) (fB os ay sm l)).1= .b (.pure b)/\∀n,MH ⟨f,fp⟩ os.length (pre r d) (run (cx b1) (pre r d) p B W ai H (.b D) (fB os ay sm l)).2 n->V b n):cm (bZ bY w) s D V aw f:=by
 intro v u Q;have aQ:∀B,je (bZ bY w) s B D V aw f:=λ B=>PE (Bs:=oV s B V aw) (λ j=>u' J.h) J hB hl aa L (.b D) trivial H ay sm l hf P λ d p=>by refine HI (af B d p) λ z E b h3 h4=>?_;refine(cZ z E (λ n ak=>?_));rw[h3];exact kQ (ed (h4 n ak))
 exact aQ v.code v u rfl Q
end
noncomputable def stM{A:Type}(k:Option (Cfg A×Mem)):Mem:=match k with|Y u=>u.2|W=>⟨.nil,0,0,[],[],[],[],λ j j=>False⟩
noncomputable def stC{A:Type}(k:Option (Cfg A×Mem)):Option (Cfg A):=match k with|Y u=>Y u.1|W=>W
noncomputable abbrev lW(b1:Bool)(r:List bU)(os:List bV)(ai:Nat)(C:bU)(o:kF)(ay:List Nat)(γ:GP)(d:FA)(p:FD):Option (Cfg dX×Mem):=steps (pre r d) p fW W ai 1 (.k (.pure (.again (.call (R C) o))) fW [] W .pure) (fB os ay [] γ)
section
variable{s:cR}{ai:Nat}{f:cc}{r:List bU}{os:List bV}{ax:RS}
theorem D2(J:cj ai W s)(hB:Base f.heap)(hl:Slots f.heap r os)(aa:∀g∈r,dp.get g=W)(L:r.Nodup){C:bU}{o:kF}{ay:List Nat}{t:List dd}{aq:FA->di}(l:∀γ d p,stC (lW b1 r os ai C o ay γ d p)=Y (.k (dn (.func t (aq d))) (.func t (aq d)) [] W .pure))(D:∀γ d p,(stM (lW b1 r os ai C o ay γ d p)).ob.map (·.1)=(stM (lW b1 r os ai C o ay γ d p)).ob.map (λ u=>pre r d u.2))(H:∀γ d p,(stM (lW b1 r os ai C o ay γ d p)).rc=[])(a:∀d p au,MH ⟨f,gZ⟩ os.length (pre r d) (stM (lW b1 r os ai C o ay (λ q c=>c.gens=f.gens) d p)) au->je (bZ bY w) (s.under (.func t (aq d))) (.func t (aq d)) (dj t (aq d)) (λ fl aJ=>ax (.ok (.ret (match fl with| .ret b=>b|_=> .none))) aJ) (λ e aJ=>cm (bZ bY w) (s.under (.func t (aq d))) (pH (aq d) e) (λ q aM=>ax (.error e) aM) (λ q q=>False) aJ) au):dQ (bZ bY w) s (.call (R C) o) ax f:=by
 refine û J.h ?_;have M:∀(x:FA)(p:FD),Agree (pre r λ q=>0) (λ q=>⟨0,default,[],0⟩) (fB os ay [] (λ q c=>c.gens=f.gens)) x p->pre r (λ y=>x (y+r.length))=x:=λ x p aU=>Ŗ r x λ y g a=>by
  have hj:y<os.length:=by rw[<-hl.len];exact(ot.mp a).1
  rw[aU.1 y hj];exact nI r _ y g a
 have aQ:∀(ob:List (bU×Nat))(x:FA),ob.map (·.1)=ob.map (λ u=>x u.2)->∀u∈ob,u.1=x u.2:=by intro ob x;induction ob with|nil=>intro _ u hp;cases hp|cons c d ih=>intro a u hp;rw[ir,ir,CS]at a;cases hp with|head=>exact a.1|tail _ hp=>exact ih a.2 u hp
 have j:∀(k:Option (Cfg dX×Mem))B,stC k=Y B->k=Y (B,stM k):=λ k B a=>by cases k with|none=>cases a|some u=>cases a;rfl
 refine MX (j:=⟨f,gZ⟩) (n0:=os.length) (u' J.h) J 1 _ (fB os ay [] (λ q c=>c.gens=f.gens)) (pre r λ q=>0) (λ q=>⟨0,default,[],0⟩) f (by show(s.mark W).handled=W;rw[xb J.h];exact J.h) (DP hB hl aa L _ (λ y g a=>nI r _ y g a) ay [] _ (gz _) (λ y g z E=>by have:=(ot.mp E).1;rw[hl.len]at this;exact absurd z (M5.mpr this)) q7.no (λ q a=>a) tU) (λ x p aU=>?_) λ aR ah ao az au F hs=>?_;·have e:=M x p aU;have e1:=j _ _ (l (λ q c=>c.gens=f.gens) (λ y=>x (y+r.length)) p);have e2:=aQ _ _ (D (λ q c=>c.gens=f.gens) (λ y=>x (y+r.length)) p);have e3:=H (λ q c=>c.gens=f.gens) (λ y=>x (y+r.length)) p;unfold lW at e1 e2 e3;rw[e]at e1 e2 e3;exact gn _ e1 e2 (λ c hx=>by have af:c∈(stM (steps x p fW W ai 1 (.k (.pure (.again (.call (R C) o))) fW [] W .pure) (fB os ay [] (λ q c=>c.gens=f.gens)))).rc:=hx;rw[e3]at af;cases af)
 ·have z:=hs ao az Agree.refl;have e:=M ao az z.1;have e1:=j _ _ (l (λ q c=>c.gens=f.gens) (λ y=>ao (y+r.length)) az);have hh:=a (λ y=>ao (y+r.length)) az au;unfold lW at e1 hh;rw[e]at e1 hh;have E:=e1.symm.trans z.2;have h3:=jo E;have hg:aR=_:=(congrArg Prod.fst h3).symm;have hm:ah=_:=(congrArg Prod.snd h3).symm;rw[hm]at F;have O:=hh F;rw[hg];show ç (s.mark W) _ [] _ _ au;unfold ç;show je _ ((s.mark W).under _) _ _ _ _ au;rw[xb J.h,<-pP];show je _ _ _ (point>>=λ q=>(dj t (aq λ y=>ao (y+r.length))).onRaise (pH (aq λ y=>ao (y+r.length)))>>=λ C=>match C with| .ret b=>ret b|_=>ret .none) _ _ au;have P:∀{B:cN}{m:cD gK}{i:bX->cD Unit}{V:hZ}{aw:VS}{s:cR}{f:cc},je (bZ bY w) s B m V (λ e n=>cm (bZ bY w) s (i e) (λ q aK=>aw e aK) aw n) f->je (bZ bY w) s B (m.onRaise i) V aw f:=λ{B m i V aw s f}a v u hc Q=>by rw[Sem.wp_onRaise];exact Ds _ v m (λ q q q h'=>h') (λ e p' n h'=>h' v p' Q) u f (a v u hc Q)
  refine zw (kQ (wpAny_point (zw (P (D3 O (λ fl aJ A=>?_) λ e aJ A=>?_)))));·have aj:∀b,ax (.ok (.ret b)) aJ->je (bZ bY w) (s.under (.func t (aq λ y=>ao (y+r.length)))) (.func t (aq λ y=>ao (y+r.length))) (ret b:cD fE) (postC bY w (KA s []) (KR s (λ d n=>oV s fW ax (λ q q=>False) (.pure d:cD dX) n) [])) (postE (KR s (λ d n=>oV s fW ax (λ q q=>False) (.pure d:cD dX) n) [])) aJ:=λ b hv=>kQ (ed (show oV s fW ax (λ q q=>False) (.pure (.ok (.ret b)):cD dX) aJ from kQ (ed hv)));cases fl<;>exact aj _ A
  ·refine kS A (λ q aM G=>?_) λ q q c=>c.elim;show oV s fW ax (λ q q=>False) (.pure (.error e):cD dX) aM;exact kQ (ed G)
theorem b89(J:cj ai W s)(hB:Base f.heap)(hl:Slots f.heap r os)(aa:∀g∈r,dp.get g=W)(L:r.Nodup){C:bU}{o:kF}{ay:List Nat}{t:List dd}{aq:FA->di}(l:∀γ d p,stC (lW b1 r os ai C o ay γ d p)=Y (.k (dn (.func t (aq d))) (.func t (aq d)) [] W .pure))(D:∀γ d p,(stM (lW b1 r os ai C o ay γ d p)).ob.map (·.1)=(stM (lW b1 r os ai C o ay γ d p)).ob.map (λ u=>pre r d u.2))(H:∀γ d p,(stM (lW b1 r os ai C o ay γ d p)).rc=[])(a:∀d p au,MH ⟨f,gZ⟩ os.length (pre r d) (stM (lW b1 r os ai C o ay (λ j c=>c.gens=f.gens) d p)) au->cm (bZ bY w) (s.under (.func t (aq d))) (dj t (aq d)) (λ fl aJ=>ax (.ok (.ret (match fl with| .ret b=>b|_=> .none))) aJ) (λ e aJ=>cm (bZ bY w) (s.under (.func t (aq d))) (pH (aq d) e) (λ j aM=>ax (.error e) aM) (λ j j=>False) aJ) au):dQ (bZ bY w) s (.call (R C) o) ax f:=D2 J hB hl aa L l D H λ d p au ak=>kQ (a d p au ak)
end
noncomputable def sM(Q:BT):List bV->Nat->Prop|[],_=>True|k::os,v=>Q.get v=Y k/\sM Q os (v+1)
theorem sM.at:∀{os:List bV}{v:Nat},sM Q os v->∀{i:Nat}{k:bV},os[i]?=Y k->Q.get (v+i)=Y k|k::_,v,aa,0,o',a=>by cases a;exact aa.1|_::os,v,aa,i+1,o',a=>by rw[nA]at a;have:=sM.at aa.2 a;rw[show v+(i+1)=v+1+i from by simp+arith only];exact this|[],_,_,_,_,a=>by cases a
structure ux{A:Type}(r:List bU)(os:List bV)(d:FA)(γ:GP)(b:A)(k:Cfg A×Mem):Prop where
 ob:k.2.ob.map (·.1)=k.2.ob.map (λ u=>pre r d u.2)
 rc:k.2.rc=[]
 cfg:k.1= .b (.pure b)
 sl:sM k.2.T os 0
 gh:k.2.gh=γ
structure É(f n:cc):Prop where
 keep:∀l k,f.heap.get? l=Y k->n.heap.get? l=Y k
 size:f.heap.objs.size<=n.heap.objs.size
 gens:n.gens=f.gens
 drawn:n.drawn=f.drawn
 os:n.os=f.os
section
variable{s:cR}{ai:Nat}{f:cc}{r:List bU}{os:List bV}{A:Type}{aw:VS}
theorem MH.more{Q:List bV}{γ:GP}(hl:Slots f.heap r os)(ak:MH ⟨f,gZ⟩ os.length (pre r d) m n)(a:sM m.T os 0)(hg:∀C c,m.gh C c->c.gens=f.gens):É f n where
 keep b o hb:=by
  by_cases hm:∃i:Nat,r[i]?=Y b;·
   refine eE hm λ i hk=>?_;have aJ:i<os.length:=by rw[<-hl.len];exact(ot.mp hk).1
   refine cK (hl.at (gv aJ)) λ v z E=>?_;rw[hk]at z;cases z;rw[hb]at E;cases E;have j:=(ak.sl i _ (by have:=a.at (gv aJ);rw[lj]at this;exact this)).2;rw[nI r d i b hk]at j;exact j
  ·refine ak.keep b o hb (λ y hj e=>hm ⟨y,?_⟩) id;have p:y<r.length:=by rw[hl.len];exact hj
   rw[e,nI r d y (r[y]) (gv p)];exact gv p
 size:=ak.size
 gens:=by obtain⟨_,_,_,h3⟩:=ak.gens;exact hg _ _ h3.now
 drawn:=ak.drawn
 os:=ak.os
theorem E0(J:cj ai W s)(hB:Base f.heap)(hl:Slots f.heap r os)(aa:∀g∈r,dp.get g=W)(L:r.Nodup)(D:cD A)(H:Nat)(ay:List Nat)(b:A){V:A->cc->Prop}(af:∀(B:cN)(d:FA)(p:FD)(γ:GP),ux r os d γ b (run (cx b1) (pre r d) p B W ai H (.b D) (fB os ay [] γ)))(G:∀n,É f n->V b n):cm (bZ bY w) s D V aw f:=by refine ņ J hB hl aa L D H ay [] (λ j c=>c.gens=f.gens) q7.no tU λ B d p=>?_;have O:=af B d p (λ j c=>c.gens=f.gens);refine(ŷ O.ob (w_ O.rc) b O.cfg (λ n ak=>G n ?_));exact MH.more (Q:=os) (γ:=λ j j=>True) hl ak O.sl λ C c a=>by rw[O.gh]at a;exact a
theorem b8b{V:A->cc->Prop}(J:cj ai W s)(hB:Base f.heap)(hl:Slots f.heap r os)(aa:∀g∈r,dp.get g=W)(L:r.Nodup)(D:cD A)(H:Nat)(ay:List Nat)(hf:q7 r fp f)(P:dD fp l f)(az:FA->FD->Cfg A×Mem->Prop)(hF:∀(B:cN)(d:FA)(p:FD),az d p (run (cx b1) (pre r d) p B W ai H (.b D) (fB os ay sm l)))(af:∀(d:FA)(p:FD)(k:Cfg A×Mem),az d p k->k.2.ob.map (·.1)=k.2.ob.map (λ u=>pre r d u.2)/\(∀c∈k.2.rc,cy (pre r d) c)/\∃b,k.1= .b (.pure b)/\∀n,MH ⟨f,fp⟩ os.length (pre r d) k.2 n->V b n):cm (bZ bY w) s D V aw f:=ņ J hB hl aa L D H ay sm l hf P λ B d p=>af d p _ (hF B d p)
end
noncomputable abbrev uj:String:=K1
noncomputable abbrev Hh:String:=JY
noncomputable abbrev V_:String:=b6s
theorem tS:"list" =uj:=b7i
noncomputable def inst(aX af:bU):bV:=⟨R aX,Y af, .plain,#[]⟩
noncomputable def lst(r:List bX)(e:Nat):bV:=⟨T uj,W, .seq ⟨r⟩ e,#[]⟩
noncomputable def df(r:List pF)(e:Nat):bV:=⟨T Hh,W, .dict ⟨r⟩ e,#[]⟩
structure Ht where
 h:Int
 t:cp
abbrev HK:Type:=Nat->Ht
structure dz where
 aL:bU
 aD:bU
 fe:bU
 fN:bU
 er:bU
 aO:bU
 aG:bU
 k1:Ht
 k2:Ht
 k3:Ht
 k4:Ht
 k5:Ht
noncomputable def dU(b:dz):bV:=df [⟨b.k1.h,S (bW #[116,111,107,101,110,95,98,117,102,102,101,114]) b.k1.t,R b.fe⟩,⟨b.k2.h,S (bW #[112,117,115,104,101,100,95,98,97,99,107]) b.k2.t,R b.fN⟩,⟨b.k3.h,S (bW #[99,117,114,114,101,110,116,95,116,101,120,116]) b.k3.t,R b.er⟩,⟨b.k4.h,S (bW #[99,111,112,116,105,111,110,115]) b.k4.t,R b.aO⟩,⟨b.k5.h,S (bW #[99,104,97,114,97,99,116,101,114,115]) b.k5.t,R b.aG⟩] 5
structure uO where
 a:bU
 d:bU
 k1:Ht
 k2:Ht
 tc:cp
 loc:bU
noncomputable def gf(b:uO)(B:Nat):bV:=df [⟨b.k1.h,S (bW #[99,104,97,114]) b.k1.t,S (bW #[B]) b.tc⟩,⟨b.k2.h,S (bW #[108,111,99]) b.k2.t,R b.loc⟩] 2
noncomputable def Ŭ(y:Nat)(xs:List bX)(b:bX)(e:Nat):Sm:=⟨1,0,0,λ j j=> .ok (.ret .none),λ j j=>[(y,lst (xs++[b]) (e+1))],λ j j=>[],W⟩
theorem zC(l:Slot Q g c)(hT:f.TypeIs e Q)(p:i_ fV c=Y z)(o:vB c ⟨e::ak,[]⟩)(O:Meets (z ⟨e::ak,[]⟩) aj)(a:aj s ax f):dQ (bZ bY w) s (.call (.builtin c) ⟨e::ak,[]⟩) ax f:=kg l.plain p (l.check _ _ _ _ _ _ _ _ hT o (O bY w s ax f a))
theorem lst_is(r:List bX)(e:Nat):lst r e={cls:=T "list",dict:=W,data:= .seq ⟨r⟩ e,slots:=#[]}:=by unfold lst;rw[tS]
theorem Eh(hc:d.c= .call (.builtin "list.append") ⟨[R g,b],[]⟩)(ae:d.sm=Ŭ y xs b e)(hT:d.T.get y=Y (lst xs e))(ha:x y=g)(aq:xs.length<=1048576):cy x d:=by
 intro s ax f _ _ _ hs _ _ _ _ G;have h0:=(hs y _ hT).2;rw[ha,lst_is]at h0;rw[hc];refine zC slot_list_append (cI _ h0 rfl) entry_list_append (args_list_append _ _) (b7r g ⟨xs⟩ e b (by rw[zJ];show xs.length<=_;exact yE aq)) ⟨h0,?_⟩;have r:(f.heap.update g (ll λ c=>c.push b)).get? g=Y (lst (xs++[b]) (e+1)):=by
  rw[ou _ h0 rfl,lst_is];show Y (ll _ _)=_;unfold ll;have e1:((⟨xs⟩:Array bX).push b)=⟨xs++[b]⟩:=by simp
  simp only[e1];have:((⟨xs++[b]⟩:Array bX).size==(⟨xs⟩:Array bX).size)=X:=by simp
  simp only[this];rfl
 have o:=rR f.heap g (ll λ c=>c.push b);have:=G (λ j=>0) (λ j=>⟨0,⟨0,0,0,0⟩,[],0⟩) {f with heap:=f.heap.update g (ll λ c=>c.push b)};rw[ae]at this;refine this rfl (λ i k a=>by cases a) (λ i a=>by cases a) (λ i k' a=>by cases a) (λ u hp=>?_) (λ l k M ay j=>?_) (pD o.1.symm) rfl rfl rfl;·cases hp with|head=>show(f.heap.update g _).get? (x y)=_;rw[ha];exact r|tail _ hp=>cases hp
 ·have:l≠g:=by rw[<-ha];exact ay (y,_) (.head _)
  exact(o.2 l this).trans M
section
variable{s:cR}{f:cc}{ax:RS}
noncomputable def HQ(s:cR)(gs:eY)(f:cc)(F:ES):Prop:=match gs with| .fresh B=>da (bZ bY w) s B (dn B) [] f F| .suspended i _ B _ fs _=>da (bZ bY w) s B (i (.send .none)) fs f F|_=>False
noncomputable def lT(ax:RS)(O:Nat)(e:End)(au:cc):Prop:=match e with| .susp b _ _ _ _ _ _=>ax (.ok (.ret b)) (au.setGen O e.genState)| .ret (.ok (.ret .none))=>ax (.error (R (au.heap.objs.size+1))) {au.setGen O .finished with heap:=(au.heap.push {cls:=T "tuple",data:= .seq #[]}).push {cls:=T "StopIteration",data:= .fields #[R au.heap.objs.size, .none, .none, .none, .bool X, .none]}}|_=>False
theorem pA(J:s.handled=W)(hd:s.depth<zy)(hl:f.heap.NoLimit)(hg:f.heap.IsGen g O)(F:f.gens[O]?=Y gs)(a:HQ s.in1 gs (f.setGen O .running) (lT ax O)):dQ (bZ bY w) s (.call (.builtin "generator.__next__") ⟨[R g],[]⟩) ax f:=by
 refine kg uX.plain CX (uX.check _ _ _ _ _ _ _ _ hg.typeIs (D6 _) ?_);show cm _ _ (wC (R g) (.send .none)) _ _ f;unfold wC;refine cJ (qE (CO hg (cJ (CV F ?_))));have aQ:∀(e:End)(au:cc),lT ax O e au->cm (bZ bY w) s.in1 ((λ m=>(match m with
  |KS b=>ret b
  | .returned b=>do
   if b== .none then
    s9 (<-lS (T "StopIteration") [])
   q8 "generator.return-value"
   throw (<-lS (T "StopIteration") [b])
  | .raised e=>do
   if let LG _:=Ć .none then
    if gs.status==Lh then
     q8 "generator.throw.into-fresh"
     throw e
   wF (R g) e
  | .running=>do
   q8 "generator.already-executing"
   raiseError"ValueError" "generator already executing"
  | .justStarted=>do
   q8 "generator.send-to-fresh"
   raiseError"TypeError" "can't send non-None value to a just-started generator"
  | .finished=>match Ć .none with
   | .send _=>do
    s9 (<-lS (T "StopIteration") [])
   | .throw e=>throw e:cD Fin)) e.result) (λ aj n=>match aj with| .done C=>ax (.ok C) n| .again c'=>c'.quiet=U/\dQ (bZ bY w) s c' ax n) (λ e n=>ax (.error e) n) (au.setGen O e.genState):=by intro e au he;cases e with|susp b l r i B u fs=>exact ed he|ret d=>cases d with|error e=>exact he.elim|ok C=>cases C with|next=>exact he.elim|brk=>exact he.elim|cont=>exact he.elim|ret b=>cases b with|none=>show cm _ _ (lS (T "StopIteration") []>>=_) _ _ _;refine cJ ?_;simp only[lS,h_];refine cJ (nB ?_ (by size_fits));refine cJ (m:=qC _ _) (wW (a:=jt) (by first|rfl|(simp only[qC];rfl)) ?_);refine nB ?_ (by size_fits);simp only[s9];refine cJ (cJ (zE ?_));rw[show s.in1.handled=W from J];refine ml ?_;have c:=he;unfold lT at c;simp only[mf];exact c|_=>exact he.elim
 cases gs with
  |running=>exact a.elim
  |finished=>exact a.elim
  |fresh ak=>
   refine cJ (ø hl hd ?_);show cm _ _ (.resume O (.send .none) [] _) _ _ f;refine į Fin bY w F (.inl (iC rfl rfl rfl rfl)) (·.In s.in1) (λ j a=>a) ?_;have h':da (bZ bY w) s.in1 ak (gp fV ak) [] (f.setGen O .running) (lT ax O):=by rw[pP];exact a
   exact Ě h' λ e au he v u Q=>aQ e au he v u Q
  |suspended q p ak o t k=>refine cJ (ø hl hd ?_);show cm _ _ (.resume O (.send .none) [] _) _ _ f;refine į Fin bY w F (.inr (ś q p o k rfl rfl)) (·.In s.in1) (λ j a=>a) ?_;exact Ě a λ e au he v u Q=>aQ e au he v u Q
end
noncomputable abbrev Ů:String:=JX
noncomputable abbrev τ:String:=b3n
noncomputable abbrev I8:String:=b3l
noncomputable abbrev Ia:String:=K6
noncomputable abbrev ŭ:String:=JT
noncomputable def ο:Bool->String|U=>τ|X=>I8
noncomputable def Á:Bool->String|U=>"str_ascii_iterator.__next__" |X=>"str_iterator.__next__"
theorem Ķ:"str_ascii_iterator" =τ:=b43
theorem PF:"str_iterator" =I8:=b42
theorem xh:"tuple" =Ia:=b7n
theorem a_:"StopIteration" =ŭ:=b6b
noncomputable def gO(l:Bool)(c:bX)(v:Nat):bV:=⟨T (ο l),W, .fields #[c,I v 0],#[]⟩
noncomputable def fI(v:bU)(H:Int)(aj:bX):bV:=⟨T Ů,W, .fields #[.none, .bool X,R v,I H 0, .none,aj],#[]⟩
noncomputable def dk(r:List bX):bV:=⟨T Ia,W, .seq ⟨r⟩ 0,#[]⟩
noncomputable def pN(g:bU):bV:=⟨T ŭ,W, .fields #[R g, .none, .none, .none, .bool X, .none],#[]⟩
noncomputable def I5(l:Bool)(y:Nat)(c:cb)(D:cp)(v B:Nat):Sm:=⟨1,0,1,λ j af=> .ok (.ret (S ⟨#[B]⟩ (af 0).t)),λ j j=>[(y,gO l (S c D) (v+1))],λ j j=>[],W⟩
theorem H_(c:bX)(v:Nat):gO U c v={cls:=T "str_ascii_iterator",dict:=W,data:= .fields #[c,I v 0],slots:=#[]}:=by unfold gO ο;rw[Ķ]
theorem I_(c:bX)(v:Nat):gO X c v={cls:=T "str_iterator",dict:=W,data:= .fields #[c,I v 0],slots:=#[]}:=by unfold gO ο;rw[PF]
theorem Po(hc:d.c= .call (.builtin (Á l)) ⟨[R g],[]⟩)(ae:d.sm=I5 l y c D v B)(hT:d.T.get y=Y (gO l (S c D) v))(ha:x y=g)(hx:c.cps[v]?=Y B):cy x d:=by
 intro s ax f _ _ _ hs _ _ _ _ G;have h0:=(hs y _ hT).2;rw[ha]at h0;rw[hc];have aj:∀(C:bV->bV)(n:cc),C (gO l (S c D) v)=gO l (S c D) (v+1)->n={f with heap:=f.heap.update g C,toks:=f.toks+1}->ax (.ok (.ret (S ⟨#[B]⟩ f.toks))) n:=by
  intro C n hf t;subst t;have r:=ou C h0 (by rw[hf];rfl);have o:=rR f.heap g C;have:=G (λ j=>0) (λ j=>⟨f.toks,⟨0,0,0,0⟩,[],0⟩) {f with heap:=f.heap.update g C,toks:=f.toks+1};rw[ae]at this;refine this rfl (λ i k a=>by cases a) (λ i a=>by cases a) (λ i k' a=>by cases a) (λ u hp=>?_) (λ q k M ay j=>?_) (pD o.1.symm) rfl rfl rfl;·cases hp with|head=>show(f.heap.update g _).get? (x y)=_;rw[ha,r,hf]|tail _ hp=>cases hp
  ·have:q≠g:=by rw[<-ha];exact ay (y,_) (.head _)
   exact(o.2 q this).trans M
 cases l with|true=>rw[H_]at h0 aj;refine kg ì.plain K8 (ì.check _ _ _ _ _ _ _ _ (cI _ h0 rfl) (K7 _) ?_);show cm _ _ (mZ (R g) 0>>=_) _ _ f;refine cJ (jr h0 rfl (x:=S c D) rfl ?_);show cm _ _ (mZ (R g) 1>>=_) _ _ f;refine cJ (jr h0 rfl (x:=I v 0) rfl ?_);simp only[wK,hx];refine cJ (rY h0 rfl (nC _) (cJ (wpAny_mkStr (ed ?_) (by show 1<=iR;decide))));exact aj _ _ rfl rfl|false=>rw[I_]at h0 aj;refine kg í.plain Kg (í.check _ _ _ _ _ _ _ _ (cI _ h0 rfl) (Kf _) ?_);show cm _ _ (mZ (R g) 0>>=_) _ _ f;refine cJ (jr h0 rfl (x:=S c D) rfl ?_);show cm _ _ (mZ (R g) 1>>=_) _ _ f;refine cJ (jr h0 rfl (x:=I v 0) rfl ?_);simp only[wK,hx];refine cJ (rY h0 rfl (nC _) (cJ (wpAny_mkStr (ed ?_) (by show 1<=iR;decide))));exact aj _ _ rfl rfl
noncomputable def pK(tp v:bU)(H:Nat)(aj:bX):bV:=⟨T Ů,W, .fields #[I tp 0, .bool X,R v,I H 0, .none,aj],#[]⟩
noncomputable abbrev Ŕ:String:=Cn
noncomputable def d9(C:bU):nE:=match dp.get C with|Y k=>(match k.data with| .func b=>b|_=>default)|W=>default
noncomputable def fP:FuncBody->List dd| .stmts l=>l|_=>[]
noncomputable def mW:List dd->Nat->Expr×List dd|[],_=>(default,[])| .For D _ l _ _::_,0=>(D,l)|_::_,0=>(default,[])|_::d,H+1=>mW d H
noncomputable def dq(C A:bU):di:={scope:=(d9 C).scope,locals:=A,globals:=(d9 C).globals,cells:=(d9 C).closure,qual:=(d9 C).qualname++(".<locals>." :cb),func:=Y C,code:=(d9 C).code,frame:=Y A,builtins:=(d9 C).builtins}
noncomputable def sL(A v:bU):cN:= .forLoop (mW (fP (d9 335).body) 0).1 (R v) (mW (fP (d9 335).body) 0).2 [] (dq 335 A)
noncomputable def iD(A v:bU):cN:= .forLoop (mW (mW (fP (d9 335).body) 0).2 1).1 (R v) (mW (mW (fP (d9 335).body) 0).2 1).2 [] (dq 335 A)
structure jR where
 aF:bU
 aE:bU
 aI:bU
 qt:bU
 lx:bU
 gx:bU
 kf:Ht
 ks:Ht
 kr:Ht
 kl:Ht
 kc:Ht
 kh:Ht
 ko:Ht
 kn:Ht
 kw:Ht
 tr:cp
noncomputable def b1h(A v:bU)(b:bX):cD fE:=xO (mW (mW (fP (d9 335).body) 0).2 1).1 (R v) (mW (mW (fP (d9 335).body) 0).2 1).2 [] (dq 335 A) b
noncomputable def ly(r:List pF)(e:Nat):bV:=⟨T Ŕ,W, .dict ⟨r⟩ e,#[]⟩
noncomputable def rp(b:jR)(i ao aw d aq:bX)(e:Nat):bV:=ly [⟨b.kf.h,S (bW #[102]) b.kf.t,R b.gx⟩,⟨b.ks.h,S (bW #[115,111,117,114,99,101,95,102,105,108,101]) b.ks.t,R b.qt⟩,⟨b.kr.h,S (bW #[114,111,119]) b.kr.t,i⟩,⟨b.kl.h,S (bW #[108,105,110,101]) b.kl.t,ao⟩,⟨b.kc.h,S (bW #[99,111,108]) b.kc.t,aw⟩,⟨b.kh.h,S (bW #[99,104,97,114]) b.kh.t,d⟩,⟨b.ko.h,S (bW #[108,111,99]) b.ko.t,aq⟩] e
noncomputable def qd(b:jR)(i:Int):bV:=df [⟨b.kn.h,S (bW #[102,105,108,101,110,97,109,101]) b.kn.t, .none⟩,⟨b.kw.h,S (bW #[114,111,119]) b.kw.t,I i b.tr⟩] 2
section
variable{s:cR}{B:cN}{fs:List jx}{ai:Nat}{f:cc}{r:List bU}{os:List bV}{F:ES}
end
noncomputable def kOf:cD fE->sf->cD fE| .yield _ _ _ i=>i|_=>λ j=> .unsupported ""
noncomputable def treeOf{A:Type}:Cfg A->Option (cD A)| .b D=>Y D|_=>W
noncomputable def oR(O:Cfg fE):sf->cD fE:=match O with| .b D=>kOf D|_=>λ j=> .unsupported ""
noncomputable def d5(Q:BT)(y i:Nat):Dr:=match Q.get y with
 |Y k=>match k.data with
  | .dict b _=>match b.toList[i]? with
   |Y e=>match e.key with| .str _ D=>⟨D,default,[],e.hash⟩|_=>⟨0,default,[],0⟩
   |W=>⟨0,default,[],0⟩
  |_=>⟨0,default,[],0⟩
 |W=>⟨0,default,[],0⟩
noncomputable def Jz(Q:BT)(y i:Nat):Dr:=match Q.get y with
 |Y k=>match k.slots[i]? with|Y (Y (.int _ D))=>⟨D,default,[],0⟩|_=>⟨0,default,[],0⟩
 |W=>⟨0,default,[],0⟩
noncomputable def eB(af:bU)(H:Nat)(tn t1 t2:cp):bV:=⟨R 100,Y af, .plain,#[Y (I H tn),Y .none,Y (I 1 t1),Y (I 1 t2),Y .none]⟩
noncomputable def gw(gs:Array eY):Prop:=∀t∈gs,GenState.bare t=U
theorem gw.set(a:gw gs)(hy:t.bare=U):gw (gs.setIfInBounds O t):=λ j hz=>by
 obtain⟨v,hi,rfl⟩:=Array.mem_iff_getElem.mp hz;have q:(gs.setIfInBounds O t)[v]?=Y ((gs.setIfInBounds O t)[v]):=wG hi;by_cases e:O=v;·
  subst e;have c:O<gs.size:=by rw[Kj]at hi;exact hi
  rw[zj c]at q;rw[<-jo q];exact hy
 ·rw[K9 e]at q;exact a _ (Ks q)
theorem gw.push(a:gw gs)(hy:t.bare=U):gw (gs.push t):=λ j hz=>by
 rcases Array.mem_push.mp hz with q|rfl;·exact a j q
 ·exact hy
noncomputable def Gh(ai:List (Nat×(eY->Prop)))(gs:Array eY):Prop:=gw gs/\∀u∈ai,∃c,gs[u.1]?=Y c/\u.2 c
theorem cj.less(a:cj af hv s)(r:c<=af):cj c hv s:=⟨a.h,by have:=a.d;exact hV r this,by have:=a.u;lia⟩
theorem cj.in1(a:cj (af+1) hv s):cj af hv s.in1:=⟨a.h,by have:=a.d;show s.depth+af<_;exact qF this,by have:=a.u;show s.units+1+3*af<_;exact gB this⟩
noncomputable def cv(O:Nat)(nm qn:bX):bV:=⟨T V_,W, .fields #[I O 0,nm,qn],#[]⟩
theorem EY:"generator" =V_:=b7j
theorem qI:"enumerate" =Ů:=b6d
theorem lp{a:eV}{g:bU}{O:Nat}{nm qn:bX}(e:a.get? g=Y (cv O nm qn)):a.IsGen g O:=m_ _ nm qn e (by show T V_=_;rw[<-EY]) rfl rfl
noncomputable def D':Expr->List Expr| .Tuple r _ _=>r|_=>[]
noncomputable def tupK:Expr->Nat| .Tuple _ i _=>i|_=>0
noncomputable def tupP:Expr->dK| .Tuple _ _ u=>u|_=>default
theorem đ(e:D= .Tuple (D' D) (tupK D) (tupP D))(a:∀ak i u,cm (bZ bY w) s (qz (.Tuple ak i u) g l) V aw f):cm (bZ bY w) s (qz D g l) V aw f:=by rw[e];exact a _ _ _
noncomputable def yi:Expr:=(mW (mW (fP (d9 335).body) 0).2 1).1
theorem Pe:yi= .Tuple (D' yi) (tupK yi) (tupP yi):=⋯
theorem DE(g l:bU):(iD g l).quiet=U:=⋯
end Mine
end
section
open PySem PySem.W PySem.W.X PySem.Calls
namespace Mine
end Mine
end
section
open PySem PySem.W PySem.W.X PySem.Calls
namespace Mine
section
noncomputable def gy(a:eV)(ls:List (bU×bV)):Prop:=∀u∈ls,a.get? u.1=Y u.2
noncomputable abbrev cz(ls:List (bU×bV)):List bU:=ls.map (·.1)
noncomputable abbrev fg(ls:List (bU×bV)):List bV:=ls.map (·.2)
inductive Fr(ls:List (bU×bV))(P:GP)(C:AP)(f:cc):Prop|mk(a:gy f.heap ls)(nd:(cz ls).Nodup)(fS:AP)(d:∀g,C g↔g∈cz ls\/fS g)(c:∀g∈cz ls,¬fS g)(b:dD fS P f):Fr ls P C f
theorem Fr.has:Fr ls P C f->gy f.heap ls| .mk a _ _ _ _ _=>a
theorem Fr.nd:Fr ls P C f->(cz ls).Nodup| .mk _ a _ _ _ _=>a
theorem gy.keep(aa:gy a ls)(i:∀g∈cz ls,∀k,a.get? g=Y k->h'.get? g=Y k):gy h' ls:=λ u hp=>i u.1 (jd hp) _ (aa u hp)
theorem gy.lt(aa:gy a ls):∀g∈cz ls,g<a.objs.size:=λ g ha=>by(refine cK (iN.mp ha) λ u hp b=>?_;subst b);exact fc (aa u hp)
theorem gy.slots:∀{ls:List (bU×bV)},gy a ls->Slots a (cz ls) (fg ls)|[],_=>trivial|u::_,aa=>⟨aa u (.head _),gy.slots λ q hq=>aa q (.tail _ hq)⟩
theorem dD.sub(a:dD fp γ f)(hk:∀g k,fp g->f.heap.get? g=Y k->n.heap.get? g=Y k)(hg:n.gens=f.gens):dD fp γ n:=λ aK z E=>a aK (λ g k ha ho=>z g k ha (hk g k ha ho)) (E.trans hg)
theorem Fr.eF(a:Fr ls P C f):dD C (Fr ls P) f:=by obtain⟨z,E,fS,h3,h4,h5⟩:=a;exact λ n k1 k2=>⟨z.keep λ g ha k ho=>k1 g k ((h3 g).mpr (.inl ha)) ho,E,fS,h3,h4,h5.sub (λ g k ha ho=>k1 g k ((h3 g).mpr (.inr ha)) ho) k2⟩
open Classical in theorem ff{A:Type}{r b:List A}(a:∀g,ď g r=ď g b):r.Perm b:=KG.mpr a
theorem Fr.perm(a:Fr ls P C f)(u:ls.Perm ao):Fr ao P C f:=by obtain⟨z,E,fS,h3,h4,h5⟩:=a;have p':(cz ls).Perm (cz ao):=u.map _;exact⟨λ q hq=>z q (u.mem_iff.mpr hq),p'.nodup_iff.mp E,fS,λ g=>by rw[h3 g,p'.mem_iff],λ g ha=>h4 g (p'.mem_iff.mpr ha),h5⟩
theorem Fr.open(a:Fr (l1++l2) P C f):Slots f.heap (cz l1) (fg l1)/\(cz l1).Nodup/\(∀g∈cz l1,C g)/\∃f',(∀g,f' g->C g/\g∉cz l1)/\Fr l2 P f' f:=by
 obtain⟨z,E,fS,h3,h4,h5⟩:=a;have e:cz (l1++l2)=cz l1++cz l2:=mc;rw[e]at E h4;simp only[e,fJ]at h3;have H:=ow.mp E;refine(Gs (gy.slots λ u hp=>z u (fJ.mpr (.inl hp))) H.1 (λ g ha=>(h3 g).mpr (.inl (.inl ha))) (λ g=>g∈cz l2\/fS g) (λ g ha=>⟨(h3 g).mpr (ha.imp_left .inr),λ hm=>?_⟩) ⟨λ u hp=>z u (fJ.mpr (.inr hp)),H.2.1,fS,λ j=>ua,λ g ha=>h4 g (fJ.mpr (.inr ha)),h5⟩);rcases ha with ha|ha;·exact H.2.2 g hm g ha rfl
 ·exact h4 g (fJ.mpr (.inl hm)) ha
theorem Fr.add(a:Fr l2 P C f)(hs:gy f.heap l1)(hn:(cz l1).Nodup)(hd:∀g∈cz l1,¬C g):Fr (l1++l2) P (λ l=>C l\/l∈cz l1) f:=by
 obtain⟨z,E,fS,h3,h4,h5⟩:=a;have e:cz (l1++l2)=cz l1++cz l2:=mc;refine⟨λ u hp=>(fJ.mp hp).elim (hs u) (z u),?_,fS,λ g=>?_,λ g ha=>?_,h5⟩;·rw[e];exact ow.mpr (cZ hn E (λ g ha l M q=>hd g ha ((h3 g).mpr (.inl (q▸M)))))
 ·show(C g\/g∈cz l1)↔_;rw[e,fJ,h3 g];constructor;·
   rintro((q|q)|q);·exact .inl (.inr q)
   ·exact .inr q
   ·exact .inl (.inl q)
  ·rintro((q|q)|q);·exact .inr q
   ·exact .inl (.inl q)
   ·exact .inl (.inr q)
 ·rw[e]at ha;rcases fJ.mp ha with q|q;·exact λ j=>hd g q ((h3 g).mpr (.inr j))
  ·exact h4 g q
noncomputable def m8(Q:BT):List Nat->List (bU×bV)->Prop|[],[]=>True|v::m,u::r=>Q.get v=Y u.2/\m8 Q m r|_,_=>False
theorem m8.at:∀{m:List Nat}{r:List (bU×bV)},m8 Q m r->∀(i:Nat)(u:bU×bV),r[i]?=Y u->∃v:Nat,m[i]?=Y v/\Q.get v=Y u.2|[],[],_,_,_,a=>by cases a|v::_,u::_,aa,0,q,a=>by cases a;exact cI v rfl aa.1|_::m,_::r,aa,i+1,q,a=>by rw[nA]at a;refine cK (m8.at aa.2 i q a) λ v z E=>?_;exact cI v (by rw[nA];exact z) E|[],_::_,aa,_,_,_=>aa.elim|_::_,[],aa,_,_,_=>aa.elim
theorem Fr.abs(aa:Ba Q b C c m)(a:Fr ls P C c)(e:cz l1=m.map b)(hT:m8 Q m l1)(hd:m.Nodup):Fr (l1++ls) P (λ l=>C l\/l∈m.map b) c:=by
 have hn:(m.map b).Nodup:=ö.mpr (ï (λ{g l}ha M ay q=>ay (aa.inj g ha l M q)) hd);have:=a.add (l1:=l1) (λ u hp=>?_) (by rw[e];exact hn) (λ g ha=>?_);·rw[e]at this;exact this
 ·refine eE (ó hp) λ i hk=>?_;refine cK (hT.at i u hk) λ v hi ho=>?_;have e1:(cz l1)[i]?=Y u.1:=by rw[iJ,hk];rfl
  rw[e,iJ,hi]at e1;rw[<-jo e1];exact aa.at' v (pv hi) _ ho
 ·rw[e]at ha;(refine cK (iN.mp ha) λ v hi d=>?_;subst d);exact aa.nf v hi
theorem cy.frame{v nn nd:Nat}(r:∀g af,∀q∈C g af,∃k,Q.get q.1=Y k)(a:cy x ⟨B,Q,H,P,⟨v,nn,nd,m,C,ay,Y u⟩⟩):cy x ⟨B,Q,H,Fr ls P,⟨v,nn,nd,m,C,ay,Y λ g af=>Fr ls (u g af)⟩⟩:=by
 intro s ax f fp J M hs aQ ap ah y G;obtain⟨z,E,fS,h3,h4,h5⟩:=y.now;have t:∀g,fS g->fp g:=λ g ha=>(h3 g).mpr (.inr ha);refine a s ax f fS J M hs aQ ap ⟨λ g ha=>ah.lt g (t g ha),λ g ha=>ah.nk g (t g ha),λ g ha=>ah.ns g (t g ha)⟩ h5 λ g af n k1 k2 k3 k4 k5 b c o d p=>?_;refine G g af n k1 k2 (λ i hk=>(k3 i hk).imp_right λ q=>⟨q.1,t _ q.2⟩) k4 k5 (λ l k q1 q2 q3=>b l k q1 q2 λ q M=>q3 q (t l M)) c ?_ d p;refine cK o λ aw f1 f2=>?_;have az:∀l∈cz ls,l<f.heap.objs.size:=z.lt;have V:gy n.heap ls:=z.keep λ l M k ho=>b l k ho (λ p' hp e=>by refine eE (r _ _ p' hp) λ o' ae=>?_;exact ah.ns l ((h3 l).mpr (.inl M)) p'.1 (hs _ _ ae).1 e) λ j ak=>h4 l M ak;refine(cI (λ l=>l∈cz ls\/aw l) (λ l M=>?_) (Fr.eF ⟨V,E,aw,λ j=>ua,λ l M ak=>?_,f2⟩));·
  rcases M with M|M;·
   refine(cZ (.inl ((h3 l).mpr (.inl M))) (fm (az l M) c) (λ i hk e=>?_));rcases k3 i hk with q|q;·exact jq _ (fm (az l M) (e▸q))
   ·exact h4 l M (e▸q.2)
  ·refine mM (f1 l M) λ q1 q2 q3=>?_;exact cZ (q1.imp_left (t l)) q2 q3
 ·rcases(f1 l ak).1 with q|q;·exact h4 l M q
  ·exact jq _ (fm (az l M) q)
theorem cy.xy{v nn nd:Nat}(a:cy x ⟨B,Q,H,P,⟨v,nn,nd,m,λ j j=>[],ay,Y u⟩⟩):cy x ⟨B,Q,H,Fr ls P,⟨v,nn,nd,m,λ j j=>[],ay,Y λ g af=>Fr ls (u g af)⟩⟩:=cy.frame (λ j j j a=>nomatch a) a
end
structure At(ae:cc)(ah:AP)(ls:List (bU×bV))(P:GP)(f:cc):Prop where
 base:Base f.heap
 own:∃az:AP,(∀l,az l->(ah l\/ae.heap.objs.size<=l)/\l<f.heap.objs.size/\dp.get l=W)/\Fr ls P az f
 keep:∀l k,ae.heap.get? l=Y k->¬ah l->f.heap.get? l=Y k
 size:ae.heap.objs.size<=f.heap.objs.size
 drawn:f.drawn=ae.drawn
 os:f.os=ae.os
section
variable{ae f:cc}{ah:AP}{ls:List (bU×bV)}{P:GP}
theorem At.start(M:Base f.heap)(hF:∀l,az l->l<f.heap.objs.size/\dp.get l=W)(a:Fr ls P az f):At f az ls P f:=⟨M,cI az (λ l ak=>(cZ (.inl ak) (hF l ak).1 (hF l ak).2)) a,λ j j a j=>a,gz _,rfl,rfl⟩
theorem At.perm(a:At ae ah ls P f)(u:ls.Perm ao):At ae ah ao P f:=by refine cK a.own λ az z E=>?_;exact⟨a.base,cI az z (E.perm u),a.keep,a.size,a.drawn,a.os⟩
theorem At.ghost(a:At ae ah ls P f)(m:∀C,dD C P f->dD C r f):At ae ah ls r f:=by(refine cK a.own λ az z b=>?_;obtain⟨E,h3,fS,h4,h5,h6⟩:=b);exact⟨a.base,cI az z ⟨E,h3,fS,h4,h5,m _ h6⟩,a.keep,a.size,a.drawn,a.os⟩
theorem At.next{H:Nat}{r:List bU}{os:List bV}(L:At ae ah ls P f)(hF:∀l,az l->(ah l\/ae.heap.objs.size<=l)/\l<f.heap.objs.size/\dp.get l=W)(ak:MH ⟨f,az⟩ 0 d m n)(hT:m8 m.T C ao)(he:cz ao=C.map d)(hd:C.Nodup):At ae ah ao m.gh n:=by
 obtain⟨aw,g1,O,g3⟩:=ak.gens;have b:∀v∈C,∃k,m.T.get v=Y k:=by
  have:∀(C:List Nat)(ao:List (bU×bV)),m8 m.T C ao->∀v∈C,∃k,m.T.get v=Y k:=by intro C;induction C with|nil=>intro ao _ v hi;cases hi|cons y C ih=>intro ao hT v hi;cases ao with|nil=>exact hT.elim|cons u ao=>cases hi with|head=>exact⟨_,hT.1⟩|tail _ hi=>exact ih ao hT.2 v hi
  exact this C ao hT
 have lt:∀v∈C,v<m.n:=λ v hi=>by refine eE (b v hi) λ k ho=>?_;exact(ak.sl v k ho).1
 have F:∀l,(f.heap.objs.size<=l\/az l)->ah l\/ae.heap.objs.size<=l:=λ l a=>by
  rcases a with a|a;·exact .inr (dZ L.size a)
  ·exact(hF l a).1
 have hn:(C.map d).Nodup:=ö.mpr (ï (λ{g l}ha M ay q=>ay (ak.inj g l (lt g ha) (lt l M) q)) hd);refine⟨ak.base,cI (λ l=>aw l\/l∈C.map d) (λ l M=>?_) ⟨?_,?_,aw,λ l=>?_,λ l M hf=>?_,g3⟩,λ l k z E=>?_,dZ L.size ak.size,ak.drawn.trans L.drawn,ak.os.trans L.os⟩;·
  rcases M with M|M;·exact cZ (F l (O l M).symm) (g1.lt l M) (g1.nk l M)
  ·(refine cK (iN.mp M) λ v hi e=>?_;subst e);exact cZ (F _ (ak.new v (oz _) (lt v hi))) (ak.lt v (lt v hi)) (ak.ap v (lt v hi))
 ·intro q hq;refine eE (ó hq) λ i hk=>?_;refine cK (hT.at i q hk) λ v hi ho=>?_;have e1:(cz ao)[i]?=Y q.1:=by rw[iJ,hk];rfl
  rw[he,iJ,hi]at e1;rw[<-jo e1];exact(ak.sl v _ ho).2
 ·rw[he];exact hn
 ·rw[he];exact Or.comm
 ·rw[he]at M;(refine cK (iN.mp M) λ v hi c=>?_;subst c);exact g1.ns _ hf v (lt v hi) rfl
 ·by_cases M:az l;·
   rcases(hF l M).1 with q|q;·exact absurd q E
   ·exact absurd (fc z) (iA.mpr q)
  ·exact ak.keep l k (L.keep l k z E) (λ y hj=>absurd hj (uT y)) M
variable{s:cR}{ai:Nat}
theorem seg_at(J:cj ai W (s.over B fs))(L:At ae ah ls P f)(D:cD fE)(H:Nat)(ay:List Nat)(sm:List iG)(az:FA->FD->Cfg fE×Mem->Prop)(hF:∀(d:FA)(p:FD),az d p (run (cx b1) (pre (cz ls) d) p B W ai H (.b D) (fB (fg ls) ay sm P)))(af:∀d p k,az d p k->k.2.ob.map (·.1)=k.2.ob.map (λ u=>pre (cz ls) d u.2)/\(∀c∈k.2.rc,cy (pre (cz ls) d) c)/\∃(t':cD fE)(C:List Nat)(ao:List (bU×bV))(r:GP),k.1= .b t'/\m8 k.2.T C ao/\cz ao=C.map (pre (cz ls) d)/\C.Nodup/\k.2.gh=r/\∀n,At ae ah ao r n->da (bZ bY w) s B t' fs n F):da (bZ bY w) s B D fs f F:=by
 (refine cK L.own λ Fo z b=>?_;obtain⟨E,h3,fS,h4,h5,h6⟩:=b);have:Sat (s.over B fs) (I7 s B fs F) (.b D) f:=by refine zZ (b:=Fo) (fp:=fS) (n0:=0) (PD J.h) J L.base E.slots (λ g ha=>(z g ((h4 g).mpr (.inl ha))).2.2) h3 (.b D) trivial H ay sm P (oz _) (λ y g j e=>(h4 g).mpr (.inl (pv e))) (λ g ha=>(cZ (z g ((h4 g).mpr (.inr ha))).2.1 (z g ((h4 g).mpr (.inr ha))).2.2 (λ hm=>h5 g hm ha))) (λ g ha=>(h4 g).mpr (.inr ha)) h6 λ d p=>?_;refine ý (af d p _ (hF d p)) λ g1 O t' C ao r g3 g4 g5 m i a=>?_;refine(cZ g1 O (λ n ak=>?_));rw[g3];have:=L.next (H:=0) (r:=[]) (os:=[]) z ak g4 g5 m;rw[i]at this;exact a n this
 exact this
theorem o_{A:Type}{V:A->cc->Prop}(J:cj ai hv s)(L:At ae ah ls P f)(D:cD A)(H:Nat)(ay:List Nat)(sm:List iG)(az:FA->FD->Cfg A×Mem->Prop)(hF:∀(B:cN)(d:FA)(p:FD),az d p (run (cx b1) (pre (cz ls) d) p B hv ai H (.b D) (fB (fg ls) ay sm P)))(af:∀d p k,az d p k->k.2.ob.map (·.1)=k.2.ob.map (λ u=>pre (cz ls) d u.2)/\(∀c∈k.2.rc,cy (pre (cz ls) d) c)/\∃(t':cD A)(C:List Nat)(ao:List (bU×bV))(r:GP),k.1= .b t'/\m8 k.2.T C ao/\cz ao=C.map (pre (cz ls) d)/\C.Nodup/\k.2.gh=r/\∀n,At ae ah ao r n->cm (bZ bY w) s t' V aw n):cm (bZ bY w) s D V aw f:=by
 intro v u Q;(refine cK L.own λ Fo z b=>?_;obtain⟨E,h3,fS,h4,h5,h6⟩:=b);have aQ:∀B,je (bZ bY w) s B D V aw f:=λ B=>by
  have:Sat s (oV s B V aw) (.b D) f:=by refine zZ (hv:=hv) (b:=Fo) (fp:=fS) (n0:=0) (u' J.h) J L.base E.slots (λ g ha=>(z g ((h4 g).mpr (.inl ha))).2.2) h3 (.b D) trivial H ay sm P (oz _) (λ y g j e=>(h4 g).mpr (.inl (pv e))) (λ g ha=>(cZ (z g ((h4 g).mpr (.inr ha))).2.1 (z g ((h4 g).mpr (.inr ha))).2.2 (λ hm=>h5 g hm ha))) (λ g ha=>(h4 g).mpr (.inr ha)) h6 λ d p=>?_;refine ý (af d p _ (hF B d p)) λ g1 O t' C ao r g3 g4 g5 m i a=>?_;refine(cZ g1 O (λ n ak=>?_));rw[g3];have:=L.next (H:=0) (r:=[]) (os:=[]) z ak g4 g5 m;rw[i]at this;exact kQ (a n this)
  exact this
 exact aQ v.code v u rfl Q
theorem GW{A:Type}{V:A->cc->Prop}(J:cj ai W s)(L:At ae ah ls P f)(D:cD A)(H:Nat)(ay:List Nat)(sm:List iG)(az:FA->FD->Cfg A×Mem->Prop)(hF:∀(B:cN)(d:FA)(p:FD),az d p (run (cx b1) (pre (cz ls) d) p B W ai H (.b D) (fB (fg ls) ay sm P)))(af:∀d p k,az d p k->k.2.ob.map (·.1)=k.2.ob.map (λ u=>pre (cz ls) d u.2)/\(∀c∈k.2.rc,cy (pre (cz ls) d) c)/\∃(b:A)(C:List Nat)(ao:List (bU×bV))(r:GP),k.1= .b (.pure b)/\m8 k.2.T C ao/\cz ao=C.map (pre (cz ls) d)/\C.Nodup/\k.2.gh=r/\∀n,At ae ah ao r n->V b n):cm (bZ bY w) s D V aw f:=o_ J L D H ay sm az hF λ d p k Q=>by refine ý (af d p k Q) λ g1 O b C ao r g3 g4 g5 m i a=>?_;exact tJ g1 O _ C ao r g3 g4 g5 m i (λ n X'=>ed (a n X'))
end
end Mine
namespace Mine
theorem Ğ:∀(ls:List (bU×bV))(v:Nat),sM Q (fg ls) v->m8 Q (lC v ls.length) ls|[],_,_=>trivial|_::ls,v,aa=>⟨aa.1,Ğ ls (v+1) aa.2⟩
theorem zQ:∀(r:List bU)(d:FA),r=(lC 0 r.length).map (pre r d):=λ r d=>by
 refine KZ λ i=>?_;rw[iJ];by_cases hk:i<r.length;·rw[gv hk,List.getElem?_range' hk];show Y r[i]=Y (pre r d (0+1*i));rw[lj,Dx,nI r d i r[i] (gv hk)]
 ·rw[uP (pz hk),uP (by rw[KN];exact pz hk)];rfl
section
variable{ae f:cc}{ah:AP}{ls:List (bU×bV)}{P:GP}{s:cR}{ai:Nat}
theorem mR{A:Type}{V:A->cc->Prop}(J:cj ai W s)(L:At ae ah ls P f)(D:cD A)(H:Nat)(ay:List Nat)(b:A)(hF:∀(B:cN)(d:FA)(p:FD)(γ:GP),ux (cz ls) (fg ls) d γ b (run (cx b1) (pre (cz ls) d) p B W ai H (.b D) (fB (fg ls) ay [] γ)))(G:∀n,At ae ah ls P n->V b n):cm (bZ bY w) s D V aw f:=by refine GW J L D H ay [] (λ d j k=>ux (cz ls) (fg ls) d P b k) (λ B d p=>hF B d p P) λ d p k Q=>?_;refine(tJ Q.ob (w_ Q.rc) b (lC 0 ls.length) ls P Q.cfg (Ğ ls 0 Q.sl) ?_ zq Q.gh G);have:=zQ (cz ls) d;rw[gi]at this;exact this
theorem Fr.push(a:Fr (l1++l2) P C f):Fr l1 (Fr l2 P) C f:=by
 have h0:=a;obtain⟨z,E,fS,h3,h4,h5⟩:=a;have e:cz (l1++l2)=cz l1++cz l2:=mc;rw[e]at E h4;simp only[e,fJ]at h3;have H:=ow.mp E;refine⟨λ u hp=>z u (fJ.mpr (.inl hp)),H.1,λ g=>g∈cz l2\/fS g,λ g=>?_,λ g ha M=>?_,Fr.eF ⟨λ u hp=>z u (fJ.mpr (.inr hp)),H.2.1,fS,λ j=>ua,λ g ha=>h4 g (fJ.mpr (.inr ha)),h5⟩⟩;·rw[h3 g];exact or_assoc
 ·rcases M with M|M;·exact H.2.2 g ha g M rfl
  ·exact h4 g (fJ.mpr (.inl ha)) M
theorem Fr.pull(a:Fr l1 (Fr l2 P) C f):Fr (l1++l2) P C f:=by
 obtain⟨z,E,b,h3,h4,h5⟩:=a;obtain⟨g1,O,fS,g3,g4,g5⟩:=h5.now;have e:cz (l1++l2)=cz l1++cz l2:=mc;refine⟨λ u hp=>(fJ.mp hp).elim (z u) (g1 u),?_,fS,λ g=>?_,λ g ha=>?_,g5⟩;·rw[e];exact ow.mpr (cZ E O (λ g ha l M q=>h4 g ha ((g3 g).mpr (.inl (q▸M)))))
 ·rw[e,fJ,h3 g,g3 g,or_assoc]
 ·rw[e]at ha;rcases fJ.mp ha with q|q;·exact λ j=>h4 g q ((g3 g).mpr (.inr j))
  ·exact g4 g q
theorem At.push(a:At ae ah (l1++l2) P f):At ae ah l1 (Fr l2 P) f:=by refine cK a.own λ az z E=>?_;exact⟨a.base,cI az z E.push,a.keep,a.size,a.drawn,a.os⟩
theorem At.pull(a:At ae ah l1 (Fr l2 P) f):At ae ah (l1++l2) P f:=by refine cK a.own λ az z E=>?_;exact⟨a.base,cI az z E.pull,a.keep,a.size,a.drawn,a.os⟩
theorem At.setGen(a:At ae ah ls P f)(m:∀C,dD C P f->dD C r (f.setGen O t)):At ae ah ls r (f.setGen O t):=by(refine cK a.own λ az z b=>?_;obtain⟨E,h3,fS,h4,h5,h6⟩:=b);exact⟨a.base,cI az z ⟨E,h3,fS,h4,h5,m _ h6⟩,a.keep,a.size,a.drawn,a.os⟩
end
end Mine
namespace Mine
theorem At.Wh{f au:cc}{r:List bU}{os:List bV}{d:FA}{m:Mem}(hl:Slots f.heap r os)(aa:∀g∈r,dp.get g=W)(ak:MH ⟨f,gZ⟩ os.length (pre r d) m au){C:List Nat}{ao:List (bU×bV)}(hT:m8 m.T C ao)(he:cz ao=C.map (pre r d))(hd:C.Nodup):At f (λ l=>l∈r) ao m.gh au:=by
 obtain⟨aw,g1,O,g3⟩:=ak.gens;have b:∀v∈C,∃k,m.T.get v=Y k:=by
  have:∀(C:List Nat)(ao:List (bU×bV)),m8 m.T C ao->∀v∈C,∃k,m.T.get v=Y k:=by intro C;induction C with|nil=>intro ao _ v hi;cases hi|cons y C ih=>intro ao hT v hi;cases ao with|nil=>exact hT.elim|cons u ao=>cases hi with|head=>exact⟨_,hT.1⟩|tail _ hi=>exact ih ao hT.2 v hi
  exact this C ao hT
 have lt:∀v∈C,v<m.n:=λ v hi=>by refine eE (b v hi) λ k ho=>?_;exact(ak.sl v k ho).1
 have hn:(C.map (pre r d)).Nodup:=ö.mpr (ï (λ{g l}ha M ay q=>ay (ak.inj g l (lt g ha) (lt l M) q)) hd);have a:∀v,v<m.n->pre r d v∈r\/f.heap.objs.size<=pre r d v:=λ v hi=>by
  by_cases h:v<r.length;·rw[nI r d v r[v] (gv h)];exact .inl (zv h)
  ·exact .inr ((ak.new v (by rw[<-hl.len];exact pz h) hi).resolve_right id)
 refine⟨ak.base,cI (λ l=>aw l\/l∈C.map (pre r d)) (λ l M=>?_) ⟨?_,?_,aw,λ l=>?_,λ l M hf=>?_,g3⟩,λ l k z E=>?_,ak.size,ak.drawn,ak.os⟩;·
  rcases M with M|M;·exact cZ (.inr ((O l M).resolve_left id)) (g1.lt l M) (g1.nk l M)
  ·(refine cK (iN.mp M) λ v hi c=>?_;subst c);exact cZ (a v (lt v hi)) (ak.lt v (lt v hi)) (ak.ap v (lt v hi))
 ·intro q hq;refine eE (ó hq) λ i hk=>?_;refine cK (hT.at i q hk) λ v hi ho=>?_;have e1:(cz ao)[i]?=Y q.1:=by rw[iJ,hk];rfl
  rw[he,iJ,hi]at e1;rw[<-jo e1];exact(ak.sl v _ ho).2
 ·rw[he];exact hn
 ·rw[he];exact Or.comm
 ·rw[he]at M;(refine cK (iN.mp M) λ v hi j=>?_;subst j);exact g1.ns _ hf v (lt v hi) rfl
 ·refine ak.keep l k z (λ y hj e=>E ?_) id;have p:y<r.length:=by rw[hl.len];exact hj
  rw[e,nI r d y r[y] (gv p)];exact zv p
noncomputable def Yv{A:Type}(C:List Nat)(k:Cfg A×Mem):List bU×Cfg A×List (Option bV)×GP:=(k.2.ob.map (·.1),k.1,C.map k.2.T.get,k.2.gh)
noncomputable def Yu{A:Type}(x:FA)(b:A)(os:List bV)(P:GP)(k:Cfg A×Mem):List bU×Cfg A×List (Option bV)×GP:=(k.2.ob.map (λ u=>x u.2), .b (.pure b),os.map Y,P)
theorem tV:∀{C:List Nat}{p:List bU}{os:List bV},C.map Q.get=os.map Y->p.length=C.length->m8 Q C (p.zip os)/\cz (p.zip os)=p|[],[],[],_,_=>⟨trivial,rfl⟩|v::C,g::p,k::os,e,r=>by rw[ir,ir]at e;injection e with e1 e2;refine eA (tV e2 (p:=p) (by simpa using r)) λ z E=>?_;exact⟨⟨e1,z⟩,by show g::cz (p.zip os)=_;rw[E]⟩|[],_::_,_,_,r=>by simp at r|_::_,[],_,_,r=>by simp at r|[],[],_::_,e,_=>by simp at e|_::_,_::_,[],e,_=>by simp at e
noncomputable abbrev rn(l:Bool){A:Type}(D:cD A)(af H:Nat)(ay:List Nat)(sm:List iG)(r:List (bU×bV))(γ:GP)(y:cN)(d:FA)(p:FD):Cfg A×Mem:=run (cx l) (pre (cz r) d) p y W af H (.b D) (fB (fg r) ay sm γ)
noncomputable def fl{A:Type}:List (List A)->List A|[]=>[]|[g]=>g|g::r=>g++fl r
theorem ł{A:Type}:∀aj:List (List A),fl aj=aj.flatten|[]=>rfl|[g]=>(md _).symm|g::l::r=>by show g++fl (l::r)=_;rw[ł (l::r)];rfl
theorem EZ{A:Type}(aj:List (List A))(u:List Nat)(a:u.isPerm (iQ aj.length)=U):(fl aj).Perm (fl (u.map λ v=>aj.getD v [])):=by
 rw[ł,ł];have e:(iQ aj.length).map (λ v=>aj.getD v [])=aj:=by refine La (by simp) λ v z E=>?_;rw[L9,KO,wB,gv E];rfl
 have q:=((Lk.mp a).map λ v=>aj.getD v []).symm;rw[e]at q;exact q.flatten
noncomputable def nd(l H:Nat):Nat->List Nat:=@ŋ (λ j=>Nat->List Nat) (λ j=>[]) (λ j ih b=>(b%l)::ih (b/l)) H
abbrev kP:Type:=cN×GP×Sm×List (bU×Option bV)
abbrev lg:Type:=List Nat×(Rc->kP)
noncomputable def ng(m:List Nat)(x:FA)(q:Rc):kP:=(q.c,q.gh,q.sm,m.map λ y=>(x y,q.T.get y))
noncomputable def uB(e:List lg)(x:FA)(H:List Rc):Nat×List kP:=(H.length,(H.zip e).map λ u=>ng u.2.1 x u.1)
noncomputable def uA(e:List lg)(H:List Rc):Nat×List kP:=(e.length,(H.zip e).map λ u=>u.2.2 u.1)
noncomputable def Ë(x:FA)(F:Rc->Prop):List lg->Prop|[]=>True|u::r=>(∀q,ng u.1 x q=u.2 q->F q)/\Ë x F r
theorem si{F:Rc->Prop}:∀{e:List lg}{H:List Rc},uB e x H=uA e H->Ë x F e->∀c∈H,F c
 |[],[],_,_,_,hx=>nomatch hx
 |u::e,q::H,a,aa,c,hx=>by
  refine eA (eo a) λ z E=>?_;rw[List.zip_cons_cons,ir,ir]at E;injection E with E h3;rcases fw.mp hx with rfl|hx;·exact aa.1 _ E
  ·refine si (e:=e) (H:=H) ?_ aa.2 c hx;exact Prod.ext (by have:H.length+1=e.length+1:=z;exact De this) h3
 |[],_::_,a,_,_,_=>by cases(eo a).1
 |_::_,[],_,_,_,hx=>nomatch hx
structure Qi where
 js:List Nat
 sp:FA->FD->Rc->kP
 sm:FA->FD->Sm
 ok:∀x p q,ng js x q=sp x p q->cy x q
noncomputable def ij(t:List Qi)(x:FA)(p:FD):List lg:=t.reverse.map λ v=>(v.js,v.sp x p)
theorem FE{F:Rc->Prop}:∀{r:List lg},(∀u∈r,∀q,ng u.1 x q=u.2 q->F q)->Ë x F r|[],_=>trivial|u::_,a=>⟨a u (.head _),FE λ q hq=>a q (.tail _ hq)⟩
theorem tW(t:List Qi)(x:FA)(p:FD):Ë x (cy x) (ij t x p):=FE λ u hp=>by(refine cK (iN.mp hp) λ v _ a=>?_;subst a);exact v.ok x p
theorem kJ(e:ng m x q=c):q.c=c.1:=congrArg (·.1) e
theorem nt(e:ng m x q=c):q.gh=c.2.1:=congrArg (·.2.1) e
theorem kI(e:ng m x q=c):q.sm=c.2.2.1:=congrArg (·.2.2.1) e
theorem yC(e:ng m x q=c):(m.map λ y=>(x y,q.T.get y))=c.2.2.2:=congrArg (·.2.2.2) e
theorem kG(e:ng (y::m) x q=c)(a:c.2.2.2=(g,k)::r):x y=g/\q.T.get y=k:=eo (rZ ((yC e).trans a)).1
theorem rv(e:ng (y::i::m) x q=c)(a:c.2.2.2=(g,k)::(l,o')::r):x i=l/\q.T.get i=o':=eo (rZ (rZ ((yC e).trans a)).2).1
theorem Í(e:ng (y::i::r::m) x q=c)(a:c.2.2.2=(g,k)::(l,o')::(B,P)::ai):x r=B/\q.T.get r=P:=eo (rZ (rZ (rZ ((yC e).trans a)).2).2).1
noncomputable def bo{o:Type}(C:Bool->o):o×o:=(C U,C X)
theorem qX{o:Type}{C O:Bool->o}(a:bo C=bo O):∀l,C l=O l|U=>(eo a).1|X=>(eo a).2
noncomputable abbrev ic(t:List Qi):List iG:=t.map (·.sm)
noncomputable abbrev vZ(l:Bool)(B:cN)(v:Nat)(r:List bU)(os:List bV)(γ:GP)(H:Nat)(ay:List Nat)(u:List iG)(g:FA)(p:FD):Cfg dX×Mem:=run (cx l) (pre r g) p fW W v H (.k (.pure (.again B)) fW [] W .pure) (fB os ay u γ)
noncomputable def dL(r:List lg)(x:FA)(C:List Nat)(k:Cfg dX×Mem):List bU×Cfg dX×List (Option bV)×GP×Nat×List kP:=(k.2.ob.map (·.1),k.1,C.map k.2.T.get,k.2.gh,uB r x k.2.rc)
noncomputable def dR(r:List lg)(x:FA)(m:dX)(os:List bV)(γ:GP)(k:Cfg dX×Mem):List bU×Cfg dX×List (Option bV)×GP×Nat×List kP:=(k.2.ob.map (λ u=>x u.2), .b (.pure m),os.map Y,γ,uA r k.2.rc)
noncomputable abbrev kN(r:List bU)(g:FA)(b:List Nat):FA:=λ i=>pre r g (b.getD i 0)
noncomputable abbrev dN(m:List Nat)(_:FA)(p:FD):FD:=λ i=>p (m.getD i 0)
abbrev wt(p:FD)(m:List Nat):FD:=λ i=>p (m.getD i 0)
theorem b_:∀{os:List bV}{A:List Nat}{i:Nat},A.map Q.get=os.map Y->A.all (ju n0)=U->(∀y v,A[y]?=Y v->C (i+y)=b v)->ur Q b C n0 os A i|[],[],_,_,_,_=>trivial|k::os,v::A,i,e,a,hf=>by rw[ir,ir]at e;injection e with e1 e2;rw[List.all_cons,ox]at a;exact iC e1 (hf 0 v rfl) a.1 (b_ e2 a.2 λ y i' hj=>by rw[D7,LK 1];exact hf (y+1) i' hj)|[],_::_,_,e,_,_=>by cases e|_::_,[],_,e,_,_=>by cases e
theorem DS:∀{m:List Nat}{os:List bV}{v:Nat},m.length=os.length->(lC v os.length).map Q.get=os.map Y->oN Q [] m os v|[],_,_,_,_=>trivial|y::m,k::os,v,r,e=>by rw[ma,L7,ir,ir]at e;injection e with e1 e2;exact⟨.inr e1,DS (De r) e2⟩|_::_,[],_,r,_=>by cases r
section
variable{x:FA}{d:Rc}
noncomputable def qFL(B:cN)(sm:Sm)(H:Nat)(ay:List Nat)(t:List Qi)(b:List Nat)(g:FA)(p:FD)(γ:GP)(l:Bool):=dL (ij t (pre [] g) p) (pre [] g) b (vZ l B sm.room [] [] γ H ay (ic t) g p)
noncomputable def qFR(B:cN)(sm:Sm)(H:Nat)(ay:List Nat)(t:List Qi)(b m:List Nat)(g:FA)(p:FD)(γ:GP)(l:Bool):=dR (ij t (pre [] g) p) (pre [] g) (sm.res (dP sm.nn (kN [] g b)) (dC sm.nd (wt p m))) (sm.new (dP sm.nn (kN [] g b)) (dC sm.nd (wt p m))) γ (vZ l B sm.room [] [] γ H ay (ic t) g p)
theorem PK(ae:d.sm=sm)(e:dL (ij t (pre [] g) p) (pre [] g) b k=dR (ij t (pre [] g) p) (pre [] g) (sm.res (dP sm.nn (kN [] g b)) (dC sm.nd (wt p m))) (sm.new (dP sm.nn (kN [] g b)) (dC sm.nd (wt p m))) γ k)(hu:sm.up=(λ j j=>[]))(hg:sm.gh=W)(hl:kq b.length sm.nn=U)(hd:b.Nodup):ž d [] g γ k (kN [] g b) (wt p m) [] b:=by
 subst ae;refine eA (eo e) λ e1 e=>?_;refine eA (eo e) λ e2 e=>?_;refine eA (eo e) λ e3 e=>?_;refine eA (eo e) λ e4 O=>?_;have D:(d.sm.new (dP d.sm.nn (kN [] g b)) (dC d.sm.nd (wt p m))).length=d.sm.nn:=by have:=congrArg zK e3;rw[gi,gi]at this;rw[<-this];exact tD hl
 exact⟨e1,si O (tW t _ p),e2,by rw[hu];trivial,trivial,b_ e3 (ù.mpr λ v j=>Nat.ble_eq_true_of_le (oz v)) (λ y v hj=>by show pre [] g (b.getD (0+y) 0)=_;rw[lj,wB,hj];rfl),D,hd,by rw[hg];exact e4⟩
theorem dJ(hc:d.c=B)(ae:d.sm=sm)(H:Nat)(ay:List Nat)(t:List Qi)(b m:List Nat)(a:(λ g p γ=>bo (qFL B sm H ay t b g p γ))=λ g p γ=>bo (qFR B sm H ay t b m g p γ))(hu:sm.up=(λ j j=>[]):=by rfl)(hg:sm.gh=W:=by rfl)(hl:kq b.length sm.nn=U:=by rfl)(hd:b.Nodup:=by decide):cy x d:=Nk hc (ps:=[]) trivial .nil H ay (ic t) λ g p γ j=>(Hv _ _ [] b (PK ae (by rw[ae];exact qX (congrFun (congrFun (congrFun a g) p) γ) b1) hu hg hl hd))
end
end Mine
namespace Mine
section
variable{x:FA}{d:Rc}{ps:List (Nat×bU×bV)}{f:cc}{fp:AP}
noncomputable def lI(d:Rc)(B:cN)(ps:List (Nat×bU×bV))(f:cc)(fp:AP):Prop:=∃(r:List bU)(os:List bV)(C:AP)(γ:GP)(H:Nat)(ay:List Nat)(u:List iG),Slots f.heap r os/\r.Nodup/\(∀c∈r,d.sm.gs=U/\fp c)/\(∀c,C c->(d.sm.gs=U/\fp c)/\c∉r)/\dD C γ f/\∀(g:FA)(p:FD),∃D o A b m,xH d ps r g f.gens (run (cx b1) (pre (dY ps++r) g) p fW W d.sm.room H (.k (.pure (.again B)) fW [] W .pure) (fB (objs ps++os) ay u γ)) D o A b m
theorem mn(hc:d.c=B)(aa:eH x d ps)(hd:(nums ps).Nodup)(ae:∀(f:cc)(fp:AP),dD fp d.gh f->lI d B ps f fp):cy x d:=Ee hc aa hd _ (λ s J=>by show(s.mark W).handled=W;rw[xb J];exact J) (λ J a=>û J a) λ f fp j j hC=>ae f fp hC
abbrev HT:Type:=List bU×Cfg dX×List (Option bV)×List (Option bV)×List (Option bV)×GP×Nat×List kP
noncomputable def hL(r:List lg)(x:FA)(n0:Nat)(b m:List Nat)(k:Cfg dX×Mem):HT:=(k.2.ob.map (·.1),k.1,(lC 0 n0).map k.2.T.get,b.map k.2.T.get,m.map k.2.T.get,k.2.gh,uB r x k.2.rc)
noncomputable def hR(r:List lg)(x:FA)(m:dX)(a o1 o2:List bV)(γ:GP)(k:Cfg dX×Mem):HT:=(k.2.ob.map (λ u=>x u.2), .b (.pure m),a.map Y,o1.map Y,o2.map Y,γ,uA r k.2.rc)
noncomputable def hFL(B:cN)(sm:Sm)(ps:List (Nat×bU×bV))(l1:List (bU×bV))(γ:GP)(H:Nat)(ay:List Nat)(t:List Qi)(b m:List Nat)(g:FA)(p:FD)(l:Bool):HT:=hL (ij t (pre (dY ps++cz l1) g) p) (pre (dY ps++cz l1) g) ps.length b m (vZ l B sm.room (dY ps++cz l1) (objs ps++fg l1) γ H ay (ic t) g p)
noncomputable def hFR(B:cN)(sm:Sm)(ps:List (Nat×bU×bV))(l1:List (bU×bV))(γ:GP)(H:Nat)(ay:List Nat)(t:List Qi)(b:List Nat)(o:FA->FD->Nat->Dr)(os:FA->FD->List bV)(a:FA->FD->GP)(g:FA)(p:FD)(l:Bool):HT:=hR (ij t (pre (dY ps++cz l1) g) p) (pre (dY ps++cz l1) g) (sm.res (dP sm.nn (kN (dY ps++cz l1) g b)) (dC sm.nd (o g p))) (objs ps) (sm.new (dP sm.nn (kN (dY ps++cz l1) g b)) (dC sm.nd (o g p))) (os g p) (a g p) (vZ l B sm.room (dY ps++cz l1) (objs ps++fg l1) γ H ay (ic t) g p)
noncomputable def yt(n0:Nat)(b:List Nat):List Nat->Bool|[]=>U|v::r=>ju n0 v&&Nat.xQ v b&&yt n0 b r
theorem EE:∀{m:List Nat}{os:List bV},m.map Q.get=os.map Y->yt n0 b m=U->vS Q n0 b m=U|[],_,_,_=>rfl|v::m,k::os,e,a=>by rw[ir,ir]at e;injection e with e1 e2;unfold yt at a;rw[ox,ox]at a;unfold vS;rw[a.1.1,a.1.2,e1,EE e2 a.2];rfl|_::_,[],e,_=>by cases e
noncomputable def rK(sm:Sm):FA->FD->GP:=match sm.gh with|Y u=>u|W=>λ j j j j=>True
set_option tactic.hygienic true in theorem Ŝ(a:sm.gs=U):sm.gh=Y (rK sm):=by
 unfold rK;unfold Sm.gs at a;split at a;·rename_i u e;rw[e]
 ·cases a
theorem Qz{sm:Sm}{r:List bU}{t:List Qi}{b m:List Nat}{o:FD}{g:FA}{p:FD}{γ:GP}{os:List bV}{gs:Array eY}{k:Cfg dX×Mem}(ae:d.sm=sm)(e:hL (ij t (pre (dY ps++r) g) p) (pre (dY ps++r) g) ps.length b m k=hR (ij t (pre (dY ps++r) g) p) (pre (dY ps++r) g) (sm.res (dP sm.nn (kN (dY ps++r) g b)) (dC sm.nd o)) (objs ps) (sm.new (dP sm.nn (kN (dY ps++r) g b)) (dC sm.nd o)) os γ k)(hp:∀C c,γ C c->Ba k.2.T (pre (dY ps++r) g) C c m->m8 k.2.T m ((m.map (pre (dY ps++r) g)).zip os)->cz ((m.map (pre (dY ps++r) g)).zip os)=m.map (pre (dY ps++r) g)->rK sm (dP sm.nn (kN (dY ps++r) g b)) (dC sm.nd o) (λ l=>C l\/l∈m.map (pre (dY ps++r) g)) c)(F:sm.gs=U)(hu:sm.up=(λ j j=>[]))(hl:kq b.length sm.nn=U)(hn:b.all (ju ps.length)=U)(ha:yt ps.length b m=U)(hd:b.Nodup):xH d ps r g gs k (kN (dY ps++r) g b) o [] b m:=by
 subst ae;refine eA (eo e) λ e1 e=>?_;refine eA (eo e) λ e2 e=>?_;refine eA (eo e) λ e3 e=>?_;refine eA (eo e) λ e4 e=>?_;refine eA (eo e) λ O e=>?_;refine eA (eo e) λ M B=>?_;have D:(d.sm.new (dP d.sm.nn (kN (dY ps++r) g b)) (dC d.sm.nd o)).length=d.sm.nn:=by have:=congrArg zK e4;rw[gi,gi]at this;rw[<-this];exact tD hl
 refine eA (tV O (p:=m.map (pre (dY ps++r) g)) (gi _)) λ q1 q2=>?_;exact⟨e1,si B (tW t _ p),e2,by rw[hu];trivial,by rw[hu];exact DS (by simp) (by rw[gi];exact e3),b_ e4 hn (λ y v hj=>by show pre _ g (b.getD (0+y) 0)=_;rw[lj,wB,hj];rfl),D,hd,EE O ha,by rw[Ŝ F];exact λ C c hx J=>hp C c (M▸hx) J q1 q2⟩
theorem lI.of(ae:d.sm=sm)(hF:Fr (l1++ak) P fp f)(H:Nat)(ay:List Nat)(t:List Qi)(b:List Nat)(o:FA->FD->Nat->Dr)(m:List Nat)(os:FA->FD->List bV)(e:FA->FD->List (bU×bV))(r:FA->FD->GP)(a:(λ g p=>bo (hFL B sm ps l1 (Fr ak P) H ay t b m g p))=λ g p=>bo (hFR B sm ps l1 (Fr ak P) H ay t b o os (λ g p=>Fr (e g p) (r g p)) g p))(hp:∀g p C c,Fr ((m.map (pre (dY ps++cz l1) g)).zip (os g p)++e g p) (r g p) C c->rK sm (dP sm.nn (kN (dY ps++cz l1) g b)) (dC sm.nd (o g p)) C c)(F:sm.gs=U:=by rfl)(hu:sm.up=(λ j j=>[]):=by rfl)(hl:kq b.length sm.nn=U:=by rfl)(hn:b.all (ju ps.length)=U:=by rfl)(ha:yt ps.length b m=U:=by rfl)(hd:b.Nodup:=by decide)(s:m.Nodup:=by decide):lI d B ps f fp:=by
 obtain⟨z,E,fS,h3,h4,h5⟩:=hF.push;have O:d.sm.gs=U:=by rw[ae];exact F
 exact zB (cz l1) (fg l1) fS (Fr ak P) H ay (ic t) z.slots E (λ c hx=>⟨O,(h3 c).mpr (.inl hx)⟩) (λ c hx=>⟨⟨O,(h3 c).mpr (.inr hx)⟩,λ hm=>h4 c hm hx⟩) h5 (λ g p=>(Ś _ (o g p) [] b m (Qz ae (by rw[ae];exact qX (congrFun (congrFun a g) p) b1) (λ C c hx J q1 q2=>hp g p _ c (Fr.abs J hx q2 q1 s)) F hu hl hn ha hd)))
end
end Mine
namespace Mine
section
variable{x:FA}{d:Rc}{ps:List (Nat×bU×bV)}
noncomputable def yn(n0:Nat)(n:List Nat):List Nat:=(iQ n0).filter λ i=>!n.contains i
theorem DT:∀{m:List Nat}{os:List bV}{v:Nat},m.length=os.length->(∀i y k,m[i]?=Y y->os[i]?=Y k->(C.any λ u=>kq u.1 y)=U\/Q.get (v+i)=Y k)->oN Q C m os v|[],_,_,_,_=>trivial|y::m,k::os,v,r,a=>⟨a 0 y k rfl rfl,DT (De r) λ i b o' z E=>by rw[D7,LK 1];exact a (i+1) b o' z E⟩|_::_,[],_,r,_=>by cases r
theorem FZ:∀{C:List (Nat×bV)}{A:List Nat},A.map Q.get=C.map (λ u=>Y u.2)->C.map (λ u=>Y u.1)=A.map (λ v=>m[v]?)->tA Q m C A|[],_,_,_=>trivial|u::C,v::A,e,a=>by rw[ir,ir]at e a;injection e with e1 e2;injection a with z E;exact cZ z.symm e1 (FZ e2 E)|_::_,[],e,_=>by cases e
abbrev GT:Type:=List bU×Cfg dX×List (Option bV)×List (Option bV)×List (Option bV)×GP×Nat×List kP
noncomputable def gL(r:List lg)(x:FA)(a n b:List Nat)(k:Cfg dX×Mem):GT:=(k.2.ob.map (·.1),k.1,a.map k.2.T.get,n.map k.2.T.get,b.map k.2.T.get,k.2.gh,uB r x k.2.rc)
noncomputable def gR(r:List lg)(x:FA)(a:List (Option bV))(sm:Sm)(s:FA)(e:FD)(k:Cfg dX×Mem):GT:=(k.2.ob.map (λ u=>x u.2), .b (.pure (sm.res s e)),a,(sm.up s e).map (λ u=>Y u.2),(sm.new s e).map Y,rK sm s e,uA r k.2.rc)
noncomputable def gFL(B:cN)(sm:Sm)(ps:List (Nat×bU×bV))(γ:GP)(H:Nat)(ay:List Nat)(t:List Qi)(n b:List Nat)(g:FA)(p:FD)(l:Bool):GT:=gL (ij t (pre (dY ps++[]) g) p) (pre (dY ps++[]) g) (yn ps.length n) n b (vZ l B sm.room (dY ps++[]) (objs ps++[]) γ H ay (ic t) g p)
noncomputable def gFR(B:cN)(sm:Sm)(ps:List (Nat×bU×bV))(γ:GP)(H:Nat)(ay:List Nat)(t:List Qi)(n b:List Nat)(o:FA->FD->Nat->Dr)(g:FA)(p:FD)(l:Bool):GT:=gR (ij t (pre (dY ps++[]) g) p) (pre (dY ps++[]) g) ((yn ps.length n).map λ i=>(objs ps)[i]?) sm (dP sm.nn (kN (dY ps++[]) g b)) (dC sm.nd (o g p)) (vZ l B sm.room (dY ps++[]) (objs ps++[]) γ H ay (ic t) g p)
theorem QG(ae:d.sm=sm)(e:gL (ij t (pre (dY ps++[]) g) p) (pre (dY ps++[]) g) (yn ps.length n) n b k=gR (ij t (pre (dY ps++[]) g) p) (pre (dY ps++[]) g) ((yn ps.length n).map λ i=>(objs ps)[i]?) sm (dP sm.nn (kN (dY ps++[]) g b)) (dC sm.nd o) k)(F:sm.gs=U)(hu:∀g af,(sm.up g af).map (λ u=>Y u.1)=n.map λ v=>(nums ps)[v]?)(hl:kq b.length sm.nn=U)(hn:b.all (ju ps.length)=U)(s:b.Nodup):xH d ps [] g gs k (kN (dY ps++[]) g b) o n b []:=by
 subst ae;refine eA (eo e) λ e1 e=>?_;refine eA (eo e) λ e2 e=>?_;refine eA (eo e) λ e3 e=>?_;refine eA (eo e) λ e4 e=>?_;refine eA (eo e) λ O e=>?_;refine eA (eo e) λ M B=>?_;have D:(d.sm.new (dP d.sm.nn (kN (dY ps++[]) g b)) (dC d.sm.nd o)).length=d.sm.nn:=by have:=congrArg zK O;rw[gi,gi]at this;rw[<-this];exact tD hl
 refine⟨e1,si B (tW t _ p),e2,FZ e4 (hu _ _),DT (by simp) λ i y ob z E=>?_,b_ O hn (λ y v hj=>by show pre _ g (b.getD (0+y) 0)=_;rw[lj,wB,hj];rfl),D,s,rfl,?_⟩;·
  by_cases q:i∈n;·left;have m:=iN.mpr (cI i q z);rw[<-hu (dP d.sm.nn (kN (dY ps++[]) g b)) (dC d.sm.nd o)]at m;refine cK (iN.mp m) λ u hp r=>?_;exact Lb.mpr (cI u hp (by rw[jo r];exact LJ y))
  ·right;have m:i∈yn ps.length n:=List.mem_filter.mpr ⟨CY.mpr (by have:=(ot.mp E).1;rwa[gi]at this),by simp[q]⟩;rw[lj,CE.mp e3 i m];exact E
 ·rw[Ŝ F];intro C c hx _;have j:(λ l=>C l\/l∈([]:List Nat).map (pre (dY ps++[]) g))=C:=funext λ l=>propext ⟨λ a=>a.elim id (λ a=>nomatch a),Or.inl⟩;rw[j,<-M];exact hx
theorem qO(hc:d.c=B)(y:d.gh=γ)(ae:d.sm=sm)(aa:eH x d ps)(hd:(nums ps).Nodup)(H:Nat)(ay:List Nat)(t:List Qi)(n b:List Nat)(o:FA->FD->Nat->Dr)(a:(λ g p=>bo (gFL B sm ps γ H ay t n b g p))=λ g p=>bo (gFR B sm ps γ H ay t n b o g p))(F:sm.gs=U:=by rfl)(hu:∀g af,(sm.up g af).map (λ u=>Y u.1)=n.map λ v=>(nums ps)[v]?:=by intro _ _;rfl)(hl:kq b.length sm.nn=U:=by rfl)(hn:b.all (ju ps.length)=U:=by rfl)(s:b.Nodup:=by decide):cy x d:=mn hc aa hd λ f fp hC=>(zB [] [] fp γ H ay (ic t) trivial .nil (λ j a=>(nomatch a)) (λ c a=>⟨⟨by rw[ae];exact F,a⟩,λ a=>(nomatch a)⟩) (y▸hC) (λ g p=>(Ś _ (o g p) n b [] (QG ae (by rw[ae];exact qX (congrFun (congrFun a g) p) b1) F hu hl hn s))))
end
theorem Ĺ:∀(r:List bU)(d:FA),pre r d r.length=d 0|[],_=>rfl|_::r,d=>Ĺ r d
theorem cj.under(a:cj (af+10) W s)(z:ju B.weight 10=U)(E:ju B.cUnits 30=U):cj af W (s.under B):=⟨a.h,by show s.depth+B.weight+af<_;exact hV (cL z) a.d,by show s.units+B.cUnits+3*af<_;exact hV (cL E) a.u⟩
theorem cj.func(a:cj (af+10) W s):cj af W (s.under (.func l aq)):=a.under ⋯ ⋯
theorem At.has(L:At ae ah ls P f):gy f.heap ls:=by(refine cK L.own λ _ _ b=>?_;obtain⟨a,_⟩:=b);exact a
theorem At.vE(L:At ae ah ls P f):∃fS,dD fS P f/\∀r,dD fS r f->At ae ah ls r f:=by(refine cK L.own λ az z b=>?_;obtain⟨E,h3,fS,h4,h5,h6⟩:=b);exact cI fS h6 (λ r a=>⟨L.base,cI az z ⟨E,h3,fS,h4,h5,a⟩,L.keep,L.size,L.drawn,L.os⟩)
theorem At.drop(a:At ae ah (ls++l2) P f):At ae ah ls P f:=by(refine cK a.own λ az z b=>?_;obtain⟨E,h3,fS,h4,h5,h6⟩:=b);have e:cz (ls++l2)=cz ls++cz l2:=mc;rw[e]at h3 h5;have H:=ow.mp h3;exact⟨a.base,cI (λ l=>l∈cz ls\/fS l) (λ l M=>z l ((h4 l).mpr (by rw[e,fJ];exact M.elim (λ q=> .inl (.inl q)) .inr))) ⟨λ q hq=>E q (fJ.mpr (.inl hq)),H.1,fS,λ l=>ua,λ l M=>h5 l (fJ.mpr (.inl M)),h6⟩,a.keep,a.size,a.drawn,a.os⟩
theorem At.pm(L:At ae ah ls P f)(aj:List (List (bU×bV)))(u:List Nat)(e:ls=fl aj:=by rfl)(a:u.isPerm (iQ aj.length)=U:=by rfl):At ae ah (fl (u.map λ v=>aj.getD v [])) P f:=(e▸L).perm (EZ aj u a)
theorem At.to(L:At ae ah ls P f)(e:ls=ao:=by kernel_rfl):At ae ah ao P f:=e▸L
theorem At.pk(L:At ae ah ls P f)(aj:List (List (bU×bV)))(u:List Nat)(e:ls=fl aj:=by kernel_rfl)(e':fl (u.map λ v=>aj.getD v [])=ao:=by kernel_rfl)(a:u.isPerm (iQ aj.length)=U:=by kernel_rfl):At ae ah ao P f:=(L.pm aj u e a).to e'
noncomputable def ixL(ls:List (bU×bV))(u:List Nat):List (bU×bV):=u.map (λ v=>ls.getD v (0,⟨.none,W, .plain,#[]⟩))++ls.drop u.length
theorem At.ix(L:At ae ah ls P f)(u:List Nat)(a:(ixL ls u,u.isPerm (iQ u.length),ju u.length ls.length)=(ao,U,U):=by kernel_rfl):At ae ah ao P f:=by
 refine eA (eo a) λ z E=>?_;refine eA (eo E) λ E h3=>?_;refine L.perm ?_;rw[<-z];have e:(iQ u.length).map (λ v=>ls.getD v (0,⟨.none,W, .plain,#[]⟩))=ls.take u.length:=La (by rw[gi,CF,List.length_take,Nat.min_eq_left (cL h3)]) λ v z E=>by rw[L9,KO,List.getElem_take,wB,gv];rfl
 have q:=((Lk.mp E).map λ v=>ls.getD v (0,⟨.none,W, .plain,#[]⟩)).symm;rw[e]at q;have j:=q.append_right (ls.drop u.length);rw[List.take_append_drop]at j;exact j
theorem At.zero(M:Base f.heap)(ah:∀l,fp l->l<f.heap.objs.size/\dp.get l=W)(hC:dD fp P f):At f fp [] P f:=At.start M ah ⟨λ j a=>(nomatch a), .nil,fp,λ j=>⟨.inr,λ a=>a.resolve_left λ q=>nomatch q⟩,λ j a=>(nomatch a),hC⟩
theorem At.kt(L:At ae ah ls P f)(a:g∈cz ls):dp.get g=W:=by(refine cK L.own λ az z b=>?_;obtain⟨_,_,fS,h4,_⟩:=b);exact(z g ((h4 g).mpr (.inl a))).2.2
theorem At.raw(L:At ae ah ((g,k)::ls) P f)(i:∀l ob,l≠g->f.heap.get? l=Y ob->n.heap.get? l=Y ob)(a:n.heap.get? g=Y o')(hz:f.heap.objs.size<=n.heap.objs.size)(hd:n.drawn=f.drawn)(ho:n.os=f.os)(m:∀C,dD C P f->¬C g->dD C P n):At ae ah ((g,o')::ls) P n:=by
 (refine cK L.own λ az z c=>?_;obtain⟨E,h3,fS,h4,h5,h6⟩:=c);have d:=z g ((h4 g).mpr (.inl (.head _)));have b:∀{l ob},dp.get l=Y ob->l≠g:=λ q e=>by rw[e,d.2.2]at q;cases q
 refine⟨λ l ob q=>i l ob (b q) (L.base l ob q),cI az (λ l M=>(cZ (z l M).1 (fm (z l M).2.1 hz) (z l M).2.2)) ⟨λ q hq=>?_,h3,fS,h4,h5,m fS h6 (h5 g (.head _))⟩,λ l ob q1 q2=>i l ob (λ e=>?_) (L.keep l ob q1 q2),dZ L.size hz,hd.trans L.drawn,ho.trans L.os⟩;·
  rcases fw.mp hq with rfl|hq;·exact a
  ·exact i q.1 q.2 (λ e=>(gI.mp h3).1 (show g∈cz ls from e▸jd hq)) (E q (.tail _ hq))
 ·subst e;exact d.1.elim q2 λ q=>jq _ (fm (fc q1) q)
section
variable{ae f au:cc}{ah:AP}{ls ao:List (bU×bV)}{P:GP}
theorem At.over(L:At ae ah ls P f)(aV:At f (λ l=>l∈cz ls) ao (λ j c=>c.gens=f.gens) au):At ae ah ao P au:=by
 (refine cK L.own λ az z a=>?_;obtain⟨_,_,fS,h4,h5,h6⟩:=a);(refine cK aV.own λ af g1 b=>?_;obtain⟨k1,k2,n,g4,g5,m⟩:=b);have F:=λ l M=>g1 l ((g4 l).mpr (.inl M));refine⟨aV.base,cI (λ l=>l∈cz ao\/fS l) (λ l M=>?_) ⟨k1,k2,fS,λ j=>ua,λ l M hf=>?_,h6.sub (λ g k ha ho=>aV.keep g k ho λ hm=>h5 g hm ha) m.now⟩,λ l k q1 q2=>aV.keep l k (L.keep l k q1 q2) λ hm=>?_,dZ L.size aV.size,aV.drawn.trans L.drawn,aV.os.trans L.os⟩;·
  rcases M with M|M;·exact⟨(F l M).1.elim (λ q=>(z l ((h4 l).mpr (.inl q))).1) λ q=> .inr (dZ L.size q),(F l M).2⟩
  ·have q:=z l ((h4 l).mpr (.inr M));exact cZ q.1 (fm q.2.1 aV.size) q.2.2
 ·exact(F l M).1.elim (λ q=>h5 l q hf) λ q=>jq _ (fm (z l ((h4 l).mpr (.inr hf))).2.1 q)
 ·exact(z l ((h4 l).mpr (.inl hm))).1.elim q2 λ q=>jq _ (fm (fc q1) q)
noncomputable abbrev ya(C:bU):List dd:=fP (d9 C).body
noncomputable abbrev â(C A:bU):cN:= .func (ya C) (dq C A)
noncomputable abbrev IK(Q:BT)(H:Nat):HK:=λ v=>⟨(d5 Q H v).h,(d5 Q H v).t⟩
abbrev ET:Type:=Option (Cfg dX)×List bU×List Rc×List (Option bV)×Option bV×GP
noncomputable def eL(H:Nat)(k:Option (Cfg dX×Mem)):ET:=(stC k,(stM k).ob.map (·.1),(stM k).rc,(lC 0 H).map (stM k).T.get,(stM k).T.get H,(stM k).gh)
noncomputable def eR(C:bU)(fo:HK->bV)(r:List bU)(os:List bV)(d:FA)(γ:GP)(k:Option (Cfg dX×Mem)):ET:=(Y (.k (dn (â C (d 0))) (â C (d 0)) [] W .pure),(stM k).ob.map (λ u=>pre r d u.2),[],os.map Y,Y (fo (IK (stM k).T os.length)),γ)
noncomputable def i7(C:bU)(o:kF)(v:Nat)(ay:List Nat)(fo:HK->bV)(ls:List (bU×bV)):Prop:=(λ d p γ=>bo λ l=>eL (fg ls).length (lW l (cz ls) (fg ls) v C o ay γ d p))=λ d p γ=>bo λ l=>eR C fo (cz ls) (fg ls) d γ (lW l (cz ls) (fg ls) v C o ay γ d p)
variable{s:cR}{ax:RS}
theorem At.enter(J:cj (v+10) W s)(L:At ae ah ls P f)(aw:i7 C o v ay fo ls)(a:∀A kk au,f.heap.objs.size<=A->cj v W (s.under (.func aj (i A)))->At ae ah ((A,fo kk)::ls) P au->je (bZ bY w) (s.under (.func aj (i A))) (.func aj (i A)) (dj aj (i A)) (λ fl aJ=>ax (.ok (.ret (match fl with| .ret b=>b|_=> .none))) aJ) (λ e aJ=>cm (bZ bY w) (s.under (.func aj (i A))) (pH (i A) e) (λ j aM=>ax (.error e) aM) (λ j j=>False) aJ) au)(hS:aj=ya C:=by rfl)(k:i=dq C:=by rfl):dQ (bZ bY w) s (.call (R C) o) ax f:=by
 subst hS k;(refine cK L.own λ Fo z m=>?_;obtain⟨E,h3,fS,h4,h5,h6⟩:=m);have aa:=λ g(ha:g∈cz ls)=>(z g ((h4 g).mpr (.inl ha))).2.2;have e:=λ γ d p=>eo (qX (congrFun (congrFun (congrFun aw d) p) γ) b1);have e':=λ γ d p=>eo (e γ d p).2;have l:=λ γ d p=>eo (e' γ d p).2;refine D2 (J.less (zu _ _)) L.base E.slots aa h3 (ay:=ay) (t:=ya C) (aq:=λ d=>dq C (d 0)) (λ γ d p=>(e γ d p).1) (λ γ d p=>(e' γ d p).1) (λ γ d p=>(l γ d p).1) λ d p au ak=>?_;refine eA (eo (l (λ j c=>c.gens=f.gens) d p).2) λ q1 q2=>?_;refine eA (eo q2) λ q2 q3=>?_;refine eA (tV q1 (p:=cz ls) (by rw[KN,gi,gi])) λ t1 t2=>?_;have q:(cz ls).zip (fg ls)=ls:=by rw[List.zip_map'];exact List.map_id _
 rw[q]at t1;have hl:(fg ls).length=(cz ls).length:=by rw[gi,gi]
 have aV:=At.Wh E.slots aa ak (C:=(fg ls).length::lC 0 (fg ls).length) (ao:=(d 0,fo (IK (stM (lW b1 (cz ls) (fg ls) v C o ay (λ j c=>c.gens=f.gens) d p)).T (fg ls).length))::ls) ⟨q2,t1⟩ (by show d 0::cz ls=pre (cz ls) d _::_;rw[hl,Ĺ,<-zQ]) (gI.mpr ⟨λ hm=>absurd (List.mem_range'_1.mp hm).2 (by rw[lj];exact jq _),zq⟩);rw[q3]at aV;refine a (d 0) _ au ?_ (cj.func J) (L.over aV);(refine cK aV.own λ af g1 r=>?_;obtain⟨_,k2,n,g4,_,_⟩:=r);exact(g1 (d 0) ((g4 _).mpr (.inl (.head _)))).1.resolve_left (gI.mp k2).1
abbrev VT(A:Type):Type:=List bU×List Rc×Cfg A×List (Option bV)×GP
noncomputable def vL{A:Type}(H:Nat)(k:Cfg A×Mem):VT A:=(k.2.ob.map (·.1),k.2.rc,k.1,(lC 0 H).map k.2.T.get,k.2.gh)
noncomputable def vR{A:Type}(r:List bU)(os:List bV)(d:FA)(γ:GP)(b:A)(k:Cfg A×Mem):VT A:=(k.2.ob.map (λ u=>pre r d u.2),[], .b (.pure b),os.map Y,γ)
noncomputable abbrev jX{A:Type}(ai:List (bU×bV))(hv:Option bX)(af H:Nat)(D:cD A)(ay:List Nat)(b:A):Prop:=∀(B:cN)(d:FA)(p:FD)(γ:GP),ux (cz ai) (fg ai) d γ b (run (cx b1) (pre (cz ai) d) p B hv af H (.b D) (fB (fg ai) ay [] γ))
theorem EX:∀{os:List bV}{v:Nat},(lC v os.length).map Q.get=os.map Y->sM Q os v|[],_,_=>trivial|_::_,_,e=>by rw[ma,L7,ir,ir]at e;injection e with e1 e2;exact⟨e1,EX e2⟩
theorem kA{A:Type}{D:cD A}{b:A}(a:(λ B d p γ=>bo λ l=>vL (fg ai).length (run (cx l) (pre (cz ai) d) p B hv af H (.b D) (fB (fg ai) ay [] γ)))=λ B d p γ=>bo λ l=>vR (cz ai) (fg ai) d γ b (run (cx l) (pre (cz ai) d) p B hv af H (.b D) (fB (fg ai) ay [] γ)):=by kernel_rfl):jX ai hv af H D ay b:=λ B d p γ=>by refine eA (eo (qX (congrFun (congrFun (congrFun (congrFun a B) d) p) γ) b1)) λ e1 e=>?_;refine eA (eo e) λ e2 e=>?_;refine eA (eo e) λ e3 e=>?_;exact⟨e1,e2,e3,EX (eo e).1,(eo e).2⟩
end
section
variable{x:FA}{d:Rc}{f n:cc}{fp:AP}{ax:RS}{m b ak:List (bU×bV)}{P:GP}
theorem At.Hz(G:zi d x ax fp f)(L:At f (λ l=>l∈cz m\/fp l) (m++(b++ak)) P n)(ae:d.sm=sm)(g:FA)(af:FD)(hn:fg b=sm.new (dP sm.nn g) (dC sm.nd af))(ha:cz b=(iQ sm.nn).map g)(r:∀u∈sm.up (dP sm.nn g) (dC sm.nd af),(x u.1,u.2)∈m)(aQ:∀q∈m,(∃u∈sm.up (dP sm.nn g) (dC sm.nd af),x u.1=q.1)\/f.heap.get? q.1=Y q.2)(b9:∀q∈m,¬fp q.1)(t:∀q∈m,q.1<f.heap.objs.size)(hP:∀C,Fr ak P C n->rK sm (dP sm.nn g) (dC sm.nd af) C n)(c:∀C,Fr ak P C n->dD C (rK sm (dP sm.nn g) (dC sm.nd af)) n)(F:sm.gs=U:=by rfl):ax (sm.res (dP sm.nn g) (dC sm.nd af)) n:=by
 subst ae;refine cK L.own λ az z E=>?_;have v:=E.has;have hN:=E.nd;refine ue E.open λ _ _ _ f1 g1 O=>?_;refine ue O.open λ _ B g3 fS g4 g5=>?_;have o:b.length=d.sm.nn:=by have:=congrArg zK ha;simpa using this
 have p:∀i,i<d.sm.nn->∃q,b[i]?=Y q/\q.1=g i:=λ i hk=>by
  have aJ:i<b.length:=by rw[o];exact hk
  refine(cI (b[i]) (gv aJ) ?_);have:=congrArg (·[i]?) ha;simp only[iJ,gv aJ,zo hk,Li]at this;exact jo this
 have s:∀i,i<d.sm.nn->g i∈cz b:=λ i hk=>by refine cK (p i hk) λ q a e=>?_;rw[<-e];exact jd (pv a)
 have A:∀l∈cz b,l∉cz m:=λ l M hm=>g1 l (g3 l M)|>.2 hm;refine G g af n (by rw[<-hn,gi];exact o) (λ i k hk=>?_) (λ i hk=>?_) (λ i k' hk aJ e=>?_) (λ u hp=>?_) (λ l k M ay ah=>?_) L.size ?_ L.drawn L.os;·rw[<-hn,iJ]at hk;refine cK (jc.mp hk) λ q hq e=>?_;have hl:=(ot.mp hq).1;rw[o]at hl;refine cK (p i hl) λ q' y e'=>?_;obtain rfl:=jo (hq.symm.trans y);rw[<-e',<-e];exact v q (fJ.mpr (.inr (fJ.mpr (.inl (pv hq)))))
 ·rcases(z _ (g1 _ (g3 _ (s i hk))).1).1 with(a|a)|a;·exact absurd a (A _ (s i hk))
  ·exact .inr ⟨F,a⟩
  ·exact .inl a
 ·refine cK (p i hk) λ q a e1=>?_;refine cK (p k' aJ) λ q' h' e2=>?_;have hl:i<(cz b).length:=by rw[gi,o];exact hk
  exact(KY hl B).mp (by rw[iJ,iJ,a,h'];exact congrArg Y (e1.trans (e.trans e2.symm)))
 ·exact v _ (fJ.mpr (.inl (r u hp)))
 ·by_cases hm:l∈cz m;·
   (refine cK (iN.mp hm) λ q hq j=>?_;subst j);rcases aQ q hq with⟨u,hp,e⟩|a;·exact absurd e.symm (ay u hp)
   ·rw[<-M,a];exact v q (fJ.mpr (.inl hq))
  ·exact L.keep l k M λ a=>a.elim hm (ah F)
 ·unfold yg;rw[Ŝ F];refine(cI fS (λ l M=>?_) (c fS g5));refine eA (g4 l M) λ q1 q2=>?_;refine eA (g1 l q1) λ q3 q4=>?_;refine(cZ ?_ (z l q3).2.1 (λ i hk e=>q2 (e▸s i hk)));rcases(z l q3).1 with(a|a)|a;·exact absurd a q4
  ·exact .inl a
  ·exact .inr a
theorem At.give(G:zi d x ax fp f)(L:At f fp (b++ak) P n)(ae:d.sm=sm)(g:FA)(af:FD)(hn:fg b=sm.new (dP sm.nn g) (dC sm.nd af))(ha:cz b=(iQ sm.nn).map g)(c:∀C,Fr ak P C n->dD C (rK sm (dP sm.nn g) (dC sm.nd af)) n)(hu:sm.up (dP sm.nn g) (dC sm.nd af)=[]:=by rfl)(F:sm.gs=U:=by rfl):ax (sm.res (dP sm.nn g) (dC sm.nd af)) n:=At.Hz (m:=[]) G (by have e:(λ l=>l∈cz []\/fp l)=fp:=funext λ l=>propext ⟨λ a=>a.elim (λ a=>nomatch a) id,Or.inr⟩;rw[e];exact L) ae g af hn ha (by rw[hu];exact λ j a=>nomatch a) (λ j a=>nomatch a) (λ j a=>nomatch a) (λ j a=>nomatch a) (λ C a=>(c C a).now) c F
theorem At.WQ(G:zi d x ax fp f)(L:At f (λ l=>l∈cz m) (m++b) (λ t c=>c.gens=f.gens) n)(ae:d.sm=sm)(g:FA)(af:FD)(hn:fg b=sm.new (dP sm.nn g) (dC sm.nd af))(ha:cz b=(iQ sm.nn).map g)(r:∀u∈sm.up (dP sm.nn g) (dC sm.nd af),(x u.1,u.2)∈m)(aQ:∀q∈m,(∃u∈sm.up (dP sm.nn g) (dC sm.nd af),x u.1=q.1)\/f.heap.get? q.1=Y q.2)(F:sm.gh=W:=by rfl):ax (sm.res (dP sm.nn g) (dC sm.nd af)) n:=by
 subst ae;refine cK L.own λ az z E=>?_;have v:=E.has;refine ue E.open λ _ _ _ f1 g1 O=>?_;have O:Fr (b++[]) (λ t c=>c.gens=f.gens) f1 n:=by rw[md];exact O
 refine ue O.open λ _ B g3 fS g4 g5=>?_;have o:b.length=d.sm.nn:=by have:=congrArg zK ha;simpa using this
 have p:∀i,i<d.sm.nn->∃q,b[i]?=Y q/\q.1=g i:=λ i hk=>by
  have aJ:i<b.length:=by rw[o];exact hk
  refine(cI (b[i]) (gv aJ) ?_);have:=congrArg (·[i]?) ha;simp only[iJ,gv aJ,zo hk,Li]at this;exact jo this
 have s:∀i,i<d.sm.nn->g i∈cz b:=λ i hk=>by refine cK (p i hk) λ q a e=>?_;rw[<-e];exact jd (pv a)
 refine G g af n (by rw[<-hn,gi];exact o) (λ i k hk=>?_) (λ i hk=>?_) (λ i k' hk aJ e=>?_) (λ u hp=>?_) (λ l k M ay ah=>?_) L.size ?_ L.drawn L.os;·rw[<-hn,iJ]at hk;refine cK (jc.mp hk) λ q hq e=>?_;have hl:=(ot.mp hq).1;rw[o]at hl;refine cK (p i hl) λ q' y e'=>?_;obtain rfl:=jo (hq.symm.trans y);rw[<-e',<-e];exact v q (fJ.mpr (.inr (pv hq)))
 ·refine eA (g1 _ (g3 _ (s i hk))) λ q1 q2=>?_;exact .inl ((z _ q1).1.resolve_left q2)
 ·refine cK (p i hk) λ q a e1=>?_;refine cK (p k' aJ) λ q' h' e2=>?_;have hl:i<(cz b).length:=by rw[gi,o];exact hk
  exact(KY hl B).mp (by rw[iJ,iJ,a,h'];exact congrArg Y (e1.trans (e.trans e2.symm)))
 ·exact v _ (fJ.mpr (.inl (r u hp)))
 ·by_cases hm:l∈cz m;·
   (refine cK (iN.mp hm) λ q hq A=>?_;subst A);rcases aQ q hq with⟨u,hp,e⟩|a;·exact absurd e.symm (ay u hp)
   ·rw[<-M,a];exact v q (fJ.mpr (.inl hq))
  ·exact L.keep l k M hm
 ·unfold yg;rw[F];obtain⟨_,_,_,_,_,j⟩:=g5;exact j.now
theorem At.re(L:At ae ah ls P n)(e:ae.heap=au.heap:=by rfl)(e2:ae.drawn=au.drawn:=by rfl)(e3:ae.os=au.os:=by rfl):At au ah ls P n:=⟨L.base,by rw[<-e];exact L.own,by rw[<-e];exact L.keep,by rw[<-e];exact L.size,L.drawn.trans e2,L.os.trans e3⟩
noncomputable def aN(r:List bU):FA:=λ i=>r.getD i 0
noncomputable def tN(r:List cp):FD:=λ i=>⟨r.getD i 0,default,[],0⟩
end
noncomputable def sP:List (Nat×bU×bV)->List (Option bV)->List (Nat×bV)|[],_=>[]|u::ps,i=>match i.headD W with|Y k=>(u.1,k)::sP ps i.tail|W=>sP ps i.tail
noncomputable def qa:List (Nat×bU×bV)->List (Option bV)->List (bU×bV)|[],_=>[]|u::ps,i=>(u.2.1,(i.headD W).getD u.2.2)::qa ps i.tail
section
variable{x:FA}{d:Rc}{f:cc}
theorem İ:∀(ps:List (Nat×bU×bV))(i:List (Option bV)),cz (qa ps i)=dY ps|[],_=>rfl|u::ps,i=>congrArg (u.2.1::·) (İ ps i.tail)
theorem uc(hs:IV d.T d.n x f.heap):∀{ps:List (Nat×bU×bV)}{i:List (Option bV)},eH x d ps->(∀o∈sP ps i,(x o.1,o.2)∈qa ps i)/\∀q∈qa ps i,(∃o∈sP ps i,x o.1=q.1)\/f.heap.get? q.1=Y q.2|[],_,_=>⟨λ j a=>(nomatch a),λ j a=>(nomatch a)⟩|u::ps,i,aa=>by obtain⟨z,E⟩:=uc hs (i:=i.tail) aa.2.2;have e:=(hs _ _ aa.1).2;rw[aa.2.1]at e;unfold sP qa;cases i.headD W with|none=>exact⟨λ o hu=> .tail _ (z o hu),λ q hq=>(fw.mp hq).elim (λ a=> .inr (a▸e)) (E q)⟩|some k=>refine⟨λ o hu=>(fw.mp hu).elim (λ a=>?_) λ a=> .tail _ (z o a),λ q hq=>(fw.mp hq).elim (λ a=> .inl ⟨_, .head _,a▸aa.2.1⟩) λ a=>(E q a).imp_left λ⟨o,g,l⟩=>⟨o, .tail _ g,l⟩⟩;rw[a,aa.2.1];exact .head _
theorem vn:∀ps:List (Nat×bU×bV),qa ps []=ps.map (·.2)/\sP ps []=[]|[]=>⟨rfl,rfl⟩|u::ps=>⟨congrArg (u.2::·) (vn ps).1,(vn ps).2⟩
theorem EV(ae:d.sm=sm)(aa:eH x d ps)(hd:(nums ps).Nodup)(a:∀(s:cR)(ax:RS)(f:cc)(fp:AP),cj sm.room W s->(∀(g:FA)(af:FD)(i:List (Option bV))(b ak:List (bU×bV))(P:GP)(n:cc),At f (λ l=>l∈dY ps\/fp l) (qa ps i++(b++ak)) P n->sm.up (dP sm.nn g) (dC sm.nd af)=sP ps i->fg b=sm.new (dP sm.nn g) (dC sm.nd af)->cz b=(iQ sm.nn).map g->(∀C,Fr ak P C n->dD C (rK sm (dP sm.nn g) (dC sm.nd af)) n)->ax (sm.res (dP sm.nn g) (dC sm.nd af)) n)->At f (λ l=>l∈dY ps\/fp l) (ps.map (·.2)) d.gh f->dQ (bZ bY w) s d.c ax f)(F:sm.gs=U:=by rfl):cy x d:=by
 intro s ax f fp J M hs aQ ap ah hC G;have h4:=aa.addr hs;have E:∀l∈dY ps,¬fp l:=λ l M hf=>by rw[dY,h4.1]at M;refine cK (iN.mp M) λ y hj e=>?_;exact ah.ns l hf y (h4.2 y hj) e.symm
 have hh:∀q∈ps.map (·.2),f.heap.get? q.1=Y q.2:=λ q hq=>((uc hs (i:=[]) aa).2 q (by rw[(vn ps).1];exact hq)).elim (λ⟨o,z,_⟩=>by rw[(vn ps).2]at z;exact nomatch z) id;have lt:∀l∈dY ps,l<f.heap.objs.size:=λ l M=>by(refine cK (iN.mp M) λ u hp j=>?_;subst j);exact fc (hh u.2 (jd hp))
 have k:cz (ps.map (·.2))=dY ps:=uY;refine a s ax f fp (ae▸J) (λ g af i b ak P n L hu hn ha c=>?_) (At.start M (λ l M=>M.elim (λ q=>⟨lt l q,aa.own hs ap l q⟩) λ q=>⟨ah.lt l q,ah.nk l q⟩) ⟨hh,k▸aa.nodup hs aQ hd,fp,λ g=>by rw[k],λ g ha=>E g (k▸ha),hC⟩);have m:=İ ps i;exact At.Hz (m:=qa ps i) G (by rw[m];exact L) ae g af hn ha (λ o p=>(uc hs aa).1 o (hu▸p)) (λ q hq=>hu▸(uc hs aa).2 q hq) (λ q hq=>E q.1 (m▸jd hq)) (λ q hq=>lt q.1 (m▸jd hq)) (λ C hf=>(c C hf).now) c F
theorem Eg(ae:d.sm=sm)(aa:eH x d ps)(hd:(nums ps).Nodup)(a:∀(s:cR)(ax:RS)(f:cc),cj sm.room W s->(∀(g:FA)(af:FD)(i:List (Option bV))(b:List (bU×bV))(n:cc),At f (λ l=>l∈dY ps) (qa ps i++b) (λ j c=>c.gens=f.gens) n->sm.up (dP sm.nn g) (dC sm.nd af)=sP ps i->fg b=sm.new (dP sm.nn g) (dC sm.nd af)->cz b=(iQ sm.nn).map g->ax (sm.res (dP sm.nn g) (dC sm.nd af)) n)->At f (λ l=>l∈dY ps) (ps.map (·.2)) (λ j c=>c.gens=f.gens) f->dQ (bZ bY w) s d.c ax f)(F:sm.gh=W:=by rfl):cy x d:=by
 intro s ax f fp J M hs aQ ap ah hC G;have hh:∀q∈ps.map (·.2),f.heap.get? q.1=Y q.2:=λ q hq=>((uc hs (i:=[]) aa).2 q (by rw[(vn ps).1];exact hq)).elim (λ⟨o,z,_⟩=>by rw[(vn ps).2]at z;exact nomatch z) id;have k:cz (ps.map (·.2))=dY ps:=uY;refine a s ax f (ae▸J) (λ g af i b n L hu hn ha=>?_) (At.start M (λ l M=>⟨?_,aa.own hs ap l M⟩) ⟨hh,k▸aa.nodup hs aQ hd,gZ,λ g=>by rw[k];exact⟨.inl,λ a=>a.resolve_right id⟩,λ j j a=>a,λ j j a=>a⟩);·have m:=İ ps i;exact At.WQ (m:=qa ps i) G (by rw[m];exact L) ae g af hn ha (λ o p=>(uc hs aa).1 o (hu▸p)) (λ q hq=>hu▸(uc hs aa).2 q hq) F
 ·(refine cK (iN.mp M) λ u hp e=>?_;subst e);exact fc (hh u.2 (jd hp))
end
noncomputable def cG(y:Nat):cN->cp
 | .call _ ⟨r,_⟩=>match r[y]? with|Y (.str _ D)=>D|Y (.int _ D)=>D|_=>0
 |_=>0
section
noncomputable def qW(B:Rc->cN)(sm:Sm)(l:∀(x:FA)(q:Rc),q.c=B q->q.sm=sm->cy x q):Qi:=⟨[],λ j j q=>(B q,q.gh,sm,[]),λ j j=>sm,λ x j q e=>l x q (kJ e) (kI e)⟩
noncomputable def qB(nm:String)(p:Rc->List bX)(sm:Sm)(l:∀(x:FA)(q:Rc),q.c= .call (.builtin nm) ⟨p q,[]⟩->q.sm=sm->cy x q):Qi:=qW (λ q=> .call (.builtin nm) ⟨p q,[]⟩) sm l
noncomputable def qT(nm:String)(y:Nat)(p:FA->Rc->List bX)(k:Rc->bV)(sm:FA->Sm)(l:∀(x:FA)(q:Rc),q.c= .call (.builtin nm) ⟨p x q,[]⟩->q.sm=sm x->q.T.get y=Y (k q)->cy x q):Qi:=⟨[y],λ x j q=>(.call (.builtin nm) ⟨p x q,[]⟩,q.gh,sm x,[(x y,Y (k q))]),λ x j=>sm x,λ x j q e=>l x q (kJ e) (kI e) (kG e rfl).2⟩
noncomputable def Bk(nm:String)(y i:Nat)(p:FA->Rc->List bX)(k o':FA->Rc->bV)(sm:FA->Sm)(l:∀(x:FA)(q:Rc),q.c= .call (.builtin nm) ⟨p x q,[]⟩->q.sm=sm x->q.T.get y=Y (k x q)->q.T.get i=Y (o' x q)->cy x q):Qi:=⟨[y,i],λ x j q=>(.call (.builtin nm) ⟨p x q,[]⟩,q.gh,sm x,[(x y,Y (k x q)),(x i,Y (o' x q))]),λ x j=>sm x,λ x j q e=>l x q (kJ e) (kI e) (kG e rfl).2 (rv e rfl).2⟩
noncomputable def qA(nm:String)(y:Nat)(g:bU)(p:Rc->List bX)(k:Rc->bV)(sm:Sm)(l:∀(x:FA)(q:Rc),q.c= .call (.builtin nm) ⟨p q,[]⟩->q.sm=sm->q.T.get y=Y (k q)->x y=g->cy x q):Qi:=⟨[y],λ j j q=>(.call (.builtin nm) ⟨p q,[]⟩,q.gh,sm,[(g,Y (k q))]),λ j j=>sm,λ x j q e=>l x q (kJ e) (kI e) (kG e rfl).2 (kG e rfl).1⟩
theorem Ű:∀{m:List Nat}{ps:List (bU×bV)},(m.map λ y=>(x y,q.T.get y))=ps.map (λ u=>(u.1,Y u.2))->eH x q (m.zip ps)|[],_,_=>trivial|_::_,[],_=>trivial|_::_,_::_,e=>(cZ (eo (rZ e).1).2 (eo (rZ e).1).1 (Ű (rZ e).2))
noncomputable def qP(m:List Nat)(ps:FA->List (bU×bV))(B:FA->Rc->cN)(sm:FA->Sm)(l:∀(x:FA)(q:Rc),q.c=B x q->q.sm=sm x->eH x q (m.zip (ps x))->cy x q):Qi:=⟨m,λ x j q=>(B x q,q.gh,sm x,(ps x).map λ u=>(u.1,Y u.2)),λ x j=>sm x,λ x j q e=>l x q (kJ e) (kI e) (Ű (yC e))⟩
noncomputable def Bl(m:List Nat)(ps:List (bU×bV))(B:cN)(γ:GP)(sm:Sm)(l:∀(x:FA)(q:Rc),q.c=B->q.gh=γ->q.sm=sm->eH x q (m.zip ps)->cy x q):Qi:=⟨m,λ j j j=>(B,γ,sm,ps.map λ u=>(u.1,Y u.2)),λ j j=>sm,λ x j q e=>l x q (kJ e) (nt e) (kI e) (Ű (yC e))⟩
noncomputable def sR(y:Nat)(g:bU)(k:bV)(γ:GP)(sm:Sm)(l:∀(x:FA)(q:Rc),q.c= .call (.builtin "generator.__next__") ⟨[R g],[]⟩->q.gh=γ->q.sm=sm->q.T.get y=Y k->x y=g->cy x q):Qi:=⟨[y],λ j j j=>(.call (.builtin "generator.__next__") ⟨[R g],[]⟩,γ,sm,[(g,Y k)]),λ j j=>sm,λ x j q e=>l x q (kJ e) (nt e) (kI e) (kG e rfl).2 (kG e rfl).1⟩
end
abbrev NT(A:Type):Type:=(List bU×Cfg A×List (Option bV)×GP)×Nat×List kP
noncomputable def nL{A:Type}(r:List lg)(x:FA)(C:List Nat)(k:Cfg A×Mem):NT A:=(Yv C k,uB r x k.2.rc)
noncomputable def nR{A:Type}(r:List lg)(x:FA)(b:A)(os:List bV)(γ:GP)(k:Cfg A×Mem):NT A:=(Yu x b os γ k,uA r k.2.rc)
section
variable{ae f:cc}{ah:AP}{l1 ak:List (bU×bV)}{P:GP}{s:cR}{af:Nat}{A:Type}{V:A->cc->Prop}{aw:VS}
abbrev NF(A:Type):Type:=GP->cN->FA->FD->NT A×NT A
noncomputable def Ji(D:cD A)(af H:Nat)(ay:List Nat)(t:List Qi)(r:List (bU×bV))(C:List Nat):NF A:=λ γ y d p=>bo λ l=>nL (ij t (pre (cz r) d) p) (pre (cz r) d) C (rn l D af H ay (ic t) r γ y d p)
noncomputable def Jh(D:cD A)(af H:Nat)(ay:List Nat)(t:List Qi)(r:List (bU×bV))(b:FA->FD->Cfg A×Mem->A)(os:FA->FD->Cfg A×Mem->List bV):NF A:=λ γ y d p=>bo λ l=>nR (ij t (pre (cz r) d) p) (pre (cz r) d) (b d p (rn l D af H ay (ic t) r γ y d p)) (os d p (rn l D af H ay (ic t) r γ y d p)) γ (rn l D af H ay (ic t) r γ y d p)
theorem eZ(J:cj af W s)(L:At ae ah (l1++ak) P f)(D:cD A)(H:Nat)(ay:List Nat)(t:List Qi)(C:List Nat)(b:FA->FD->Cfg A×Mem->A)(os:FA->FD->Cfg A×Mem->List bV)(a:Ji D af H ay t l1 C=Jh D af H ay t l1 b os)(G:∀n d p k,At ae ah ((C.map (pre (cz l1) d)).zip (os d p k)++ak) P n->V (b d p k) n)(hd:C.Nodup:=by decide):cm (bZ bY w) s D V aw f:=by refine GW J (At.push L) D H ay (ic t) (λ d p k=>nL (ij t (pre (cz l1) d) p) (pre (cz l1) d) C k=nR (ij t (pre (cz l1) d) p) (pre (cz l1) d) (b d p k) (os d p k) (Fr ak P) k) (λ y d p=>qX (congrFun (congrFun (congrFun (congrFun a (Fr ak P)) y) d) p) b1) λ d p k Q=>?_;refine eA (eo Q) λ e O=>?_;refine eA (eo e) λ e1 e=>?_;refine eA (eo e) λ e2 e=>?_;refine eA (eo e) λ e3 e4=>?_;refine eA (tV e3 (p:=C.map (pre (cz l1) d)) (gi _)) λ z E=>?_;exact tJ e1 (si O (tW t _ p)) _ C _ _ e2 z E hd e4 (λ n X'=>G n d p k X'.pull)
theorem jT{ai:List (List Nat)}{tl:List Nat}{l1:List Nat->List (bU×bV)}(hL:tl∈ai)(J:cj af W s)(L:At ae ah (l1 tl++ak) P f)(D:cD A)(H:Nat)(ay:List Nat)(t:List Qi)(C:List Nat)(b:FA->FD->Cfg A×Mem->A)(os:List Nat->FA->FD->Cfg A×Mem->List bV)(a:ai.map (λ tl=>Ji D af H ay t (l1 tl) C)=ai.map λ tl=>Jh D af H ay t (l1 tl) b (os tl))(G:∀n d p k,At ae ah ((C.map (pre (cz (l1 tl)) d)).zip (os tl d p k)++ak) P n->V (b d p k) n)(hd:C.Nodup:=by decide):cm (bZ bY w) s D V aw f:=eZ J L D H ay t C b (os tl) (CE.mp a tl hL) G hd
end
section
variable{ae f:cc}{ah:AP}{l1:List (bU×bV)}{P:GP}{s:cR}{af:Nat}{hv:Option bX}{A o:Type}{V:A->cc->Prop}{aw:VS}
abbrev GQ(A o:Type):Type:=List bU×Cfg A×List (Option bV)×GP×o×Nat×List kP
noncomputable def C6(r:List lg)(x:FA)(C:List Nat)(e:o)(k:Cfg A×Mem):GQ A o:=(k.2.ob.map (·.1),k.1,C.map k.2.T.get,k.2.gh,e,uB r x k.2.rc)
noncomputable def C5(r:List lg)(x:FA)(D:cD A)(os:List bV)(γ:GP)(e:o)(k:Cfg A×Mem):GQ A o:=(k.2.ob.map (λ u=>x u.2), .b D,os.map Y,γ,e,uA r k.2.rc)
abbrev pn(A o:Type):Type:=cN->FA->FD->GQ A o×GQ A o
abbrev RO(A o:Type):Type:=FA->FD->Cfg A×Mem->o
noncomputable abbrev rh(l:Bool)(hv:Option bX){A:Type}(D:cD A)(af H:Nat)(ay:List Nat)(sm:List iG)(r:List (bU×bV))(γ:GP)(y:cN)(d:FA)(p:FD):Cfg A×Mem:=run (cx l) (pre (cz r) d) p y hv af H (.b D) (fB (fg r) ay sm γ)
noncomputable def la(hv:Option bX)(D:cD A)(af H:Nat)(ay:List Nat)(t:List Qi)(r:List (bU×bV))(γ:GP)(C:List Nat)(e:RO A o):pn A o:=λ y d p=>bo λ l=>C6 (ij t (pre (cz r) d) p) (pre (cz r) d) C (e d p (rh l hv D af H ay (ic t) r γ y d p)) (rh l hv D af H ay (ic t) r γ y d p)
noncomputable def l9(hv:Option bX)(D:cD A)(af H:Nat)(ay:List Nat)(t:List Qi)(r:List (bU×bV))(γ:GP)(a:FA->FD->GP)(t':RO A (cD A))(os:RO A (List bV))(e:RO A o):pn A o:=λ y d p=>bo λ l=>C5 (ij t (pre (cz r) d) p) (pre (cz r) d) (t' d p (rh l hv D af H ay (ic t) r γ y d p)) (os d p (rh l hv D af H ay (ic t) r γ y d p)) (a d p) (e d p (rh l hv D af H ay (ic t) r γ y d p)) (rh l hv D af H ay (ic t) r γ y d p)
theorem xG(J:cj af hv s)(L:At ae ah l1 P f)(D:cD A)(H:Nat)(ay:List Nat)(t:List Qi)(C:List Nat)(r:FA->FD->GP)(t':RO A (cD A))(os:RO A (List bV))(e e':RO A o)(a:la hv D af H ay t l1 P C e=l9 hv D af H ay t l1 P r t' os e')(G:∀n d p k,e d p k=e' d p k->At ae ah ((C.map (pre (cz l1) d)).zip (os d p k)) (r d p) n->cm (bZ bY w) s (t' d p k) V aw n)(hd:C.Nodup:=by decide):cm (bZ bY w) s D V aw f:=by refine o_ J L D H ay (ic t) (λ d p k=>C6 (ij t (pre (cz l1) d) p) (pre (cz l1) d) C (e d p k) k=C5 (ij t (pre (cz l1) d) p) (pre (cz l1) d) (t' d p k) (os d p k) (r d p) (e' d p k) k) (λ y d p=>qX (congrFun (congrFun (congrFun a y) d) p) b1) λ d p k Q=>?_;refine eA (eo Q) λ e1 Q=>?_;refine eA (eo Q) λ e2 Q=>?_;refine eA (eo Q) λ e3 Q=>?_;refine eA (eo Q) λ e4 Q=>?_;refine eA (eo Q) λ O M=>?_;refine eA (tV e3 (p:=C.map (pre (cz l1) d)) (gi _)) λ z E=>?_;exact tJ e1 (si M (tW t _ p)) _ C _ _ e2 z E hd e4 (λ n X'=>G n d p k O X')
theorem xp(J:cj af hv s)(L:At ae ah l1 P f)(D:cD A)(H:Nat)(ay:List Nat)(t:List Qi)(C:List Nat)(t':RO A (cD A))(os:RO A (List bV))(e e':RO A o)(a:la hv D af H ay t l1 P C e=l9 hv D af H ay t l1 P (λ _ _=>P) t' os e')(G:∀n d p k,e d p k=e' d p k->At ae ah ((C.map (pre (cz l1) d)).zip (os d p k)) P n->cm (bZ bY w) s (t' d p k) V aw n)(hd:C.Nodup:=by decide):cm (bZ bY w) s D V aw f:=xG J L D H ay t C _ t' os e e' a G hd
theorem vz(J:cj af hv s)(L:At ae ah l1 P f)(D:cD A)(H:Nat)(ay:List Nat)(t:List Qi)(C:List Nat)(r:FA->FD->GP)(b:RO A A)(os:RO A (List bV))(e e':RO A o)(a:la hv D af H ay t l1 P C e=l9 hv D af H ay t l1 P r (λ d p k=> .pure (b d p k)) os e')(G:∀n d p k,e d p k=e' d p k->At ae ah ((C.map (pre (cz l1) d)).zip (os d p k)) (r d p) n->V (b d p k) n)(hd:C.Nodup:=by decide):cm (bZ bY w) s D V aw f:=xG J L D H ay t C r _ os e e' a (λ n d p k j X'=>ed (G n d p k j X')) hd
theorem vN(J:cj af hv s)(L:At ae ah l1 P f)(D:cD A)(H:Nat)(ay:List Nat)(t:List Qi)(C:List Nat)(r:GP)(b:RO A A)(os:RO A (List bV))(a:la hv D af H ay t l1 P C (λ _ _ _=>())=l9 hv D af H ay t l1 P (λ _ _=>r) (λ d p k=> .pure (b d p k)) os λ _ _ _=>())(G:∀n d p k,At ae ah ((C.map (pre (cz l1) d)).zip (os d p k)) r n->V (b d p k) n)(hd:C.Nodup:=by decide):cm (bZ bY w) s D V aw f:=vz J L D H ay t C (λ _ _=>r) b os _ _ a (λ n d p k _=>G n d p k) hd
theorem gY(J:cj af hv s)(L:At ae ah l1 P f)(D:cD A)(H:Nat)(ay:List Nat)(t:List Qi)(C:List Nat)(b:RO A A)(os:RO A (List bV))(a:la hv D af H ay t l1 P C (λ _ _ _=>())=l9 hv D af H ay t l1 P (λ _ _=>P) (λ d p k=> .pure (b d p k)) os λ _ _ _=>())(G:∀n d p k,At ae ah ((C.map (pre (cz l1) d)).zip (os d p k)) P n->V (b d p k) n)(hd:C.Nodup:=by decide):cm (bZ bY w) s D V aw f:=vz J L D H ay t C (λ _ _=>P) b os _ _ a (λ n d p k _=>G n d p k) hd
theorem xu(J:cj af W (s.over B fs))(L:At ae ah l1 P f)(D:cD fE)(H:Nat)(ay:List Nat)(t:List Qi)(C:List Nat)(r:FA->FD->GP)(t':RO fE (cD fE))(os:RO fE (List bV))(e e':RO fE o)(a:la W D af H ay t l1 P C e=l9 W D af H ay t l1 P r t' os e')(G:∀n d p k,e d p k=e' d p k->At ae ah ((C.map (pre (cz l1) d)).zip (os d p k)) (r d p) n->da (bZ bY w) s B (t' d p k) fs n F)(hd:C.Nodup:=by decide):da (bZ bY w) s B D fs f F:=by refine seg_at J L D H ay (ic t) (λ d p k=>C6 (ij t (pre (cz l1) d) p) (pre (cz l1) d) C (e d p k) k=C5 (ij t (pre (cz l1) d) p) (pre (cz l1) d) (t' d p k) (os d p k) (r d p) (e' d p k) k) (λ d p=>qX (congrFun (congrFun (congrFun a B) d) p) b1) λ d p k Q=>?_;refine eA (eo Q) λ e1 Q=>?_;refine eA (eo Q) λ e2 Q=>?_;refine eA (eo Q) λ e3 Q=>?_;refine eA (eo Q) λ e4 Q=>?_;refine eA (eo Q) λ O M=>?_;refine eA (tV e3 (p:=C.map (pre (cz l1) d)) (gi _)) λ z E=>?_;exact tJ e1 (si M (tW t _ p)) _ C _ _ e2 z E hd e4 (λ n X'=>G n d p k O X')
theorem qQ(J:cj af W (s.over B fs))(L:At ae ah l1 P f)(D:cD fE)(H:Nat)(ay:List Nat)(t:List Qi)(C:List Nat)(t':RO fE (cD fE))(os:RO fE (List bV))(e e':RO fE o)(a:la W D af H ay t l1 P C e=l9 W D af H ay t l1 P (λ _ _=>P) t' os e')(G:∀n d p k,e d p k=e' d p k->At ae ah ((C.map (pre (cz l1) d)).zip (os d p k)) P n->da (bZ bY w) s B (t' d p k) fs n F)(hd:C.Nodup:=by decide):da (bZ bY w) s B D fs f F:=xu J L D H ay t C (λ _ _=>P) t' os e e' a G hd
end
noncomputable def lq(b:bX):Sm:=⟨1,0,0,λ j j=> .ok (.ret b),λ j j=>[],λ j j=>[],W⟩
noncomputable def mB(v:Int):Sm:=⟨1,0,1,λ j af=> .ok (.ret (I v (af 0).t)),λ j j=>[],λ j j=>[],W⟩
noncomputable def qU(t:cb):Sm:=⟨1,0,1,λ j af=> .ok (.ret (S t (af 0).t)),λ j j=>[],λ j j=>[],W⟩
section
variable{x:FA}{d:Rc}{Q:String}{g:cb}{c:String}{z:FL}{e:bX}{ak:List bX}
theorem zD(l:Slot Q g c)(hT:f.TypeIs e Q)(p:i_ fV c=Y z)(o:vB c ⟨e::ak,[]⟩)(O:vT (z ⟨e::ak,[]⟩) m)(a:m.post (λ b n=>ax (.ok (.ret b)) n) f):dQ (bZ bY w) s (.call (.builtin c) ⟨e::ak,[]⟩) ax f:=kg l.plain p (l.check _ _ _ _ _ _ _ _ hT o (O bY w s ax f a))
theorem vh(l:Slot Q g c)(hT:∀f:cc,f.TypeIs e Q)(p:i_ fV c=Y z)(o:vB c ⟨e::ak,[]⟩)(O:vT (z ⟨e::ak,[]⟩) (.val b))(hc:d.c= .call (.builtin c) ⟨e::ak,[]⟩)(ae:d.sm=lq b):cy x d:=by intro s ax f _ _ _ hs _ _ _ _ G;rw[hc];refine zD l (hT f) p o O ?_;have:=G (λ j=>0) (λ j=>⟨0,⟨0,0,0,0⟩,[],0⟩) f;rw[ae]at this;exact this rfl (λ i k a=>by cases a) (λ i a=>by cases a) (λ i k' a=>by cases a) (λ u hp=>by cases hp) (λ j j a j j=>a) (gz _) rfl rfl rfl
theorem Ed(l:Slot Q g c)(hT:∀f:cc,f.TypeIs e Q)(p:i_ fV c=Y z)(o:vB c ⟨e::ak,[]⟩)(O:vT (z ⟨e::ak,[]⟩) (.int v))(hc:d.c= .call (.builtin c) ⟨e::ak,[]⟩)(ae:d.sm=mB v):cy x d:=by intro s ax f _ _ _ hs _ _ _ _ G;rw[hc];refine zD l (hT f) p o O ?_;have:=G (λ j=>0) (λ j=>⟨f.toks,⟨0,0,0,0⟩,[],0⟩) {f with toks:=f.toks+1};rw[ae]at this;exact this rfl (λ i k a=>by cases a) (λ i a=>by cases a) (λ i k' a=>by cases a) (λ u hp=>by cases hp) (λ j j a j j=>a) (gz _) rfl rfl rfl
theorem N2(l:Slot Q g c)(hT:∀f:cc,f.TypeIs e Q)(p:i_ fV c=Y z)(o:vB c ⟨e::ak,[]⟩)(O:vT (z ⟨e::ak,[]⟩) (.str t))(hy:t.length<=iR)(hc:d.c= .call (.builtin c) ⟨e::ak,[]⟩)(ae:d.sm=qU t):cy x d:=by intro s ax f _ _ _ hs _ _ _ _ G;rw[hc];refine zD l (hT f) p o O ⟨hy,?_⟩;have:=G (λ j=>0) (λ j=>⟨f.toks,⟨0,0,0,0⟩,[],0⟩) {f with toks:=f.toks+1};rw[ae]at this;exact this rfl (λ i k a=>by cases a) (λ i a=>by cases a) (λ i k' a=>by cases a) (λ u hp=>by cases hp) (λ j j a j j=>a) (gz _) rfl rfl rfl
end
noncomputable def fx(b:cb)(B:Nat):Bool:=!(KV b ⟨#[B]⟩ 0 b.length 1).isEmpty
theorem Nd(M:fx b B=l)(hc:d.c= .call (.builtin "str.__contains__") ⟨[S b D,S ⟨#[B]⟩ o],[]⟩)(ae:d.sm=lq (.bool l)):cy x d:=by subst M;exact vh F.slot_str_contains (λ j=>pE _ _ _) F.entry_str_contains (F.args_str_contains_2 _ _) (gives_str_contains _ _ _ _) hc ae
end Mine
namespace Mine
noncomputable def ŗ:cN->cp| .call _ ⟨[_, .int _ D],_⟩=>D|_=>0
noncomputable def ū(y:Nat)(xs:List bX)(b:bX)(e:Nat):Sm:=⟨1,0,0,λ j j=> .ok (.ret b),λ j j=>[(y,lst xs (e+1))],λ j j=>[],W⟩
theorem N3(hc:d.c= .call (.builtin "list.pop") ⟨[R g,I (-1) (ŗ d.c)],[]⟩)(ae:d.sm=ū y xs b e)(hT:d.T.get y=Y (lst (xs++[b]) e))(ha:x y=g)(aq:xs.length<=1048575):cy x d:=by
 intro s ax f _ _ _ hs _ _ _ _ G;have h0:=(hs y _ hT).2;rw[ha,lst_is]at h0;rw[hc];generalize ŗ d.c=D;have O:(⟨xs++[b]⟩:Array bX).size=xs.length+1:=qy;refine zC F.slot_list_pop (cI _ h0 rfl) F.entry_list_pop (F.args_list_pop_2 _ _) (MeetsSeq.list_pop_at g ⟨xs++[b]⟩ e (-1) _ xs.length b ⋯ (by rw[O,MeetsSeq.seqIndex_neg ⋯ (by lia)];congr 1;lia) (by simp) (by rw[O,zJ];exact gB aq)) ⟨h0,?_⟩;have r:(f.heap.update g (ll λ c=>c.eraseIdxIfInBounds xs.length)).get? g=Y (lst xs (e+1)):=by
  rw[ou _ h0 rfl,lst_is];show Y (ll _ _)=_;unfold ll;have e1:((⟨xs++[b]⟩:Array bX).eraseIdxIfInBounds xs.length)=⟨xs⟩:=by apply DJ;simp only[Array.eraseIdxIfInBounds];simp;rw[List.eraseIdx_append_of_length_le (gz _)];simp
  simp only[e1];have:((⟨xs⟩:Array bX).size==(⟨xs++[b]⟩:Array bX).size)=X:=by simp
  simp only[this];rfl
 have o:=rR f.heap g (ll λ c=>c.eraseIdxIfInBounds xs.length);have:=G (λ j=>0) (λ j=>⟨0,⟨0,0,0,0⟩,[],0⟩) {f with heap:=f.heap.update g (ll λ c=>c.eraseIdxIfInBounds xs.length)};rw[ae]at this;refine this rfl (λ i k a=>by cases a) (λ i a=>by cases a) (λ i k' a=>by cases a) (λ u hp=>?_) (λ l k M ay j=>?_) (pD o.1.symm) rfl rfl rfl;·cases hp with|head=>show(f.heap.update g _).get? (x y)=_;rw[ha];exact r|tail _ hp=>cases hp
 ·have:l≠g:=by rw[<-ha];exact ay (y,_) (.head _)
  exact(o.2 l this).trans M
end Mine
namespace Mine
noncomputable def EW(y:Nat)(e:Nat):Sm:=⟨1,0,0,λ j j=> .ok (.ret .none),λ j j=>[(y,lst [] (e+1))],λ j j=>[],W⟩
theorem LY(hc:d.c= .call (.builtin "list.clear") ⟨[R g],[]⟩)(ae:d.sm=EW y e)(hT:d.T.get y=Y (lst (b::xs) e))(ha:x y=g)(aq:(b::xs).length<=1048575):cy x d:=by
 intro s ax f _ _ _ hs _ _ _ _ G;have h0:=(hs y _ hT).2;rw[ha,lst_is]at h0;rw[hc];refine zC F.slot_list_clear (cI _ h0 rfl) F.entry_list_clear (F.args_list_clear_1 _) (AutoSeq1.list_clear_list_0 g ⟨b::xs⟩ e (by rw[zJ];exact dZ aq ⋯)) ⟨h0,?_⟩;have r:(f.heap.update g (ll λ j=>#[])).get? g=Y (lst [] (e+1)):=by
  rw[ou _ h0 rfl,lst_is];show Y (ll _ _)=_;unfold ll;have:((#[]:Array bX).size==(⟨b::xs⟩:Array bX).size)=X:=by simp
  simp only[this];rfl
 have o:=rR f.heap g (ll λ j=>#[]);have:=G (λ j=>0) (λ j=>⟨0,⟨0,0,0,0⟩,[],0⟩) {f with heap:=f.heap.update g (ll λ j=>#[])};rw[ae]at this;refine this rfl (λ i k a=>by cases a) (λ i a=>by cases a) (λ i k' a=>by cases a) (λ u hp=>?_) (λ l k M ay j=>?_) (pD o.1.symm) rfl rfl rfl;·cases hp with|head=>show(f.heap.update g _).get? (x y)=_;rw[ha];exact r|tail _ hp=>cases hp
 ·have:l≠g:=by rw[<-ha];exact ay (y,_) (.head _)
  exact(o.2 l this).trans M
noncomputable def ģ:bX->cb->Bool->cD bX:=@b2q
theorem LM:@FH=ģ:=b2y
noncomputable abbrev xg:cb:=bW #[99,104,97,114]
noncomputable def chR(b1:Bool)(v:cN)(d:FA)(p:FD)(γ:GP)(b:uO)(B:Nat)(ay:List Nat):Cfg bX×Mem:=run (cx b1) (pre [b.a,b.d] d) p v W 40 1000 (.b (ģ (R b.a) xg U)) (fB [inst 204 b.d,gf b B] ay [] γ)
end Mine
namespace Mine
noncomputable def HN:List Nat:=[1,0,0,0,0,1,0,0,0,1,1,0,2]
structure IY(v:cN)(d:FA)(p:FD)(γ:GP)(b:uO)(B:Nat)(k:Cfg bX×Mem):Prop where
 ob:k.2.ob.map (·.1)=k.2.ob.map (λ u=>pre [b.a,b.d] d u.2)
 rc:k.2.rc=[]
 cfg:k.1= .b (.pure (S ⟨#[B]⟩ b.tc))
 s0:k.2.T.get 0=Y (inst 204 b.d)
 s1:k.2.T.get 1=Y (gf b B)
 gh:k.2.gh=γ
theorem b1g(b1:Bool)(v:cN)(d:FA)(p:FD)(γ:GP)(b:uO)(B:Nat):IY v d p γ b B (chR b1 v d p γ b B HN):=by cases b1<;>exact{ob:=⋯,rc:=⋯,cfg:=⋯,s0:=⋯,s1:=⋯,gh:=⋯}
theorem OY(J:cj 40 W s)(hB:Base f.heap)(z:f.heap.get? b.a=Y (inst 204 b.d))(E:f.heap.get? b.d=Y (gf b B))(o1:dp.get b.a=W)(o2:dp.get b.d=W)(ay:b.a≠b.d)(G:∀n,(∀l k,f.heap.get? l=Y k->n.heap.get? l=Y k)->f.heap.objs.size<=n.heap.objs.size->n.gens=f.gens->n.drawn=f.drawn->n.os=f.os->V (S ⟨#[B]⟩ b.tc) n):cm (bZ bY w) s (FH (R b.a) xg U) V aw f:=by
 rw[show@FH=ģ from LM];refine ņ J hB (r:=[b.a,b.d]) (os:=[inst 204 b.d,gf b B]) (cZ z E trivial) (λ g ha=>by
  simp only[fw,m9,or_false]at ha;rcases ha with rfl|rfl;·exact o1
  ·exact o2) (by simp[ay]) _ 1000 HN [] (λ j c=>c.gens=f.gens) q7.no tU λ v d p=>?_;suffices key:∀k:Cfg bX×Mem,IY v d p (λ j c=>c.gens=f.gens) b B k->k.2.ob.map (·.1)=k.2.ob.map (λ u=>pre [b.a,b.d] d u.2)/\(∀c∈k.2.rc,cy (pre [b.a,b.d] d) c)/\∃t,k.1= .b (.pure t)/\∀n,MH ⟨f,gZ⟩ 2 (pre [b.a,b.d] d) k.2 n->V t n from key _ (b1g b1 v d p (λ j c=>c.gens=f.gens) b B);intro k Q;refine(ŷ Q.ob (w_ Q.rc) _ Q.cfg (λ n ak=>G n (λ l ob M=>?_) ak.size (by obtain⟨_,_,_,a⟩:=ak.gens;replace a:=a.now;rw[Q.gh]at a;exact a) ak.drawn ak.os));by_cases q1:l=b.a;·subst q1;rw[z]at M;rw[<-M];exact(ak.sl 0 _ Q.s0).2
 by_cases q2:l=b.d;·subst q2;rw[E]at M;rw[<-M];exact(ak.sl 1 _ Q.s1).2
 refine ak.keep l ob M (λ y hj=>?_) id;match y,hj with|0,_=>exact q1|1,_=>exact q2|y+2,a=>exact absurd (show y+2<2 from a) (Bm (gB a))
noncomputable def qp:List dd:=fP (d9 251).body
noncomputable def valOf:dd->Expr| .Assign _ b _=>b|_=>default
noncomputable def b1m:Expr->Expr| .Call _ (g::_) _ _=>g|_=>default
noncomputable def gE:Expr:=b1m (valOf ((qp).headD default))
noncomputable def J':Expr->Expr| .GeneratorExp e _ _ _=>e|_=>default
noncomputable def qo:Expr->Ly| .GeneratorExp _ (O::_) _ _=>O|_=>⟨default,default,[],0⟩
noncomputable def qK:Expr->Scope| .GeneratorExp _ _ f _=>f|_=>default
noncomputable def xU:Expr->dK| .GeneratorExp _ _ _ u=>u|_=>default
noncomputable def Y_:Expr->cb| .Name c _=>c|_=>default
noncomputable def X_:Expr->dK| .Name _ u=>u|_=>default
noncomputable def w4:Expr->Expr| .Attribute e _ _=>e|_=>default
noncomputable def kC:Expr->dK| .Attribute _ _ u=>u|_=>default
theorem HB:gE= .GeneratorExp (.Attribute (.Name (Y_ (qo gE).target) (X_ (w4 (J' gE)))) xg (kC (J' gE))) [⟨.Name (Y_ (qo gE).target) (X_ (qo gE).target),(qo gE).iter,[],0⟩] (qK gE) (xU gE):=⋯
end Mine
namespace Mine
theorem NN:(qK gE).isCoroutine=X/\(qK gE).kind= .function/\(qK gE).names.lookup (".0" :cb)=Y NameKind.local/\(qK gE).names.lookup (Y_ (qo gE).target)=Y .local:=iC ⋯ ⋯ ⋯ ⋯
theorem QF:(qK gE).names.all (λ t=>t.2 != .cell)=U:=⋯
theorem QE(A:bU):closureFor (qK gE) (dq 251 A)=pure []:=⋯
theorem QD(A:bU)(c:bX):genFold (qo gE).iter (dq 251 A) c=pure c:=⋯
noncomputable def vC(P:GP)(v B:Nat):Sm:=⟨110,4,6,λ g j=> .ok (.ret (R (g 3))),λ j j=>[],λ g af=>[df [] 0,eB (g 0) (v+1) (af 0).t (af 2).t (af 5).t,gf ⟨g 3,g 2,⟨(af 3).h,(af 3).t⟩,⟨(af 4).h,(af 4).t⟩,(af 1).t,g 1⟩ B,inst 204 (g 2)],Y λ j j=>P⟩
noncomputable def ug(P:GP):Sm:=⟨110,2,0,λ g j=> .error (R (g 1)),λ j j=>[],λ g j=>[dk [],pN (g 0)],Y λ j j=>P⟩
structure fQ(c:cb)(p:bU)(oG:bV)(ao:FG):Prop where
 next:∀{x:FA}{Q:BT}{H E v B:Nat},c.cps[v]?=Y B->Q.get E=Y oG->x E=p->cy x ⟨.call (.builtin "generator.__next__") ⟨[R p],[]⟩,Q,H,ao v,vC (ao (v+1)) v B⟩
 stop:∀{x:FA}{Q:BT}{H E v:Nat},(v=c.cps.size\/v=c.cps.size+1)->Q.get E=Y oG->x E=p->cy x ⟨.call (.builtin "generator.__next__") ⟨[R p],[]⟩,Q,H,ao v,ug (ao (c.cps.size+1))⟩
 ext:∀{v:Nat}{C:AP}{f n:cc},dD C (ao v) f->(∀g k,C g->f.heap.get? g=Y k->n.heap.get? g=Y k)->(∀(y:Nat)(t:eY),f.gens[y]?=Y t->n.gens[y]?=Y t)->(gw f.gens->gw n.gens)->dD C (ao v) n
 bare:∀{v:Nat}{C:AP}{f:cc},dD C (ao v) f->gw f.gens
theorem Fm(aj:fQ c p oG ao)(a:Fr ls (ao v) C f):gw f.gens:=by obtain⟨_,_,_,_,_,q⟩:=a;exact aj.bare q
structure eG where
 v:uO
 dl:bU
 tn:cp
 t1:cp
 t2:cp
noncomputable def lz(c:cb)(i:Nat)(t:eG):List (bU×bV):=[(t.dl,df [] 0),(t.v.loc,eB t.dl (i+1) t.tn t.t1 t.t2),(t.v.d,gf t.v (c.cps.getD i 0)),(t.v.a,inst 204 t.v.d)]
noncomputable def dx(c:cb):Nat->List eG->List (bU×bV)|_,[]=>[]|i,t::d=>lz c i t++dx c (i+1) d
noncomputable def refs(ys:List eG):List bX:=ys.map λ t=>R t.v.a
noncomputable def dm(ps:Array bX):bV:=⟨.none,W, .fields ps,#[]⟩
noncomputable def jV(ps:Array bX):Prop:=ps=#[]\/∃B:bU,ps=#[mA (xU gE).line,mA (xU gE).col,R B]
noncomputable def sI(a aC p:bU)(c:cb)(oG:bV)(i0 b:Nat)(ys e:List eG)(e1 e2:Nat)(ps:Array bX):List (bU×bV):=[(a,lst (refs e) e1),(aC,lst (refs ys) e2),(p,oG),(246,dm ps)]++(dx c i0 ys++dx c b e)
noncomputable def Î:Bool->Nat|U=>1|X=>0
inductive IW(a aC p:bU)(c:cb)(oG:bV)(ao:FG)(i0 b:Nat)(pb:Bool)(C:AP)(f:cc):Prop|mk(ys e:List eG)(e1 e2 u:Nat)(ps:Array bX)(q:jV ps)(z:i0+ys.length=b)(j:e.length=Î pb)(z3:b+e.length<=c.cps.size)(g:(u=b+e.length\/(b=c.cps.size/\u=c.cps.size+1)))(d:Fr (sI a aC p c oG i0 b ys e e1 e2 ps) (ao u) C f):IW a aC p c oG ao i0 b pb C f
noncomputable abbrev cH(o:dz)(c:cb)(oG:bV)(ao:FG)(i0 b:Nat)(pb:Bool):GP:=IW o.fN o.er o.aG c oG ao i0 b pb
theorem cH.eF(a:cH o c oG ao i0 b pb C f):dD C (cH o c oG ao i0 b pb) f:=by obtain⟨ys,e,e1,e2,u,ps,h0,z,E,h3,h4,h5⟩:=a;exact λ n k1 k2=>⟨ys,e,e1,e2,u,ps,h0,z,E,h3,h4,h5.eF n k1 k2⟩
theorem Dk(c:cb):∀(ys:List eG)(i:Nat)(g:List eG),dx c i (ys++g)=dx c i ys++dx c (i+ys.length) g|[],i,g=>rfl|t::ys,i,g=>by show lz c i t++dx c (i+1) (ys++g)=lz c i t++dx c (i+1) ys++dx c (i+(ys.length+1)) g;rw[Dk c ys (i+1) g,CI,show i+1+ys.length=i+(ys.length+1)from by simp+arith only]
noncomputable def cu(c b:cb)(v:Nat):Bool:=match c.cps[v]? with|Y B=>fx b B|W=>X
noncomputable def cq(c b:cb)(v:Nat):Nat:=bif cu c b v then v+1 else v
noncomputable def kY(c b:cb)(v:Nat):Bool:=!cu c b v&&decide (v<c.cps.size)
noncomputable def sA(v:Nat)(P:GP)(l:Bool):Sm:=⟨v,0,0,λ j j=> .ok (.ret (.bool l)),λ j j=>[],λ j j=>[],Y λ j j=>P⟩
theorem fQ.Wk(aj:fQ c p oG ao)(hc:d.c= .call (.builtin "generator.__next__") ⟨[R p],[]⟩)(hg:d.gh=Fr ls (ao v))(ae:d.sm=vC (Fr ls (ao (v+1))) v B)(hx:c.cps[v]?=Y B)(hT:d.T.get E=Y oG)(ha:x E=p):cy x d:=by obtain⟨H,P,rn,rg,rs⟩:=d;cases hc;cases hg;cases ae;exact cy.xy (aj.next hx hT ha)
theorem fQ.Ū(aj:fQ c p oG ao)(hc:d.c= .call (.builtin "generator.__next__") ⟨[R p],[]⟩)(hg:d.gh=Fr ls (ao v))(ae:d.sm=ug (Fr ls (ao (c.cps.size+1))))(hx:v=c.cps.size\/v=c.cps.size+1)(hT:d.T.get E=Y oG)(ha:x E=p):cy x d:=by obtain⟨H,P,rn,rg,rs⟩:=d;cases hc;cases hg;cases ae;exact cy.xy (aj.stop hx hT ha)
section
noncomputable def dh(b:cb)(B:Nat)(l:Bool)(a:fx b B=l:=by kernel_rfl):Qi:=qB "str.__contains__" (λ q=>[S b (cG 0 q.c),S ⟨#[B]⟩ (cG 1 q.c)]) (lq (.bool l)) λ j j=>Nd a
noncomputable def pV(y:Nat)(xs:List bX)(b:FA->bX)(e:Nat)(hl:xs.length<=1048576):Qi:=qT "list.append" y (λ x j=>[R (x y),b x]) (λ j=>lst xs e) (λ x=>Ŭ y xs (b x) e) λ j j z E h3=>Eh z E h3 rfl hl
noncomputable def Ie(y:Nat)(xs:List bX)(b:FA->bX)(e:Nat)(hl:xs.length<=1048575):Qi:=⟨[y],λ x j q=>(.call (.builtin "list.pop") ⟨[R (x y),I (-1) (ŗ q.c)],[]⟩,q.gh,ū y xs (b x) e,[(x y,Y (lst (xs++[b x]) e))]),λ x j=>ū y xs (b x) e,λ j j j a=>N3 (kJ a) (kI a) (kG a rfl).2 rfl hl⟩
section
variable{c:cb}{p:bU}{oG:bV}{ao:FG}(aj:fQ c p oG ao)
noncomputable def sF(ls:List (bU×bV))(E v B:Nat)(a:c.cps[v]?=Y B):Qi:=⟨[E],λ j j j=>(.call (.builtin "generator.__next__") ⟨[R p],[]⟩,Fr ls (ao v),vC (Fr ls (ao (v+1))) v B,[(p,Y oG)]),λ j j=>vC (Fr ls (ao (v+1))) v B,λ j j j e=>aj.Wk (kJ e) (nt e) (kI e) a (kG e rfl).2 (kG e rfl).1⟩
noncomputable def Ii(ls:List (bU×bV))(E v:Nat)(a:v=c.cps.size\/v=c.cps.size+1):Qi:=⟨[E],λ j j j=>(.call (.builtin "generator.__next__") ⟨[R p],[]⟩,Fr ls (ao v),ug (Fr ls (ao (c.cps.size+1))),[(p,Y oG)]),λ j j=>ug (Fr ls (ao (c.cps.size+1))),λ j j j e=>aj.Ū (kJ e) (nt e) (kI e) a (kG e rfl).2 (kG e rfl).1⟩
end
end
theorem Mj(ys:List eG)(t:eG):refs (ys++[t])=refs ys++[R t.v.a]:=mc
theorem tT(ys:List eG):(refs ys).length=ys.length:=gi _
theorem E4(a:c.cps[v]?=Y B):cu c b v=fx b B:=by unfold cu;rw[a]
theorem MQ(a:c.cps.size<=v):cu c b v=X:=by unfold cu;rw[Cv a]
theorem ec(a:cu c b v=U):cq c b v=v+1:=by unfold cq;rw[a];rfl
theorem cU(a:cu c b v=X):cq c b v=v:=by unfold cq;rw[a];rfl
theorem GX(a:cu c b v=U):kY c b v=X:=by unfold kY;rw[a];rfl
theorem GZ(a:cu c b v=X)(hi:v<c.cps.size):kY c b v=U:=by unfold kY;rw[a];simp[hi]
theorem GY(a:cu c b v=X)(hi:c.cps.size<=v):kY c b v=X:=by unfold kY;rw[a];simp[hi]
theorem len_one{A:Type}{r:List A}(a:r.length=1):∃t,r=[t]:=List.length_eq_one_iff.mp a
theorem xl{c:cb}{v B:Nat}(a:c.cps[v]?=Y B):c.cps.getD v 0=B:=by rw[Co,a];rfl
noncomputable def lA(o:dz)(pb d:List bX)(t:eG)(B e1 e2:Nat):List (bU×bV):=[(o.fN,lst pb e1),(o.er,lst d e2),(t.v.d,gf t.v B),(t.v.a,inst 204 t.v.d)]
noncomputable def rA(o:dz)(oG:bV)(ps:Array bX)(t:eG)(b:Nat)(r:List (bU×bV)):List (bU×bV):=(o.aG,oG)::(246,dm ps)::(t.dl,df [] 0)::(t.v.loc,eB t.dl (b+1) t.tn t.t1 t.t2)::r
noncomputable def lB(o:dz)(pb d:List bX)(oG:bV)(e1 e2:Nat):List (bU×bV):=[(o.fN,lst pb e1),(o.er,lst d e2),(o.aG,oG)]
noncomputable def lY(t:eG)(b B:Nat):List (bU×bV):=[(t.dl,df [] 0),(t.v.loc,eB t.dl (b+1) t.tn t.t1 t.t2),(t.v.d,gf t.v B),(t.v.a,inst 204 t.v.d)]
theorem Fr.pm(L:Fr ls P C f)(aj:List (List (bU×bV)))(u:List Nat)(e:ls=fl aj:=by rfl)(a:u.isPerm (iQ aj.length)=U:=by rfl):Fr (fl (u.map λ v=>aj.getD v [])) P C f:=by subst e;exact L.perm (EZ aj u a)
section
variable{o:dz}{c:cb}{oG:bV}{ao:FG}{i0 b:Nat}{C:AP}{f:cc}
theorem AB(a:Fr (lB o pb d oG e1 e2++(lY t b B++(246,dm ps)::r)) P C f):Fr (lA o pb d t B e1 e2++rA o oG ps t b r) P C f:=a.pm [[(o.fN,lst pb e1),(o.er,lst d e2)],[(o.aG,oG)],[(t.dl,df [] 0),(t.v.loc,eB t.dl (b+1) t.tn t.t1 t.t2)],[(t.v.d,gf t.v B),(t.v.a,inst 204 t.v.d)],[(246,dm ps)],r] [0,3,1,4,2,5]
theorem BA(a:Fr (lA o pb d t B e1 e2++rA o oG ps t b r) P C f):Fr (lB o pb d oG e1 e2++(lY t b B++(246,dm ps)::r)) P C f:=a.pm [[(o.fN,lst pb e1),(o.er,lst d e2)],[(t.v.d,gf t.v B),(t.v.a,inst 204 t.v.d)],[(o.aG,oG)],[(246,dm ps)],[(t.dl,df [] 0),(t.v.loc,eB t.dl (b+1) t.tn t.t1 t.t2)],r] [0,2,4,1,3,5]
theorem cH.vG(a:cH o c oG ao i0 b U C f)(i:c.cps[b]?=Y B):∃(ys:List eG)(t:eG)(e1 e2:Nat)(ps:Array bX),jV ps/\i0+ys.length=b/\Fr (lA o [R t.v.a] (refs ys) t B e1 e2++rA o oG ps t b (dx c i0 ys)) (ao (b+1)) C f:=by obtain⟨ys,e,e1,e2,u,ps,h0,z,E,h3,h4,h5⟩:=a;(refine eE (len_one E) λ t d=>?_;subst d);obtain rfl:u=b+1:=h4.elim id λ a=>absurd (a.1▸h3) (Nat.not_succ_le_self _);refine(ND ys t e1 e2 ps h0 z (AB ?_));rw[lY,<-xl i];exact h5.pm [[(o.fN,lst [R t.v.a] e1),(o.er,lst (refs ys) e2),(o.aG,oG)],[(246,dm ps)],dx c i0 ys,lz c b t] [0,3,1,2]
theorem cH.put(i:c.cps[b]?=Y B)(h0:jV ps)(z:i0+ys.length=b)(a:Fr (lB o [] (refs ys++[R t.v.a]) oG e1 e2++(lY t b B++(246,dm ps)::dx c i0 ys)) (ao (b+1)) C f):cH o c oG ao i0 (b+1) X C f:=by subst z;refine⟨ys++[t],[],e1,e2,i0+ys.length+1,ps,h0,by rw[qy];rfl,rfl,(iq.mp i).1, .inl rfl,?_⟩;rw[sI,Mj,Dk];rw[lY,<-xl i]at a;show Fr (_++(dx c i0 ys++lz c (i0+ys.length) t++[])) _ _ _;rw[md];exact a.pm [[(o.fN,lst [] e1),(o.er,lst (refs ys++[R t.v.a]) e2),(o.aG,oG)],lz c (i0+ys.length) t,[(246,dm ps)],dx c i0 ys] [0,2,3,1]
theorem cH.Ij(i:c.cps[b]?=Y B)(h0:jV ps)(z:i0+ys.length=b)(a:Fr (lB o [R t.v.a] (refs ys) oG e1 e2++(lY t b B++(246,dm ps)::dx c i0 ys)) (ao (b+1)) C f):cH o c oG ao i0 b U C f:=by refine⟨ys,[t],e1,e2,b+1,ps,h0,z,rfl,(iq.mp i).1, .inl rfl,?_⟩;rw[lY,<-xl i]at a;exact a.pm [[(o.fN,lst [R t.v.a] e1),(o.er,lst (refs ys) e2),(o.aG,oG)],lz c b t,[(246,dm ps)],dx c i0 ys] [0,2,3,1]
theorem cH.vF(a:cH o c oG ao i0 b X C f)(hi:b<c.cps.size):∃(ys:List eG)(e1 e2:Nat)(ps:Array bX),jV ps/\i0+ys.length=b/\Fr (lB o [] (refs ys) oG e1 e2++((246,dm ps)::dx c i0 ys)) (ao b) C f:=by obtain⟨ys,e,e1,e2,u,ps,h0,z,E,h3,h4,h5⟩:=a;obtain rfl:e=[]:=Kl.mp E;obtain rfl:u=b:=h4.elim id λ a=>absurd (a.1▸hi) (jq _);rw[sI,dx,md]at h5;exact Fe ys e1 e2 ps h0 z h5
theorem cH.G_(a:cH o c oG ao i0 b X C f)(hi:b=c.cps.size):∃(ys:List eG)(e1 e2 u:Nat)(ps:Array bX),jV ps/\i0+ys.length=b/\(u=c.cps.size\/u=c.cps.size+1)/\Fr (lB o [] (refs ys) oG e1 e2++((246,dm ps)::dx c i0 ys)) (ao u) C f:=by obtain⟨ys,e,e1,e2,u,ps,h0,z,E,h3,h4,h5⟩:=a;obtain rfl:e=[]:=Kl.mp E;rw[sI,dx,md]at h5;exact Mr ys e1 e2 u ps h0 z (h4.imp (λ a=>a.trans hi) (·.2)) h5
theorem cH.ű(hi:b=c.cps.size)(h0:jV ps)(z:i0+ys.length=b)(a:Fr (lB o [] (refs ys) oG e1 e2++((246,dm ps)::dx c i0 ys)) (ao (c.cps.size+1)) C f):cH o c oG ao i0 b X C f:=by refine⟨ys,[],e1,e2,c.cps.size+1,ps,h0,z,rfl,pD hi, .inr ⟨hi,rfl⟩,?_⟩;rw[sI,dx,md];exact a
end
noncomputable def yj(P:GP):Sm:=⟨200,0,1,λ j af=> .ok (.ret (R (af 0).t)),λ j j=>[],λ j j=>[],Y λ j j=>P⟩
noncomputable abbrev uM(g:bU):cN:= .call (R 237) ⟨[R g],[(bW #[101,111,102], .bool X)]⟩
noncomputable abbrev zg(o:dz)(V:cb)(D:cp):cN:= .call (R 265) ⟨[R o.aL,S V D],[]⟩
section
variable{x:FA}{o:dz}{c:cb}{O:Nat}{nm qn:bX}{ao:FG}{i0 b:Nat}{V:cb}{tv:cp}{jL jD:Nat}{d:Rc}{B:Nat}
theorem Va(hx:c.cps.size<=1000000)(i:c.cps[b]?=Y B)(M:fx V B=U)(hc:d.c=zg o V tv)(hg:d.gh=cH o c (cv O nm qn) ao i0 b U)(ae:d.sm=sA 200 (cH o c (cv O nm qn) ao i0 (b+1) X) U)(aa:eH x d [(jL,o.aL,inst 460 o.aD),(jD,o.aD,dU o)])(hd:[jL,jD].Nodup):cy x d:=mn hc aa hd λ f fp hC=>by
 rw[hg]at hC;refine vj (hC.now.vG i) λ ys t e1 e2 ps h0 z h5=>?_;have hl:(refs ys).length<=1000000:=by rw[tT];exact dZ (z▸tH _ _) (dZ (qF (iq.mp i).1) hx)
 exact lI.of ae h5 1000 (nd 16 153 0x275066000600006700060006777882844442011000001000000180006000688833330303333201100000100000018303030332011000001000000188888010210000001000001000001777771) [pV 3 (refs ys) (λ j=>R t.v.a) e2 (dZ hl ⋯),dh V B U M] [] (dN []) [2,3,4,5] (λ g p=>[lst [] (e1+1),lst (refs ys++[R t.v.a]) (e2+1),gf t.v B,inst 204 t.v.d]) (λ g p=>rA o (cv O nm qn) ps t b (dx c i0 ys)) (λ j j=>ao (b+1)) ⋯ λ g p C e a=>cH.put (t:=t) i h0 z (BA (e1:=e1+1) (e2:=e2+1) a)
theorem Vb(hx:c.cps.size<=1000000)(i:c.cps[b]?=Y B)(M:fx V B=X)(hc:d.c=zg o V tv)(hg:d.gh=cH o c (cv O nm qn) ao i0 b U)(ae:d.sm=sA 200 (cH o c (cv O nm qn) ao i0 b U) X)(aa:eH x d [(jL,o.aL,inst 460 o.aD),(jD,o.aD,dU o)])(hd:[jL,jD].Nodup):cy x d:=mn hc aa hd λ f fp hC=>by
 rw[hg]at hC;refine vj (hC.now.vG i) λ ys t e1 e2 ps h0 z h5=>?_;have hl:(refs ys).length<=1000000:=by rw[tT];exact dZ (z▸tH _ _) (dZ (qF (iq.mp i).1) hx)
 exact lI.of ae h5 1000 (nd 16 246 0x333030933332011000001000000190200444420110000010000001900060006999991072100000010000010000017275066000600006700060006777882844442011000001000000180006000688833330303333201100000100000018303030332011000001000000188888010210000001000001000001777771) [pV 3 (refs ys) (λ j=>R t.v.a) e2 (dZ hl ⋯),dh V B X M,Ie 3 (refs ys) (λ j=>R t.v.a) (e2+1) (dZ hl ⋯)] [] (dN []) [2,3,4,5] (λ g p=>[lst [R t.v.a] (e1+1+1),lst (refs ys) (e2+1+1),gf t.v B,inst 204 t.v.d]) (λ g p=>rA o (cv O nm qn) ps t b (dx c i0 ys)) (λ j j=>ao (b+1)) ⋯ λ g p C e a=>cH.Ij (t:=t) i h0 z (BA (e1:=e1+1+1) (e2:=e2+1+1) a)
theorem V8(aj:fQ c o.aG (cv O nm qn) ao)(hx:c.cps.size<=1000000)(i:c.cps[b]?=Y B)(M:fx V B=U)(hc:d.c=zg o V tv)(hg:d.gh=cH o c (cv O nm qn) ao i0 b X)(ae:d.sm=sA 200 (cH o c (cv O nm qn) ao i0 (b+1) X) U)(aa:eH x d [(jL,o.aL,inst 460 o.aD),(jD,o.aD,dU o)])(hd:[jL,jD].Nodup):cy x d:=mn hc aa hd λ f fp hC=>by
 rw[hg]at hC;refine tX (hC.now.vF (iq.mp i).1) λ ys e1 e2 ps h0 z h5=>?_;have hl:(refs ys).length<=1000000:=by rw[tT];exact dZ (z▸tH _ _) (dZ (qF (iq.mp i).1) hx)
 exact lI.of ae h5 1000 (nd 16 149 0x26a0bb000b0000b6000b000b66677274444201100000100000017000b000b7772550020110000010000001700303030332011000001000000177777010210000001000001000001666661) [sF aj ((246,dm ps)::dx c i0 ys) 4 b B i,pV 3 (refs ys) (λ x=>R (x 10)) e2 (dZ hl ⋯),dh V B U M] [] (dN []) [2,3,4,7,8,9,10] (λ g p=>let t:=(⟨⟨g 5,g 4,⟨(p 11).h,(p 11).t⟩,⟨(p 12).h,(p 12).t⟩,(p 9).t,g 3⟩,g 2,(p 8).t,(p 10).t,(p 13).t⟩:eG);[lst [] e1,lst (refs ys++[R t.v.a]) (e2+1),cv O nm qn,df [] 0,eB t.dl (b+1) t.tn t.t1 t.t2,gf t.v B,inst 204 t.v.d]) (λ g p=>(246,dm ps)::dx c i0 ys) (λ j j=>ao (b+1)) ⋯ λ g p C e a=>cH.put (t:=(⟨⟨g 5,g 4,⟨(p 11).h,(p 11).t⟩,⟨(p 12).h,(p 12).t⟩,(p 9).t,g 3⟩,g 2,(p 8).t,(p 10).t,(p 13).t⟩:eG)) (e1:=e1) (e2:=e2+1) i h0 z a
theorem V9(aj:fQ c o.aG (cv O nm qn) ao)(hx:c.cps.size<=1000000)(i:c.cps[b]?=Y B)(M:fx V B=X)(hc:d.c=zg o V tv)(hg:d.gh=cH o c (cv O nm qn) ao i0 b X)(ae:d.sm=sA 200 (cH o c (cv O nm qn) ao i0 b U) X)(aa:eH x d [(jL,o.aL,inst 460 o.aD),(jD,o.aD,dU o)])(hd:[jL,jD].Nodup):cy x d:=mn hc aa hd λ f fp hC=>by
 rw[hg]at hC;refine tX (hC.now.vF (iq.mp i).1) λ ys e1 e2 ps h0 z h5=>?_;have hl:(refs ys).length<=1000000:=by rw[tT];exact dZ (z▸tH _ _) (dZ (qF (iq.mp i).1) hx)
 exact lI.of ae h5 1000 (nd 16 242 0x333030c333320110000010000001c0200444420110000010000001c000b000bccccc106210000001000001000001626a0bb000b0000b6000b000b66677274444201100000100000017000b000b7772550020110000010000001700303030332011000001000000177777010210000001000001000001666661) [sF aj ((246,dm ps)::dx c i0 ys) 4 b B i,pV 3 (refs ys) (λ x=>R (x 10)) e2 (dZ hl ⋯),dh V B X M,Ie 3 (refs ys) (λ x=>R (x 10)) (e2+1) (dZ hl ⋯)] [] (dN []) [2,3,4,7,8,9,10] (λ g p=>let t:=(⟨⟨g 5,g 4,⟨(p 11).h,(p 11).t⟩,⟨(p 12).h,(p 12).t⟩,(p 9).t,g 3⟩,g 2,(p 8).t,(p 10).t,(p 13).t⟩:eG);[lst [R t.v.a] (e1+1),lst (refs ys) (e2+1+1),cv O nm qn,df [] 0,eB t.dl (b+1) t.tn t.t1 t.t2,gf t.v B,inst 204 t.v.d]) (λ g p=>(246,dm ps)::dx c i0 ys) (λ j j=>ao (b+1)) ⋯ λ g p C e a=>cH.Ij (t:=(⟨⟨g 5,g 4,⟨(p 11).h,(p 11).t⟩,⟨(p 12).h,(p 12).t⟩,(p 9).t,g 3⟩,g 2,(p 8).t,(p 10).t,(p 13).t⟩:eG)) (e1:=e1+1) (e2:=e2+1+1) i h0 z a
theorem XI(aj:fQ c o.aG (cv O nm qn) ao)(hn:b=c.cps.size)(hc:d.c=zg o V tv)(hg:d.gh=cH o c (cv O nm qn) ao i0 b X)(ae:d.sm=sA 200 (cH o c (cv O nm qn) ao i0 b X) X)(aa:eH x d [(jL,o.aL,inst 460 o.aD),(jD,o.aD,dU o)])(hd:[jL,jD].Nodup):cy x d:=mn hc aa hd λ f fp hC=>by rw[hg]at hC;refine zT (hC.now.G_ hn) λ ys e1 e2 u ps h0 z l h5=>?_;exact lI.of ae h5 1000 (nd 16 124 0xaaaaa10621000000100000100000166667777792550020110000010000001700303030332011000001000000177777010210000001000001000001666661) [Ii aj ((246,dm ps)::dx c i0 ys) 4 u l] [] (dN []) [2,3,4] (λ g p=>[lst [] e1,lst (refs ys) e2,cv O nm qn]) (λ g p=>(246,dm ps)::dx c i0 ys) (λ j j=>ao (c.cps.size+1)) ⋯ λ g p C e a=>cH.ű (e1:=e1) (e2:=e2) hn h0 z a
theorem a6h(hx:c.cps.size<=1000000)(i:c.cps[b]?=Y B)(hc:d.c=uM o.aL)(hg:d.gh=cH o c (cv O nm qn) ao i0 b U)(ae:d.sm=yj (cH o c (cv O nm qn) ao i0 (b+1) X))(aa:eH x d [(jL,o.aL,inst 460 o.aD),(jD,o.aD,dU o)])(hd:[jL,jD].Nodup):cy x d:=mn hc aa hd λ f fp hC=>by
 rw[hg]at hC;refine vj (hC.now.vG i) λ ys t e1 e2 ps h0 z h5=>?_;have hl:(refs ys).length<=1000000:=by rw[tT];exact dZ (z▸tH _ _) (dZ (qF (iq.mp i).1) hx)
 exact lI.of ae h5 1000 (nd 16 99 0x777274444201100000100000017000600067773333030333320110000010000001730303033201100000100000017777701) [pV 3 (refs ys) (λ j=>R t.v.a) e2 (dZ hl ⋯)] [] (λ j j j=>⟨t.v.a,⟨0,0,0,0⟩,[],0⟩) [2,3,4,5] (λ g p=>[lst [] (e1+1),lst (refs ys++[R t.v.a]) (e2+1),gf t.v B,inst 204 t.v.d]) (λ g p=>rA o (cv O nm qn) ps t b (dx c i0 ys)) (λ j j=>ao (b+1)) ⋯ λ g p C e a=>cH.put (t:=t) i h0 z (BA (e1:=e1+1) (e2:=e2+1) a)
theorem a6g(aj:fQ c o.aG (cv O nm qn) ao)(hx:c.cps.size<=1000000)(i:c.cps[b]?=Y B)(hc:d.c=uM o.aL)(hg:d.gh=cH o c (cv O nm qn) ao i0 b X)(ae:d.sm=yj (cH o c (cv O nm qn) ao i0 (b+1) X))(aa:eH x d [(jL,o.aL,inst 460 o.aD),(jD,o.aD,dU o)])(hd:[jL,jD].Nodup):cy x d:=mn hc aa hd λ f fp hC=>by
 rw[hg]at hC;refine tX (hC.now.vF (iq.mp i).1) λ ys e1 e2 ps h0 z h5=>?_;have hl:(refs ys).length<=1000000:=by rw[tT];exact dZ (z▸tH _ _) (dZ (qF (iq.mp i).1) hx)
 exact lI.of ae h5 1000 (nd 16 95 0x666264444201100000100000016000a000a666255002011000001000000160030303033201100000100000016666601) [sF aj ((246,dm ps)::dx c i0 ys) 4 b B i,pV 3 (refs ys) (λ x=>R (x 9)) e2 (dZ hl ⋯)] [] (λ g j j=>⟨g 4,⟨0,0,0,0⟩,[],0⟩) [2,3,4,6,7,8,9] (λ g p=>let t:=(⟨⟨g 4,g 3,⟨(p 9).h,(p 9).t⟩,⟨(p 10).h,(p 10).t⟩,(p 7).t,g 2⟩,g 1,(p 6).t,(p 8).t,(p 11).t⟩:eG);[lst [] e1,lst (refs ys++[R t.v.a]) (e2+1),cv O nm qn,df [] 0,eB t.dl (b+1) t.tn t.t1 t.t2,gf t.v B,inst 204 t.v.d]) (λ g p=>(246,dm ps)::dx c i0 ys) (λ j j=>ao (b+1)) ⋯ λ g p C e a=>cH.put (t:=(⟨⟨g 4,g 3,⟨(p 9).h,(p 9).t⟩,⟨(p 10).h,(p 10).t⟩,(p 7).t,g 2⟩,g 1,(p 6).t,(p 8).t,(p 11).t⟩:eG)) (e1:=e1) (e2:=e2+1) i h0 z a
end
theorem cH.le(a:cH o c oG ao i0 b pb C f):b+Î pb<=c.cps.size:=by obtain⟨ys,e,e1,e2,u,ps,h0,z,E,h3,h4,h5⟩:=a;rw[<-E];exact h3
theorem ER(a:∀C f,d.gh C f->False):cy x d:=λ j j j j j j j j j j hC j=>(a _ _ hC.now).elim
theorem Np(aj:fQ c o.aG (cv O nm qn) ao)(hx:c.cps.size<=1000000)(hc:d.c= .call (R 265) ⟨[R o.aL,S V tv],[]⟩)(hg:d.gh=cH o c (cv O nm qn) ao i0 b pb)(ae:d.sm=sA 200 (cH o c (cv O nm qn) ao i0 (cq c V b) (kY c V b)) (cu c V b))(aa:eH x d [(jL,o.aL,inst 460 o.aD),(jD,o.aD,dU o)])(hd:[jL,jD].Nodup):cy x d:=by
 obtain⟨H,P,rn,rg,rs⟩:=d;cases hc;cases hg;cases ae;by_cases hi:b<c.cps.size;·
  have i:c.cps[b]?=Y c.cps[b]:=by simp[hi]
  have e:=E4 (b:=V) i;cases M:fx V c.cps[b]with
   |true=>have e':cu c V b=U:=e.trans M;have v:=aa;rw[ec e',GX e',e']at v⊢;cases pb with|true=>exact Va hx i M rfl rfl rfl v hd|false=>exact V8 aj hx i M rfl rfl rfl v hd
   |false=>have e':cu c V b=X:=e.trans M;have v:=aa;rw[cU e',GZ e' hi,e']at v⊢;cases pb with|true=>exact Vb hx i M rfl rfl rfl v hd|false=>exact V9 aj hx i M rfl rfl rfl v hd
 ·have e':cu c V b=X:=MQ (pz hi);cases pb with
   |true=>exact ER λ C f a=>by have:=cH.le a;simp[Î]at this;exact absurd this hi
   |false=>
    by_cases hn:b=c.cps.size;·have v:=aa;rw[cU e',GY e' (pz hi),e']at v⊢;exact XI aj hn rfl rfl rfl v hd
    ·exact ER λ C f a=>by have:=cH.le a;simp[Î]at this;lia
end Mine
namespace Mine
noncomputable def pL:cN->cp| .call _ ⟨[_, .str _ D],_⟩=>D|_=>0
theorem Mi(aj:fQ c o.aG (cv O nm qn) ao)(hx:c.cps.size<=1000000)(M:cu c V b=l)(hc:d.c= .call (R 265) ⟨[R o.aL,S V (pL d.c)],[]⟩)(hg:d.gh=cH o c (cv O nm qn) ao i0 b pb)(ae:d.sm=sA 200 (cH o c (cv O nm qn) ao i0 (cq c V b) (kY c V b)) l)(aa:eH x d [(jL,o.aL,inst 460 o.aD),(jD,o.aD,dU o)])(hd:[jL,jD].Nodup):cy x d:=by subst M;exact Np aj hx hc hg ae aa hd
section
variable{x:FA}{o:dz}{c:cb}{O:Nat}{nm qn:bX}{ao:FG}{i0 b:Nat}{P:BT}{rn jL jD:Nat}
theorem Pm(aj:fQ c o.aG (cv O nm qn) ao)(hi:b<c.cps.size)(hx:c.cps.size<=1000000)(hc:d.c=uM o.aL)(hg:d.gh=cH o c (cv O nm qn) ao i0 b pb)(ae:d.sm=yj (cH o c (cv O nm qn) ao i0 (b+1) X))(aa:eH x d [(jL,o.aL,inst 460 o.aD),(jD,o.aD,dU o)])(hd:[jL,jD].Nodup):cy x d:=match pb,hg with|U,hg=>a6h hx (wG hi) hc hg ae aa hd|X,hg=>a6g aj hx (wG hi) hc hg ae aa hd
end
noncomputable def J9{o:dz}{c:cb}{O:Nat}{nm qn:bX}{ao:FG}(aj:fQ c o.aG (cv O nm qn) ao)(hx:c.cps.size<=1000000)(jL i0 b:Nat)(pb:Bool)(hi:b<c.cps.size):Qi:=⟨[jL,jL+1],λ j j j=>(uM o.aL,cH o c (cv O nm qn) ao i0 b pb,yj (cH o c (cv O nm qn) ao i0 (b+1) X),[(o.aL,Y (inst 460 o.aD)),(o.aD,Y (dU o))]),λ j j=>yj (cH o c (cv O nm qn) ao i0 (b+1) X),λ j j j e=>Pm aj hi hx (kJ e) (nt e) (kI e) (jL:=jL) (jD:=jL+1) (i6 (kG e rfl).2 (kG e rfl).1 (rv e rfl).2 (rv e rfl).1 trivial) (by simp)⟩
noncomputable abbrev Hg:String:=b6y
noncomputable def kx(C g:bU):bV:=⟨T Hg,W, .fields #[R C,R g],#[]⟩
noncomputable def sa(v:Nat)(C t:bU)(P:GP):Sm:=⟨v,1,0,λ g j=> .ok (.ret (R (g 0))),λ j j=>[],λ j j=>[kx C t],Y λ j j=>P⟩
noncomputable def mu(v:Nat)(P:GP):Sm:=⟨v,0,0,λ j j=> .ok (.ret .none),λ j j=>[],λ j j=>[],Y λ j j=>P⟩
theorem cH.put2(i:c.cps[b]?=Y B)(k:c.cps[b+1]?=Y af)(h0:jV ps)(a:Fr (lB o [] [R t.v.a,R j.v.a] oG e1 e2++(lY t b B++(lY j (b+1) af++[(246,dm ps)]))) (ao (b+2)) C f):cH o c oG ao b (b+2) X C f:=by refine⟨[t,j],[],e1,e2,b+2,ps,h0,rfl,rfl,(iq.mp k).1, .inl rfl,?_⟩;rw[lY,lY,<-xl i,<-xl k]at a;exact a.pm [[(o.fN,lst [] e1),(o.er,lst [R t.v.a,R j.v.a] e2),(o.aG,oG)],lz c b t,lz c (b+1) j,[(246,dm ps)]] [0,3,1,2]
theorem YC(a:Fr (([(o.fN,lst [] e1),(o.er,lst [R t.v.a,R j.v.a] e2),(t.v.d,gf t.v 76),(t.v.a,inst 204 t.v.d),(o.aG,oG)]++lY j (b+1) 39)++[(246,dm ps),(t.dl,df [] 0),(t.v.loc,eB t.dl (b+1) t.tn t.t1 t.t2)]) P C f):Fr (lB o [] [R t.v.a,R j.v.a] oG e1 e2++(lY t b 76++(lY j (b+1) 39++[(246,dm ps)]))) P C f:=a.pm [[(o.fN,lst [] e1),(o.er,lst [R t.v.a,R j.v.a] e2)],[(t.v.d,gf t.v 76),(t.v.a,inst 204 t.v.d)],[(o.aG,oG)],lY j (b+1) 39,[(246,dm ps)],[(t.dl,df [] 0),(t.v.loc,eB t.dl (b+1) t.tn t.t1 t.t2)]] [0,2,5,1,3,4]
section
variable{x:FA}{o:dz}{c:cb}{O:Nat}{nm qn:bX}{ao:FG}{b:Nat}{jL jD:Nat}{d:Rc}
theorem Ts(i:c.cps[b]?=Y 39)(hc:d.c= .call (R 394) ⟨[R o.aL],[]⟩)(hg:d.gh=cH o c (cv O nm qn) ao b b U)(ae:d.sm=sa 300 450 o.aL (cH o c (cv O nm qn) ao b (b+1) X))(aa:eH x d [(jL,o.aL,inst 460 o.aD),(jD,o.aD,dU o)])(hd:[jL,jD].Nodup):cy x d:=mn hc aa hd λ f fp hC=>by rw[hg]at hC;refine vj (hC.now.vG i) λ ys t e1 e2 ps h0 z h5=>?_;obtain rfl:ys=[]:=wA (wJ (z.trans (s7 _).symm));exact lI.of ae (l1:=lA o [R t.v.a] [] t 39 e1 e2++[(o.aG,cv O nm qn)]) (ak:=(246,dm ps)::(t.dl,df [] 0)::(t.v.loc,eB t.dl (b+1) t.tn t.t1 t.t2)::dx c b []) h5 6000 (nd 16 355 0x20110000001000000180050660006000068005066000600006800506600060000680050660006000068005066000600006800506600060000680020110001000000185066000600006800000020110001000000182011000100000018506600060000680050660006000068888994440409444420110000010000001900060006999333303033332011000001000000193030303320110000010000001999990102100000010000010000018881) [] [9] (dN []) [2,3,4,5,6] (λ g p=>[lst [] (e1+1),lst [R t.v.a] (e2+1),gf t.v 39,inst 204 t.v.d,cv O nm qn]) (λ g p=>(246,dm ps)::(t.dl,df [] 0)::(t.v.loc,eB t.dl (b+1) t.tn t.t1 t.t2)::dx c b []) (λ j j=>ao (b+1)) ⋯ λ g p C e a=>cH.put (ys:=[]) (t:=t) i h0 z (BA (e1:=e1+1) (e2:=e2+1) a)
theorem Tr(aj:fQ c o.aG (cv O nm qn) ao)(i:c.cps[b]?=Y 39)(hc:d.c= .call (R 394) ⟨[R o.aL],[]⟩)(hg:d.gh=cH o c (cv O nm qn) ao b b X)(ae:d.sm=sa 300 450 o.aL (cH o c (cv O nm qn) ao b (b+1) X))(aa:eH x d [(jL,o.aL,inst 460 o.aD),(jD,o.aD,dU o)])(hd:[jL,jD].Nodup):cy x d:=mn hc aa hd λ f fp hC=>by rw[hg]at hC;refine tX (hC.now.vF (iq.mp i).1) λ ys e1 e2 ps h0 z h5=>?_;obtain rfl:ys=[]:=wA (wJ (z.trans (s7 _).symm));exact lI.of ae (l1:=lB o [] [] (cv O nm qn) e1 e2) (ak:=(246,dm ps)::dx c b []) h5 6000 (nd 16 351 0x201100000010000001600a0bb000b0000b600a0bb000b0000b600a0bb000b0000b600a0bb000b0000b600a0bb000b0000b600a0bb000b0000b6002011000100000016a0bb000b0000b600000020110001000000162011000100000016a0bb000b0000b600a0bb000b0000b66667744404074444201100000100000017000b000b77725500201100000100000017003030303320110000010000001777770102100000010000010000016661) [sF aj ((246,dm ps)::dx c b []) 4 b 39 i] [11] (dN []) [2,3,4,7,8,9,10] (λ g p=>let t:=(⟨⟨g 5,g 4,⟨(p 10).h,(p 10).t⟩,⟨(p 11).h,(p 11).t⟩,(p 8).t,g 3⟩,g 2,(p 7).t,(p 9).t,(p 12).t⟩:eG);[lst [] e1,lst [R t.v.a] (e2+1),cv O nm qn,df [] 0,eB t.dl (b+1) t.tn t.t1 t.t2,gf t.v 39,inst 204 t.v.d]) (λ g p=>(246,dm ps)::dx c b []) (λ j j=>ao (b+1)) ⋯ λ g p C e a=>cH.put (ys:=[]) (t:=(⟨⟨g 5,g 4,⟨(p 10).h,(p 10).t⟩,⟨(p 11).h,(p 11).t⟩,(p 8).t,g 3⟩,g 2,(p 7).t,(p 9).t,(p 12).t⟩:eG)) (e1:=e1) (e2:=e2+1) i h0 z a
theorem Tt(aj:fQ c o.aG (cv O nm qn) ao)(i:c.cps[b]?=Y 32)(hc:d.c= .call (R 394) ⟨[R o.aL],[]⟩)(hg:d.gh=cH o c (cv O nm qn) ao b b X)(ae:d.sm=sa 300 422 o.aL (cH o c (cv O nm qn) ao b (b+1) X))(aa:eH x d [(jL,o.aL,inst 460 o.aD),(jD,o.aD,dU o)])(hd:[jL,jD].Nodup):cy x d:=mn hc aa hd λ f fp hC=>by rw[hg]at hC;refine tX (hC.now.vF (iq.mp i).1) λ ys e1 e2 ps h0 z h5=>?_;obtain rfl:ys=[]:=wA (wJ (z.trans (s7 _).symm));exact lI.of ae (l1:=lB o [] [] (cv O nm qn) e1 e2) (ak:=(246,dm ps)::dx c b []) h5 6000 (nd 16 271 0x201100000010000001600a0bb000b0000b6002011000100000016a0bb000b0000b600000020110001000000162011000100000016a0bb000b0000b600a0bb000b0000b66667744404074444201100000100000017000b000b77725500201100000100000017003030303320110000010000001777770102100000010000010000016661) [sF aj ((246,dm ps)::dx c b []) 4 b 32 i] [11] (dN []) [2,3,4,7,8,9,10] (λ g p=>let t:=(⟨⟨g 5,g 4,⟨(p 10).h,(p 10).t⟩,⟨(p 11).h,(p 11).t⟩,(p 8).t,g 3⟩,g 2,(p 7).t,(p 9).t,(p 12).t⟩:eG);[lst [] e1,lst [R t.v.a] (e2+1),cv O nm qn,df [] 0,eB t.dl (b+1) t.tn t.t1 t.t2,gf t.v 32,inst 204 t.v.d]) (λ g p=>(246,dm ps)::dx c b []) (λ j j=>ao (b+1)) ⋯ λ g p C e a=>cH.put (ys:=[]) (t:=(⟨⟨g 5,g 4,⟨(p 10).h,(p 10).t⟩,⟨(p 11).h,(p 11).t⟩,(p 8).t,g 3⟩,g 2,(p 7).t,(p 9).t,(p 12).t⟩:eG)) (e1:=e1) (e2:=e2+1) i h0 z a
theorem Tp(aj:fQ c o.aG (cv O nm qn) ao)(i:c.cps[b]?=Y 76)(k:c.cps[b+1]?=Y 39)(hc:d.c= .call (R 394) ⟨[R o.aL],[]⟩)(hg:d.gh=cH o c (cv O nm qn) ao b b X)(ae:d.sm=sa 300 450 o.aL (cH o c (cv O nm qn) ao b (b+2) X))(aa:eH x d [(jL,o.aL,inst 460 o.aD),(jD,o.aD,dU o)])(hd:[jL,jD].Nodup):cy x d:=mn hc aa hd λ f fp hC=>by rw[hg]at hC;refine tX (hC.now.vF (iq.mp i).1) λ ys e1 e2 ps h0 z h5=>?_;obtain rfl:ys=[]:=wA (wJ (z.trans (s7 _).symm));exact lI.of ae (l1:=lB o [] [] (cv O nm qn) e1 e2) (ak:=(246,dm ps)::dx c b []) h5 6000 (nd 64 349 0x200104000000000100000000004600031001144000044000001130000044000044c30c34d10410010034410410200104000000004000000000134000044000044d34d0851400020010400000000400000000013400030030030030c200104000000004000000000134d34d34004008100000000004000000004000000004c30c30c0400810000000000400000000400000000460002802cb00000b0000002c61861871c410400400710410408004100000000100000000004700000b00000b1c71c21450000800410000000010000000000470000c00c00c00c30800410000000010000000000471c71c7001002040000000001000000001000000001186181) [sF aj ((246,dm ps)::dx c b []) 4 b 76 i,sF aj ((246,dm ps)::dx c b []) 4 (b+1) 39 k] [17] (dN []) [2,3,4,7,8,9,10,13,14,15,16] (λ g p=>let t:=(⟨⟨g 5,g 4,⟨(p 10).h,(p 10).t⟩,⟨(p 11).h,(p 11).t⟩,(p 8).t,g 3⟩,g 2,(p 7).t,(p 9).t,(p 12).t⟩:eG);let j:=(⟨⟨g 11,g 10,⟨(p 30).h,(p 30).t⟩,⟨(p 31).h,(p 31).t⟩,(p 28).t,g 9⟩,g 8,(p 27).t,(p 29).t,(p 32).t⟩:eG);[lst [] e1,lst [R t.v.a,R j.v.a] (e2+1+1),cv O nm qn,df [] 0,eB t.dl (b+1) t.tn t.t1 t.t2,gf t.v 76,inst 204 t.v.d,df [] 0,eB j.dl (b+1+1) j.tn j.t1 j.t2,gf j.v 39,inst 204 j.v.d]) (λ g p=>(246,dm ps)::dx c b []) (λ q q=>ao (b+2)) ⋯ λ g p C e a=>cH.put2 (t:=(⟨⟨g 5,g 4,⟨(p 10).h,(p 10).t⟩,⟨(p 11).h,(p 11).t⟩,(p 8).t,g 3⟩,g 2,(p 7).t,(p 9).t,(p 12).t⟩:eG)) (j:=(⟨⟨g 11,g 10,⟨(p 30).h,(p 30).t⟩,⟨(p 31).h,(p 31).t⟩,(p 28).t,g 9⟩,g 8,(p 27).t,(p 29).t,(p 32).t⟩:eG)) (e1:=e1) (e2:=e2+1+1) i k h0 a
theorem Tq(aj:fQ c o.aG (cv O nm qn) ao)(i:c.cps[b]?=Y 76)(k:c.cps[b+1]?=Y 39)(hc:d.c= .call (R 394) ⟨[R o.aL],[]⟩)(hg:d.gh=cH o c (cv O nm qn) ao b b U)(ae:d.sm=sa 300 450 o.aL (cH o c (cv O nm qn) ao b (b+2) X))(aa:eH x d [(jL,o.aL,inst 460 o.aD),(jD,o.aD,dU o)])(hd:[jL,jD].Nodup):cy x d:=mn hc aa hd λ f fp hC=>by rw[hg]at hC;refine vj (hC.now.vG i) λ ys t e1 e2 ps h0 z h5=>?_;obtain rfl:ys=[]:=wA (wJ (z.trans (s7 _).symm));exact lI.of ae (l1:=lA o [R t.v.a] [] t 76 e1 e2++[(o.aG,cv O nm qn)]) (ak:=(246,dm ps)::(t.dl,df [] 0)::(t.v.loc,eB t.dl (b+1) t.tn t.t1 t.t2)::dx c b []) h5 6000 (nd 16 353 0x201100000010000001800ae0ff000f0000fa000f000faaabb444040b444420110000010000001b000f000fbbb2770020110000010000001b003030303320110000010000001bbbbb010210000001000001000001aaaaa1021000000100000100000180050660006000068888994440409444420110000010000001900060006999333303033332011000001000000193030303320110000010000001999990102100000010000010000018881) [sF aj ((246,dm ps)::(t.dl,df [] 0)::(t.v.loc,eB t.dl (b+1) t.tn t.t1 t.t2)::dx c b []) 6 (b+1) 39 k] [15] (dN []) [2,3,4,5,6,11,12,13,14] (λ g p=>let j:=(⟨⟨g 7,g 6,⟨(p 25).h,(p 25).t⟩,⟨(p 26).h,(p 26).t⟩,(p 23).t,g 5⟩,g 4,(p 22).t,(p 24).t,(p 27).t⟩:eG);[lst [] (e1+1),lst [R t.v.a,R j.v.a] (e2+1+1),gf t.v 76,inst 204 t.v.d,cv O nm qn,df [] 0,eB j.dl (b+1+1) j.tn j.t1 j.t2,gf j.v 39,inst 204 j.v.d]) (λ g p=>(246,dm ps)::(t.dl,df [] 0)::(t.v.loc,eB t.dl (b+1) t.tn t.t1 t.t2)::dx c b []) (λ q q=>ao (b+2)) ⋯ λ g p C e a=>cH.put2 (t:=t) (j:=(⟨⟨g 7,g 6,⟨(p 25).h,(p 25).t⟩,⟨(p 26).h,(p 26).t⟩,(p 23).t,g 5⟩,g 4,(p 22).t,(p 24).t,(p 27).t⟩:eG)) (e1:=e1+1) (e2:=e2+1+1) i k h0 (YC a)
theorem To(aj:fQ c o.aG (cv O nm qn) ao)(hn:b=c.cps.size)(hc:d.c= .call (R 394) ⟨[R o.aL],[]⟩)(hg:d.gh=cH o c (cv O nm qn) ao b b X)(ae:d.sm=mu 300 (cH o c (cv O nm qn) ao b b X))(aa:eH x d [(jL,o.aL,inst 460 o.aD),(jD,o.aD,dU o)])(hd:[jL,jD].Nodup):cy x d:=mn hc aa hd λ f fp hC=>by rw[hg]at hC;refine zT (hC.now.G_ hn) λ ys e1 e2 u ps h0 z l h5=>?_;obtain rfl:ys=[]:=wA (wJ (z.trans (s7 _).symm));exact lI.of ae (l1:=lB o [] [] (cv O nm qn) e1 e2) (ak:=(246,dm ps)::dx c b []) h5 6000 (nd 16 92 0x66677777925500201100000100000017003030303320110000010000001777770102100000010000010000016661) [Ii aj ((246,dm ps)::dx c b []) 4 u l] [] (dN []) [2,3,4] (λ g p=>[lst [] e1,lst [] e2,cv O nm qn]) (λ g p=>(246,dm ps)::dx c b []) (λ j j=>ao (c.cps.size+1)) ⋯ λ g p C e a=>cH.ű (ys:=[]) (e1:=e1) (e2:=e2) hn h0 z a
end
theorem HA:Y_ (qo gE).target=bW #[99]:=⋯
theorem Ud{p1 p2:dK}(hk:i.scope.kind= .function)(hl:i.kindOf (bW #[99])=Y .local)(hn:f.heap.Ns i.locals m)(hv:m (bW #[99])=Y (R b.a))(J:cj 40 W s)(hB:Base f.heap)(z:f.heap.get? b.a=Y (inst 204 b.d))(E:f.heap.get? b.d=Y (gf b B))(o1:dp.get b.a=W)(o2:dp.get b.d=W)(ay:b.a≠b.d):cm (bZ bY w) s (gr (.Attribute (.Name (bW #[99]) p1) xg p2) i) (λ t n=>t=S ⟨#[B]⟩ b.tc/\Keeps f n) aw f:=by rw[arm_eval_Attribute];show cm _ _ (gr (.Name (bW #[99]) p1) i>>=_) _ _ f;refine cJ (wpAny_Name (wpAny_loadName_local hk hl hn hv ?_) ⋯);refine cJ (pC ?_);refine cJ (qE (OY J hB z E o1 o2 ay λ n hk hs hg hd ho=>?_));refine cJ (ed (ed (Hw rfl n.heap n.toks ?_ hk)));obtain⟨h',d,c,t',o'⟩:=n;cases hg;cases hd;cases ho;rfl
noncomputable def dO:Expr->di->cD bX:=b1z
theorem fO:gr=dO:=b2c
noncomputable def rL(k1 k2:Ht)(t:bU)(aR:bX)(e:Nat):bV:=ly [⟨k1.h,S (bW #[115,101,108,102]) k1.t,R t⟩,⟨k2.h,S (bW #[116,121,112]) k2.t,aR⟩] e
noncomputable def bfZ:bU->bU->cD bU:=b2o
theorem V4:builtinsFor=bfZ:=b2w
noncomputable def ib(c:cb)(v y:Nat):cb:=⟨((iQ (y-v)).map λ i=>c.cps.getD (v+i) 0).toArray⟩
theorem DX:∀g:List Nat,P2 (bW #[]) (g.map λ B=>(⟨#[B]⟩:cb))=⟨g.toArray⟩|[]=>rfl|[B]=>rfl|B::af::d=>by have ih:=DX (af::d);rw[ir]at ih;show(⟨#[B]⟩:cb)++bW #[]++P2 (bW #[]) ((⟨#[af]⟩:cb)::d.map λ B=>(⟨#[B]⟩:cb))=_;rw[ih];show bW ((#[B]++#[])++(af::d).toArray)=bW _;congr 1;apply DJ;simp
theorem Di(H:Nat):Ň (λ j=>U) H 0=iQ H:=by unfold Ň;simp
noncomputable def Xx:List Nat:=[1,2,0,0,0,0,0,0,2,0,0,0,0,0,2,2,0,3]
section
variable{s:cR}{f:cc}{aw:VS}
theorem QU(J:cj 40 W s)(hB:Base f.heap)(hl:Slots f.heap [A,o.aL,o.aD] [rL k1 k2 o.aL aR e,inst 460 o.aD,dU o])(aa:∀g∈[A,o.aL,o.aD],dp.get g=W)(L:[A,o.aL,o.aD].Nodup)(G:∀n,É f n->V (R o.er) n):cm (bZ bY w) s (gr (qo gE).iter (dq 251 A)) V aw f:=by rw[fO];refine E0 J hB hl aa L _ 1000 Xx (R o.er) (λ B d p γ=>?_) G;exact{ob:=⋯,rc:=⋯,cfg:=⋯,sl:=(iC ⋯ ⋯ ⋯ trivial),gh:=⋯}
theorem WV{aw:VS}{V:bU->cc->Prop}(J:cj 40 W s)(hB:Base f.heap)(G:∀n,É f n->V 0 n):cm (bZ bY w) s (builtinsFor (dq 251 A).globals (dq 251 A).builtins) V aw f:=by rw[V4];refine E0 J hB (r:=[]) (os:=[]) trivial (λ j a=>nomatch a) .nil _ 1000 [0,0] (0:bU) (λ B d p γ=>?_) G;exact{ob:=⋯,rc:=⋯,cfg:=⋯,sl:=trivial,gh:=⋯}
noncomputable def pU:bX->bU|R g=>g|_=>0
noncomputable def rP:bU:=pU (d9 251).code
noncomputable def jf:Option bV->bV|Y k=>k|W=>default
noncomputable def ke:bV:=jf (dp.get rP)
noncomputable def gJ:bV->Array bX|⟨_,_, .fields vs,_⟩=>vs|_=>#[]
noncomputable def strOf:bX->cb| .str c _=>c|_=>default
noncomputable def tokOf:bX->cp| .str _ D=>D| .int _ D=>D|_=>0
noncomputable def intOf:bX->Int| .int v _=>v|_=>0
noncomputable def boolOf:bX->Bool| .bool l=>l|_=>X
structure b1s:Prop where
 code:(d9 251).code=R rP
 at':dp.get rP=Y ke
 cls:(ke).cls=T "code"
 dat:(ke).data= .fields (gJ ke)
 C8:(gJ ke)[11]?=Y (R 246)
 Jw:(gJ ke).getD 18 .none=S (strOf ((gJ ke).getD 18 .none)) (tokOf ((gJ ke).getD 18 .none))
 f7:(gJ ke).getD 7 .none=I (intOf ((gJ ke).getD 7 .none)) (tokOf ((gJ ke).getD 7 .none))
 f9:(gJ ke).getD 9 .none= .bool (boolOf ((gJ ke).getD 9 .none))
 Jx:(gJ ke).getD 10 .none=I (intOf ((gJ ke).getD 10 .none)) (tokOf ((gJ ke).getD 10 .none))
theorem B3:b1s where
 code:=⋯
 at':=⋯
 cls:=⋯
 dat:=⋯
 C8:=⋯
 Jw:=⋯
 f7:=⋯
 f9:=⋯
 Jx:=⋯
theorem jV.triples(a:jV ps):TriplesOk ps.toList:=by rcases a with rfl|⟨B,rfl⟩<;>trivial
theorem TO(hP:P=w.params)(hB:Base a)(p:jV ps)(d:a.get? 246=Y (dm ps)):a.IsCode rP 246 ps:=by
 subst hP;have aX:=B3;refine(Kp ke (gJ ke) _ _ _ _ _ _ _ _ (hB _ _ aX.at') aX.dat ?_ aX.Jw aX.f7 aX.f9 aX.Jx d rfl p.triples ?_);·rw[Co,aX.C8];rfl
 ·intro e;have:=aX.at';rw[e,(wz.none (.inr rfl))]at this;cases this
theorem Qr(hB:Base a)(d:a.get? 246=Y (dm ps)):a.TableAt rP 246 ps:=by have aX:=B3;exact⟨xx ke (gJ ke) (hB _ _ aX.at') aX.cls aX.dat aX.C8,d⟩
structure ſ(f n:cc):Prop where
 keep:∀l k,l≠246->f.heap.get? l=Y k->n.heap.get? l=Y k
 size:f.heap.objs.size<=n.heap.objs.size
 gens:n.gens=f.gens
 drawn:n.drawn=f.drawn
 os:n.os=f.os
theorem ſ.base{f n:cc}(a:ſ f n)(hB:Base f.heap):Base n.heap:=λ g k e=>a.keep g k (λ q=>by rw[q,(wz.none (.inr rfl))]at e;cases e) (hB g k e)
theorem QV(hp:o=xU gE)(hB:Base f.heap)(p:jV ps)(d:f.heap.get? 246=Y (dm ps))(G:∀B ai n,ſ f n->jV ai->n.heap.get? 246=Y (dm ai)->V (R B) n):cm (bZ bY w) s (genexprCode (dq 251 A) o c g) V aw f:=by
 have aX:=B3;have hc:(dq 251 A).code=R rP:=aX.code;have m:=TO rfl hB p d;subst hp;rcases id p with rfl|⟨B,rfl⟩;·refine wpAny_genexprCodeX hc m (Qr hB d) rfl λ c' h' tk hx b az j j hT j=>?_;refine G c' _ _ ⟨λ l k M e=>hx l k M e,qF (rV b az),rfl,rfl,rfl⟩ (.inr ⟨c',rfl⟩) ?_;show h'.get? 246=_;rw[hT.2];rfl
 ·refine wpAny_genexprCode_hit hc m (c':=R B) ?_ ?_;·show codeAmong _ [mA _,mA _,R B]=_;exact if_pos rfl
  ·exact G B _ f ⟨λ j j j a=>a,gz _,rfl,rfl,rfl⟩ p d
end
noncomputable def fnOf:Expr->Expr| .Call C _ _ _=>C|_=>default
noncomputable def eO:Expr->dK| .Call _ _ _ u=>u|_=>default
noncomputable def b8g:Expr->Nat| .Constant _ _ _=>0|_=>0
noncomputable def b1e:Expr->dK| .Constant _ _ u=>u|_=>default
noncomputable def ny:Expr:=valOf ((qp).headD default)
theorem Ut:ny= .Call (.Attribute (.Constant (.str (bW #[])) 0 (b1e (w4 (fnOf ny)))) "join" (kC (fnOf ny))) [gE] [] (eO ny):=⋯
theorem Ue:gE= .GeneratorExp (.Attribute (.Name (bW #[99]) (X_ (w4 (J' gE)))) xg (kC (J' gE))) [⟨.Name (bW #[99]) (X_ (qo gE).target),(qo gE).iter,[],0⟩] (qK gE) (xU gE):=by have:=HB;rw[HA]at this;exact this
theorem Ur(A:bU):((pM (eO ny) (oI [gE] (dq 251 A))).all (λ c=>!c.1)&&(vk (eO ny) (uZ [] (dq 251 A))).all (λ c=>c.1.isSome)&&decide (([gE]:List Expr).length+([]:List tZ).length+(if([]:List tZ).isEmpty then 0 else 1)<30))=U:=⋯
theorem QT:((kC (fnOf ny)).endLine==(eO ny).line)=U:=⋯
theorem NU(aq:di):pM (eO ny) (oI [gE] aq)=[(X,gr gE aq)]:=by rw[HB];rfl
structure IX(f:cc)(A:bU)(o:dz)(k1 k2:Ht)(aR:bX)(e e2:Nat)(c:cb)(i0:Nat)(ys:List eG)(ps:Array bX):Prop where
 base:Base f.heap
 sl:Slots f.heap [A,o.aL,o.aD] [rL k1 k2 o.aL aR e,inst 460 o.aD,dU o]
 own:∀g∈[A,o.aL,o.aD],dp.get g=W
 nd:[A,o.aL,o.aD].Nodup
 ct:f.heap.get? o.er=Y (lst (refs ys) e2)
 ch:gy f.heap (dx c i0 ys)
 JH:(cz (dx c i0 ys)).Nodup
 Ce:∀g∈cz (dx c i0 ys),dp.get g=W
 tab:f.heap.get? 246=Y (dm ps)
 tok:jV ps
theorem Fs:∀{ys:List eG}{i v:Nat}{t:eG},ys[v]?=Y t->∃r d,dx c i ys=r++(lz c (i+v) t++d)|j::ys,i,0,t,a=>by cases a;exact rI [] _ rfl|j::ys,i,v+1,t,a=>by rw[nA]at a;refine zb (Fs (c:=c) (i:=i+1) a) λ r d e=>?_;refine(rI (lz c i j++r) d ?_);show lz c i j++dx c (i+1) ys=_;rw[e,CI,show i+1+v=i+(v+1)from by simp+arith only]
theorem PI{ys:List eG}{v:Nat}{b:bX}(a:(refs ys)[v]?=Y b):∃t,ys[v]?=Y t/\b=R t.v.a:=by unfold refs at a;rw[iJ]at a;cases q:ys[v]? with|none=>rw[q]at a;cases a|some t=>rw[q]at a;cases a;exact cI t rfl rfl
section
variable{s:cR}{f:cc}{aw:VS}
theorem Uq(J:cj 60 W s)(m:IX f A o k1 k2 aR e e2 c i0 ys ps)(aq:ys.length<=1000000)(G:∀D n ai,(∀l k,l≠246->f.heap.get? l=Y k->n.heap.get? l=Y k)->f.heap.objs.size<=n.heap.objs.size->(∀(y:Nat)(t:eY),f.gens[y]?=Y t->n.gens[y]?=Y t)->(gw f.gens->gw n.gens)->n.drawn=f.drawn->n.os=f.os->jV ai->n.heap.get? 246=Y (dm ai)->V (S (ib c i0 (i0+ys.length)) D) n):cm (bZ bY w) s (gr ny (dq 251 A)) V aw f:=by
 have be:cj 40 W s:=J.less ⋯;have bc:dp.get 246=W:=wz.none (.inr rfl);rw[Ut];refine wpAny_Call_method rfl (Ur _) QT F.plainAttrs_str CQ F.type_str_join ?_;refine Calls.Constant_str (ě (pE _ _ _) (ě (λ g(a:S _ _=R g)=>by cases a) ?_));rw[NU];refine Calls.callWith_builtin rfl (Calls.evalArgs_plain (Calls.spliced_cons ?_));have af:=NN;rw[HA]at af;rw[Ue];have bx:∀t∈(qK gE).names,t.2≠ .cell:=λ t hy=>by have:=ù.mp QF t hy;simpa using this
 refine wpAny_GeneratorExp_walksQD (cl:=[]) J.h af.1 (QE _) bx af.2.2.1 af.2.2.2 af.2.1 (by have:=J.d;exact lZ this) ?_ (QD _);have I':IX {f with toks:=f.toks+1} A o k1 k2 aR e e2 c i0 ys ps:=⟨m.base,m.sl,m.own,m.nd,m.ct,m.ch,m.JH,m.Ce,m.tab,m.tok⟩;refine QU be I'.base I'.sl I'.own I'.nd λ au ah=>?_;have aY:∀l k,f.heap.get? l=Y k->au.heap.get? l=Y k:=ah.keep;have ba:au.heap.get? o.er=Y (lst (refs ys) e2):=aY _ _ m.ct;refine KQ (items:=(refs ys).toArray) ⟨_,ba,by show T uj=_;rw[tS],e2,rfl⟩ ?_;generalize ao:({au with heap:=au.heap.push {cls:=T "list_iterator",data:= .fields #[R o.er,I 0 0]}}:cc)=aJ;have b5:∀l k,au.heap.get? l=Y k->aJ.heap.get? l=Y k:=λ l k a=>by rw[<-ao];exact gF _ a
 have bG:aJ.heap.get? au.heap.objs.size=Y {cls:=T "list_iterator",data:= .fields #[R o.er,I 0 0]}:=by rw[<-ao];exact kj _ rfl
 have B2:Base aJ.heap:=λ g k a=>b5 _ _ (aY _ _ (m.base g k a));refine⟨lF _ B2,QV rfl B2 m.tok (b5 _ _ (aY _ _ m.tab)) λ B ai aM ak bp h3=>?_⟩;refine WV be (ak.base B2) λ aK ae=>?_;have b9:∀l k,l≠246->aJ.heap.get? l=Y k->aK.heap.get? l=Y k:=λ l k M a=>ae.keep _ _ (ak.keep l k M a);have aZ:∀l k,l≠246->f.heap.get? l=Y k->aK.heap.get? l=Y k:=λ l k M a=>b9 l k M (b5 _ _ (aY _ _ a));have B4:Base aK.heap:=λ g k a=>aZ g k (λ q=>by rw[q,bc]at a;cases a) (m.base g k a);have b3:246<f.heap.objs.size:=fc m.tab;have p:f.heap.objs.size<=au.heap.objs.size:=ah.size;have bj:aJ.heap.objs.size=au.heap.objs.size+1:=by rw[<-ao,mf]
 have b8:aJ.heap.objs.size<=aK.heap.objs.size:=dZ ak.size ae.size;have bq:au.heap.objs.size<aK.heap.objs.size:=hV (oa bj) b8;have aX:au.heap.objs.size≠246:=oy (hV b3 p);have bl:o.er≠au.heap.objs.size:=kR (fc ba);have b7:aK.heap.get? o.er=Y (lst (refs ys) e2):=aZ _ _ (λ q=>by have a:=m.ct;rw[q,m.tab]at a;cases a) m.ct;have bb:=b9 _ _ aX bG;have g4:aK.gens=f.gens:=by rw[ae.gens,ak.gens,<-ao];exact ah.gens
 have d4:aK.drawn=f.drawn:=by rw[ae.drawn,ak.drawn,<-ao];exact ah.drawn
 have o4:aK.os=f.os:=by rw[ae.os,ak.os,<-ao];exact ah.os
 refine⟨au.heap.objs.size,[au.heap.objs.size,o.er],[au.heap.objs.size],(refs ys).toArray.size,λ v b=>(refs ys).toArray[v]?=Y b,λ v a=>a.IsListIter au.heap.objs.size o.er v/\a.IsList o.er (refs ys).toArray,λ j=>U,λ v t=>∃L:eG,ys[v]?=Y L/\t=S ⟨#[c.cps.getD (i0+v) 0]⟩ L.v.tc,rfl,λ A' aa=>Walks.list aa _ _ bl _,⟨⟨_,bb,rfl,rfl⟩,⟨_,b7,by show T uj=_;rw[tS],e2,rfl⟩⟩,?_,lF _ B4,?_,λ bM hk=>⟨?_,?_⟩,?_⟩;·
  intro l M;simp only[fw,m9,or_false]at M;rcases M with rfl|rfl;·exact fc bb
  ·exact fc b7
 ·intro a;simp only[fw,m9,or_false]at a;obtain⟨k,ho⟩:∃k,dp.get xf=Y k:=⟨jf (dp.get xf),⋯⟩;exact absurd a (kR (fm (fc (m.base _ _ ho)) p))
 ·intro A' E' v b aV bz aa _ _ _ _ _ _;exact ed ⟨rfl,⟨aV.heap,aV.toks,rfl,λ j j a=>a⟩⟩
 ·intro A' E' v b aV bz aa bB bC hP _ hN hm aQ;have bD:(refs ys)[v]?=Y b:=by simpa using hP
  (refine cK (PI bD) λ t hy bF=>?_;subst bF);refine zb (Fs (c:=c) (i:=i0) hy) λ r d bf=>?_;have kk:∀l k,l≠246->l≠au.heap.objs.size->f.heap.get? l=Y k->aV.heap.get? l=Y k:=λ l k z E a=>by have:=aZ l k z a;exact aQ l (CY.mpr (fc this)) (by simpa using E) k (hk l k this)
  have P:∀u∈lz c (i0+v) t,u∈dx c i0 ys:=λ u hp=>by rw[bf];exact fJ.mpr (.inr (fJ.mpr (.inl hp)))
  have C:∀u∈lz c (i0+v) t,aV.heap.get? u.1=Y u.2:=λ u hp=>by have a:=m.ch u (P u hp);refine kk _ _ (λ q=>?_) (kR (fm (fc a) p)) a;rw[q,m.tab]at a;have bJ:u=(u.1,u.2):=rfl;simp only[lz,fw,m9,or_false]at hp;rcases hp with rfl|rfl|rfl|rfl<;>cases a
  have B5:Base aV.heap:=λ g k a=>by refine kk g k (λ q=>by rw[q,bc]at a;cases a) (λ q=>?_) (m.base g k a);exact absurd q (kR (fm (fc (m.base g k a)) p))
  have nd:(cz (lz c (i0+v) t)).Nodup:=by have:=m.JH;rw[bf]at this;unfold cz at this⊢;rw[mc,mc]at this;exact(ow.mp (ow.mp this).2.1).1
  have ay:t.v.a≠t.v.d:=by simp only[cz,lz,ir,Dh,gI,fw,m9,or_false,not_or]at nd;exact λ a=>nd.2.2.1 a.symm
  refine kS (Ud (b:=t.v) (B:=c.cps.getD (i0+v) 0) af.2.1 af.2.2.2 hN hm ⟨aa,?_,?_⟩ B5 (C (t.v.a,inst 204 t.v.d) (mi 3)) (C (t.v.d,gf t.v (c.cps.getD (i0+v) 0)) (mi 2)) (m.Ce t.v.a (iN.mpr ⟨(t.v.a,inst 204 t.v.d),P _ (mi 3),rfl⟩)) (m.Ce t.v.d (iN.mpr ⟨(t.v.d,gf t.v (c.cps.getD (i0+v) 0)),P _ (mi 2),rfl⟩)) ay) (λ x n a=>⟨⟨t,hy,a.1⟩,a.2⟩) λ j j a=>a;·have:=J.d;exact hV bB this
  ·have:=J.u;exact hV bC this
 ·intro g br tk gs b6 az aj bg Q hG;refine Calls.spliced_nil ?_;have bA:=hG;refine mM bA λ bk _ _=>?_;refine Fn bk λ og bN bO bw bL bK _=>?_;have W':WalksS bY w s.in1.in1 g (g::aK.heap.objs.size::iQ aK.heap.objs.size) (aK.heap.objs.size::[au.heap.objs.size]) (GenOnlyQ aK.gens.size) (Ň (λ j=>U) (refs ys).toArray.size 0).length (λ y t=>∃v,(Ň (λ j=>U) (refs ys).toArray.size 0)[y]?=Y v/\∃L:eG,ys[v]?=Y L/\t=S ⟨#[c.cps.getD (i0+v) 0]⟩ L.v.tc) (GenAt bY w s.in4 g aK.gens.size aK.heap.objs.size (iQ aK.heap.objs.size) [au.heap.objs.size] (λ j=>U) (refs ys).toArray.size λ v t=>∃L:eG,ys[v]?=Y L/\t=S ⟨#[c.cps.getD (i0+v) 0]⟩ L.v.tc):=(Lx (A:=s.in1.in1) (Lx (A:=s.in1.in1.in1) Q));refine SC.joinGen (A:=s) W' (λ v n a=>a.1.typeIs) hG ?_ (.head _) (λ y b hv=>?_) (λ n r hm ax=>?_) ?_;·
   intro l M;show l<br.objs.size;rw[aj];simp only[fw,CY]at M;rcases M with rfl|rfl|M;·exact nC _
   ·exact lR az
   ·exact lR (Dg M az)
  ·refine HF hv λ v _ L _ e=>?_;exact⟨_,_,e⟩
  ·have n0:(refs ys).toArray.size=ys.length:=gi _;rw[Di,n0]at ax;rw[CF]at ax;have hl:r.map (·.1)=((iQ ys.length).map λ v=>c.cps.getD (i0+v) 0).map λ B=>(⟨#[B]⟩:cb):=by
    have aU:r.length=ys.length:=by have:=ax.1;simpa[strValues]using this
    refine KZ λ y=>?_;rw[iJ,iJ,iJ];by_cases hj:y<ys.length;·
     have bh:y<r.length:=hV (oa aU) hj;rw[gv bh,zo hj];have:=ax.2 y (S r[y].1 r[y].2) (by simp[strValues,bh]);refine HF this λ v hi L _ e=>?_;rw[zo hj]at hi;cases hi;have e1:r[y].1=(⟨#[c.cps.getD (i0+y) 0]⟩:cb):=by injection e
     simp[e1]
    ·rw[uP (hV (rx aU) (wc hj)),uP (by simp;exact gB (wc hj))];rfl
   rw[hl];constructor;·
    unfold JoinOk;rw[StrLaws.joinTotal];have:((((iQ ys.length).map λ v=>c.cps.getD (i0+v) 0).map λ B=>(⟨#[B]⟩:cb)).map (·.length)).sum=ys.length:=by
     rw[uY,uY];have:∀H,((iQ H).map (((λ t:cb=>t.length)∘λ B=>(⟨#[B]⟩:cb))∘λ v=>c.cps.getD (i0+v) 0)).sum=H:=λ H=>by induction H with|zero=>rfl|succ H ih=>rw[List.range_succ,mc,List.sum_append,ih];rfl
     exact this _
    rw[this];show(!KE (ys.length+_*0))=U;rw[Df,s7];unfold KE;rw[zJ];simp;exact gB aq
   ·intro t' i;show V _ _;have et:Txt.join (bW #[]) (((iQ ys.length).map λ v=>c.cps.getD (i0+v) 0).map λ B=>(⟨#[B]⟩:cb))=ib c i0 (i0+ys.length):=by show b87 _ _=_;rw[StrLaws.glued_eq_join,DX];unfold ib;rw[Cr]
    rw[et];have bH:∀l k,l≠246->f.heap.get? l=Y k->n.heap.get? l=Y k:=λ l k M a=>by have z:=aZ l k M a;refine hm.heap l k ?_ (bg l k z);simp only[fw,m9,or_false,not_or];exact⟨kR (fc z),kR (fm (fc a) p)⟩
    refine G t' {n with toks:=i} ai bH ?_ ?_ (λ bI=>hm.gens.bare (by rw[g4];exact gw.push bI b6)) ?_ ?_ bp ?_;·have:g<n.heap.objs.size:=fc (hm.heap g og (by simp only[fw,m9,or_false,not_or];exact⟨oy az,oy (Dg bq az)⟩) bw);show f.heap.objs.size<=n.heap.objs.size;lia
    ·intro y t hy;show n.gens[y]?=Y t;have b4:y<f.gens.size:=(iq.mp hy).1;have hg:=hm.gens;have O:(aK.gens.push gs)[y]?=Y t:=by rw[g4,Ko b4];rw[wG b4]at hy;exact hy
     rcases hg with hg|hg;·rw[hg];exact O
     ·rw[hg.1.2 y (by rw[g4];exact kR b4)];exact O
    ·show n.drawn=f.drawn;rw[hm.drawn];exact d4
    ·show n.os=f.os;rw[hm.os];exact o4
    ·show n.heap.get? 246=_;refine hm.heap 246 _ ?_ (bg _ _ (ae.keep _ _ h3));simp only[fw,m9,or_false,not_or];exact⟨kR (Je b3 p (oa bj) b8),kR (hV b3 p)⟩
  ·rw[Di,CF,zJ];simp[refs];exact yE aq
end
noncomputable def bnZ:di->cb->bX->cD Unit:=JO
theorem V3:EH=bnZ:=JQ
noncomputable def IT(k1 k2 k3:Ht)(t:bU)(aR b:bX)(e:Nat):bV:=ly [⟨k1.h,S (bW #[115,101,108,102]) k1.t,R t⟩,⟨k2.h,S (bW #[116,121,112]) k2.t,aR⟩,⟨k3.h,S (bW #[118,97,108]) k3.t,b⟩] e
noncomputable def qZ(af:bU)(aR a:bX)(aq:bU):bV:=⟨R 68,Y af, .plain,#[Y (R aq),Y aR,Y a]⟩
noncomputable def XD:List Nat:=nd 16 256 0x255553022000002000000214440401444430220000020000002111b0b000000b0000000000b0b00b0000bcc70000c00b0b000000b0000000000b0b00b0000bccb0b000000b0000000000b0b00b0000bcccccccccc10000b0b0000000000000000000000000000000001110110809900090000905050555302200000200000021
noncomputable def Hm:dd->dK| .Assign (.Name _ u::_) _ _=>u|_=>default
noncomputable def HL:dd->dK| .Assign _ _ u=>u|_=>default
noncomputable abbrev strVal:cb:=bW #[118,97,108]
theorem Uu:qp= .Assign [.Name strVal (Hm ((qp).headD default))] ny (HL ((qp).headD default))::(qp).tail:=⋯
theorem WU(A:bU):ĕ ny (Y (.Name strVal (Hm ((qp).headD default)))) (HL ((qp).headD default)).line (dq 251 A)=pure X:=⋯
theorem Us(o:dz)(Q:Nat)(aR:bX):i7 251 ⟨[R o.aL,aR],[]⟩ 290 [1,4,4,4,4,4] (λ kk=>rL (kk 0) (kk 1) o.aL aR 2) [(o.aL,inst 460 o.aD),(o.aD,dU o),(o.fe,lst [] Q)]:=by unfold i7;kernel_rfl
noncomputable def Œ(l Q i:Nat)(aR:bX)(b:cb)(P:GP):Sm:=⟨300,4,4,λ j j=> .ok (.ret .none),λ g j=>[(l,lst [R (g 3)] (Q+1))],λ g af=>[df [] 0,eB (g 0) (i+1) (af 0).t (af 1).t (af 2).t,df [] 0,qZ (g 2) aR (S b (af 3).t) (g 1)],Y λ j j=>P⟩
noncomputable def emA(dl aq l B:bU):FA:=λ i=>match i with|0=>dl|1=>aq|2=>l|_=>B
noncomputable def emD(a t1 t2 t3:cp):FD:=λ i=>match i with|0=>⟨a,default,[],0⟩|1=>⟨t1,default,[],0⟩|2=>⟨t2,default,[],0⟩|_=>⟨t3,default,[],0⟩
noncomputable def emR(o:dz)(c:cb)(oG:bV)(Q b:Nat)(e:List eG)(e1:Nat):List (bU×bV):=[(o.fe,lst [] Q),(o.fN,lst (refs e) e1),(o.aG,oG)]++dx c b e
noncomputable def b1d(o:dz)(c:cb)(oG:bV)(i0 b Q e1 e2:Nat)(t:eG)(ys e:List eG)(ps:Array bX):List (bU×bV):=[(o.aL,inst 460 o.aD),(o.aD,dU o),(o.fe,lst [] Q),(o.er,lst (refs (t::ys)) e2)]++(dx c i0 (t::ys)++([(246,dm ps),(o.fN,lst (refs e) e1),(o.aG,oG)]++dx c b e))
section
variable{x:FA}{o:dz}{c:cb}{oG:bV}{ao:FG}{i0 b:Nat}{pb:Bool}{jL jD l Q:Nat}{ty:cb}{tt:cp}
theorem WW(J:cj 60 W s)(p:jV ps)(aq:ys.length<=1000000)(m:∀C f n,dD C P f->(∀g k,C g->f.heap.get? g=Y k->n.heap.get? g=Y k)->(∀(y:Nat)(t:eY),f.gens[y]?=Y t->n.gens[y]?=Y t)->(gw f.gens->gw n.gens)->dD C P n)(L:At ae ah ((246,dm ps)::(A,rL k1 k2 o.aL aR e)::(o.aL,inst 460 o.aD)::(o.aD,dU o)::(o.er,lst (refs ys) e2)::(dx c i0 ys++ak)) P f)(G:∀D n ai,jV ai->At ae ah ((246,dm ai)::(A,rL k1 k2 o.aL aR e)::(o.aL,inst 460 o.aD)::(o.aD,dU o)::(o.er,lst (refs ys) e2)::(dx c i0 ys++ak)) P n->V (S (ib c i0 (i0+ys.length)) D) n):cm (bZ bY w) s (gr ny (dq 251 A)) V aw f:=by
 have aa:=L.has;(refine cK L.own λ az z r=>?_;obtain⟨_,h3,fS,h4,_,_⟩:=r);have F:∀g∈cz ((246,dm ps)::(A,rL k1 k2 o.aL aR e)::(o.aL,inst 460 o.aD)::(o.aD,dU o)::(o.er,lst (refs ys) e2)::(dx c i0 ys++ak)),dp.get g=W:=λ g ha=>(z g ((h4 g).mpr (.inl ha))).2.2;have hc:∀q∈dx c i0 ys,q∈(246,dm ps)::(A,rL k1 k2 o.aL aR e)::(o.aL,inst 460 o.aD)::(o.aD,dU o)::(o.er,lst (refs ys) e2)::(dx c i0 ys++ak):=λ q hq=> .tail _ (.tail _ (.tail _ (.tail _ (.tail _ (fJ.mpr (.inl hq))))));have af:=(gI.mp h3).2;refine Uq J ⟨L.base,iC (aa _ (mi 1)) (aa _ (mi 2)) (aa _ (mi 3)) trivial,λ g ha=>F g (.tail _ (List.mem_of_mem_take (i:=3) ha)),(ow.mp (show([A,o.aL,o.aD]++(o.er::cz (dx c i0 ys++ak))).Nodup from af)).1,aa (o.er,_) (mi 4),λ q hq=>aa q (hc q hq),?_,λ g ha=>?_,aa (246,_) (mi 0),p⟩ aq λ D n ai i hz hg j hd ho a d=>G D n ai a (L.raw i d hz hd ho λ C hf H=>m C f n hf (λ g k ha q=>i g k (λ e=>H (e▸ha)) q) hg j);·have e:cz (dx c i0 ys++ak)=cz (dx c i0 ys)++cz ak:=mc;exact(ow.mp (e▸(ow.mp (show([A,o.aL,o.aD,o.er]++cz (dx c i0 ys++ak)).Nodup from af)).2.1)).1
 ·(refine cK (iN.mp ha) λ q hq u=>?_;subst u);exact F _ (jd (hc q hq))
theorem Mg(aj:fQ c o.aG oG ao)(hx:c.cps.size<=1000000)(i:i0<b)(hc:d.c= .call (R 251) ⟨[R o.aL,S ty tt],[]⟩)(hg:d.gh=cH o c oG ao i0 b pb)(ae:d.sm=Œ l Q i0 (S ty tt) (ib c i0 b) (cH o c oG ao b b pb))(aa:eH x d [(jL,o.aL,inst 460 o.aD),(jD,o.aD,dU o),(l,o.fe,lst [] Q)])(hd:[jL,jD,l].Nodup):cy x d:=by
 refine EV ae aa hd λ s ax f fp J G L=>?_;rw[hc];rw[hg]at L;replace L:At f _ [(o.aL,inst 460 o.aD),(o.aD,dU o),(o.fe,lst [] Q)] _ f:=L;refine At.enter (v:=290) (aj:=qp) J L (Us o Q (S ty tt)) λ A kk au j m X1=>kQ ?_;(refine cK ((λ⟨C,a,k⟩=>⟨C,a.now,k⟩:_->∃fS,cH o c oG ao i0 b pb fS au/\_) X1.vE) λ fS r q=>?_;obtain⟨ys,e,e1,e2,u,ps,h0,z,E,h3,h4,h5⟩:=r);obtain⟨t,ys,rfl⟩:∃t g,ys=t::g:=by cases ys with|nil=>exact absurd z (kR i)|cons t g=>exact⟨t,g,rfl⟩
 have p:(t::ys).length<=1000000:=uD hx h3 (rx z);have X2:At f _ ((246,dm ps)::(A,rL (kk 0) (kk 1) o.aL (S ty tt) 2)::(o.aL,inst 460 o.aD)::(o.aD,dU o)::(o.er,lst (refs (t::ys)) e2)::(dx c i0 (t::ys)++emR o c oG Q b e e1)) (ao u) au:=((q _ h5.eF).pull.pm [[_],[_],[_],[_],[_],[_],[_],[_],dx c i0 (t::ys),_] [7,0,1,2,5,8,3,4,6,9]).to;rw[Uu];refine wpAny_execs_cons ?_;rw[exec_Assign_Name _ _ _ _ _ (WU _)];refine cJ (pC (cJ (WW (m.less ⋯) h0 p (λ C f n=>aj.ext) X2 λ D aJ ai B X3=>cJ (pC ?_))));rw[z,V3];have H:At f _ ([(A,rL (kk 0) (kk 1) o.aL (S ty tt) 2)]++b1d o c oG i0 b Q e1 e2 t ys e ai) (ao u) aJ:=(X3.pm [[_],[_],[_],[_],[_],dx c i0 (t::ys),[_],[_],[_],_] [1,2,3,6,4,5,0,7,8,9]).to;refine cJ (gY (m.less ⋯:cj 40 W _) H.push _ 1000 (nd 16 2 0x11) [] [0] (λ j j j=>()) (λ j j k=>[IT (kk 0) (kk 1) ⟨(d5 k.2.T 0 2).h,(d5 k.2.T 0 2).t⟩ o.aL (S ty tt) (S (ib c i0 b) D) 3]) ⋯ λ aM O aq oB M=>ed ?_);generalize(⟨(d5 oB.2.T 0 2).h,(d5 oB.2.T 0 2).t⟩:Ht)=k3 at M;show cm _ _ (dj (qp).tail (dq 251 A)) _ _ aM;rw[i2];have X6:At f _ ([(A,IT (kk 0) (kk 1) k3 o.aL (S ty tt) (S (ib c i0 b) D) 3),(o.aL,inst 460 o.aD),(o.aD,dU o),(o.fe,lst [] Q),(o.er,lst (refs (t::ys)) e2),(t.dl,df [] 0),(t.v.loc,eB t.dl (i0+1) t.tn t.t1 t.t2),(t.v.d,gf t.v (c.cps.getD i0 0)),(t.v.a,inst 204 t.v.d)]++(dx c (i0+1) ys++([(246,dm ai),(o.fN,lst (refs e) e1),(o.aG,oG)]++dx c b e))) (ao u) aM:=M.pull.to;refine gY (m.less ⋯:cj 200 W _) X6.push _ 2000 XD [qA "list.clear" 4 o.er (λ j=>[R o.er]) (λ j=>lst (refs (t::ys)) e2) (EW 4 e2) λ j j z E h3 h4=>LY (b:=R t.v.a) (xs:=refs ys) z E h3 h4 (by show(refs (t::ys)).length<=_;unfold refs;rw[gi];exact yE p)] [1,2,3,4,5,6,7,8,9,10] (λ j j j=> .next) (λ d j j=>[inst 460 o.aD,dU o,lst [R (d 1)] (Q+1),lst [] (e2+1),df [] 0,eB t.dl (i0+1) t.tn t.t1 t.t2,gf t.v (c.cps.getD i0 0),inst 204 t.v.d,df [] 0,qZ (d 0) (S ty tt) (S (ib c i0 b) D) t.v.loc]) ⋯ λ aK v b8 F y=>?_;·exact G (emA t.dl t.v.loc (v 0) (v 1)) (emD t.tn t.t1 t.t2 D) [W,W,Y (lst [R (v 1)] (Q+1))] [(t.dl,df [] 0),(t.v.loc,eB t.dl (i0+1) t.tn t.t1 t.t2),(v 0,df [] 0),(v 1,qZ (v 0) (S ty tt) (S (ib c i0 b) D) t.v.loc)] (sI o.fN o.er o.aG c oG b b [] e e1 (e2+1) ai) (ao u) aK (At.drop (l2:=[(t.v.d,gf t.v (c.cps.getD i0 0)),(t.v.a,inst 204 t.v.d)]++dx c (i0+1) ys) (y.pull.pk [[(o.aL,inst 460 o.aD),(o.aD,dU o),(o.fe,lst [R (v 1)] (Q+1))],[(o.er,lst [] (e2+1))],[(t.dl,df [] 0),(t.v.loc,eB t.dl (i0+1) t.tn t.t1 t.t2)],[(t.v.d,gf t.v (c.cps.getD i0 0)),(t.v.a,inst 204 t.v.d)],[(v 0,df [] 0),(v 1,qZ (v 0) (S ty tt) (S (ib c i0 b) D) t.v.loc)],dx c (i0+1) ys,[(246,dm ai)],[(o.fN,lst (refs e) e1)],[(o.aG,oG)],dx c b e] [0,2,4,7,1,8,6,9,3,5])) rfl rfl rfl λ C hf=>cH.eF ⟨[],e,e1,e2+1,u,ai,B,rfl,E,h3,h4,hf⟩
end
noncomputable abbrev dr:cb:=bW #[39,34,63,92,97,98,102,110,114,116,118,101]
noncomputable abbrev de:cb:=bW #[48,49,50,51,52,53,54,55]
noncomputable abbrev cA:cb:=bW #[48,49,50,51,52,53,54,55,56,57,97,98,99,100,101,102,65,66,67,68,69,70]
noncomputable abbrev vx:cb:=bW #[120]
noncomputable abbrev vu:cb:=bW #[117]
noncomputable abbrev vU:cb:=bW #[85]
noncomputable abbrev vQ:cb:=bW #[39]
noncomputable abbrev nr:cb:=bW #[92]
noncomputable abbrev wa:cb:=bW #[32,9]
noncomputable abbrev F_:cb:=bW #[67,72,65,82]
noncomputable abbrev J6:cb:=bW #[87,83]
noncomputable def sh(l Q i:Nat)(ty b:cb)(t:bU)(P:GP):Sm:=⟨380,5,5,λ g j=> .ok (.ret (R (g 4))),λ g j=>[(l,lst [R (g 3)] (Q+1))],λ g af=>[df [] 0,eB (g 0) (i+1) (af 0).t (af 1).t (af 2).t,df [] 0,qZ (g 2) (S ty (af 4).t) (S b (af 3).t) (g 1),kx 394 t],Y λ j j=>P⟩
noncomputable def eM(c b:cb)(v:Nat)(l:Bool)(y:Nat)(q:Bool):Prop:=cu c b v=l/\cq c b v=y/\kY c b v=q
section
variable{o:dz}{c:cb}{O:Nat}{nm qn:bX}{ao:FG}(aj:fQ c o.aG (cv O nm qn) ao)(hx:c.cps.size<=1000000)
noncomputable abbrev gN(o:dz)(c:cb)(O:Nat)(nm qn:bX)(ao:FG)(i0 b:Nat)(u:Bool):GP:=cH o c (cv O nm qn) ao i0 b u
noncomputable def qM(i:Nat)(o:dz)(jL:Nat)(p:Rc->List bX)(γ:GP)(sm:Sm)(l:∀(x:FA)(q:Rc),q.c= .call (R i) ⟨R o.aL::p q,[]⟩->q.gh=γ->q.sm=sm->eH x q [(jL,o.aL,inst 460 o.aD),(jL+1,o.aD,dU o)]->[jL,jL+1].Nodup->cy x q):Qi:=⟨[jL,jL+1],λ j j q=>(.call (R i) ⟨R o.aL::p q,[]⟩,γ,sm,[(o.aL,Y (inst 460 o.aD)),(o.aD,Y (dU o))]),λ j j=>sm,λ j j j e=>l _ _ (kJ e) (nt e) (kI e) (i6 (kG e rfl).2 (kG e rfl).1 (rv e rfl).2 (rv e rfl).1 trivial) (by simp)⟩
noncomputable def fG(jL i0:Nat){V:cb}{b:Nat}(pb:Bool){l q:Bool}{y:Nat}(g:eM c V b l y q):Qi:=qM 265 o jL (λ q=>[S V (pL q.c)]) (gN o c O nm qn ao i0 b pb) (sA 200 (gN o c O nm qn ao i0 y q) l) λ j j z E h3 aa hd=>Mi aj hx g.1 z E (by rw[g.2.1,g.2.2];exact h3) aa hd
section
variable{x:FA}{i0 b:Nat}{jL jD:Nat}{d:Rc}{pb:Bool}
include aj hx in theorem h_1{p1:Bool}(g:eM c dr b U a p1)(hc:d.c= .call (R 457) ⟨[R o.aL],[]⟩)(hg:d.gh=gN o c O nm qn ao i0 b pb)(ae:d.sm=mu 340 (gN o c O nm qn ao i0 a p1))(aa:eH x d [(jL,o.aL,inst 460 o.aD),(jD,o.aD,dU o)])(hd:[jL,jD].Nodup):cy x d:=qO hc hg ae aa hd 6000 (nd 16 27 0x202100000010000010000013331) [fG aj hx 0 i0 pb g] [] [] (dN []) ⋯
include aj hx in theorem h_2{p1 p2 V p u A:Bool}(g:eM c dr b X a p1)(v:eM c de a U e p2)(l:eM c de e u k V)(r:eM c de k A n p)(hc:d.c= .call (R 457) ⟨[R o.aL],[]⟩)(hg:d.gh=gN o c O nm qn ao i0 b pb)(ae:d.sm=mu 340 (gN o c O nm qn ao i0 n p))(aa:eH x d [(jL,o.aL,inst 460 o.aD),(jD,o.aD,dU o)])(hd:[jL,jD].Nodup):cy x d:=qO hc hg ae aa hd 6000 (nd 16 147 0x202011000100000013210000001000001000001320201100010000001321000000100000100000132020110001000000132100000010000010000013202100000010000010000013331) [fG aj hx 0 i0 pb g,fG aj hx 0 i0 p1 v,fG aj hx 0 i0 p2 l,fG aj hx 0 i0 V r] [] [] (dN []) ⋯
include aj hx in theorem h_3{p1 p2 V p p5 A i:Bool}(g:eM c dr b X a p1)(v:eM c de a X e p2)(l:eM c vx e U k V)(r:eM c cA k A n p)(y:eM c cA n i f p5)(hc:d.c= .call (R 457) ⟨[R o.aL],[]⟩)(hg:d.gh=gN o c O nm qn ao i0 b pb)(ae:d.sm=mu 340 (gN o c O nm qn ao i0 f p5))(aa:eH x d [(jL,o.aL,inst 460 o.aD),(jD,o.aD,dU o)])(hd:[jL,jD].Nodup):cy x d:=qO hc hg ae aa hd 6000 (nd 16 171 0x202011000100000013210000001000001000001320201100010000001321000000100000100000132021000000100000100000132020110001000000132100000010000010000013202100000010000010000013331) [fG aj hx 0 i0 pb g,fG aj hx 0 i0 p1 v,fG aj hx 0 i0 p2 l,fG aj hx 0 i0 V r,fG aj hx 0 i0 p y] [] [] (dN []) ⋯
include aj hx in theorem h_4{p1 p2 V p p5 B q t i G F E:Bool}(g:eM c dr b X a p1)(v:eM c de a X e p2)(l:eM c vx e X k V)(r:eM c vu k U n p)(y:eM c cA n i f p5)(j:eM c cA f G z B)(s:eM c cA z F A q)(m:eM c cA A E D t)(hc:d.c= .call (R 457) ⟨[R o.aL],[]⟩)(hg:d.gh=gN o c O nm qn ao i0 b pb)(ae:d.sm=mu 340 (gN o c O nm qn ao i0 D t))(aa:eH x d [(jL,o.aL,inst 460 o.aD),(jD,o.aD,dU o)])(hd:[jL,jD].Nodup):cy x d:=qO hc hg ae aa hd 6000 (nd 16 275 0x20201100010000001321000000100000100000132020110001000000132100000010000010000013202011000100000013210000001000001000001320201100010000001321000000100000100000132021000000100000100000132021000000100000100000132020110001000000132100000010000010000013202100000010000010000013331) [fG aj hx 0 i0 pb g,fG aj hx 0 i0 p1 v,fG aj hx 0 i0 p2 l,fG aj hx 0 i0 V r,fG aj hx 0 i0 p y,fG aj hx 0 i0 p5 j,fG aj hx 0 i0 B s,fG aj hx 0 i0 q m] [] [] (dN []) ⋯
include aj hx in theorem h_5{p1 p2 V p p5 B q t C G F E H:Bool}(g:eM c dr b X a p1)(v:eM c de a X e p2)(l:eM c vx e X k V)(r:eM c vu k X n p)(y:eM c vU n U f p5)(j:eM c cA f G z B)(s:eM c cA z F A q)(m:eM c cA A E D t)(u:eM c cA D H i C)(hc:d.c= .call (R 457) ⟨[R o.aL],[]⟩)(hg:d.gh=gN o c O nm qn ao i0 b pb)(ae:d.sm=mu 340 (gN o c O nm qn ao i0 i C))(aa:eH x d [(jL,o.aL,inst 460 o.aD),(jD,o.aD,dU o)])(hd:[jL,jD].Nodup):cy x d:=qO hc hg ae aa hd 6000 (nd 16 299 0x20201100010000001321000000100000100000132020110001000000132100000010000010000013202011000100000013210000001000001000001320201100010000001321000000100000100000132021000000100000100000132021000000100000100000132021000000100000100000132020110001000000132100000010000010000013202100000010000010000013331) [fG aj hx 0 i0 pb g,fG aj hx 0 i0 p1 v,fG aj hx 0 i0 p2 l,fG aj hx 0 i0 V r,fG aj hx 0 i0 p y,fG aj hx 0 i0 p5 j,fG aj hx 0 i0 B s,fG aj hx 0 i0 q m,fG aj hx 0 i0 t u] [] [] (dN []) ⋯
include aj hx in theorem Ef(g:eM c V b U y u)(hc:d.c= .call (R 293) ⟨[R o.aL,S V (pL d.c)],[]⟩)(hg:d.gh=gN o c O nm qn ao i0 b pb)(ae:d.sm=mu 300 (gN o c O nm qn ao i0 y u))(aa:eH x d [(jL,o.aL,inst 460 o.aD),(jD,o.aD,dU o)])(hd:[jL,jD].Nodup):cy x d:=qO hc hg ae aa hd 6000 (nd 16 30 0x203210000001000001000001333331) [fG aj hx 0 i0 pb g] [] [] (dN []) ⋯
noncomputable def ĭ(o:dz)(c:cb)(O:Nat)(nm qn:bX)(ao:FG)(i0 v:Nat)(u:Bool)(y:Nat)(k:Bool):Prop:=∀{x:FA}{d:Rc}{jL jD:Nat},d.c= .call (R 457) ⟨[R o.aL],[]⟩->d.gh=cH o c (cv O nm qn) ao i0 v u->d.sm=mu 340 (cH o c (cv O nm qn) ao i0 y k)->eH x d [(jL,o.aL,inst 460 o.aD),(jD,o.aD,dU o)]->[jL,jD].Nodup->cy x d
noncomputable def Ca(H D:Nat)(_:FA)(p:FD):FD:=λ i=>match i with|0=>p H|1=>p (H+1)|2=>p (H+2)|3=>p (H+3)|_=>p D
noncomputable def ů(Q i0 b:Nat)(u:Bool)(ty:cb)(i:Nat)(a:i0<b):Qi:=⟨[0,1,2],λ j p j=>(.call (R 251) ⟨[R o.aL,S ty (p i).t],[]⟩,gN o c O nm qn ao i0 b u,Œ 2 Q i0 (S ty (p i).t) (ib c i0 b) (gN o c O nm qn ao b b u),[(o.aL,Y (inst 460 o.aD)),(o.aD,Y (dU o)),(o.fe,Y (lst [] Q))]),λ j p=>Œ 2 Q i0 (S ty (p i).t) (ib c i0 b) (gN o c O nm qn ao b b u),λ j j j e=>Mg aj hx a (kJ e) (nt e) (kI e) (jL:=0) (jD:=1) (l:=2) (kW (kG e rfl).2 (kG e rfl).1 (rv e rfl).2 (rv e rfl).1 (Í e rfl).2 (Í e rfl).1 trivial) ⋯⟩
include aj hx in theorem Wr{p1 p2:Bool}(g:eM c nr b X a p1)(hi:a<c.cps.size)(v:eM c vQ (a+1) U e p2)(i:i0<e)(hc:d.c= .call (R 450) ⟨[R o.aL],[]⟩)(hg:d.gh=gN o c O nm qn ao i0 b pb)(ae:d.sm=sh l Q i0 F_ (ib c i0 e) o.aL (gN o c O nm qn ao e e p2))(aa:eH x d [(jL,o.aL,inst 460 o.aD),(jD,o.aD,dU o),(l,o.fe,lst [] Q)])(hd:[jL,jD,l].Nodup):cy x d:=qO hc hg ae aa hd 6000 (nd 16 127 0x20110000001000000142021000000100000100000142021000000100000100000140202100000010000010000014202100000010000010000014441) [fG aj hx 0 i0 pb g,J9 aj hx 0 i0 a p1 hi,qM 293 o 0 (λ q=>[S vQ (pL q.c)]) (gN o c O nm qn ao i0 (a+1) X) (mu 300 (gN o c O nm qn ao i0 e p2)) (λ j j=>Ef aj hx v),ů aj hx Q i0 e p2 F_ 4 i] [2] [4,5,6,7,8] (Ca 5 4) ⋯
include aj hx in theorem Ws{p1 k p2:Bool}(g:eM c nr b U a p1)(n:ĭ o c O nm qn ao i0 a p1 y k)(v:eM c vQ y U e p2)(i:i0<e)(hc:d.c= .call (R 450) ⟨[R o.aL],[]⟩)(hg:d.gh=gN o c O nm qn ao i0 b pb)(ae:d.sm=sh l Q i0 F_ (ib c i0 e) o.aL (gN o c O nm qn ao e e p2))(aa:eH x d [(jL,o.aL,inst 460 o.aD),(jD,o.aD,dU o),(l,o.fe,lst [] Q)])(hd:[jL,jD,l].Nodup):cy x d:=qO hc hg ae aa hd 6000 (nd 16 124 0x20110000001000000142021000000100000100000142021000000100000100000142021000010000010000014202100000010000010000014441) [fG aj hx 0 i0 pb g,qM 457 o 0 (λ j=>[]) (gN o c O nm qn ao i0 a p1) (mu 340 (gN o c O nm qn ao i0 y k)) (λ j j=>n),qM 293 o 0 (λ q=>[S vQ (pL q.c)]) (gN o c O nm qn ao i0 y k) (mu 300 (gN o c O nm qn ao i0 e p2)) (λ j j=>Ef aj hx v),ů aj hx Q i0 e p2 F_ 3 i] [2] [4,5,6,7,8] (Ca 4 3) ⋯
include aj hx in theorem lws{p1:Bool}(g:eM c wa b X a p1)(i:i0<a)(hc:d.c= .call (R 422) ⟨[R o.aL],[]⟩)(hg:d.gh=gN o c O nm qn ao i0 b pb)(ae:d.sm=sh l Q i0 J6 (ib c i0 a) o.aL (gN o c O nm qn ao a a p1))(aa:eH x d [(jL,o.aL,inst 460 o.aD),(jD,o.aD,dU o),(l,o.fe,lst [] Q)])(hd:[jL,jD,l].Nodup):cy x d:=qO hc hg ae aa hd 6000 (nd 16 108 0x2011000000100000014202100000010000010000014205210000001000001000001505555102100000010000010000014441) [fG aj hx 0 i0 pb g,ů aj hx Q i0 a p1 J6 4 i] [2] [5,6,7,8,9] (Ca 5 4) ⋯
end
end
end Mine
end
section
end
section
open PySem PySem.W PySem.W.X PySem.Calls
namespace Mine
noncomputable def Q_:dd->Expr×List dd| .While D l _ _=>(D,l)|_=>(default,[])
noncomputable def hS:List dd:=fP (d9 229).body
noncomputable def z8:dd:=(hS).getD 2 default
noncomputable def nx:Expr:=(Q_ z8).1
noncomputable def ti:List dd:=(Q_ z8).2
noncomputable def BZ:dd:=(ti).headD default
noncomputable def pf:Expr:=(Q_ BZ).1
noncomputable def à:List dd:=(Q_ BZ).2
noncomputable def oi:List dd:=(ti).tail
noncomputable def hE(A:bU):di:=dq 229 A
noncomputable def kM(A:bU):cN:= .whileLoop nx ti [] (hE A)
noncomputable def iw(A:bU):cN:= .whileLoop pf à [] (hE A)
noncomputable def ß(A:bU):lh:=Â nx ti [] (hE A)
noncomputable def hK2(A:bU):lh:=Â pf à [] (hE A)
structure qw where
 a:bU
 k1:Ht
 k2:Ht
 k3:Ht
 k4:Ht
 cs:bX
 ss:bX
 e:Nat
noncomputable def jN(a:qw)(t:bU)(st:bX):bV:=ly [⟨a.k1.h,S (bW #[115,101,108,102]) a.k1.t,R t⟩,⟨a.k2.h,S (bW #[99,104,97,114,97,99,116,101,114,115]) a.k2.t,a.cs⟩,⟨a.k3.h,S (bW #[115,116,97,114,116,95,115,116,97,116,101]) a.k3.t,a.ss⟩,⟨a.k4.h,S (bW #[115,116,97,116,101]) a.k4.t,st⟩] a.e
noncomputable def nj(A:bU)(m:dK):List jx:=[.ret (lr (hE A) (mX [] (hE A) pX (jJ (hE A))) (jJ (hE A))) W X [] (.func hS (hE A)) m []]
noncomputable def lP(A:bU)(p1 m:dK):List jx:= .ret (lr (hE A) (mX oi (hE A) (ß A) (kv (hE A))) (kv (hE A))) W X [] (kM A) p1 []::nj A m
theorem cj.over(a:cj (af+40) W s)(h0:(ę fs (s.handled,s.handled)).1=W)(z:zM (fs.map tK)+B.weight<=40)(E:xr (fs.map tK)+B.cUnits<=120):cj af W (s.over B fs):=⟨h0,by have:=a.d;show s.depth+zM _+B.weight+af<_;exact hV z this,by have:=a.u;show s.units+xr _+B.cUnits+3*af<_;exact hV E this⟩
theorem xR(a:cj (af+40) W s):cj af W (s.over (kM A) (nj A m)):=by refine a.over ?_ ⋯ ⋯;rw[a.h];rfl
theorem Hy{p1 m:dK}(a:cj (af+40) W s):cj af W (s.over (iw A) (lP A p1 m)):=by refine a.over ?_ ⋯ ⋯;rw[a.h];rfl
noncomputable def hP(a:qw)(o:dz)(g C:bU)(tb:List bX)(Q:Nat):List (bU×bV):=[(a.a,jN a o.aL (R g)),(o.aL,inst 460 o.aD),(o.aD,dU o),(o.fe,lst tb Q),(g,kx C o.aL)]
noncomputable def C0(a:qw)(o:dz)(tb:List bX)(Q:Nat):List (bU×bV):=[(a.a,jN a o.aL .none),(o.aL,inst 460 o.aD),(o.aD,dU o),(o.fe,lst tb Q)]
noncomputable def M_:List Nat:=[1,2,0,0,0,0,0,0,2,0,0,0,0,0,2,2,0,3,4,4,0,4,0,4,0,4]
theorem b8e:hS=[(hS).getD 0 default,(hS).getD 1 default, .While nx ti [] (match z8 with| .While _ _ _ u=>u|_=>default)]:=⋯
theorem Gv:ti= .While pf à [] (match BZ with| .While _ _ _ u=>u|_=>default)::oi:=⋯
theorem zR(g:bU):(kM g).quiet=U:=⋯
theorem DV(g:bU):(iw g).quiet=U:=⋯
section
variable{ae f:cc}{ah:AP}{P:GP}{s:cR}{F:ES}{a:qw}{o:dz}{g C:bU}{Q:Nat}{m:dK}
theorem WL:jX (hP a o g C [] Q) W 100 1000 (oK pf (hE a.a) (dO pf (hE a.a))) M_ X:=kA
theorem WK:jX (hP a o g C [R tk] Q) W 100 1000 (oK pf (hE a.a) (dO pf (hE a.a))) M_ U:=kA
theorem b16:jX (hP a o g C tb Q) W 100 1000 (oK nx (hE a.a) (dO nx (hE a.a))) [1,5,5] U:=kA
theorem WM:jX (C0 a o tb Q) W 100 1000 (oK nx (hE a.a) (dO nx (hE a.a))) [1] X:=kA
theorem xk{p1:dK}(J:cj 500 W s)(L:At ae ah (hP a o g C [] Q) P f)(G:∀n,At ae ah (hP a o g C [] Q) P n->da (bZ bY w) s (kM a.a) ((fZ oi (hE a.a)).wrap (ß a.a) (kv (hE a.a)) id id) (nj a.a m) n F):da (bZ bY w) s (iw a.a) (gp fV (iw a.a)) (lP a.a p1 m) f F:=by refine zI ?_;rw[tM,fO];have aa:cj 100 W (s.over (iw a.a) (lP a.a p1 m)):=Hy (J.less ⋯);refine mR aa L _ 1000 M_ X WL λ n X'=>?_;rw[if_neg zp];refine ť ?_;exact t_ (G n X')
theorem n_(J:cj 500 W s)(L:At ae ah (hP a o g C tb Q) P f)(G:∀n p1,At ae ah (hP a o g C tb Q) P n->da (bZ bY w) s (iw a.a) (gp fV (iw a.a)) (lP a.a p1 m) n F):da (bZ bY w) s (kM a.a) (gp fV (kM a.a)) (nj a.a m) f F:=by refine zI ?_;rw[tM,fO];have aa:cj 100 W (s.over (kM a.a) (nj a.a m)):=xR (J.less ⋯);refine mR aa L _ 1000 [1,5,5] U b16 λ n X'=>?_;rw[if_pos rfl,Gv];refine ub (EJ λ p1=>?_);rw[<-Gv];exact G n p1 X'
end
noncomputable def wm(g:bU):cD fE:=(fZ oi (hE g)).wrap (ß g) (kv (hE g)) id id
noncomputable def vO:List Nat:=nd 16 8 0x11250051
section
variable{P r:GP}{a:qw}{o:dz}{g C:bU}{Q i:Nat}{ty b:cb}
noncomputable def I1(l:∀(x:FA)(p:FD)(q:Rc),ng [1,2,3] x q=(.call (R C) ⟨[R o.aL],[]⟩,P,sh 3 Q i ty b o.aL r,[(o.aL,Y (inst 460 o.aD)),(o.aD,Y (dU o)),(o.fe,Y (lst [] Q))])->cy x q):Qi:=⟨[1,2,3],λ _ _ _=>(.call (R C) ⟨[R o.aL],[]⟩,P,sh 3 Q i ty b o.aL r,[(o.aL,Y (inst 460 o.aD)),(o.aD,Y (dU o)),(o.fe,Y (lst [] Q))]),λ _ _=>sh 3 Q i ty b o.aL r,l⟩
theorem a2T(hf:C=450\/C=422)(l:∀(x:FA)(p:FD)(q:Rc),ng [1,2,3] x q=(.call (R C) ⟨[R o.aL],[]⟩,P,sh 3 Q i ty b o.aL r,[(o.aL,Y (inst 460 o.aD)),(o.aD,Y (dU o)),(o.fe,Y (lst [] Q))])->cy x q):la W (wm a.a) 420 1000 vO [I1 l] (hP a o g C [] Q) P [0,1,2,3,9,5,6,7,8] (λ _ _ _=>())=l9 W (wm a.a) 420 1000 vO [I1 l] (hP a o g C [] Q) P (λ _ _=>r) (λ _ _ _=> .pure (.again (kM a.a))) (λ d p _=>[jN a o.aL (R (d 4)),inst 460 o.aD,dU o,lst [R (d 3)] (Q+1),kx 394 o.aL,df [] 0,eB (d 0) (i+1) (p 0).t (p 1).t (p 2).t,df [] 0,qZ (d 2) (S ty (p 4).t) (S b (p 3).t) (d 1)]) λ _ _ _=>():=by rcases hf with rfl|rfl<;>kernel_rfl
end
noncomputable def hTy(g:bU):cD fE:=(fZ à (hE g)).wrap (hK2 g) (kv (hE g)) id id
noncomputable def XA:List Nat:=nd 16 29 0x44440404444302200000200000021
section
variable{ae f:cc}{ah:AP}{P r c:GP}{s:cR}{F:ES}{a:qw}{o:dz}{g C:bU}{Q i:Nat}{ty b:cb}{m:dK}
noncomputable def vA(o:dz)(P:GP)(C:bU)(r:GP):Prop:=∀{x:FA}{d:Rc}{jL jD:Nat},d.c= .call (R 394) ⟨[R o.aL],[]⟩->d.gh=P->d.sm=sa 300 C o.aL r->eH x d [(jL,o.aL,inst 460 o.aD),(jD,o.aD,dU o)]->[jL,jD].Nodup->cy x d
noncomputable def ţ(o:dz)(P r:GP):Prop:=∀{x:FA}{d:Rc}{jL jD:Nat},d.c= .call (R 394) ⟨[R o.aL],[]⟩->d.gh=P->d.sm=mu 300 r->eH x d [(jL,o.aL,inst 460 o.aD),(jD,o.aD,dU o)]->[jL,jD].Nodup->cy x d
noncomputable def xI(o:dz)(P:GP)(C:bU)(i:Nat)(ty b:cb)(r:GP):Prop:=∀{Q:Nat}{x:FA}{d:Rc}{jL jD l:Nat},d.c= .call (R C) ⟨[R o.aL],[]⟩->d.gh=P->d.sm=sh l Q i ty b o.aL r->eH x d [(jL,o.aL,inst 460 o.aD),(jD,o.aD,dU o),(l,o.fe,lst [] Q)]->[jL,jD,l].Nodup->cy x d
noncomputable def S_(dl aq td tk:bU)(i:Nat)(tn t1 t2 tv tt:cp)(ty b:cb):List (bU×bV):=[(dl,df [] 0),(aq,eB dl (i+1) tn t1 t2),(td,df [] 0),(tk,qZ td (S ty tt) (S b tv) aq)]
theorem Fh(J:cj 500 W s)(hf:C=450\/C=422)(D:vA o P C r)(C2:xI o r C i ty b c){p1:dK}(L:At ae ah (hP a o g 394 [] Q) P f)(G:∀n aX e' dl aq td tk tn t1 t2 tv tt kk aw p',At ae ah (S_ dl aq td tk i tn t1 t2 tv tt ty b++hP a o aX 394 [] e') c n->kZ ⟨bY,w.params⟩ 20 (kk (.send .none))= .pure (.again (iw a.a))->F (.susp (R tk) X [] kk (iw a.a) p' (lP a.a aw m)) n):da (bZ bY w) s (iw a.a) (gp fV (iw a.a)) (lP a.a p1 m) f F:=by have A1:∀{u},cj 420 W (s.over (kM a.a) (nj a.a u)):=xR (J.less ⋯);refine xk J L λ au aU=>?_;refine xu A1 aU (wm a.a) 1000 vO [Bl [1,2] [(o.aL,inst 460 o.aD),(o.aD,dU o)] (.call (R 394) ⟨[R o.aL],[]⟩) P (sa 300 C o.aL r) λ j j z E h3 h4=>D (jL:=1) (jD:=2) z E h3 h4 ⋯] [0,1,2,3,5] (λ j j=>r) (λ j j j=> .pure (.again (kM a.a))) (λ d j j=>[jN a o.aL (R (d 0)),inst 460 o.aD,dU o,lst [] Q,kx C o.aL]) (λ j j j=>()) (λ j j j=>()) ⋯ λ aJ d p k j aR=>?_;refine nH bY w _ _ _ _ _ _ (zR _) ?_;refine n_ J aR λ aM p2 aY=>?_;refine xk J aY λ aK aZ=>?_;refine xu A1 aZ (wm a.a) 1000 vO [_] _ _ _ _ _ _ (a2T hf λ x p q e=>C2 (jL:=1) (jD:=2) (l:=3) (kJ e) (nt e) (kI e) (kW (kG e rfl).2 (kG e rfl).1 (rv e rfl).2 (rv e rfl).1 (Í e rfl).2 (Í e rfl).1 trivial) ⋯) λ aV v b8 o4 j b4=>?_;have b4:At ae ah (hP a o (v 4) 394 [R (v 3)] (Q+1)++S_ (v 0) (v 1) (v 2) (v 3) i (b8 0).t (b8 1).t (b8 2).t (b8 3).t (b8 4).t ty b) c aV:=b4;refine nH bY w _ _ _ _ _ _ (zR _) ?_;refine n_ J b4.push λ b3 V b7=>?_;refine zI ?_;rw[tM,fO];have A2:cj 100 W (s.over (iw a.a) (lP a.a V m)):=Hy (J.less ⋯);refine mR A2 b7 _ 1000 M_ U WK λ b6 b5=>?_;rw[if_pos rfl,i2];refine qQ A2 b5 (hTy a.a) 1000 XA [] [0,1,2,3,4] (λ j j k=> .yield (R (v 3)) X [] (oR k.1)) (λ j j j=>[jN a o.aL (R (v 4)),inst 460 o.aD,dU o,lst [] (Q+1+1),kx 394 o.aL]) (λ j j k=>kZ ⟨bY,w.params⟩ 20 (oR k.1 (.send .none))) (λ j j j=> .pure (.again (iw a.a))) ⋯ λ aa r7 af O A az=>?_;refine q_ bY w _ _ _ _ _ _ _ _ rfl rfl λ p'=>?_;exact G aa (v 4) (Q+1+1) _ _ _ _ _ _ _ _ _ _ V p' ((At.pull (l1:=hP a o (v 4) 394 [] (Q+1+1)) az).perm List.perm_append_comm) A
theorem WN(J:cj 500 W s)(D:ţ o P r){p1:dK}(L:At ae ah (hP a o g 394 [] Q) P f)(G:∀n e',At ae ah (C0 a o [] e') r n->F (.ret (.ok (.ret .none))) n):da (bZ bY w) s (iw a.a) (gp fV (iw a.a)) (lP a.a p1 m) f F:=by have A1:∀{u},cj 420 W (s.over (kM a.a) (nj a.a u)):=xR (J.less ⋯);refine xk J L λ au aU=>?_;refine xu A1 aU (wm a.a) 1000 vO [Bl [1,2] [(o.aL,inst 460 o.aD),(o.aD,dU o)] (.call (R 394) ⟨[R o.aL],[]⟩) P (mu 300 r) λ j j z E h3 h4=>D (jL:=1) (jD:=2) z E h3 h4 ⋯] [0,1,2,3] (λ j j=>r) (λ j j j=> .pure (.again (kM a.a))) (λ d j j=>[jN a o.aL .none,inst 460 o.aD,dU o,lst [] Q]) (λ j j j=>()) (λ j j j=>()) ⋯ λ aJ d p k j aR=>?_;refine nH bY w _ _ _ _ _ _ (zR _) ?_;refine zI ?_;rw[tM,fO];have e:cj 100 W (s.over (kM a.a) (nj a.a m)):=xR (J.less ⋯);refine mR e aR _ 1000 [1] X WM λ aM aY=>?_;rw[if_neg zp];refine ť ?_;refine t_ ?_;exact O_ bY w _ _ _ aM (.ok (.ret .none)) _ rfl (G aM Q aY)
end
noncomputable abbrev GL:=List (Nat×(eY->Prop))
abbrev iH:Type:=GL->Nat->GP
structure iu(c:cb)(p:bU)(oG:bV)(ao:iH):Prop where
 ok:∀ai,fQ c p oG (ao ai)
 get:∀{ai:GL}{v:Nat}{C:AP}{f:cc},dD C (ao ai v) f->Gh ai f.gens
 set:∀{ai G:GL}{v y:Nat}{t:eY}{C:AP}{f n:cc},dD C (ao ai v) f->(∀g k,C g->f.heap.get? g=Y k->n.heap.get? g=Y k)->n.gens=f.gens.setIfInBounds y t->(∃q,(y,q)∈ai)->G.map (·.1)=ai.map (·.1)->(∀u∈G,(u.1=y->u.2 t)/\(u.1≠y->u∈ai))->t.bare=U->dD C (ao G v) n
 push:∀{ai:GL}{v:Nat}{F:eY->Prop}{t:eY}{C:AP}{f n:cc},dD C (ao ai v) f->(∀g k,C g->f.heap.get? g=Y k->n.heap.get? g=Y k)->n.gens=f.gens.push t->F t->t.bare=U->dD C (ao ((f.gens.size,F)::ai) v) n
section
variable{c:cb}{oG:bV}{ao:iH}{o:dz}
theorem cH.gens(aj:iu c o.aG oG ao)(a:cH o c oG (ao ai) i0 b pb C f):Gh ai f.gens:=by obtain⟨ys,e,e1,e2,u,ps,h0,z,E,h3,h4,h5⟩:=a;obtain⟨_,_,fS,_,_,h6⟩:=h5;exact aj.get h6
theorem cH.setGen(aj:iu c o.aG oG ao)(hj:∃q,(y,q)∈ai)(hk:G.map (·.1)=ai.map (·.1))(hL:∀u∈G,(u.1=y->u.2 t)/\(u.1≠y->u∈ai))(a:dD C (cH o c oG (ao ai) i0 b pb) f)(M:t.bare=U:=by rfl):dD C (cH o c oG (ao G) i0 b pb) (f.setGen y t):=by obtain⟨ys,e,e1,e2,u,ps,h0,z,E,h3,h4,h5⟩:=a.now;obtain⟨g1,O,fS,g3,g4,g5⟩:=h5;refine cH.eF ⟨ys,e,e1,e2,u,ps,h0,z,E,h3,h4,g1,O,fS,g3,g4,?_⟩;exact aj.set g5 (λ j j j a=>a) rfl hj hk hL M
end
theorem At.fin(L:At ae ah (b++ak) P f):gy f.heap b/\(∀g∈cz b,ae.heap.objs.size<=g\/ah g)/\(cz b).Nodup/\∃aw:AP,(∀l,aw l->(ah l\/ae.heap.objs.size<=l)/\l<f.heap.objs.size/\l∉cz b)/\Fr ak P aw f:=by refine cK L.own λ az z E=>?_;have aJ:=E;refine ue E.open λ o1 o2 o3 f' o4 a=>?_;exact Gs (λ u hp=>aJ.1 u (fJ.mpr (.inl hp))) (λ g ha=>(z g (o3 g ha)).1.symm) o2 f' (λ l M=>(cZ (z l (o4 l M).1).1 (z l (o4 l M).1).2.1 (o4 l M).2)) a
inductive ph(A:bU)(gs:eY):Prop|mk kk l p' p1 p0(q:gs= .suspended kk l (iw A) p' (lP A p1 p0) X)(z:kZ ⟨bY,w.params⟩ 20 (kk (.send .none))= .pure (.again (iw A))):ph A gs
noncomputable def ee(gs:eY):Prop:=gs= .running
noncomputable def sk(gs:eY):Prop:=gs= .finished
inductive HG(o:dz)(c:cb)(oG:bV)(ao:iH)(V:Nat)(ai:GL)(v:Nat)(u:Bool)(C:AP)(f:cc):Prop|mk(a:qw)(g:bU)(Q:Nat)(k5:Ht)(q:Fr (hP a {o with k5:=k5} g 394 [] Q) (cH o c oG (ao ((V,ph a.a)::ai)) v v u) C f):HG o c oG ao V ai v u C f
theorem HG.eF(a:HG o c oG ao V ai v u C f):dD C (HG o c oG ao V ai v u) f:=by obtain⟨h0,g,Q,k5,z⟩:=a;exact λ n k1 k2=>⟨h0,g,Q,k5,z.eF n k1 k2⟩
noncomputable def yk(i:Nat)(ty b:cb)(P:GP):Sm:=⟨510,4,5,λ g j=> .ok (.ret (R (g 3))),λ j j=>[],λ g af=>[df [] 0,eB (g 0) (i+1) (af 0).t (af 1).t (af 2).t,df [] 0,qZ (g 2) (S ty (af 4).t) (S b (af 3).t) (g 1)],Y λ j j=>P⟩
section
variable{x:FA}{c:cb}{oG:bV}{ao:iH}{o:dz}{V:Nat}{ai:GL}{v y i':Nat}{u p':Bool}{C:bU}{ty b:cb}{B:bU}{nm qn:bX}{t:Nat}
theorem EU(aj:iu c o.aG oG ao)(hL:∀q∈ai,q.1≠V)(hf:C=450\/C=422)(D:∀k5,vA {o with k5:=k5} (cH o c oG (ao ((V,ee)::ai)) v v u) C (cH o c oG (ao ((V,ee)::ai)) v y X))(C2:∀k5,xI {o with k5:=k5} (cH o c oG (ao ((V,ee)::ai)) v y X) C v ty b (cH o c oG (ao ((V,ee)::ai)) i' i' p'))(hc:d.c= .call (.builtin "generator.__next__") ⟨[R B],[]⟩)(hg:d.gh=HG o c oG ao V ai v u)(ae:d.sm=yk v ty b (HG o c oG ao V ai i' p'))(hT:d.T.get t=Y (cv V nm qn))(ha:x t=B):cy x d:=by intro s ax f fp J M hs aQ ap ah hC G;rw[ae]at J;rw[hg]at hC;rw[hc];replace J:cj 510 W s:=J;have hG:=(hs t _ hT).2;rw[ha]at hG;obtain⟨a,g,Q,k5,hF⟩:=hC.now;obtain⟨g1,O,fS,g3,g4,g5⟩:=id hF;(refine cK ((cH.gens aj g5.now).2 (V,ph a.a) (.head _)) λ gs F p=>?_;obtain⟨kk,r,E,p1,m,rfl,hk⟩:=p);refine pA J.h (by have:=J.d;exact lZ this) (lF _ M) (lp hG) F ?_;show da (bZ bY w) s.in1 (iw a.a) (kk (.send .none)) (lP a.a p1 m) (f.setGen V .running) (lT ax V);refine ku bY w _ _ _ _ _ _ 20 ?_;rw[hk];refine nH bY w _ _ _ _ _ _ (DV _) ?_;have b8:cj 500 W s.in1:=cj.in1 (J.less ⋯);have F1:Fr (hP a {o with k5:=k5} g 394 [] Q) (cH o c oG (ao ((V,ee)::ai)) v v u) fp (f.setGen V .running):=⟨g1,O,fS,g3,g4,cH.setGen (ai:=(V,ph a.a)::ai) (G:=(V,ee)::ai) aj ⟨_, .head _⟩ rfl (λ q hq=>by cases hq with|head=>exact⟨λ j=>rfl,λ ay=>absurd rfl ay⟩|tail _ hq=>exact⟨λ e=>absurd e (hL q hq),λ j=> .tail _ hq⟩) g5⟩;refine Fh b8 hf (D k5) (C2 k5) (At.start (f:=f.setGen V .running) M (λ l ak=>⟨ah.lt l ak,ah.nk l ak⟩) F1) λ n aX e' dl aq td tk tn t1 t2 tv tt i aw k L aJ=>?_;show ax (.ok (.ret (R tk))) (n.setGen V (.suspended i [] (iw a.a) k (lP a.a aw m) X));have aV:=L.setGen (O:=V) (t:= .suspended i [] (iw a.a) k (lP a.a aw m) X) (r:=cH o c oG (ao ((V,ph a.a)::ai)) i' i' p') λ f' z=>cH.setGen (ai:=(V,ee)::ai) (G:=(V,ph a.a)::ai) aj ⟨_, .head _⟩ rfl (λ q hq=>by cases hq with|head=>exact⟨λ j=>⟨i,[],k,aw,m,rfl,aJ⟩,λ ay=>absurd rfl ay⟩|tail _ hq=>exact⟨λ e=>absurd e (hL q hq),λ j=> .tail _ hq⟩) z;exact aV.re.give G ae (aN [dl,aq,td,tk]) (tN [tn,t1,t2,tv,tt]) rfl rfl λ f' y5=>HG.eF ⟨a,aX,e',k5,y5⟩
end
noncomputable def zh:nE->kF->cD (List (cb×bX)):=JN
theorem V5:@bindArgs=zh:=JP
noncomputable def Jg:Scope->bU->List (cb×bU)->List (cb×bX)->cb->Option bU->bX->Option di->bU->cD di:=@JL
theorem SW:@CW=Jg:=JM
noncomputable def Ñ(C:bU)(b:List (cb×bX)):cD di:=Jg (d9 C).scope (d9 C).globals (d9 C).closure b ((d9 C).qualname++".<locals>.") (Y C) (d9 C).code W (d9 C).builtins
noncomputable def wq(i:Nat):List (cb×bX)->FD->List pF|[],_=>[]|(H,b)::d,af=>⟨(af i).h,S H (af i).t,b⟩::wq (i+1) d af
noncomputable def nQ(b:List (cb×bX))(af:FD):bV:=ly (wq 3 b af) b.length
noncomputable def pO(C:bU)(b:List (cb×bX))(r:Nat->bU->GP):Sm:=⟨101,2,b.length+3,λ g j=> .ok (.ret (R (g 1))),λ j j=>[],λ g af=>[nQ b af,cv (af 0).t (S (d9 C).name (af 1).t) (S (d9 C).qualname (af 2).t)],Y λ g af=>r (af 0).t (g 0)⟩
theorem Ug(i H:Nat)(l:List (cb×bX))(af:FD)(a:i+l.length<=H):wq i l (dC H af)=wq i l af:=by
 induction l generalizing i with
  |nil=>rfl
  |cons c d ih=>
   obtain⟨nm,b⟩:=c;rw[ma]at a;show _::_=_::_;rw[ih (i+1) (gB a)];have:dC H af i=af i:=by unfold dC;rw[show r_ i H=U from M6.mpr (lZ a)]
   rw[this]
theorem GF:∀(l:List (cb×bX))(i:Nat)(af c:FD),(∀y,i<=y->af y=c y)->wq i l af=wq i l c|[],_,_,_,_=>rfl|(H,b)::d,i,af,c,a=>by show _::_=_::_;rw[a i (gz _),GF d (i+1) af c λ y hj=>a y (Nat.le_of_succ_le hj)]
theorem Fr.IU(a:Fr [] P C f):dD C P f:=by obtain⟨_,_,fS,h3,_,h5⟩:=a;have:C=fS:=funext λ g=>propext ⟨λ q=>((h3 g).mp q).elim (λ j=>nomatch j) id,λ q=>(h3 g).mpr (.inr q)⟩;rw[this];exact h5
noncomputable def iY(C:bU):bV:=jf (dp.get (pU (d9 C).code))
noncomputable def gdL(C:bU)(o:kF)(b:List (cb×bX)):=(dp.get C,(jf (dp.get C)).data,((d9 C).scope.isCoroutine,(d9 C).scope.isGenerator),(d9 C).body,(d9 C).code,dp.get (pU (d9 C).code),(iY C).data,(gJ (iY C))[1]?,(λ γ=>la W (zh (d9 C) o) 100 500 [] [] [] γ [] λ j j j=>():GP->pn (List (cb×bX)) Unit),λ γ=>la W (Ñ C b) 100 500 (uW (2*b.length) 1) [] [] γ [0] λ j j j=>())
noncomputable def gdR(C:bU)(o:kF)(b:List (cb×bX)):=(Y (jf (dp.get C)),MS (d9 C),(X,U),FuncBody.stmts (fP (d9 C).body),R (pU (d9 C).code),Y (iY C),LN (gJ (iY C)),Y (S (d9 C).qualname (tokOf ((gJ (iY C)).getD 1 .none))),(λ γ=>l9 W (zh (d9 C) o) 100 500 [] [] [] γ (λ j j=>γ) (λ j j j=> .pure b) (λ j j j=>[]) λ j j j=>():GP->pn (List (cb×bX)) Unit),λ γ=>l9 W (Ñ C b) 100 500 (uW (2*b.length) 1) [] [] γ (λ j j=>γ) (λ d j j=> .pure (dq C (d 0))) (λ j j k=>[nQ b λ i=>d5 k.2.T 0 (i-3)]) λ j j j=>())
noncomputable def qR(C:bU)(o:kF)(b:List (cb×bX)):Prop:=gdL C o b=gdR C o b
theorem p1{A o:Type}{g B:A}{l af:o}(a:(g,l)=(B,af)):g=B:=(eo a).1
theorem p2{A o:Type}{g B:A}{l af:o}(a:(g,l)=(B,af)):l=af:=(eo a).2
theorem EC{f:cc}(M:Base f.heap){H:Nat}(a:f.heap.objs.size<=H):dp.get H=W:=by cases q:dp.get H with|none=>rfl|some k=>exact absurd (fc (M H k q)) (iA.mpr a)
theorem At.ĸ(L:At ae ah ls P f)(a:k.isFreed=X)(m:∀C n,dD C P f->(∀g k,C g->f.heap.get? g=Y k->n.heap.get? g=Y k)->n.gens=f.gens.push t->dD C r n):At ae ah ((f.heap.objs.size,k)::ls) r {f with gens:=f.gens.push t,toks:=tk,heap:=f.heap.push k}:=by
 (refine cK L.own λ az z c=>?_;obtain⟨E,h3,fS,h4,h5,h6⟩:=c);have b:∀{l:bU}{o':bV},f.heap.get? l=Y o'->(f.heap.push k).get? l=Y o':=λ M=>gF _ M;have O:(f.heap.push k).objs.size=f.heap.objs.size+1:=by simp[tQ]
 refine⟨λ l o' M=>b (L.base l o' M),cI (λ l=>az l\/l=f.heap.objs.size) (λ l M=>?_) ⟨?_,?_,fS,λ l=>?_,λ l M=>?_,?_⟩,λ l o' q1 q2=>b (L.keep l o' q1 q2),?_,L.drawn,L.os⟩;·
  rcases M with M|rfl;·exact cZ (z l M).1 (by show l<(f.heap.push k).objs.size;rw[O];exact lR (z l M).2.1) (z l M).2.2
  ·exact cZ (.inr L.size) (by show _<(f.heap.push k).objs.size;rw[O];exact nC _) (EC L.base (gz _))
 ·intro q hq;cases hq with|head=>exact kj _ a|tail _ hq=>exact b (E q hq)
 ·exact gI.mpr ⟨λ hm=>jq _ (E.lt _ hm),h3⟩
 ·show az l\/l=_↔l∈_::_\/fS l;rw[fw,h4 l];constructor;·
   rintro((q|q)|q);·exact .inl (.inr q)
   ·exact .inr q
   ·exact .inl (.inl q)
  ·rintro((q|q)|q);·exact .inr q
   ·exact .inl (.inl q)
   ·exact .inl (.inr q)
 ·intro hf;rcases fw.mp M with rfl|q;·exact jq _ (z _ ((h4 _).mpr (.inr hf))).2.1
  ·exact h5 l q hf
 ·exact m fS _ h6 (λ g o' j ho=>b ho) rfl
 ·show _<=(f.heap.push k).objs.size;rw[O];exact rX L.size
section
variable{x:FA}{C:bU}{o:kF}{b:List (cb×bX)}{r:Nat->bU->GP}
noncomputable def gD(g l B:cp)(af:FD):FD:=λ i=>match i with|0=>⟨g,default,[],0⟩|1=>⟨l,default,[],0⟩|2=>⟨B,default,[],0⟩|i+3=>af i
theorem Me(hc:d.c= .call (R C) o)(ae:d.sm=pO C b r)(hg:∀(fp:AP)(f n:cc)(g:bU),dD fp d.gh f->(∀g k,fp g->f.heap.get? g=Y k->n.heap.get? g=Y k)->n.gens=f.gens.push (.fresh (.func (fP (d9 C).body) (dq C g)))->dD fp (r f.gens.size g) n)(k:dp.get C=Y (jf (dp.get C)))(af:(jf (dp.get C)).data= .func (d9 C))(c:((d9 C).scope.isCoroutine,(d9 C).scope.isGenerator)=(X,U))(m:(d9 C).body= .stmts (fP (d9 C).body))(e:(d9 C).code=R (pU (d9 C).code))(q:dp.get (pU (d9 C).code)=Y (iY C))(u:(iY C).data= .fields (gJ (iY C)))(A:(gJ (iY C))[1]?=Y (S (d9 C).qualname (tokOf ((gJ (iY C)).getD 1 .none))))(l:(λ γ=>la W (zh (d9 C) o) 100 500 [] [] [] γ [] λ j j j=>():GP->pn (List (cb×bX)) Unit)=λ γ=>l9 W (zh (d9 C) o) 100 500 [] [] [] γ (λ j j=>γ) (λ j j j=> .pure b) (λ j j j=>[]) λ j j j=>())(H:(λ γ=>la W (Ñ C b) 100 500 (uW (2*b.length) 1) [] [] γ [0] λ j j j=>())=λ γ=>l9 W (Ñ C b) 100 500 (uW (2*b.length) 1) [] [] γ (λ j j=>γ) (λ d j j=> .pure (dq C (d 0))) (λ j j k=>[nQ b λ i=>d5 k.2.T 0 (i-3)]) λ j j j=>()):cy x d:=by
 refine EV (ps:=[]) ae trivial .nil λ s ax f fp J G X0=>?_;rw[hc];replace J:cj 101 W s:=J;have M:=X0.base;refine codeAny_call_generator (by have:=J.d;exact lZ this) (M _ _ k) af (p1 c) (p2 c) m (d_ _ _ _ _ e (M _ _ q) u A) ?_;have b8:cj 100 W s.in1:=cj.in1 (J.less ⋯);rw[V5];refine gY b8 X0 _ 500 [] [] [] _ _ (congrFun l _) λ au r1 F o1 aU=>?_;rw[SW];refine gY (l1:=[]) b8 aU _ 500 _ [] [0] _ _ (congrFun H _) λ aJ r2 ak o2 aR=>⟨lF _ aR.base,?_⟩;have aV:=aR.ĸ (t:= .fresh (.func (fP (d9 C).body) (dq C (r2 0)))) (k:=cv aJ.gens.size (S (d9 C).name aJ.toks) (S (d9 C).qualname (aJ.toks+1))) (tk:=aJ.toks+1+1) (r:=r aJ.gens.size (r2 0)) rfl λ aw n z E h3=>hg aw aJ n (r2 0) z E h3;have e1:cv aJ.gens.size (S (d9 C).name aJ.toks) (S (d9 C).qualname (aJ.toks+1))={cls:=T "generator",data:= .fields #[I aJ.gens.size 0,S (d9 C).name aJ.toks,S (d9 C).qualname (aJ.toks+1)]}:=by show(⟨T V_,_,_,_⟩:bV)=_;rw[<-EY]
 rw[<-e1];have e4:∀(O:FD)y,y<3->dC (b.length+3) O y=O y:=λ O y hj=>by unfold dC;rw[M6.mpr (gB hj)]
 refine G (λ i=>if i=0 then r2 0 else aJ.heap.objs.size) (gD aJ.gens.size aJ.toks (aJ.toks+1) λ i=>d5 o2.2.T 0 i) [] [(r2 0,_),(aJ.heap.objs.size,_)] [] (r aJ.gens.size (r2 0)) _ (aV.perm (qD _ _ _)) rfl ?_ rfl λ f' a=>?_;·show[_,_]=[nQ b (dC (b.length+3) _),cv (dC (b.length+3) _ 0).t (.str _ (dC (b.length+3) _ 1).t) (.str _ (dC (b.length+3) _ 2).t)];rw[e4 _ 0 ⋯,e4 _ 1 ⋯,e4 _ 2 ⋯];unfold nQ;rw[Ug 3 _ b _ (by simp+arith only)];rw[<-GF b 3 (λ i=>d5 o2.2.T 0 (i-3)) (gD aJ.gens.size aJ.toks (aJ.toks+1) λ i=>d5 o2.2.T 0 i) λ i hk=>by match i,hk with|i+3,_=>rfl];rfl
 ·show dD f' (r (dC (b.length+3) _ 0).t (dP _ _ 0)) _;rw[e4 _ 0 ⋯];exact a.IU
theorem zY(af:qR C o b)(hc:d.c= .call (R C) o)(ae:d.sm=pO C b r)(hg:∀(fp:AP)(f n:cc)(g:bU),dD fp d.gh f->(∀g k,fp g->f.heap.get? g=Y k->n.heap.get? g=Y k)->n.gens=f.gens.push (.fresh (.func (fP (d9 C).body) (dq C g)))->dD fp (r f.gens.size g) n):cy x d:=Me hc ae hg (p1 af) (p1 (p2 af)) (p1 (p2 (p2 af))) (p1 (p2 (p2 (p2 af)))) (p1 (p2 (p2 (p2 (p2 af))))) (p1 (p2 (p2 (p2 (p2 (p2 af)))))) (p1 (p2 (p2 (p2 (p2 (p2 (p2 af))))))) (p1 (p2 (p2 (p2 (p2 (p2 (p2 (p2 af)))))))) (p1 (p2 (p2 (p2 (p2 (p2 (p2 (p2 (p2 af))))))))) (p2 (p2 (p2 (p2 (p2 (p2 (p2 (p2 (p2 af)))))))))
end
theorem Dc(aq:di)(G:lh)(aa:om)(l2:List dd):∀l1:List dd,(dj (l1++l2) aq).wrap G aa id id=(dj l1 aq).wrap (mX l2 aq G aa) aa id id|[]=>by show(dj l2 aq).wrap G aa id id=mX l2 aq G aa .next;show _=(fZ l2 aq).wrap G aa id id;rw[i2]|st::d=>by rw[CK,CP,CP];exact uV _ _ _ (λ C=>by cases C<;>first|exact Dc aq G aa l2 d|rfl) (λ j=>rfl)
section
variable{s:cR}{B:cN}{fs:List jx}{F:ES}{f:cc}{aq:di}{G:lh}{aa:om}
theorem C_(a:cm (bZ bY w) (s.over B fs) (fZ l1 aq) (λ C n=>C= .next/\da (bZ bY w) s B ((dj l2 aq).wrap G aa id id) fs n F) (λ j j=>False) f):da (bZ bY w) s B ((dj (l1++l2) aq).wrap G aa id id) fs f F:=by rw[Dc];rw[i2];refine mv (kS a (λ C n hf=>?_) λ j j c=>c.elim);obtain⟨rfl,E⟩:=hf;rw[i2]at E;exact E
theorem RT(a:cm (bZ bY w) (s.over B fs) (nF i aq b) (λ j n=>da (bZ bY w) s B ((dj t aq).wrap (vH i v t g aq) (kv aq) id id) fs n F) (λ j j=>False) f):da (bZ bY w) s B (xO i v t g aq b) fs f F:=by unfold xO;rw[wI,mP,mj];refine mv (kS a (λ o n hs=>?_) λ j j c=>c.elim);show da _ s B ((fZ t aq>>=vH i v t g aq:cD fE).wrap _ _ id id) fs n F;rw[mP,mj];rw[i2]at hs;rw[uV (fZ t aq) _ _ (K':=vH i v t g aq) (H':=kv aq) (λ C=>by cases C<;>rfl) (λ e=>by exact uR _ _)];exact hs
end
theorem At.upd(L:At ae ah ((g,k)::ls) P f)(o:wV g f.heap n.heap)(ho:n.heap.get? g=Y o')(hg:n.gens=f.gens)(hd:n.drawn=f.drawn)(a:n.os=f.os):At ae ah ((g,o')::ls) P n:=by
 (refine cK L.own λ az z c=>?_;obtain⟨E,h3,fS,h4,h5,h6⟩:=c);have hs:n.heap.objs.size=f.heap.objs.size:=o.1;have hF:az g:=(h4 g).mpr (.inl (.head _));have b:∀l k,f.heap.get? l=Y k->l≠g->n.heap.get? l=Y k:=λ l k M ay=>(o.2 l ay).trans M;have H:=gI.mp h3;refine⟨λ l k M=>b l k (L.base l k M) λ e=>?_,cI az (λ l M=>(cZ (z l M).1 (by rw[hs];exact(z l M).2.1) (z l M).2.2)) ⟨?_,h3,fS,h4,h5,?_⟩,λ l k q1 q2=>b l k (L.keep l k q1 q2) ?_,by rw[hs];exact L.size,hd.trans L.drawn,a.trans L.os⟩;·rw[e,(z g hF).2.2]at M;cases M
 ·intro q hq;cases hq with|head=>exact ho|tail _ hq=>exact b q.1 q.2 (E q (.tail _ hq)) λ e=>H.1 (by rw[<-e];show q.1∈_;exact jd (f:=λ u:bU×bV=>u.1) hq)
 ·exact h6.sub (λ l k M ho=>b l k ho λ e=>h5 g (.head _) (e▸M)) hg
 ·rintro rfl;rcases(z _ hF).1 with q|q;·exact q2 q
  ·exact absurd (fc q1) (iA.mpr q)
theorem Ll(J:s.handled=W)(hg:f.heap.IsGen g O)(F:f.gens[O]?=Y .finished)(a:ax (.error (R (f.heap.objs.size+1))) {f with heap:=(f.heap.push {cls:=T "tuple",data:= .seq #[]}).push {cls:=T "StopIteration",data:= .fields #[R f.heap.objs.size, .none, .none, .none, .bool X, .none]}}):dQ (bZ bY w) s (.call (.builtin "generator.__next__") ⟨[R g],[]⟩) ax f:=by refine kg uX.plain CX (uX.check _ _ _ _ _ _ _ _ hg.typeIs (D6 _) ?_);show cm _ _ (wC (R g) (.send .none)) _ _ f;unfold wC;refine cJ (qE (CO hg (cJ (CV F ?_))));show cm _ _ (.resume O (.send .none) [] _) _ _ f;intro v u Q;rw[Sem.wp_resume];refine(vY .finished f (by unfold Wakes;rw[F];exact⟨rfl,rfl⟩) ?_);revert v u;show cm _ _ (lS (T "StopIteration") []>>=_) _ _ _;refine cJ ?_;simp only[lS,h_];refine cJ (nB ?_ (by size_fits));refine cJ (m:=qC _ _) (wW (a:=jt) (by first|rfl|(simp only[qC];rfl)) ?_);refine nB ?_ (by size_fits);simp only[s9];refine cJ (zE ?_);rw[show s.in1.handled=W from J];refine ml ?_;simp only[mf];exact a
noncomputable def pI(v:Nat)(P:GP):Sm:=⟨v,2,0,λ g j=> .error (R (g 1)),λ j j=>[],λ g j=>[dk [],pN (g 0)],Y λ j j=>P⟩
noncomputable abbrev È(d:Rc)(x:FA)(fp:AP)(f:cc)(ax:RS):Prop:=zi d x ax fp f
theorem xa{x:FA}{B:cN}{Q:BT}{H:Nat}{γ P r:GP}{v:Nat}{fp:AP}{f n au:cc}{ax:RS}{ls:List (bU×bV)}(G:È ⟨B,Q,H,γ,pI v r⟩ x fp f ax)(L:At f fp ls P n)(hd:au.drawn=n.drawn)(ho:au.os=n.os)(m:∀C,dD C P n->∀aK,(∀g k,C g->n.heap.get? g=Y k->aK.heap.get? g=Y k)->aK.gens=au.gens->dD C r aK):ax (.error (R (n.heap.objs.size+1))) {au with heap:=(n.heap.push {cls:=T "tuple",data:= .seq #[]}).push {cls:=T "StopIteration",data:= .fields #[R n.heap.objs.size, .none, .none, .none, .bool X, .none]}}:=by
 (refine cK L.own λ az z c=>?_;obtain⟨E,h3,fS,h4,h5,h6⟩:=c);have b:∀{l:bU}{o':bV},n.heap.get? l=Y o'->((n.heap.push {cls:=T "tuple",data:= .seq #[]}).push {cls:=T "StopIteration",data:= .fields #[R n.heap.objs.size, .none, .none, .none, .bool X, .none]}).get? l=Y o':=λ M=>gF _ (gF _ M);have O:((n.heap.push {cls:=T "tuple",data:= .seq #[]}).push {cls:=T "StopIteration",data:= .fields #[R n.heap.objs.size, .none, .none, .none, .bool X, .none]}).objs.size=n.heap.objs.size+2:=by simp[tQ]
 refine G (λ i=>if i=0 then n.heap.objs.size else n.heap.objs.size+1) (λ t=>⟨0,default,[],0⟩) _ rfl (λ i k hk=>?_) (λ i hk=>?_) (λ i k' hk aJ e=>?_) (λ q hq=>nomatch hq) (λ l k q1 t q3=>b (L.keep l k q1 (q3 rfl))) ?_ ?_ (hd.trans L.drawn) (ho.trans L.os);·
  match i,hk with
   |0,hk=>cases hk;show nD _ n.heap.objs.size=Y (dk []);refine gF _ ?_;unfold dk;rw[<-xh];exact kj _ rfl
   |1,hk=>
    cases hk;show nD _ (n.heap.objs.size+1)=Y (pN n.heap.objs.size);have e2:n.heap.objs.size+1=(n.heap.push {cls:=T "tuple",data:= .seq #[]}).objs.size:=by simp[tQ]
    unfold pN;rw[<-a_,e2];exact kj _ rfl
   |i+2,hk=>cases hk
 ·match i,hk with|0,_=>exact .inl L.size|1,_=>exact .inl (rX L.size)|i+2,hk=>exact absurd (show i+2<2 from hk) (by omega)
 ·have ao:i<2:=hk;have ai:k'<2:=aJ;match i,ao,k',ai with|0,_,0,_=>rfl|1,_,1,_=>rfl|0,_,1,_=>exact absurd (show n.heap.objs.size=n.heap.objs.size+1 from e) (by omega)|1,_,0,_=>exact absurd (show n.heap.objs.size+1=n.heap.objs.size from e) (by omega)
 ·show f.heap.objs.size<=_;rw[O];exact rX (rX L.size)
 ·refine(cI fS (λ l M=>?_) (m fS h6 _ (λ g k t a=>b a) rfl));have j:=z l ((h4 l).mpr (.inr M));refine(cZ j.1 (by show l<zO _;rw[O];exact lR (lR j.2.1)) (λ i hk=>?_));match i,hk with|0,_=>exact kR j.2.1|1,_=>exact kR (lR j.2.1)|i+2,hk=>exact absurd (show i+2<2 from hk) (by omega)
noncomputable def dW(ai:GL):GP:=λ j f=>Gh ai f.gens/\(ai.map (·.1)).Nodup
theorem dW.eF(a:dW ai C f):dD C (dW ai) f:=λ n j hg=>by refine eA a λ z E=>?_;exact⟨by rw[hg];exact z,E⟩
theorem dW.set(a:dW ai C f)(hL:∀q∈G,(q.1=O->q.2 t)/\(q.1≠O->q∈ai))(hg:∃q,(O,q)∈ai)(hn:(G.map (·.1)).Nodup)(hs:n.gens=f.gens.setIfInBounds O t)(M:t.bare=U:=by rfl):dD f' (dW G) n:=by
 refine dW.eF ⟨⟨by rw[hs];exact a.1.1.set M,λ q hq=>?_⟩,hn⟩;rw[hs];by_cases e:q.1=O;·refine(cI t ?_ ((hL q hq).1 e));refine eE hg λ F hP=>?_;refine cK (a.1.2 _ hP) λ j z _=>?_;rw[e,zj];exact(iq.mp z).1
 ·refine cK (a.1.2 _ ((hL q hq).2 e)) λ j z E=>?_;exact cI j (by rw[K9 (mr e)];exact z) E
theorem dW.push{F:eY->Prop}(a:dW ai C f)(hy:F t)(hs:n.gens=f.gens.push t)(M:t.bare=U:=by rfl):dD f' (dW ((f.gens.size,F)::ai)) n:=by
 have lt:∀q∈ai,q.1<f.gens.size:=λ q hq=>by refine cK (a.1.2 q hq) λ j z _=>?_;exact(iq.mp z).1
 refine dW.eF ⟨⟨by rw[hs];exact a.1.1.push M,λ q hq=>?_⟩,?_⟩;·rw[hs];cases hq with|head=>exact cI t (by simp) hy|tail _ hq=>refine cK (a.1.2 q hq) λ j z E=>?_;exact cI j (by rw[Ko (lt q hq)];rw[wG (lt q hq)]at z;exact z) E
 ·refine gI.mpr ⟨λ hm=>?_,a.2⟩;refine cK (iN.mp hm) λ q hq e=>?_;exact jq _ (e▸lt q hq)
noncomputable def gA(B:cN)(gs:eY):Prop:=gs= .fresh B
end Mine
end
section
open PySem PySem.W PySem.W.X PySem.Calls PySem.Builtin PySem.Builtin.Str
namespace Mine
theorem L0(c:cb)(D:cp)(a:c.cps.contains 9=X):vT (Builtin.«str.expandtabs» ⟨[S c D],[]⟩) (.val (S c D)):=by show vT (if(!c.cps.contains 9)=U then _ else _) _;rw[a];exact .rule (.of_eq rfl)
theorem Mf(hx:c.cps.contains 9=X)(hc:d.c= .call (.builtin "str.expandtabs") ⟨[S c D],[]⟩)(ae:d.sm=lq (S c D)):cy x d:=vh F.slot_str_expandtabs (λ j=>pE _ _ _) F.entry_str_expandtabs (F.args_str_expandtabs_1 _) (L0 c D hx) hc ae
noncomputable def EP(c:cb)(D:cp):Sm:=⟨5,1,0,λ g j=> .ok (.ret (R (g 0))),λ j j=>[],λ j j=>[lst [S c D] 0],W⟩
noncomputable def fF(c:cb):Prop:=(KV c ⟨#[10]⟩ 0 c.length (c.length+1)).isEmpty=U
theorem LW(hx:fF c)(hc:d.c= .call (.builtin "str.split") ⟨[S c D,S ⟨#[10]⟩ o],[]⟩)(ae:d.sm=EP c D):cy x d:=by
 obtain⟨H,P,rn,rg,rs⟩:=d;cases hc;cases ae;intro s ax f fp _ _ hs _ _ _ hC G;have aj:∀{s:cR},cm (bZ bY w) s (p_ [S c D]>>=λ b=>ret b:cD fE) (λ aj n=>match aj with| .done C=>ax (.ok C) n| .again c'=>c'.quiet=U/\dQ (bZ bY w) s c' ax n) (λ e n=>ax (.error e) n) f:=λ{s}=>by
  refine cJ (wpAny_newList (ed ?_) (by show 1<=iR;decide));refine G (λ j=>f.heap.objs.size) (λ j=>⟨0,⟨0,0,0,0⟩,[],0⟩) {f with heap:=f.heap.push {cls:=T "list",data:= .seq #[S c D]}} rfl (λ i k a=>?_) (λ i j=> .inl (gz _)) (λ i k' a h' j=>?_) (λ u hp=>by cases hp) (λ l k M j j=>gF _ M) ?_ rfl rfl rfl;·match i,a with|0,a=>cases a;show(f.heap.push _).get? f.heap.objs.size=_;rw[lst_is];exact kj _ rfl|i+1,a=>cases a
  ·have e1:i<1:=a;have e2:k'<1:=h';lia
  ·show f.heap.objs.size<=(f.heap.push _).objs.size;simp[tQ]
 refine kg L4.plain F.entry_str_split (L4.check _ _ _ _ _ _ _ _ (pE _ _ _) (F.args_str_split_2 _ _) ?_);refine eE (split_sep_tree c ⟨#[10]⟩ D o) λ g p=>?_;rw[p];by_cases h1:(decide (c.length<(⟨#[10]⟩:cb).length)||decide (strKind c<strKind ⟨#[10]⟩))=U;·rw[if_pos h1];exact cJ (v8 aj)
 ·rw[if_neg h1,if_neg ⋯,if_pos (by show(U&&_)=U;rw[Bool.true_and];exact hx)];exact cJ (v8 aj)
end Mine
end
section
open PySem PySem.W PySem.W.X PySem.Calls
namespace Mine
noncomputable def rl:List bU->Frag|[]=>[]|g::r=>match dp.get g with|Y k=>(g,k)::rl r|W=>rl r
set_option tactic.hygienic true in theorem Ł(hB:Base a):∀r,(rl r).In a
 |[],g,k,e=>by cases e
 |l::r,g,k,e=>by
  unfold rl at e;split at e;·
   rename_i ob n;rw[L8]at e;split at e;·
    rename_i q;have:g=l:=by simpa using q
    subst this;cases e;exact hB _ _ n
   ·exact Ł hB r g k e
  ·exact Ł hB r g k e
noncomputable abbrev sD:String:=K5
theorem ĵ:"super" =sD:=b7m
theorem Ei:"method" =Hg:=b7k
noncomputable def nT(e c aX:bU):bV:=⟨T sD,W, .fields #[R e,R c,R aX],#[]⟩
noncomputable def E_(C c:bU):Sm:=⟨5,1,0,λ g j=> .ok (.ret (R (g 0))),λ j j=>[],λ j j=>[kx C c],W⟩
structure yc(G:Frag)(aX e C:bU)(g:cb):Prop where
 op:nsIn G xf "thirdparty.any" =Y W
 cls:∃y,clsIn G aX=Y y/\alongIn G g ((y.mro.dropWhile (·!=R e)).drop 1)=Y (Y (R C))
 fn:∃o,G.lookup C=Y o/\o.cls=T "function"
 nm:(g==("__class__" :cb))=X
set_option tactic.hygienic true in theorem ĝ(aj:yc (rl r) aX e C g)(hc:d.c= .call (.builtin "super.__getattribute__") ⟨[R H,S g (pL d.c)],[]⟩)(ae:d.sm=E_ C c)(hT:d.T.get b=Y (nT e c aX))(ha:x b=H)(hx:dp.get c=W):cy x d:=by
 intro s ax f fp J M hs aQ ap ah hC G;have h0:=(hs b _ hT).2;rw[ha]at h0;have p:f.heap.get? H=Y {cls:=T "super",dict:=W,data:= .fields #[R e,R c,R aX],slots:=#[]}:=by rw[h0];unfold nT;rw[<-ĵ]
 rw[hc];generalize pL d.c=tk;have L:(rl r).In f.heap:=Ł M r;refine cK aj.cls λ y m aa=>?_;refine cK aj.fn λ o v t=>?_;have hf:=L _ _ v;have ay:c≠aX:=by
  rintro rfl;unfold clsIn at m;split at m;·
   rename_i ho;have:∀r,(rl r).lookup c=W:=λ r=>by
    induction r with
     |nil=>rfl
     |cons l r ih=>
      unfold rl;split;·
       rename_i ob n;rw[L8];have:(c==l)=X:=by
        cases q:c==l with
         |false=>rfl
         |true=>
          have:c=l:=by simpa using q
          subst this;rw[hx]at n;cases n
       rw[this];exact ih
      ·exact ih
   rw[this]at ho;cases ho
  ·cases m
 refine kg KJ.plain F.ks_entry_super_ga (KJ.check _ _ _ _ _ _ _ _ (show f.TypeIs (R H) "super" from(cI _ p rfl)) (F.ks_gaArgs_super _ _) ?_);obtain⟨hh,O,af,D,os⟩:=f;refine ks_wpAny_super_ga p (looks_opaque L aj.op) (l₀:=y.mro) ?_ rfl L aa hf t ay aj.nm ?_;·exact λ s V aw f i q=>cJ ((looks_clsIn L m) s _ aw f i (ed q))
 ·have:=G (λ j=>hh.objs.size) (λ j=>⟨0,⟨0,0,0,0⟩,[],0⟩) ⟨hh.push {cls:=T "method",data:= .fields #[R C,R c]},O,af,D,os⟩;rw[ae]at this;refine this rfl (λ i k a=>?_) (λ i hk=> .inl (gz _)) (λ i k' z E j=>?_) (λ u hp=>by cases hp) (λ l k M j j=>gF _ M) (by show _<=(hh.push _).objs.size;rw[mf];exact Ĉ _) rfl rfl rfl;·match i,a with|0,a=>cases a;show(hh.push _).get? hh.objs.size=Y (kx C c);unfold kx;rw[<-Ei];exact kj _ rfl|i+1,a=>cases a
  ·have A:i<1:=z;have aJ:k'<1:=E;lia
end Mine
namespace Mine
set_option tactic.hygienic true in theorem ğ(z:nsIn G xf "thirdparty.any" =Y W)(E:(match clsIn G aX with|Y y=>alongIn G g ((y.mro.dropWhile (·!=R e)).drop 1)|W=>W)=Y (Y (R C)))(h3:(match G.lookup C with|Y k=>Y k.cls|W=>W)=Y (T "function"))(h4:(g==("__class__" :cb))=X):yc G aX e C g where
 op:=z
 cls:=by
  split at E;·rename_i y m;exact cI y m E
  ·cases E
 fn:=by
  split at h3;·rename_i k ho;exact cI k ho (jo h3)
  ·cases h3
 nm:=h4
noncomputable abbrev Ÿ:Frag:=rl (iQ 602)
theorem PA:yc Ÿ 148 148 57 (bW #[95,95,105,110,105,116,95,95]):=ğ ⋯ ⋯ ⋯ ⋯
noncomputable def tI:List dd:=fP (d9 123).body
noncomputable def yq:dd->Expr| .Expr e _=>e|_=>default
noncomputable def jw:Expr->List Expr| .Call _ r _ _=>r|_=>[]
noncomputable def ig:Expr:=yq ((tI).headD default)
noncomputable def tE(A:bU):di:=dq 123 A
structure wy where
 a:bU
 k1:Ht
 k2:Ht
 k3:Ht
 k4:Ht
 k5:Ht
 k6:Ht
 e:Nat
noncomputable def tFr(a:wy)(c:bU)(ty b e A:bX)(aq:bU):bV:=ly [⟨a.k1.h,S (bW #[115,101,108,102]) a.k1.t,R c⟩,⟨a.k2.h,S (bW #[116,121,112]) a.k2.t,ty⟩,⟨a.k3.h,S (bW #[118,97,108]) a.k3.t,b⟩,⟨a.k4.h,S (bW #[115,112,97,99,101]) a.k4.t,e⟩,⟨a.k5.h,S (bW #[102,105,114,115,116]) a.k5.t,A⟩,⟨a.k6.h,S (bW #[108,111,99]) a.k6.t,R aq⟩] a.e
noncomputable def nv:di->cb->cD bX:=b2m
theorem T4:@loadName=nv:=b2u
noncomputable def yZ:bX->cD Bool:=b25
theorem TN:@isType=yZ:=b2j
noncomputable def uo:bX->List bX->List (cb×bX)->cD bX:=@b24
theorem ħ:@tO=uo:=b2h
noncomputable def Ý:Expr->cb->dK->dK->di->bX->Nat->List (Bool×cD bX)->List (Option cb×cD bX)->cD bX:=b20
theorem Ř:@vb=Ý:=b2d
end Mine
namespace Mine
noncomputable def iX(a:bU)(sl:Array (Option bX)):bV:=⟨R 148,Y a, .plain,sl⟩
noncomputable def jZ(ty b:bX)(aq:bU):Array (Option bX):=#[Y (R aq),Y ty,Y b]
noncomputable def mI:Expr:=w4 (fnOf ig)
noncomputable def ũ(aq:di):List (Bool×cD bX):=(jw ig).map λ e=>(X,dO e aq)
noncomputable def tMc(A H:bU):cD bX:=Ý mI (bW #[95,95,105,110,105,116,95,95]) (kC (fnOf ig)) (eO ig) (tE A) (R H) 3 (ũ (tE A)) []
noncomputable def Xw:List Nat:=nd 16 138 0x202000000200000000000020200200000028840000800202000000200000000000020200200000028820200000020000000000002020020000002888888888817007111266
noncomputable def Xv:List Nat:=nd 16 50 0x33302000002020020000002113330200000202002000000211
noncomputable def XC:List Nat:=nd 16 13 0x5555555555551
noncomputable def lb(k1 k2:Ht)(D:cb)(st:cp)(A:Bool):bV:=df [⟨k1.h,S (bW #[115,112,97,99,101]) k1.t,S D st⟩,⟨k2.h,S (bW #[102,105,114,115,116]) k2.t, .bool A⟩] 2
noncomputable abbrev mo:cb:=bW #[95,95,105,110,105,116,95,95]
noncomputable def l7:Expr->dK| .Name _ u=>u|_=>default
theorem Sq:ig= .Call (.Attribute (.Call (.Name "super" (l7 (fnOf mI))) [] [] (eO mI)) mo (kC (fnOf ig))) (jw ig) [] (eO ig):=⋯
theorem VR:tI= .Expr ig (match(tI).headD default with| .Expr _ u=>u|_=>default)::(tI).tail:=⋯
theorem Sp:mI= .Call (.Name "super" (l7 (fnOf mI))) [] [] (eO mI):=⋯
theorem MV(aq:di):pM (eO ig) (oI (jw ig) aq)=ũ aq:=by unfold ũ;rw[<-fO];kernel_rfl
theorem b15:(bY.main.scope.names.lookup ("super" :cb)).isSome=X:=⋯
theorem IZ:∀r:List (bU×bV),(cz r).zip (fg r)=r|[]=>rfl|u::r=>congrArg (u::·) (IZ r)
theorem EI(r:List (bU×bV))(d:FA):((lC 0 r.length).map (pre (cz r) d)).zip (fg r)=r:=by have:=zQ (cz r) d;rw[gi]at this;rw[<-this,IZ]
theorem MU(r:List (bU×bV))(d:FA)(k:bV):((lC 0 (r.length+1)).map (pre (cz r) d)).zip (fg r++[k])=r++[(d 0,k)]:=by have e:=Ĺ (cz r) d;rw[gi]at e;rw[List.range'_1_concat,mc,List.zip_append (by simp),EI,lj,ir,e];rfl
noncomputable def rH{A:Type}(ai:List (bU×bV))(D:cD A)(ay:List Nat):GP->pn A Unit:=λ γ=>la W D 100 1000 ay [] ai γ (lC 0 ai.length) λ j j j=>()
noncomputable def rG{A:Type}(ai:List (bU×bV))(D:cD A)(ay:List Nat)(b:A):GP->pn A Unit:=λ γ=>l9 W D 100 1000 ay [] ai γ (λ j j=>γ) (λ j j j=> .pure b) (λ j j j=>fg ai) λ j j j=>()
noncomputable def J7(i:Nat):List Nat:=[0,0,0,0,0,i,i,0,i,0,0,2,2,0,i,i,i,i,i,i]
noncomputable def vD(C:bU):List Arg:=(d9 C).params.posonlyargs++(d9 C).params.args
noncomputable def U'(C:bU)(aq:di)(ai:List (bU×bV))(e c:bU)(i:Nat):=(aq.kindOf "super",aq.kindOf "__class__",aq.func,dp.get C,(jf (dp.get C)).data,(vD C).head?,((vD C).headD default).arg,aq.code,dp.get (pU (d9 C).code),(iY C).data,(gJ (iY C))[2]?,(bY.main.file:cb)==strOf ((gJ (iY C)).getD 2 .none),rH ai (nv aq "super") [0,0],rH ai (nv aq "__class__") [0],rH ai (nv aq (bW #[115,101,108,102])) [1],rH ai (yZ (R e)) [0],λ γ=>la W (uo (T sD) [R e,R c] []) 100 1000 (J7 i) [] ai γ (lC 0 (ai.length+1)) λ j j j=>())
noncomputable def T_(C:bU)(aq:di)(ai:List (bU×bV))(e c aX:bU)(i:Nat):=(Y NameKind.globalImplicit,Y NameKind.free,Y C,Y (jf (dp.get C)),MS (d9 C),Y ((vD C).headD default),bW #[115,101,108,102],R (pU (d9 C).code),Y (iY C),LN (gJ (iY C)),Y (S (strOf ((gJ (iY C)).getD 2 .none)) (tokOf ((gJ (iY C)).getD 2 .none))),U,rG ai (nv aq "super") [0,0] (T sD),rG ai (nv aq "__class__") [0] (R e),rG ai (nv aq (bW #[115,101,108,102])) [1] (R c),rG ai (yZ (R e)) [0] U,λ γ=>l9 W (uo (T sD) [R e,R c] []) 100 1000 (J7 i) [] ai γ (λ j j=>γ) (λ d j j=> .pure (R (d 0))) (λ j j j=>fg ai++[nT e c aX]) λ j j j=>())
theorem p5{A o γ b i:Type}{g v:A}{l q:o}{B c':γ}{af c:b}{e e':i}(a:(g,l,B,af,e)=(v,q,c',c,e')):e=e':=p2 (p2 (p2 (p2 a)))
section
variable{ae f:cc}{ah:AP}{ls:List (bU×bV)}{P:GP}{s:cR}{aw:VS}{V:VS}
theorem B_{A:Type}{D:cD A}{ay:List Nat}{b:A}{V:A->cc->Prop}(J:cj 100 W s)(L:At ae ah ls P f)(a:rH ls D ay=rG ls D ay b)(G:∀n,At ae ah ls P n->V b n):cm (bZ bY w) s D V aw f:=gY J L D 1000 ay [] (lC 0 ls.length) _ _ (congrFun a P) (λ n d p k X'=>G n (EI ls d▸X')) zq
theorem Pf(J:cj 100 W s)(u:(a==("__class__" :cb))=X)(L:At ae ah ls P f)(G:∀n H,At ae ah (ls++[(H,nT e c aX)]) P n->V (R H) n)(z:aq.kindOf "super" =Y .globalImplicit)(E:aq.kindOf "__class__" =Y .free)(h3:aq.func=Y C)(h4:dp.get C=Y (jf (dp.get C)))(h5:(jf (dp.get C)).data= .func (d9 C))(h6:(vD C).head?=Y ((vD C).headD default))(h7:((vD C).headD default).arg=bW #[115,101,108,102])(D:aq.code=R (pU (d9 C).code))(h9:dp.get (pU (d9 C).code)=Y (iY C))(b3:(iY C).data= .fields (gJ (iY C)))(i:(gJ (iY C))[2]?=Y (S (strOf ((gJ (iY C)).getD 2 .none)) (tokOf ((gJ (iY C)).getD 2 .none))))(o:((bY.main.file:cb)==strOf ((gJ (iY C)).getD 2 .none))=U)(t1:rH ls (nv aq "super") g=rG ls (nv aq "super") g (T sD))(t2:rH ls (nv aq "__class__") v=rG ls (nv aq "__class__") v (R e))(t3:rH ls (nv aq (bW #[115,101,108,102])) l=rG ls (nv aq (bW #[115,101,108,102])) l (R c))(b:rH ls (yZ (R e)) r=rG ls (yZ (R e)) r U)(q:(λ γ=>la W (uo (T sD) [R e,R c] []) 100 1000 y [] ls γ (lC 0 (ls.length+1)) λ j j j=>())=λ γ=>l9 W (uo (T sD) [R e,R c] []) 100 1000 y [] ls γ (λ j j=>γ) (λ d j j=> .pure (R (d 0))) (λ j j j=>fg ls++[nT e c aX]) λ j j j=>()):je (bZ bY w) s (.func t aq) (zG (.Call (.Name "super" F) [] [] q1) a aq m) V aw f:=by refine ks_wpAt_super_base z E u h3 (L.base _ _ h4) h5 h6 D (L.base _ _ h9) b3 i o b15 ?_;rw[h7,T4];refine B_ J L t1 λ au aU=>⟨by rw[ĵ],B_ J aU t2 λ aJ aR=>B_ J aR t3 λ aM aY=>?_⟩;rw[TN];refine B_ J aY b λ aK aZ=>⟨rfl,?_⟩;show cm _ _ (tO (T "super") [R e,R c] []) _ _ _;rw[ħ,ĵ];exact gY J aZ _ 1000 _ [] (lC 0 (ls.length+1)) _ _ (congrFun q P) (λ aV d p k b4=>G aV _ (MU ls d _▸b4)) zq
theorem ŏ(J:cj 100 W s)(u:(a==("__class__" :cb))=X)(L:At ae ah ls P f)(aj:U' C aq ls e c i=T_ C aq ls e c aX i)(G:∀n H,At ae ah (ls++[(H,nT e c aX)]) P n->V (R H) n):je (bZ bY w) s (.func t aq) (zG (.Call (.Name "super" F) [] [] q1) a aq m) V aw f:=Pf J u L G (p1 aj) (p1 (p2 aj)) (p1 (p2 (p2 aj))) (p1 (p2 (p2 (p2 aj)))) (p1 (p5 aj)) (p1 (p2 (p5 aj))) (p1 (p2 (p2 (p5 aj)))) (p1 (p2 (p2 (p2 (p5 aj))))) (p1 (p5 (p5 aj))) (p1 (p2 (p5 (p5 aj)))) (p1 (p2 (p2 (p5 (p5 aj))))) (p1 (p2 (p2 (p2 (p5 (p5 aj)))))) (p1 (p5 (p5 (p5 aj)))) (p1 (p2 (p5 (p5 (p5 aj))))) (p1 (p2 (p2 (p5 (p5 (p5 aj)))))) (p1 (p2 (p2 (p2 (p5 (p5 (p5 aj))))))) (p2 (p2 (p2 (p2 (p2 (p2 (p2 (p2 (p2 (p2 (p2 (p2 (p2 (p2 (p2 (p2 aj))))))))))))))))
end
structure rQ where
 aS:bU
 dS:bU
 loc:bU
 dl:bU
 k:Nat
 tn:cp
 t1:cp
 t2:cp
 ty:cb
 tt:cp
 v:cb
 tv:cp
 sv:cb
 st:cp
 fi:Bool
noncomputable def tkL(c:rQ):List bU:=[c.aS,c.dS,c.loc,c.dl]
noncomputable def tkO(c:rQ):List bV:=[iX c.dS #[],df [] 0,eB c.dl (c.k+1) c.tn c.t1 c.t2,df [] 0]
noncomputable def Ŏ(c:rQ):kF:=⟨[R c.aS,S c.ty c.tt,S c.v c.tv,S c.sv c.st, .bool c.fi,R c.loc],[]⟩
noncomputable def yB(a:wy)(c:rQ):bV:=tFr a c.aS (S c.ty c.tt) (S c.v c.tv) (S c.sv c.st) (.bool c.fi) c.loc
noncomputable def yA(a:wy)(c:rQ)(sl:Array (Option bX))(b:bV):List (bU×bV):=[(a.a,yB a c),(c.aS,iX c.dS sl),(c.dS,b),(c.loc,eB c.dl (c.k+1) c.tn c.t1 c.t2),(c.dl,df [] 0)]
noncomputable def Bi(kk:HK)(g:bU):wy:=⟨g,kk 0,kk 1,kk 2,kk 3,kk 4,kk 5,6⟩
theorem Yo(c:rQ):i7 123 (Ŏ c) 300 XC (λ kk=>yB (Bi kk 0) c) [(c.aS,iX c.dS #[]),(c.dS,df [] 0),(c.loc,eB c.dl (c.k+1) c.tn c.t1 c.t2),(c.dl,df [] 0)]:=by unfold i7;kernel_rfl
section
variable(a:wy)(c:rQ)
theorem Yn:U' 123 (tE a.a) (yA a c #[] (df [] 0)) 148 c.aS 6=T_ 123 (tE a.a) (yA a c #[] (df [] 0)) 148 c.aS 148 6:=⋯
noncomputable def tkM(H:bU):List (bU×bV):=yA a c #[] (df [] 0)++[(H,nT 148 c.aS 148)]
end
noncomputable def EO(b jD:Nat)(c:rQ):Sm:=⟨400,0,2,λ j j=> .ok (.ret .none),λ j af=>[(b,iX c.dS (jZ (S c.ty c.tt) (S c.v c.tv) c.loc)),(jD,lb ⟨(af 0).h,(af 0).t⟩ ⟨(af 1).h,(af 1).t⟩ c.sv c.st c.fi)],λ j j=>[],W⟩
noncomputable def drH(g l:Ht):FD:=λ i=>match i with|0=>⟨g.t,default,[],g.h⟩|_=>⟨l.t,default,[],l.h⟩
theorem So(g:bU):Dn (tE g)=X:=⋯
theorem VQ(g:bU):ĕ ig W (match(tI).headD default with| .Expr _ u=>u|_=>default:dK).line (tE g)=pure X:=⋯
section
variable{x:FA}{c:rQ}{b jD o m:Nat}
theorem LU(hc:d.c= .call (R 123) (Ŏ c))(ae:d.sm=EO b jD c)(aa:eH x d [(b,c.aS,iX c.dS #[]),(jD,c.dS,df [] 0),(o,c.loc,eB c.dl (c.k+1) c.tn c.t1 c.t2),(m,c.dl,df [] 0)])(hd:[b,jD,o,m].Nodup):cy x d:=by
 refine Eg ae aa hd λ s ax f J G X0=>?_;rw[hc];refine At.enter (v:=300) (aj:=tI) (i:=tE) (cj.less (af:=400) J ⋯) X0 (Yo c) λ A kk au j n X1=>?_;obtain⟨a,rfl,p⟩:∃a:wy,A=a.a/\yB (Bi kk 0) c=yB a c:=(cI (Bi kk A) rfl rfl);rw[p]at X1;have L:At f _ (yA a c #[] (df [] 0)) (λ j c=>c.gens=f.gens) au:=X1;have i:cj 100 W (s.under (.func tI (tE a.a))):=n.less ⋯;have g:cj 200 W (s.under (.func tI (tE a.a))):=n.less ⋯;generalize s.under (.func tI (tE a.a))=A1 at i g;have e1:dj tI (tE a.a)=dj (.Expr ig (match(tI).headD default with| .Expr _ u=>u|_=>default)::(tI).tail) (tE a.a):=congrArg (λ r=>dj r (tE a.a)) VR;rw[e1];refine KH (L3 ?_ (So _) (VQ _));have e2:gr ig (tE a.a)=(zG (.Call (.Name "super" (l7 (fnOf mI))) [] [] (eO mI)) mo (tE a.a) (gr (.Call (.Name "super" (l7 (fnOf mI))) [] [] (eO mI)) (tE a.a))>>=λ l=>qN (kC (fnOf ig)).atName>>=λ j=>vb (.Call (.Name "super" (l7 (fnOf mI))) [] [] (eO mI)) mo (kC (fnOf ig)) (eO ig) (tE a.a) l ((jw ig).length+([]:List tZ).length) (pM (eO ig) (oI (jw ig) (tE a.a))) (vk (eO ig) (uZ [] (tE a.a)))):=(congrArg (λ e=>gr e (tE a.a)) Sq).trans (D5 _ _ _ _ _ _ _);rw[e2];refine zw (ŏ i rfl L (Yn a c) λ aJ H aR=>?_);refine kQ (cJ (pC ?_));have e3:vb (.Call (.Name "super" (l7 (fnOf mI))) [] [] (eO mI)) mo (kC (fnOf ig)) (eO ig) (tE a.a) (R H) ((jw ig).length+([]:List tZ).length) (pM (eO ig) (oI (jw ig) (tE a.a))) (vk (eO ig) (uZ [] (tE a.a)))=tMc a.a H:=by rw[MV,Ř,<-Sp];kernel_rfl
 rw[e3];refine gY (l1:=tkM a c H) g aR _ 2000 Xw [qA "super.__getattribute__" 5 H (λ q=>[R H,S mo (pL q.c)]) (λ j=>nT 148 c.aS 148) (E_ 57 c.aS) λ j j z E h3 h4=>ĝ (r:=iQ 602) (aX:=148) (e:=148) (C:=57) (H:=H) (c:=c.aS) (g:=mo) (b:=5) PA z E h3 h4 (L.kt (.tail _ (.head _)))] [0,1,2,3,4] (λ j j j=> .none) (λ j j j=>[yB a c,iX c.dS (jZ (S c.ty c.tt) (S c.v c.tv) c.loc),df [] 0,eB c.dl (c.k+1) c.tn c.t1 c.t2,df [] 0]) ⋯ λ aM r2 ak o2 aY=>?_;show je _ _ _ (dj (tI).tail (tE a.a)) _ _ aM;rw[i2];refine kQ (gY (l1:=yA a c (jZ (S c.ty c.tt) (S c.v c.tv) c.loc) (df [] 0)) g aY _ 2000 Xv [] [1,2,3,4] (λ j j j=> .next) (λ j j k=>[iX c.dS (jZ (S c.ty c.tt) (S c.v c.tv) c.loc),lb ⟨(d5 k.2.T 2 0).h,(d5 k.2.T 2 0).t⟩ ⟨(d5 k.2.T 2 1).h,(d5 k.2.T 2 1).t⟩ c.sv c.st c.fi,eB c.dl (c.k+1) c.tn c.t1 c.t2,df [] 0]) ⋯ λ aK O aq o3 aZ=>?_);generalize(⟨(d5 o3.2.T 2 0).h,(d5 o3.2.T 2 0).t⟩:Ht)=k1 at aZ;generalize(⟨(d5 o3.2.T 2 1).h,(d5 o3.2.T 2 1).t⟩:Ht)=k2 at aZ;exact G (λ j=>0) (drH k1 k2) [Y (iX c.dS (jZ (S c.ty c.tt) (S c.v c.tv) c.loc)),Y (lb k1 k2 c.sv c.st c.fi)] [] aK aZ rfl rfl rfl
end
noncomputable def cS:List dd:=fP (d9 387).body
noncomputable def Ź:dd->Expr×Expr×List dd| .For D v l _ _=>(D,v,l)|_=>(default,default,[])
noncomputable def cF:dd:=(cS).getD 3 default
noncomputable def wu:Expr:=(Ź cF).1
noncomputable def ip:Expr:=(Ź cF).2.1
noncomputable def cB:List dd:=(Ź cF).2.2
noncomputable def cE(A:bU):di:=dq 387 A
structure lQ where
 a:bU
 k1:Ht
 k2:Ht
 k3:Ht
 k4:Ht
 k5:Ht
 cs:bX
 e:Nat
noncomputable def qr(a:lQ)(t:bU)(e A tk:bX):bV:=ly [⟨a.k1.h,S (bW #[115,101,108,102]) a.k1.t,R t⟩,⟨a.k2.h,S (bW #[99,104,97,114,97,99,116,101,114,115]) a.k2.t,a.cs⟩,⟨a.k3.h,S (bW #[115,112,97,99,101]) a.k3.t,e⟩,⟨a.k4.h,S (bW #[102,105,114,115,116]) a.k4.t,A⟩,⟨a.k5.h,S (bW #[116,111,107,101,110]) a.k5.t,tk⟩] a.e
noncomputable def lH(b:dz):bV:=df [⟨b.k1.h,S (bW #[116,111,107,101,110,95,98,117,102,102,101,114]) b.k1.t,R b.fe⟩,⟨b.k2.h,S (bW #[112,117,115,104,101,100,95,98,97,99,107]) b.k2.t,R b.fN⟩,⟨b.k3.h,S (bW #[99,117,114,114,101,110,116,95,116,101,120,116]) b.k3.t,R b.er⟩,⟨b.k4.h,S (bW #[99,111,112,116,105,111,110,115]) b.k4.t,R b.aO⟩] 4
noncomputable def yD:bX->cD (Option bX):=b2l
theorem mw:@oO=yD:=b2s
noncomputable def Cf:List dd:=(cS).drop 4
noncomputable def cP(a:lQ)(t B:bU)(V:Nat)(nm qn e A tk:bX):List (bU×bV):=[(a.a,qr a t e A tk),(B,cv V nm qn)]
noncomputable def gu(g B:bU):cN:= .forLoop wu (R B) cB [] (cE g)
noncomputable def jF(g:bU)(u:dK):List jx:=[.ret (lr (cE g) (mX Cf (cE g) pX (jJ (cE g))) (jJ (cE g))) W X [] (.func cS (cE g)) u []]
noncomputable def Cb(Q:BT)(y i:Nat):cp:=match Q.get y with
 |Y k=>match k.data with
  | .dict b _=>match b.toList[i]? with
   |Y e=>match e.val with| .str _ D=>D|_=>0
   |W=>0
  |_=>0
 |W=>0
noncomputable def V':cb:=bW #[87,83]
noncomputable def fy:cb:=bW #[67,72,65,82]
section
variable(a:lQ)(t B:bU)(V:Nat)(nm qn:bX)
noncomputable def cQ(dl aq td tk:bU)(i:Nat)(tn t1 t2 tv tt:cp)(ty b:cb)(e A g:bX):List (bU×bV):=cP a t B V nm qn e A g++S_ dl aq td tk i tn t1 t2 tv tt ty b
noncomputable def cTr(tk:bU):cD fE:=xO wu (R B) cB [] (cE a.a) (R tk)
noncomputable def XF:List Nat:=nd 16 101 0x11006060000006000000000000060000611006060000006000000000000060000610060600000060000000000000600006111
noncomputable def XG:List Nat:=nd 16 200 0x20000808000000000000000000000000000000000606000000600000000000006000061116060000006000000000000060000616060000006000000000000060000610006060000006000000000000060000610060600000060000000000000600006111
noncomputable def JE(kk:sf->cD fE)(e A tk:bX):GP->pn fE Unit:=λ γ=>la W (kk (.send .none)) 100 500 (nd 16 4 0x1111) [] (cP a t B V nm qn e A tk) γ [0,1] λ j j j=>()
noncomputable def JD(kk:sf->cD fE)(e A tk:bX):GP->pn fE Unit:=λ γ=>l9 W (kk (.send .none)) 100 500 (nd 16 4 0x1111) [] (cP a t B V nm qn e A tk) γ (λ j j=>γ) (λ j j j=> .pure (.again (gu a.a B))) (λ j j k=>[qr a t (S (bW #[]) (Cb k.2.T 0 2)) (.bool X) tk,cv V nm qn]) λ j j j=>()
noncomputable def yw(kk:sf->cD fE)(e A tk:bX):Prop:=JE a t B V nm qn kk e A tk=JD a t B V nm qn kk e A tk
end
noncomputable def sG:bX->cD bX:=Cm
theorem qJ:@nM=sG:=b2t
noncomputable def uI:List dd:=fP (d9 342).body
noncomputable def iV(g:bU):di:=dq 342 g
noncomputable def B1:dd->Expr×Expr×List dd×dK| .For D v l _ u=>(D,v,l,u)|_=>default
noncomputable def if1:dd->Expr×List dd×dK| .If D l _ u=>(D,l,u)|_=>default
noncomputable def oQ:Expr×Expr×List dd×dK:=B1 ((uI).getD 1 default)
noncomputable def lV:Expr×List dd×dK:=if1 ((uI).getD 2 default)
noncomputable def I9:cb:=bW #[116,120,116]
noncomputable def SD:cb:=bW #[112,97,114,116,115]
noncomputable abbrev Yw:String:=JV
noncomputable def IJ(g:bU)(v:Nat):bV:=⟨T Yw,W, .fields #[R g,I v 0],#[]⟩
noncomputable def yY(c:cb)(D:cp):List (cb×bX):=[(I9,S c D)]
noncomputable def rj(af:FD)(c:cb)(D:cp)(i:Ht)(a:bU):bV:=ly [⟨(af 3).h,S I9 (af 3).t,S c D⟩,⟨i.h,S SD i.t,R a⟩] 2
section
variable(g a aN o:bU)(af:FD)(i:Ht)(c:cb)(D:cp)
noncomputable def uH:List (bU×bV):=[(g,nQ (yY c D) af)]
noncomputable def BY:List (bU×bV):=[(g,rj af c D i a),(a,lst [S c D] 0)]
noncomputable def lp2:List (bU×bV):=[(g,rj af c D i a),(a,lst [S c D] 0),(aN,lst [] 0)]
noncomputable def lp3:List (bU×bV):=[(g,rj af c D i a),(a,lst [S c D] 0),(aN,lst [] 0),(o,IJ aN 0)]
theorem b0z:jX (BY g a af i c D) W 20 500 (dO (lV).1 (iV g)) [1,0,0,2,2,2,0,2,0,2] (S c D):=kA
end
theorem XW(a:cm (bZ bY w) (s.over B fs) (wY d aq (gr d aq)) (λ l n=>da (bZ bY w) s B ((dj (if l=U then t else g) aq).wrap G aa id id) fs n F) (λ j j=>False) f):da (bZ bY w) s B ((yx (.If d t g o) aq).wrap G aa id id) fs f F:=by refine ku bY w s B fs F f _ 1 ?_;show da _ s B ((wY d aq (gr d aq)>>=λ l=>if l=U then dj t aq else dj g aq:cD gK).wrap G aa id id) fs f F;rw[mP,mj];refine mv (kS a (λ l n M=>?_) λ j j c=>c.elim);cases l with|true=>exact M|false=>exact M
theorem Ĝ(a:da (bZ bY w) s c ((dj ak aq).wrap G aa id id) fs f F):da (bZ bY w) s B (.pure (.again (.block [] aq))) (.ret (lr aq (mX ak aq G aa) aa) W X [] c E []::fs) f F:=by refine nH bY w _ _ _ _ _ _ (show(M4 [] aq).quiet=U from rfl) ?_;refine ku bY w _ _ _ _ _ _ 5 ?_;show da _ _ _ (.pure (.done .next)) _ _ _;refine t_ ?_;show da _ _ _ ((fZ ak aq).wrap G aa id id) _ _ _;rw[<-i2];exact a
theorem T6:uI=(uI).take 1++[.For (oQ).1 (oQ).2.1 (oQ).2.2.1 [] (oQ).2.2.2, .If (lV).1 (lV).2.1 [] (lV).2.2]:=⋯
theorem Q0(g:bU)(c:bX):px (oQ).2.1 (iV g) c=pure c:=⋯
theorem T5(g:bU)(m:cD bX):wY (lV).1 (iV g) m=(do
 let b<-m
 qN (lV).1.pos
 vo [b] (truthy b)):=⋯
noncomputable abbrev kK(g:bU):cN:= .func uI (iV g)
theorem cj.G'(a:cj (af+i) W s)(h0:(ę fs (s.handled,s.handled)).1=W)(z:zM (fs.map tK)+B.weight<=i)(E:xr (fs.map tK)+B.cUnits<=3*i):cj af W (s.over B fs):=⟨h0,by have:=a.d;show s.depth+zM _+B.weight+af<_;exact hV z this,by have:=a.u;show s.units+xr _+B.cUnits+3*af<_;exact hV E this⟩
theorem N'(a:cj (af+5) W s)(z:B.weight<=5)(E:B.cUnits<=15):cj af W (s.over B []):=a.G' (i:=5) (by show(ę [] (s.handled,s.handled)).1=W;rw[a.h];rfl) (by show 0+B.weight<=5;exact gB z) (by show 0+B.cUnits<=3*5;exact gB E)
theorem XM(a:cj (af+5) W s)(z:zM [(c,u)]+B.weight<=5)(E:xr [(c,u)]+B.cUnits<=3*5):cj af W (s.over B [.ret (lr aq G aa) W X [] c u []]):=a.G' (i:=5) (by show(ę _ (s.handled,s.handled)).1=W;rw[a.h];rfl) z E
theorem At.toks(a:At ae ah ls P f):At ae ah ls P {f with toks:=i}:=by(refine cK a.own λ az z b=>?_;obtain⟨E,h3,fS,h4,h5,h6⟩:=b);exact⟨a.base,cI az z ⟨E,h3,fS,h4,h5,λ n k1 k2=>h6 n k1 k2⟩,a.keep,a.size,a.drawn,a.os⟩
section
variable{ae f:cc}{ah:AP}{P:GP}{s:cR}{F:ES}{g:bU}{af:FD}{c:cb}{D:cp}
theorem Nx(J:cj 25 W s)(hx:fF c)(h0:0<c.length)(b9:c.length<=1048576)(L:At ae ah (uH g af c D) P f)(G:∀n kk p',At ae ah [] P n->kZ ⟨bY,w.params⟩ 20 (kk (.send .none))= .pure (.done (.ret .none))->F (.susp (S c D) X [] kk (kK g) p' []) n):da (bZ bY w) s (kK g) (gp fV (kK g)) [] f F:=by
 have A1:cj 20 W (s.over (kK g) []):=N' J ⋯ ⋯;refine s_ ?_;have Q:dj uI (iV g)=dj ((uI).take 1++[.For (oQ).1 (oQ).2.1 (oQ).2.2.1 [] (oQ).2.2.2, .If (lV).1 (lV).2.1 [] (lV).2.2]) (iV g):=congrArg (λ r=>dj r (iV g)) T6;rw[Q];refine C_ ?_;refine gY A1 L _ 500 (nd 16 4 0x1121) [qB "str.split" (λ q=>[S c D,S ⟨#[10]⟩ (cG 1 q.c)]) (EP c D) λ j j=>LW hx] [0,1] (λ j j j=> .next) (λ d j k=>[rj af c D ⟨(d5 k.2.T 0 1).h,(d5 k.2.T 0 1).t⟩ (d 0),lst [S c D] 0]) ⋯ λ au d p k aU=>⟨rfl,?_⟩;generalize(⟨(d5 k.2.T 0 1).h,(d5 k.2.T 0 1).t⟩:Ht)=i at aU;refine ub (Ŧ (Q0 g) ?_);rw[fO];refine gY (l1:=BY g (d 0) af i c D) A1 aU _ 500 (nd 16 15 0x233333020222001) [] [0,1,3] (λ d j j=>R (d 1)) (λ j j j=>[rj af c D i (d 0),lst [S c D] 0,lst [] 0]) ⋯ λ aJ r2 ak o2 aR=>?_;rw[qJ];refine gY (l1:=lp2 g (d 0) (r2 1) af i c D) A1 aR _ 500 (nd 16 6 0x403033) [] [0,1,2,3] (λ d j j=>R (d 0)) (λ j j j=>[rj af c D i (d 0),lst [S c D] 0,lst [] 0,IJ (r2 1) 0]) ⋯ λ aM O aq o3 aY u=>?_;refine uh ?_;rw[mw];have A2:cj 20 W (s.over (.forLoop (oQ).1 (R (O 0)) (oQ).2.2.1 [] (iV g)) [.ret (lr (iV g) (mX [.If (lV).1 (lV).2.1 [] (lV).2.2] (iV g) pX (jJ (iV g))) (jJ (iV g))) W X [] (kK g) u []]):=XM J ⋯ ⋯;refine gY (l1:=lp3 g (d 0) (r2 1) (O 0) af i c D) A2 aY _ 500 (nd 16 10 0x6443440404) [] [0,1] (λ j j j=>W) (λ j j j=>[rj af c D i (d 0),lst [S c D] 0]) ⋯ λ aK v b8 o4 aZ=>?_;refine Ĝ ?_;refine ub (XW ?_);refine wpAny_isTrue_value ?_ (T5 _ _);rw[fO];refine mR (ls:=BY g (d 0) af i c D) A1 aZ _ 500 _ (S c D) (b0z g (d 0) af i c D) λ aV b4=>?_;refine PySem.P.truthy_str (by lia) ?_;have e1:((c.length:Int)!=0)=U:=by simp;exact oy (gB h0)
 rw[e1,if_pos rfl,i2];show da (bZ bY w) s (kK g) ((fZ (lV).2.1 (iV g)).wrap (mX [] (iV g) pX (jJ (iV g))) (jJ (iV g)) id id) [] _ F;have e2:(fZ (lV).2.1 (iV g)).wrap (mX [] (iV g) pX (jJ (iV g))) (jJ (iV g)) id id=(fZ (lV).2.1 (iV g)).wrap pX (jJ (iV g)) id id:=uV _ _ _ (λ C=>by cases C<;>first|rfl|(show(fZ [] (iV g)).wrap pX (jJ (iV g)) id id=_;rw[<-i2];rfl)) (λ j=>rfl);rw[e2];refine qQ A1 b4.toks _ 500 (nd 16 10 0x2020222001) [] [0] (λ j j k=> .yield (S c D) X [] (oR k.1)) (λ j j j=>[rj af c D i (d 0)]) (λ j j k=>kZ ⟨bY,w.params⟩ 20 (oR k.1 (.send .none))) (λ j j j=> .pure (.done (.ret .none))) ⋯ λ b3 y l x A b7=>?_;exact q_ bY w _ _ _ _ _ _ _ _ rfl rfl λ p'=>G b3 _ p' (At.drop (ls:=[]) (l2:=[(g,rj af c D i (d 0))]) b7) A
end
noncomputable def kD(gs:eY):Prop:=∃kk r B p',gs= .suspended kk r B p' [] X/\kZ ⟨bY,w.params⟩ 20 (kk (.send .none))= .pure (.done (.ret .none))
noncomputable def I2(b:bX)(P:GP):Sm:=⟨30,0,0,λ j j=> .ok (.ret b),λ j j=>[],λ j j=>[],Y λ j j=>P⟩
theorem e_{F b:eY->Prop}(a:dW ((O,F)::ai) C f)(hy:b t)(hs:n.gens=f.gens.setIfInBounds O t)(M:t.bare=U:=by rfl):dD f' (dW ((O,b)::ai)) n:=by refine dW.set a (λ q hq=>?_) ⟨_, .head _⟩ a.2 hs M;have H:=gI.mp a.2;cases hq with|head=>exact⟨λ j=>hy,λ ay=>absurd rfl ay⟩|tail _ hq=>exact⟨λ e=>absurd (jd (f:=λ u:Nat×(eY->Prop)=>u.1) hq) (by rw[e];exact H.1),λ j=> .tail _ hq⟩
section
variable{x:FA}{c:cb}{D:cp}{g p:bU}{af:FD}{gL E:Nat}{nm qn:bX}{ai:GL}
theorem N5(hx:fF c)(h0:0<c.length)(b9:c.length<=1048576)(hc:d.c= .call (.builtin "generator.__next__") ⟨[R p],[]⟩)(hg:d.gh=Fr (uH g af c D) (dW ((gL,gA (kK g))::ai)))(ae:d.sm=I2 (S c D) (dW ((gL,kD)::ai)))(hT:d.T.get E=Y (cv gL nm qn))(ha:x E=p):cy x d:=by obtain⟨H,P,rn,rg,rs⟩:=d;cases hc;cases hg;cases ae;intro s ax f fp J M hs aQ ap ah hC G;replace J:cj 30 W s:=J;have hG:=(hs E _ hT).2;rw[ha]at hG;obtain⟨g1,O,fS,g3,g4,g5⟩:=hC.now;(refine cK (g5.now.1.2 _ (.head _)) λ gs F a=>?_;subst a);refine pA J.h (by have:=J.d;exact lZ this) (lF _ M) (lp hG) F ?_;show da (bZ bY w) s.in1 (kK g) (dn (kK g)) [] (f.setGen gL .running) (lT ax gL);rw[<-pP];have F1:Fr (uH g af c D) (dW ((gL,ee)::ai)) fp (f.setGen gL .running):=⟨g1,O,fS,g3,g4,e_ g5.now rfl rfl⟩;refine Nx (cj.in1 (J.less ⋯):cj 25 W _) hx h0 b9 (At.start (f:=f.setGen gL .running) M (λ l ak=>⟨ah.lt l ak,ah.nk l ak⟩) F1) λ n kk p' L hk=>?_;show ax (.ok (.ret (S c D))) (n.setGen gL (.suspended kk [] (kK g) p' [] X));have aV:=L.setGen (O:=gL) (t:= .suspended kk [] (kK g) p' [] X) (r:=dW ((gL,kD)::ai)) λ f' z=>e_ z.now (ś kk [] _ p' rfl hk) rfl;refine ue (At.fin (b:=[]) (ak:=[]) aV) λ _ _ _ aw y4 y5=>?_;refine G (λ j=>0) (λ j=>⟨0,default,[],0⟩) _ rfl (λ i k hk=>nomatch hk) (λ i hk=>absurd hk (uT i)) (λ i j hk=>absurd hk (uT i)) (λ q hq=>nomatch hq) (λ l k q1 j q3=>aV.keep l k q1 (q3 rfl)) aV.size (cI aw (λ l ak=>(cZ (y4 l ak).1 (y4 l ak).2.1 (λ i hk=>absurd hk (uT i)))) y5.IU) aV.drawn aV.os
theorem N4(hc:d.c= .call (.builtin "generator.__next__") ⟨[R p],[]⟩)(hg:d.gh=dW ((gL,kD)::ai))(ae:d.sm=pI 30 (dW ((gL,sk)::ai)))(hT:d.T.get E=Y (cv gL nm qn))(ha:x E=p):cy x d:=by obtain⟨H,P,rn,rg,rs⟩:=d;cases hc;cases hg;cases ae;intro s ax f fp J M hs aQ ap ah hC G;replace J:cj 30 W s:=J;have hG:=(hs E _ hT).2;rw[ha]at hG;(refine NV (hC.now.1.2 _ (.head _)) λ gs F kk r B p' b hk=>?_;subst b);refine pA J.h (by have:=J.d;exact lZ this) (lF _ M) (lp hG) F ?_;show da (bZ bY w) s.in1 B (kk (.send .none)) [] (f.setGen gL .running) (lT ax gL);refine ku bY w _ _ _ _ _ _ 20 ?_;rw[hk];refine O_ bY w _ _ _ _ (.ok (.ret .none)) _ rfl ?_;have X0:At f fp [] (dW ((gL,kD)::ai)) f:=At.start (f:=f) (az:=fp) M (λ l ak=>⟨ah.lt l ak,ah.nk l ak⟩) ⟨λ q hq=>(nomatch hq),pB,fp,λ g=>⟨.inr,λ a=>a.elim (λ q=>(nomatch q)) id⟩,λ g ha=>(nomatch ha),hC⟩;have L:At f fp [] (dW ((gL,ee)::ai)) (f.setGen gL .running):=X0.setGen λ f' z=>e_ z.now rfl rfl;exact xa (x:=x) G L rfl rfl λ C hf aK j k2=>e_ hf.now rfl k2
end
section
open PySem in set_option tactic.hygienic true in theorem Ex(step:∀{V:VS}{aw:VS},V b n->cm (bZ bY w) s.in1 (nM v) V aw f)(a:ax (.ok (.ret (R n.heap.objs.size))) {n with heap:=n.heap.push {cls:=T "enumerate",data:= .fields #[.none, .bool X,b,I 1 0, .none, .none]}}):cm (bZ bY w) s.in1 (Builtin.«enumerate.__new__» ⟨[T "enumerate",v,I 1 o],[]⟩) (λ aj n=>match aj with| .done C=>ax (.ok C) n| .again c'=>c'.quiet=U/\dQ (bZ bY w) s c' ax n) (λ e n=>ax (.error e) n) f:=by
 obtain⟨hp,O,af,tk,os⟩:=f;obtain⟨g,d,c,k,j⟩:=n;have i:=Lw;wp_walk;refine CM λ st=>ed ?_;split;·
  rename_i B _ _ _ _ _;cases(B==T "enumerate");·wp_walk using step;exact a
  ·wp_walk using step;exact a
 ·wp_walk using step;exact a
end
theorem Ċ(o:kF):(Code.builtin "enumerate.__new__" o).quiet=U:=⋯
theorem D1(g l:bX):zr "enumerate.__new__" ⟨[T "enumerate",g,l],[]⟩=pure ():=⋯
noncomputable def He(g:bU):Sm:=⟨10,1,0,λ l j=> .ok (.ret (R (l 0))),λ j j=>[],λ j j=>[fI g 1 .none],W⟩
theorem Nj(hc:d.c= .call (.builtin "enumerate.__new__") ⟨[T "enumerate",R g,I 1 o],[]⟩)(ae:d.sm=He g)(hT:d.T.get y=Y (cv O nm qn))(ha:x y=g):cy x d:=by
 obtain⟨H,P,rn,rg,rs⟩:=d;cases hc;cases ae;intro s ax f fp _ _ hs _ _ _ hC G;have hG:=(hs y _ hT).2;rw[ha]at hG;refine Cq (Ċ _) Cy ?_;rw[D1];refine ed ?_;refine Ex (n:=f) (b:=R g) (λ{V aw}a=>wpAny_pyIter_gen (lp hG) a) ?_;refine G (λ j=>f.heap.objs.size) (λ j=>⟨0,⟨0,0,0,0⟩,[],0⟩) _ rfl (λ i k a=>?_) (λ i j=> .inl (gz _)) (λ i k' a h' j=>?_) (λ u hp=>by cases hp) (λ l k M j j=>gF _ M) ?_ rfl rfl rfl;·match i,a with|0,a=>cases a;show(f.heap.push _).get? f.heap.objs.size=Y (fI g 1 .none);unfold fI;rw[<-qI];exact kj _ rfl|i+1,a=>cases a
 ·have e1:i<1:=a;have e2:k'<1:=h';lia
 ·show f.heap.objs.size<=(f.heap.push _).objs.size;simp[tQ]
noncomputable def nP(c:cb):Bool:=c.cps.all (·<128)
noncomputable def Hc(c:cb)(D:cp):Sm:=⟨10,2,0,λ l j=> .ok (.ret (R (l 1))),λ j j=>[],λ l j=>[gO (nP c) (S c D) 0,fI (l 0) 1 .none],W⟩
theorem Nh(hc:d.c= .call (.builtin "enumerate.__new__") ⟨[T "enumerate",S c D,I 1 o],[]⟩)(ae:d.sm=Hc c D):cy x d:=by
 obtain⟨H,P,rn,rg,rs⟩:=d;cases hc;cases ae;intro s ax f fp _ _ hs _ _ _ hC G;refine Cq (Ċ _) Cy ?_;rw[D1];refine ed ?_;refine Ex (n:={f with heap:=f.heap.push {cls:=T (tL c),data:= .fields #[S c D,I 0 0]}}) (b:=R f.heap.objs.size) (λ{V aw}a=>KP a) ?_;have O:(f.heap.push {cls:=T (tL c),data:= .fields #[S c D,I 0 0]}).objs.size=f.heap.objs.size+1:=by simp[tQ]
 have b:gO (nP c) (S c D) 0={cls:=T (tL c),data:= .fields #[S c D,I 0 0]}:=by
  unfold tL nP;cases c.cps.all (·<128);·exact I_ _ _
  ·exact H_ _ _
 show ax (.ok (.ret (R (f.heap.push {cls:=T (tL c),data:= .fields #[S c D,I 0 0]}).objs.size))) {f with heap:=(f.heap.push {cls:=T (tL c),data:= .fields #[S c D,I 0 0]}).push {cls:=T "enumerate",data:= .fields #[.none, .bool X,R f.heap.objs.size,I 1 0, .none, .none]}};rw[O];refine G (λ i=>if i=0 then f.heap.objs.size else f.heap.objs.size+1) (λ j=>⟨0,⟨0,0,0,0⟩,[],0⟩) _ rfl (λ i k a=>?_) (λ i hk=>?_) (λ i k' a h' e=>?_) (λ u hp=>by cases hp) (λ l k M j j=>gF _ (gF _ M)) ?_ rfl rfl rfl;·match i,a with|0,a=>cases a;show nD _ f.heap.objs.size=Y (gO (nP c) (S c D) 0);rw[b];exact gF _ (kj _ rfl)|1,a=>cases a;show nD _ (f.heap.objs.size+1)=Y (fI f.heap.objs.size 1 .none);unfold fI;rw[<-qI,<-O];exact kj _ rfl|i+2,a=>cases a
 ·show f.heap.objs.size<=(if i=0 then f.heap.objs.size else f.heap.objs.size+1)\/_;split<;>exact .inl (by omega)
 ·have e1:i<2:=a;have e2:k'<2:=h';have e3:(if i=0 then f.heap.objs.size else f.heap.objs.size+1)=if k'=0 then f.heap.objs.size else f.heap.objs.size+1:=e;split at e3<;>split at e3<;>omega
 ·show f.heap.objs.size<=((f.heap.push _).push _).objs.size;rw[mf,O];simp+arith only
noncomputable def zc:List dd:=fP (d9 335).body
noncomputable def jO(g:bU):di:=dq 335 g
noncomputable def jm:Expr×Expr×List dd×dK:=B1 ((zc).getD 0 default)
noncomputable def pg:Expr×Expr×List dd×dK:=B1 ((jm).2.2.1.getD 1 default)
noncomputable def sy(b:jR):bV:=ly [⟨b.kf.h,S (bW #[102]) b.kf.t,R b.gx⟩,⟨b.ks.h,S (bW #[115,111,117,114,99,101,95,102,105,108,101]) b.ks.t,R b.qt⟩] 2
noncomputable def qV(b:jR)(i ao:bX):bV:=ly [⟨b.kf.h,S (bW #[102]) b.kf.t,R b.gx⟩,⟨b.ks.h,S (bW #[115,111,117,114,99,101,95,102,105,108,101]) b.ks.t,R b.qt⟩,⟨b.kr.h,S (bW #[114,111,119]) b.kr.t,i⟩,⟨b.kl.h,S (bW #[108,105,110,101]) b.kl.t,ao⟩] 4
noncomputable def oX(b:jR):List (bU×bV):=[(b.qt,inst 324 b.lx),(b.lx,qd b 1)]
noncomputable def u_(Q:BT)(y:Nat):cp:=match Q.get y with
 |Y k=>match k.data with
  | .seq b _=>match b.toList with| .int _ D::_=>D|_=>0
  |_=>0
 |W=>0
section
variable(b:jR)(t x:bU)(gL:Nat)(nm qn aj:bX)(c:cb)(D tn:cp)
noncomputable def cq1:List (bU×bV):=[(b.aF,sy b),(b.gx,cv gL nm qn)]
noncomputable def JG(H:Int):List (bU×bV):=[(t,fI b.gx H aj),(b.gx,cv gL nm qn),(b.aF,sy b),(b.qt,inst 324 b.lx),(b.lx,qd b 1)]
theorem a2r(H:Int):jX (JG b t gL nm qn aj H) W 40 500 (sG (R t)) [1,1,0,1,0,1] (R t):=kA
noncomputable def cq4:List (bU×bV):=[(b.aF,sy b),(x,dk [I 1 tn,S c D])]
noncomputable def JF(i:bX):List (bU×bV):=[(b.aF,qV b i (S c D))]
end
noncomputable def Ĳ(Q:BT)(y:Nat):cp:=match Q.get y with
 |Y k=>match k.data with
  | .seq b _=>match b.toList with|[_, .str _ D]=>D|_=>0
  |_=>0
 |W=>0
section
variable(b:jR)(aE o x:bU)(H B:Nat)(l:Bool)(c:cb)(D tn tc:cp)(i ao:bX)
noncomputable def m5(H v:Nat)(aj:bX):List (bU×bV):=[(aE,fI o H aj),(o,gO l (S c D) v)]
noncomputable def tu4:List (bU×bV):=[(b.aF,qV b i ao),(b.qt,inst 324 b.lx),(b.lx,qd b 1),(x,dk [I H tn,S ⟨#[B]⟩ tc])]
end
section
variable{ae f:cc}{ah:AP}{P:GP}{s:cR}{u:ES}{A aE o:bU}{l:Bool}{c:cb}{D:cp}{H v B:Nat}{aj:bX}{a:List (bU×bV)}{fs:List jx}
theorem Fu(J:cj 40 W (s.over (iD A aE) fs))(hx:c.cps[v]?=Y B)(L:At ae ah (m5 aE o l c D H v aj++a) P f)(G:∀n x tn tc,At ae ah ((x,dk [I H tn,S ⟨#[B]⟩ tc])::(m5 aE o l c D (H+1) (v+1) (S ⟨#[B]⟩ tc)++a)) P n->da (bZ bY w) s (iD A aE) (b1h A aE (R x)) fs n u):da (bZ bY w) s (iD A aE) (gp fV (iD A aE)) fs f u:=by
 refine uh ?_;rw[mw];refine gY (J.less ⋯:cj 30 W _) L.push _ 1000 (nd 16 21 0x111111111111112210101) [qA (Á l) 1 o (λ j=>[R o]) (λ j=>gO l (S c D) v) (I5 l 1 c D v B) λ j j z E h3 h4=>Po z E h3 h4 hx] [0,1,2] (λ d j j=>Y (R (d 0))) (λ d j k=>[pK (d 0) o (H+1) (S ⟨#[B]⟩ (Ĳ k.2.T 2)),gO l (S c D) (v+1),dk [I H (u_ k.2.T 2),S ⟨#[B]⟩ (Ĳ k.2.T 2)]]) (l.rec ⋯ ⋯) λ au d p k aU=>?_;generalize u_ k.2.T 2=tn at aU;generalize Ĳ k.2.T 2=tc at aU;show cm _ _ (qz yi (R aE) (R (d 0))) _ _ au;refine đ Pe λ ak i pp=>?_;have hE:au.heap.get? aE=Y (pK (d 0) o (H+1) (S ⟨#[B]⟩ tc)):=aU.has _ (.head _);have he:E8 au.heap aE o (((H+1:Nat)):Int) (S ⟨#[B]⟩ tc) (d 0):=by show au.heap.get? aE=_;rw[hE];unfold pK;rw[<-qI];rfl
 refine Cp he λ E ba aw=>?_;have aR:At ae ah ((aE,fI o (H+1:Nat) (S ⟨#[B]⟩ tc))::[(o,gO l (S c D) (v+1)),(d 0,dk [I H tn,S ⟨#[B]⟩ tc])]) (Fr a P) {au with heap:=E}:=aU.upd aw (by show E.get? aE=_;rw[show E.get? aE=_ from ba];unfold fI;rw[<-qI];rfl) rfl rfl rfl;refine G _ (d 0) tn tc ?_;have aY:=At.pull (l1:=[(aE,fI o (H+1:Nat) (S ⟨#[B]⟩ tc)),(o,gO l (S c D) (v+1)),(d 0,dk [I H tn,S ⟨#[B]⟩ tc])]) aR;refine aY.perm (ff λ j=>?_);simp only[m5,ft,fv,fz];simp+arith only
end
noncomputable def FC:List Nat:=nd 16 382 0xbbb0c000c0c00c0000cddbbb0c000c0c00c0000cdddddddd10000c0c000000000000000000000000000000000110119090000009000000000090900900009aa9090000009000000000090900900009aa9090000009000000000090900900009aa9090000009000000000090900900009aa9090000009000000000090900900009aaaaaaaaaaaaaa010000909000000000000000000000000000000000130220002000021302200020000210111175545505055545505055545505055040444
noncomputable def ż:List dd:=(jm).2.2.1.drop 2
noncomputable def UT(A t:bU):lh:=vH (jm).1 (R t) (jm).2.2.1 [] (jO A)
noncomputable def xX(A:bU)(m:dK):List jx:=[.ret (lr (jO A) (mX [] (jO A) pX (jJ (jO A))) (jJ (jO A))) W X [] (.func zc (jO A)) m []]
noncomputable def nq(A t:bU)(p1 m:dK):List jx:= .ret (lr (jO A) (mX ż (jO A) (UT A t) (kv (jO A))) (kv (jO A))) W X [] (sL A t) p1 []::xX A m
noncomputable def JI(dl aq y d:bU)(H B:Nat)(tn t1 t2 tc:cp)(k1 k2:Ht):List (bU×bV):=[(dl,df [] 0),(aq,eB dl H tn t1 t2),(y,gf ⟨d,y,k1,k2,tc,aq⟩ B),(d,inst 204 y)]
noncomputable def vK(b:jR)(g l B:Ht):jR:={b with kc:=g,kh:=l,ko:=B}
noncomputable def ν(ae:cc)(ah:AP)(P:GP)(u:ES)(b:jR)(fs:List jx)(H v B:Nat)(l:Bool)(c:cb)(D:cp)(ak:List (bU×bV)):Prop:=∀n g q c' i ao aw aK C e dl aq y d tn t1 tc k1 k2 kk p',At ae ah (JI dl aq y d H B tn t1 b.tr tc k1 k2++((b.aF,rp (vK b g q c') i ao aw aK C e)::(oX b++(m5 b.aE b.aI l c D (H+1) (v+1) (S ⟨#[B]⟩ tc)++ak)))) P n->kZ ⟨bY,w.params⟩ 20 (kk (.send .none))= .pure (.again (iD b.aF b.aE))->u (.susp (R d) X [] kk (iD b.aF b.aE) p' fs) n
section
variable{ae f:cc}{ah:AP}{P:GP}{s:cR}{u:ES}{b:jR}{l:Bool}{c:cb}{D:cp}{H v B:Nat}{aj:bX}{ak:List (bU×bV)}{t:bU}{p1 m:dK}
theorem yb{s:cR}{A aE t:bU}{p1 m:dK}(a:cj (af+5) W s):cj af W (s.over (iD A aE) (nq A t p1 m)):=by refine a.G' (i:=5) ?_ ⋯ ⋯;rw[a.h];rfl
theorem Ol(J:cj 45 W s)(hx:c.cps[v]?=Y B)(L:At ae ah ((b.aF,rp b i ao aw aK C e)::(oX b++(m5 b.aE b.aI l c D H v aj++ak))) P f)(G:ν ae ah P u b (nq b.aF t p1 m) H v B l c D ak):da (bZ bY w) s (iD b.aF b.aE) (gp fV (iD b.aF b.aE)) (nq b.aF t p1 m) f u:=by
 refine Fu (o:=b.aI) (l:=l) (D:=D) (H:=H) (aj:=aj) (a:=(b.aF,rp b i ao aw aK C e)::(oX b++ak)) (yb J) hx (L.perm (ff λ j=>?_)) λ au x tn tc aU=>?_;·simp only[ft,fv];simp+arith only
 have aR:At ae ah ([(b.aF,rp b i ao aw aK C e),(b.qt,inst 324 b.lx),(b.lx,qd b 1),(x,dk [I H tn,S ⟨#[B]⟩ tc])]++(m5 b.aE b.aI l c D (H+1) (v+1) (S ⟨#[B]⟩ tc)++ak)) P au:=aU.ix [3,4,5,0,1,2];refine qQ (yb J:cj 40 W _) aR.push _ 1000 FC [] [7,8,10,11,0,1,2] (λ d j k=> .yield (R (d 7)) X [] (oR k.1)) (λ d j k=>[df [] 0,eB (d 3) H tn (Jz k.2.T 8 2).t b.tr,gf ⟨d 7,d 6,⟨(d5 k.2.T 10 0).h,(d5 k.2.T 10 0).t⟩,⟨(d5 k.2.T 10 1).h,(d5 k.2.T 10 1).t⟩,tc,d 4⟩ B,inst 204 (d 6),rp (vK b b.kc b.kh b.ko) i ao (I H tn) (S ⟨#[B]⟩ tc) (R (d 4)) e,inst 324 b.lx,qd b 1]) (λ j j k=>kZ ⟨bY,w.params⟩ 20 (oR k.1 (.send .none))) (λ j j j=> .pure (.again (iD b.aF b.aE))) ⋯ λ aJ d p k A aY=>?_;exact q_ bY w _ _ _ _ _ _ _ _ rfl rfl λ p'=>G aJ _ _ _ i ao (I H tn) (S ⟨#[B]⟩ tc) (R (d 4)) e (d 3) (d 4) (d 6) (d 7) tn _ tc _ _ _ p' aY.pull A
theorem Om(J:cj 45 W s)(hx:c.cps[v]?=Y B)(L:At ae ah ((b.aF,qV b i ao)::(oX b++(m5 b.aE b.aI l c D H v aj++ak))) P f)(G:ν ae ah P u b (nq b.aF t p1 m) H v B l c D ak):da (bZ bY w) s (iD b.aF b.aE) (gp fV (iD b.aF b.aE)) (nq b.aF t p1 m) f u:=by
 refine Fu (o:=b.aI) (l:=l) (D:=D) (H:=H) (aj:=aj) (a:=(b.aF,qV b i ao)::(oX b++ak)) (yb J) hx (L.perm (ff λ j=>?_)) λ au x tn tc aU=>?_;·simp only[ft,fv];simp+arith only
 have aR:At ae ah (tu4 b x H B tn tc i ao++(m5 b.aE b.aI l c D (H+1) (v+1) (S ⟨#[B]⟩ tc)++ak)) P au:=aU.ix [3,4,5,0,1,2];refine qQ (yb J:cj 40 W _) aR.push _ 1000 FC [] [7,8,10,11,0,1,2] (λ d j k=> .yield (R (d 7)) X [] (oR k.1)) (λ d j k=>[df [] 0,eB (d 3) H tn (Jz k.2.T 8 2).t b.tr,gf ⟨d 7,d 6,⟨(d5 k.2.T 10 0).h,(d5 k.2.T 10 0).t⟩,⟨(d5 k.2.T 10 1).h,(d5 k.2.T 10 1).t⟩,tc,d 4⟩ B,inst 204 (d 6),rp (vK b ⟨(d5 k.2.T 0 4).h,(d5 k.2.T 0 4).t⟩ ⟨(d5 k.2.T 0 5).h,(d5 k.2.T 0 5).t⟩ ⟨(d5 k.2.T 0 6).h,(d5 k.2.T 0 6).t⟩) i ao (I H tn) (S ⟨#[B]⟩ tc) (R (d 4)) 7,inst 324 b.lx,qd b 1]) (λ j j k=>kZ ⟨bY,w.params⟩ 20 (oR k.1 (.send .none))) (λ j j j=> .pure (.again (iD b.aF b.aE))) ⋯ λ aJ d p k A aY=>?_;exact q_ bY w _ _ _ _ _ _ _ _ rfl rfl λ p'=>G aJ _ _ _ i ao (I H tn) (S ⟨#[B]⟩ tc) (R (d 4)) 7 (d 3) (d 4) (d 6) (d 7) tn _ tc _ _ _ p' aY.pull A
end
theorem UR:zc=[.For (jm).1 (jm).2.1 (jm).2.2.1 [] (jm).2.2.2]:=⋯
theorem Rn:(jm).2.2.1=(jm).2.2.1.take 1++(.For (pg).1 (pg).2.1 (pg).2.2.1 [] (pg).2.2.2::ż):=⋯
theorem xo(A g:bU):LH (jm).1 (R g) (jm).2.2.1 [] (jO A)=sL A g:=⋯
theorem Ņ(A g:bU):LH (pg).1 (R g) (pg).2.2.1 [] (jO A)=iD A g:=⋯
theorem Rl(g:bU)(c:bX):px (jm).2.1 (jO g) c=pure c:=⋯
theorem Rk(g:bU)(c:bX):px (pg).2.1 (jO g) c=pure c:=⋯
theorem Rm:(jm).1= .Tuple (D' (jm).1) (tupK (jm).1) (tupP (jm).1):=⋯
noncomputable abbrev qq(g:bU):cN:= .func zc (jO g)
theorem HP(a:cj (af+5) W s):cj af W (s.over (sL A t) (xX A m)):=by refine a.G' (i:=5) ?_ ⋯ ⋯;rw[a.h];rfl
theorem YD(l:Bool)(aE o:bU)(c:cb)(D:cp):jX (m5 aE o l c D 1 0 .none) W 40 500 (sG (R aE)) [1,1,0,1,0,1] (R aE):=kA
section
variable{ae f:cc}{ah:AP}{s:cR}{u:ES}{b:jR}{c:cb}{D:cp}{B:Nat}{gL:Nat}{A aa:bX}{aX:bU}{af:FD}{ai:GL}
theorem Oo(J:cj 60 W s)(hn:fF c)(h9:c.cps.contains 9=X)(b9:c.length<=1048576)(hx:c.cps[0]?=Y B)(L:At ae ah ((b.aF,sy b)::(b.gx,cv gL A aa)::oX b) (Fr (uH aX af c D) (dW ((gL,gA (kK aX))::ai))) f)(G:∀t aE o kr V p1 m ay,ν ae ah (dW ((gL,kD)::ai)) u {b with kr:=kr,kl:=V,aE:=aE,aI:=o} (nq b.aF t p1 m) 1 0 B (nP c) c D [(t,fI b.gx 2 ay),(b.gx,cv gL A aa)]):da (bZ bY w) s (qq b.aF) (gp fV (qq b.aF)) [] f u:=by
 have h0:0<c.length:=by have:=(iq.mp hx).1;exact this
 have A0:cj 40 W (s.over (qq b.aF) []):=N' (J.less ⋯) ⋯ ⋯;refine s_ ?_;have Q:dj zc (jO b.aF)=dj [.For (jm).1 (jm).2.1 (jm).2.2.1 [] (jm).2.2.2] (jO b.aF):=congrArg (λ r=>dj r (jO b.aF)) UR;rw[Q];refine ub (Ŧ (Rl b.aF) ?_);rw[fO];refine gY A0 (At.push (l1:=cq1 b gL A aa) L) _ 1000 (nd 16 12 0x303033200100) [qA "enumerate.__new__" 1 b.gx (λ q=>[T "enumerate",R b.gx,I 1 (cG 2 q.c)]) (λ j=>cv gL A aa) (He b.gx) λ j j=>Nj] [2,1,0] (λ d j j=>R (d 0)) (λ d j j=>[fI b.gx 1 .none,cv gL A aa,sy b]) ⋯ λ au r1 F o1 aU=>?_;have aQ:At ae ah (JG b (r1 0) gL A aa .none 1) _ au:=aU.pull;rw[qJ];refine mR A0 aQ _ 500 _ (R (r1 0)) (a2r b (r1 0) gL A aa .none 1) λ aJ aR m=>?_;rw[xo];show da (bZ bY w) s (sL b.aF (r1 0)) _ (xX b.aF m) aJ u;rw[<-xo];refine uh ?_;rw[xo,mw];have A1:cj 40 W (s.over (sL b.aF (r1 0)) (xX b.aF m)):=HP (J.less ⋯);refine vN A1 aR _ 1000 (nd 16 21 0x111111111111112210101) [sR 1 b.gx (cv gL A aa) _ (I2 (S c D) (dW ((gL,kD)::ai))) λ j j=>N5 (g:=aX) (af:=af) hn h0 b9] [0,1,2,3,4,5] (dW ((gL,kD)::ai)) (λ d j j=>Y (R (d 0))) (λ d j k=>[pK (d 0) b.gx 2 (S c D),cv gL A aa,sy b,inst 324 b.lx,qd b 1,dk [I 1 (u_ k.2.T 5),S c D]]) ⋯ λ aM O aq o3 aY=>?_;generalize u_ o3.2.T 5=tn at aY;refine đ Rm λ ak i pp=>?_;have hE:aM.heap.get? (r1 0)=Y (pK (O 0) b.gx 2 (S c D)):=aY.has _ (.head _);have he:E8 aM.heap (r1 0) b.gx 2 (S c D) (O 0):=by show aM.heap.get? (r1 0)=_;rw[hE];unfold pK;rw[<-qI];rfl
 refine Cp he λ E ba aw=>?_;have aZ:At ae ah ((r1 0,fI b.gx 2 (S c D))::[(b.gx,cv gL A aa),(b.aF,sy b),(b.qt,inst 324 b.lx),(b.lx,qd b 1),(O 0,dk [I 1 tn,S c D])]) _ {aM with heap:=E}:=aY.upd aw (by show E.get? (r1 0)=_;rw[show E.get? (r1 0)=_ from ba];unfold fI;rw[<-qI];rfl) rfl rfl rfl;refine RT ?_;have e:At ae ah (cq4 b (O 0) c D tn++([(r1 0,fI b.gx 2 (S c D)),(b.gx,cv gL A aa)]++oX b)) _ {aM with heap:=E}:=aZ.ix [2,5,0,1,3,4];refine gY A1 e.push _ 1000 (nd 16 39 0x111153323303033323303033323303033020222) [] [0] (λ j j j=>()) (λ j j k=>[qV {b with kr:=⟨(d5 k.2.T 0 2).h,(d5 k.2.T 0 2).t⟩,kl:=⟨(d5 k.2.T 0 3).h,(d5 k.2.T 0 3).t⟩} (I 1 tn) (S c D)]) ⋯ λ aK v b8 o4 b4=>?_;generalize(⟨(d5 o4.2.T 0 2).h,(d5 o4.2.T 0 2).t⟩:Ht)=kr at b4;generalize(⟨(d5 o4.2.T 0 3).h,(d5 o4.2.T 0 3).t⟩:Ht)=V at b4;have e1:dj (jm).2.2.1 (jO b.aF)=dj ((jm).2.2.1.take 1++(.For (pg).1 (pg).2.1 (pg).2.2.1 [] (pg).2.2.2::ż)) (jO b.aF):=congrArg (λ r=>dj r (jO b.aF)) Rn;rw[e1];refine C_ ?_;refine gY (l1:=JF {b with kr:=kr,kl:=V} c D (I 1 tn)) A1 b4 _ 1000 (nd 16 4 0x1121) [qB "str.expandtabs" (λ j=>[S c D]) (lq (S c D)) λ j j=>Mf h9] [0] (λ j j j=> .next) (λ j j j=>[qV {b with kr:=kr,kl:=V} (I 1 tn) (S c D)]) ⋯ λ aV r5 g a b7=>⟨rfl,?_⟩;refine ub (Ŧ (Rk b.aF) ?_);rw[fO];refine gY (l1:=JF {b with kr:=kr,kl:=V} c D (I 1 tn)) A1 b7 _ 1000 (nd 16 12 0x303033200100) [qB "enumerate.__new__" (λ q=>[T "enumerate",S c D,I 1 (cG 2 q.c)]) (Hc c D) λ j j=>Nh] [2,1,0] (λ d j j=>R (d 1)) (λ d j j=>[fI (d 0) 1 .none,gO (nP c) (S c D) 0,qV {b with kr:=kr,kl:=V} (I 1 tn) (S c D)]) ⋯ λ b3 y l x b5=>?_;rw[qJ];refine mR A1 (At.push (l1:=m5 (y 1) (y 0) (nP c) c D 1 0 .none) b5) _ 500 _ (R (y 1)) (YD (nP c) (y 1) (y 0) c D) λ b6 az p1=>?_;rw[Ņ];refine Om (b:={b with kr:=kr,kl:=V,aE:=y 1,aI:=y 0}) (l:=nP c) (D:=D) (H:=1) (aj:= .none) (t:=r1 0) (p1:=p1) (m:=m) (i:=I 1 tn) (ao:=S c D) (J.less ⋯) hx ?_ (G (r1 0) (y 1) (y 0) kr V p1 m (S c D));have ao:At ae ah ((m5 (y 1) (y 0) (nP c) c D 1 0 .none++[(b.aF,qV {b with kr:=kr,kl:=V} (I 1 tn) (S c D))])++([(r1 0,fI b.gx 2 (S c D)),(b.gx,cv gL A aa)]++[(b.qt,inst 324 b.lx),(b.lx,qd b 1)])) (dW ((gL,kD)::ai)) b6:=az.pull.pull;show At ae ah ((b.aF,qV {b with kr:=kr,kl:=V} (I 1 tn) (S c D))::([(b.qt,inst 324 b.lx),(b.lx,qd b 1)]++(m5 (y 1) (y 0) (nP c) c D 1 0 .none++[(r1 0,fI b.gx 2 (S c D)),(b.gx,cv gL A aa)]))) (dW ((gL,kD)::ai)) b6;exact ao.perm (ff λ j=>by simp only[ft,fv,fz];simp+arith only)
end
noncomputable def Hb(l:Bool)(y:Nat)(v:Nat):Sm:=⟨1,2,0,λ g j=> .error (R (g 1)),λ j j=>[(y,gO l .none v)],λ g j=>[dk [],pN (g 0)],W⟩
theorem Na(hc:d.c= .call (.builtin (Á l)) ⟨[R g],[]⟩)(ae:d.sm=Hb l y v)(hT:d.T.get y=Y (gO l (S c D) v))(ha:x y=g)(hx:c.cps[v]?=W):cy x d:=by
 obtain⟨H,P,rn,rg,rs⟩:=d;cases hc;cases ae;intro s ax f fp J _ hs _ _ _ _ G;replace J:cj 1 W s:=J;have h0:=(hs y _ hT).2;rw[ha]at h0;have aj:∀(C:bV->bV),C (gO l (S c D) v)=gO l .none v->ax (.error (R ((f.heap.update g C).push {cls:=T "tuple",data:= .seq #[]}).objs.size)) {f with heap:=((f.heap.update g C).push {cls:=T "tuple",data:= .seq #[]}).push {cls:=T "StopIteration",data:= .fields #[R (f.heap.update g C).objs.size, .none, .none, .none, .bool X, .none]}}:=by
  intro C hf;have r:=ou C h0 (by rw[hf];rfl);have o:=rR f.heap g C;have O:(f.heap.update g C).objs.size=f.heap.objs.size:=o.1;have p:((f.heap.update g C).push {cls:=T "tuple",data:= .seq #[]}).objs.size=f.heap.objs.size+1:=by rw[mf,O]
  rw[p,O];refine G (λ i=>if i=0 then f.heap.objs.size else f.heap.objs.size+1) (λ j=>⟨0,default,[],0⟩) _ rfl (λ i k hk=>?_) (λ i hk=>?_) (λ i k' hk aJ e=>?_) (λ u hp=>?_) (λ q k M ay j=>?_) ?_ rfl rfl rfl;·match i,hk with|0,hk=>cases hk;show nD _ f.heap.objs.size=Y (dk []);refine gF _ ?_;unfold dk;rw[<-xh,<-O];exact kj _ rfl|1,hk=>cases hk;show nD _ (f.heap.objs.size+1)=Y (pN f.heap.objs.size);unfold pN;rw[<-a_,<-p];exact kj _ rfl|i+2,hk=>cases hk
  ·match i,hk with|0,_=>exact .inl (gz _)|1,_=>exact .inl (Ĉ _)|i+2,hk=>exact absurd (show i+2<2 from hk) (by omega)
  ·have ao:i<2:=hk;have ai:k'<2:=aJ;match i,ao,k',ai with|0,_,0,_=>rfl|1,_,1,_=>rfl|0,_,1,_=>exact absurd (show f.heap.objs.size=f.heap.objs.size+1 from e) (by omega)|1,_,0,_=>exact absurd (show f.heap.objs.size+1=f.heap.objs.size from e) (by omega)
  ·cases hp with|head=>show nD _ (x y)=Y (gO l .none v);rw[ha];exact gF _ (gF _ (by rw[r,hf]))|tail _ hp=>cases hp
  ·have:q≠g:=by rw[<-ha];exact ay (y,_) (.head _)
   exact gF _ (gF _ ((o.2 q this).trans M))
  ·show f.heap.objs.size<=zO _;rw[mf,p];omega
 cases l with|true=>rw[H_]at h0 aj;refine kg ì.plain K8 (ì.check _ _ _ _ _ _ _ _ (cI _ h0 rfl) (K7 _) ?_);show cm _ _ (mZ (R g) 0>>=_) _ _ f;refine cJ (jr h0 rfl (x:=S c D) rfl ?_);show cm _ _ (mZ (R g) 1>>=_) _ _ f;refine cJ (jr h0 rfl (x:=I v 0) rfl ?_);simp only[wK,hx];refine cJ (v8 (cJ (rY h0 rfl (s6 _) (cJ (ą ?_)))));show cm _ _ (lS (T "StopIteration") []>>=_) _ _ _;refine cJ ?_;simp only[lS,h_];refine cJ (nB ?_ (by size_fits));refine cJ (m:=qC _ _) (wW (a:=jt) (by first|rfl|(simp only[qC];rfl)) ?_);refine nB ?_ (by size_fits);simp only[s9];refine cJ (zE ?_);rw[show s.in1.handled=W from J.h];refine ml ?_;exact aj _ (by rw[H_];rfl)|false=>rw[I_]at h0 aj;refine kg í.plain Kg (í.check _ _ _ _ _ _ _ _ (cI _ h0 rfl) (Kf _) ?_);show cm _ _ (mZ (R g) 0>>=_) _ _ f;refine cJ (jr h0 rfl (x:=S c D) rfl ?_);show cm _ _ (mZ (R g) 1>>=_) _ _ f;refine cJ (jr h0 rfl (x:=I v 0) rfl ?_);simp only[wK,hx];refine cJ (v8 (cJ (rY h0 rfl (s6 _) (cJ (ą ?_)))));show cm _ _ (lS (T "StopIteration") []>>=_) _ _ _;refine cJ ?_;simp only[lS,h_];refine cJ (nB ?_ (by size_fits));refine cJ (m:=qC _ _) (wW (a:=jt) (by first|rfl|(simp only[qC];rfl)) ?_);refine nB ?_ (by size_fits);simp only[s9];refine cJ (zE ?_);rw[show s.in1.handled=W from J.h];refine ml ?_;exact aj _ (by rw[I_];rfl)
section
variable(b:jR)(t:bU)(gL:Nat)(aj nm qn:bX)
noncomputable def eq2(i ao aw d aq:bX)(e:Nat):List (bU×bV):=(b.aF,rp b i ao aw d aq e)::oX b
noncomputable def eq3:List (bU×bV):=[(t,fI b.gx 2 aj),(b.gx,cv gL nm qn)]
end
theorem M1(g l:bU):(sL g l).quiet=U:=⋯
section
variable{ae f:cc}{ah:AP}{s:cR}{u:ES}{b:jR}{l:Bool}{c:cb}{D:cp}{H v gL:Nat}{aj ay A aa:bX}{t:bU}{p1 m:dK}{ai:GL}
theorem UQ(J:cj 45 W s)(hx:c.cps[v]?=W)(L:At ae ah ((b.aF,rp b i ao aw aK C e)::(oX b++(m5 b.aE b.aI l c D H v aj++[(t,fI b.gx 2 ay),(b.gx,cv gL A aa)]))) (dW ((gL,kD)::ai)) f)(G:∀n,At ae ah [] (dW ((gL,sk)::ai)) n->u (.ret (.ok (.ret .none))) n):da (bZ bY w) s (iD b.aF b.aE) (gp fV (iD b.aF b.aE)) (nq b.aF t p1 m) f u:=by have X0:At ae ah (m5 b.aE b.aI l c D H v aj++(eq2 b i ao aw aK C e++eq3 b t gL ay A aa)) (dW ((gL,kD)::ai)) f:=L.ix [3,4,0,1,2,5,6];have A2:cj 40 W (s.over (iD b.aF b.aE) (nq b.aF t p1 m)):=yb J;have A1:cj 40 W (s.over (sL b.aF t) (xX b.aF m)):=HP J;rw[<-Ņ];refine uh ?_;rw[Ņ,mw];refine gY (A2.less ⋯:cj 30 W _) X0.push _ 1000 (nd 16 8 0x42210101) [qA (Á l) 1 b.aI (λ j=>[R b.aI]) (λ j=>gO l (S c D) v) (Hb l 1 v) λ j j z E h3 h4=>Na z E h3 h4 hx] [] (λ j j j=>W) (λ j j j=>[]) (l.rec ⋯ ⋯) λ au r1 F o1 aU=>?_;have aQ:At ae ah (eq2 b i ao aw aK C e++eq3 b t gL ay A aa) (dW ((gL,kD)::ai)) au:=At.pull (l1:=[]) aU;refine Ĝ ?_;rw[i2];refine qQ A1 aQ.push _ 1000 (nd 16 35 0x33302000202002000020030220002000021) [] [] (λ j j j=> .pure (.again (sL b.aF t))) (λ j j j=>[]) (λ j j j=>()) (λ j j j=>()) ⋯ λ aJ r2 ak o2 j aR=>?_;have b3:At ae ah (eq3 b t gL ay A aa) (dW ((gL,kD)::ai)) aJ:=At.pull (l1:=[]) aR;refine nH bY w _ _ _ _ _ _ (M1 _ _) ?_;rw[<-xo];refine uh ?_;rw[xo,mw];refine vN A1 b3 _ 1000 (nd 16 8 0x42210101) [sR 1 b.gx (cv gL A aa) (dW ((gL,kD)::ai)) (pI 30 (dW ((gL,sk)::ai))) λ j j=>N4] [] (dW ((gL,sk)::ai)) (λ j j j=>W) (λ j j j=>[]) ⋯ λ aM O aq o3 aY=>?_;refine Ĝ ?_;refine ť ?_;exact O_ bY w _ _ _ aM (.ok (.ret .none)) _ rfl (G aM aY)
end
theorem w6(a:cj (af+40) W s):cj af W (s.over (gu g B) (jF g u)):=by refine a.over ?_ ⋯ ⋯;rw[a.h];rfl
theorem DZ(g B:bU):(gu g B).quiet=U:=⋯
theorem XN(a:cj (af+40) W s):cj af W (s.over (.func cS (cE g)) []):=by refine a.over ?_ ⋯ ⋯;rw[a.h];rfl
theorem UW(v b:bX):qz wu v b=pure ():=⋯
noncomputable def w7(B:bU)(V:Nat)(nm qn:bX)(P:GP)(i:Nat)(ty b:cb)(r:GP):Prop:=∀{x:FA}{d:Rc}{t:Nat},d.c= .call (.builtin "generator.__next__") ⟨[R B],[]⟩->d.gh=P->d.sm=yk i ty b r->d.T.get t=Y (cv V nm qn)->x t=B->cy x d
noncomputable def B7(B:bU)(V:Nat)(nm qn:bX)(P r:GP):Prop:=∀{x:FA}{d:Rc}{t:Nat},d.c= .call (.builtin "generator.__next__") ⟨[R B],[]⟩->d.gh=P->d.sm=pI 510 r->d.T.get t=Y (cv V nm qn)->x t=B->cy x d
section
variable{ae f:cc}{ah:AP}{P r c:GP}{s:cR}{F:ES}{a:lQ}{t B:bU}{V i:Nat}{nm qn:bX}{ty b:cb}{m:dK}
theorem GV(J:cj 590 W s)(aa:w7 B V nm qn P i ty b r)(L:At ae ah (cP a t B V nm qn e A g) P f)(G:∀n dl aq td tk tn t1 t2 tv tt,At ae ah (cQ a t B V nm qn dl aq td tk i tn t1 t2 tv tt ty b e A g) r n->da (bZ bY w) s (gu a.a B) (cTr a B tk) (jF a.a m) n F):da (bZ bY w) s (gu a.a B) (gp fV (gu a.a B)) (jF a.a m) f F:=by refine uh ?_;rw[mw];refine vN (w6 J) L _ 1000 (nd 16 2 0x22) [sR 1 B (cv V nm qn) P (yk i ty b r) λ j j z E h3 h4 h5=>aa z E h3 h4 h5] [0,1,2,3,4,5] r (λ d j j=>Y (R (d 3))) (λ d p j=>[qr a t e A g,cv V nm qn,df [] 0,eB (d 0) (i+1) (p 0).t (p 1).t (p 2).t,df [] 0,qZ (d 2) (S ty (p 4).t) (S b (p 3).t) (d 1)]) ⋯ λ n d p k X'=>?_;show cm _ _ (qz wu (R B) (R (d 3))) _ _ n;rw[UW];exact ed (G n _ _ _ _ _ _ _ _ _ X')
theorem b1j{st:cp}(J:cj 590 W s)(aa:w7 B V nm qn P i V' b r)(L:At ae ah (cP a t B V nm qn (S (bW #[]) st) A g) P f)(G:∀n tv tk,At ae ah (cP a t B V nm qn (S b tv) A (R tk)) r n->da (bZ bY w) s (gu a.a B) (gp fV (gu a.a B)) (jF a.a m) n F):da (bZ bY w) s (gu a.a B) (gp fV (gu a.a B)) (jF a.a m) f F:=by refine GV J aa L λ au dl aq td tk tn t1 t2 tv tt aU=>?_;refine qQ (w6 (J.less ⋯):cj 300 W _) aU _ 2000 XF [] [0,1] (λ j j j=> .pure (.again (gu a.a B))) (λ j j j=>[qr a t (S b tv) A (R tk),cv V nm qn]) (λ j j j=>()) (λ j j j=>()) ⋯ λ aJ d p k j aR=>?_;exact nH bY w _ _ _ _ _ _ (DZ _ _) (G aJ tv tk aR)
noncomputable def rM(dl aq td tk:bU)(i:Nat)(tn t1 t2 tv tt st:cp)(b D:cb)(A:Bool)(k1 k2:Ht):List (bU×bV):=[(dl,df [] 0),(aq,eB dl (i+1) tn t1 t2),(td,lb k1 k2 D st A),(tk,iX td (jZ (S fy tt) (S b tv) aq))]
theorem Š{st:cp}(J:cj 590 W s)(aa:w7 B V nm qn P i fy b r)(L:At ae ah (cP a t B V nm qn (S D st) (.bool A) g) P f)(G:∀n dl aq td tk tn t1 t2 tv tt k1 k2 e kk p',At ae ah (rM dl aq td tk i tn t1 t2 tv tt st b D A k1 k2++cP a t B V nm qn (S D st) (.bool A) e) r n->yw a t B V nm qn kk (S D st) (.bool A) e->F (.susp (R tk) X [] kk (gu a.a B) p' (jF a.a m)) n):da (bZ bY w) s (gu a.a B) (gp fV (gu a.a B)) (jF a.a m) f F:=by refine GV J aa L λ au dl aq td tk tn t1 t2 tv tt aU=>?_;refine qQ (w6 (J.less ⋯):cj 500 W _) aU _ 2000 XG [qP [7,6,3,2] (λ x=>[(x 7,iX (x 6) #[]),(x 6,df [] 0),(aq,eB dl (i+1) tn t1 t2),(dl,df [] 0)]) (λ x j=> .call (R 123) (Ŏ ⟨x 7,x 6,aq,dl,i,tn,t1,t2,fy,tt,b,tv,D,st,A⟩)) (λ x=>EO 7 6 ⟨x 7,x 6,aq,dl,i,tn,t1,t2,fy,tt,b,tv,D,st,A⟩) λ j j z E h3=>LU z E h3 ⋯] [2,3,6,7,0,1] (λ d j k=> .yield (R (d 1)) X [] (oR k.1)) (λ d j k=>[df [] 0,eB dl (i+1) tn t1 t2,lb ⟨(d5 k.2.T 6 0).h,(d5 k.2.T 6 0).t⟩ ⟨(d5 k.2.T 6 1).h,(d5 k.2.T 6 1).t⟩ D st A,iX (d 0) (jZ (S fy tt) (S b tv) aq),qr a t (S D st) (.bool A) (R tk),cv V nm qn]) (λ j j k=>JE a t B V nm qn (oR k.1) (S D st) (.bool A) (R tk)) (λ j j k=>JD a t B V nm qn (oR k.1) (S D st) (.bool A) (R tk)) ⋯ λ aJ d p k ax aR=>?_;exact q_ bY w _ _ _ _ _ _ _ _ rfl rfl λ p'=>G aJ _ _ _ _ _ _ _ _ _ _ _ _ _ p' aR ax
theorem Xq(J:cj 590 W s)(aa:B7 B V nm qn P r)(L:At ae ah (cP a t B V nm qn e (.bool X) tk) P f)(G:∀n,At ae ah (cP a t B V nm qn e (.bool X) tk) r n->F (.ret (.ok (.ret .none))) n):da (bZ bY w) s (gu a.a B) (gp fV (gu a.a B)) (jF a.a m) f F:=by refine uh ?_;rw[mw];refine vN (w6 J) L _ 1000 (nd 16 3 0x422) [sR 1 B (cv V nm qn) P (pI 510 r) λ j j z E h3 h4 h5=>aa z E h3 h4 h5] [0,1] r (λ j j j=>W) (λ j j j=>[qr a t e (.bool X) tk,cv V nm qn]) ⋯ λ n d p k X'=>?_;refine nH bY w _ _ _ _ _ _ (show(M4 [] (cE a.a)).quiet=U from rfl) ?_;refine ku bY w _ _ _ _ _ _ 5 ?_;show da _ _ _ (.pure (.done .next)) _ _ _;refine t_ ?_;refine qQ (l1:=cP a t B V nm qn e (.bool X) tk) (XN (J.less ⋯):cj 100 W _) X' _ 500 (nd 16 1 1) [] [0,1] (λ j j j=> .pure (.done (.ret .none))) (λ j j j=>[qr a t e (.bool X) tk,cv V nm qn]) (λ j j j=>()) (λ j j j=>()) ⋯ λ aJ d p k j aR=>?_;exact O_ bY w _ _ _ aJ (.ok (.ret .none)) _ rfl (G aJ aR)
end
section
variable{c:cb}{oG:bV}{ao:iH}{o:dz}{V:Nat}{ai G:GL}{v:Nat}{u:Bool}{C:AP}{f:cc}
theorem HG.gens(aj:iu c o.aG oG ao)(a:HG o c oG ao V ai v u C f):Gh ai f.gens:=by obtain⟨h0,g,Q,k5,z⟩:=a;obtain⟨_,_,_,_,_,h6⟩:=z;exact⟨(cH.gens aj h6.now).1,λ q hq=>(cH.gens aj h6.now).2 q (.tail _ hq)⟩
theorem HG.setGen(aj:iu c o.aG oG ao)(hj:∃q,(y,q)∈ai)(ay:y≠V)(hk:G.map (·.1)=ai.map (·.1))(hL:∀q∈G,(q.1=y->q.2 t)/\(q.1≠y->q∈ai))(a:dD C (HG o c oG ao V ai v u) f)(M:t.bare=U:=by rfl):dD C (HG o c oG ao V G v u) (f.setGen y t):=by obtain⟨h0,g,Q,k5,z⟩:=a.now;obtain⟨g1,O,fS,g3,g4,g5⟩:=z;refine HG.eF ⟨h0,g,Q,k5,g1,O,fS,g3,g4,cH.setGen (ai:=(V,ph h0.a)::ai) aj (let⟨q,hq⟩:=hj;⟨q, .tail _ hq⟩) (congrArg (V::·) hk) (λ q hq=>?_) g5 M⟩;cases hq with|head=>exact⟨λ e=>absurd e.symm ay,λ j=> .head _⟩|tail _ hq=>exact⟨(hL q hq).1,λ e=> .tail _ ((hL q hq).2 e)⟩
end
inductive ê(a:lQ)(t B:bU)(V:Nat)(nm qn e A tk:bX)(gs:eY):Prop|mk kk l p' p0(q:gs= .suspended kk l (gu a.a B) p' (jF a.a p0) X)(z:yw a t B V nm qn kk e A tk):ê a t B V nm qn e A tk gs
inductive CG(o:dz)(c:cb)(oG:bV)(ao:iH)(gC:Nat)(v:Nat)(u:Bool)(C:AP)(f:cc):Prop|mk(a:lQ)(B:bU)(V:Nat)(nm qn:bX)(D:cb)(st:cp)(A:Bool)(tk:bX)(q:V≠gC)(z:Fr (cP a o.aL B V nm qn (S D st) (.bool A) tk) (HG o c oG ao V [(gC,ê a o.aL B V nm qn (S D st) (.bool A) tk)] v u) C f):CG o c oG ao gC v u C f
theorem CG.eF(a:CG o c oG ao gC v u C f):dD C (CG o c oG ao gC v u) f:=by obtain⟨h0,B,V,nm,qn,D,st,A,tk,ay,z⟩:=a;exact λ n k1 k2=>⟨h0,B,V,nm,qn,D,st,A,tk,ay,z.eF n k1 k2⟩
noncomputable def vV(i:Nat)(b D:cb)(A:Bool)(P:GP):Sm:=⟨591,4,8,λ g j=> .ok (.ret (R (g 3))),λ j j=>[],λ g af=>[df [] 0,eB (g 0) (i+1) (af 0).t (af 1).t (af 2).t,lb ⟨(af 5).h,(af 5).t⟩ ⟨(af 6).h,(af 6).t⟩ D (af 7).t A,iX (g 2) (jZ (S fy (af 4).t) (S b (af 3).t) (g 1))],Y λ j j=>P⟩
noncomputable def d8(g l B af e:cp)(C O:Ht)(st:cp):FD:=λ i=>match i with|0=>⟨g,default,[],0⟩|1=>⟨l,default,[],0⟩|2=>⟨B,default,[],0⟩|3=>⟨af,default,[],0⟩|4=>⟨e,default,[],0⟩|5=>⟨C.t,default,[],C.h⟩|6=>⟨O.t,default,[],O.h⟩|_=>⟨st,default,[],0⟩
noncomputable def yf(o:dz)(c:cb)(oG:bV)(ao:iH)(gC:Nat)(v:Nat)(u:Bool)(ty b:cb)(i':Nat)(p':Bool):Prop:=∀B V nm qn,V≠gC->w7 B V nm qn (HG o c oG ao V [(gC,ee)] v u) v ty b (HG o c oG ao V [(gC,ee)] i' p')
noncomputable def ξ(o:dz)(c:cb)(oG:bV)(ao:iH)(gC:Nat)(v:Nat)(u:Bool)(i:Nat)(D b:cb)(i':Nat)(p':Bool):Prop:=(D=bW #[]/\i=v/\yf o c oG ao gC v u fy b i' p')\/∃q,yf o c oG ao gC v u V' D i q/\yf o c oG ao gC i q fy b i' p'
section
variable{x:FA}{c:cb}{oG:bV}{ao:iH}{o:dz}{gC:Nat}{v i' i:Nat}{u p':Bool}{D b:cb}{aC:bU}{nm qn:bX}{jC:Nat}
theorem UU{nm qn:bX}{st:cp}(ay:V≠gC)(J:cj 590 W s)(aX:ξ o c oG ao gC v u i D b i' p')(L:At ae ah (cP a o.aL B V nm qn (S (bW #[]) st) (.bool A) g) (HG o c oG ao V [(gC,ee)] v u) f)(G:∀n dl aq td tk tn t1 t2 tv tt k1 k2 l e kk k,At ae ah (rM dl aq td tk i tn t1 t2 tv tt l b D A k1 k2++cP a o.aL B V nm qn (S D l) (.bool A) e) (HG o c oG ao V [(gC,ee)] i' p') n->yw a o.aL B V nm qn kk (S D l) (.bool A) e->F (.susp (R tk) X [] kk (gu a.a B) k (jF a.a m)) n):da (bZ bY w) s (gu a.a B) (gp fV (gu a.a B)) (jF a.a m) f F:=by
 rcases aX with⟨rfl,rfl,aa⟩|⟨q,H1,t⟩;·exact Š J (aa B V nm qn ay) L λ n dl aq td tk tn t1 t2 tv tt k1 k2 e kk k X' r=>G n dl aq td tk tn t1 t2 tv tt k1 k2 _ e kk k X' r
 ·refine b1j J (H1 B V nm qn ay) L λ au tv tk aU=>?_;exact Š J (t B V nm qn ay) aU λ n dl aq td tk tn t1 t2 tv tt k1 k2 e kk k X' r=>G n dl aq td tk tn t1 t2 tv tt k1 k2 _ e kk k X' r
theorem GU(aj:iu c o.aG oG ao)(ay:V≠gC){rn:Nat}(G:È ⟨.call (.builtin "generator.__next__") ⟨[R aC],[]⟩,P,rn,γ,vV i b D A (CG o c oG ao gC i' p')⟩ x fp f ax)(L:At (f.setGen gC .running) fp (rM dl aq td tk i tn t1 t2 tv tt l b D A k1 k2++cP a o.aL B V nm qn (S D l) (.bool A) e) (HG o c oG ao V [(gC,ee)] i' p') n)(aX:yw a o.aL B V nm qn kk (S D l) (.bool A) e):ax (.ok (.ret (R tk))) (n.setGen gC (.suspended kk [] (gu a.a B) k (jF a.a m) X)):=by have aV:=L.setGen (O:=gC) (t:= .suspended kk [] (gu a.a B) k (jF a.a m) X) (r:=HG o c oG ao V [(gC,ê a o.aL B V nm qn (S D l) (.bool A) e)] i' p') λ f' z=>HG.setGen (ai:=[(gC,ee)]) aj ⟨_, .head _⟩ (mr ay) rfl (λ q hq=>by cases hq with|head=>exact⟨λ j=>⟨kk,[],k,m,rfl,aX⟩,λ ay=>absurd rfl ay⟩|tail _ hq=>cases hq) z;exact aV.re.give G rfl (aN [dl,aq,td,tk]) (d8 tn t1 t2 tv tt k1 k2 l) rfl rfl λ f' y5=>CG.eF ⟨a,B,V,nm,qn,D,l,A,e,ay,y5⟩
theorem Ov{nm qn e A tk:bX}(J:cj 590 W s)(aX:yw a t B V nm qn kk e A tk)(L:At ae ah (cP a t B V nm qn e A tk) P f)(G:∀n st,At ae ah (cP a t B V nm qn (S (bW #[]) st) (.bool X) tk) P n->da (bZ bY w) s (gu a.a B) (gp fV (gu a.a B)) (jF a.a m) n F):da (bZ bY w) s (gu a.a B) (kk (.send .none)) (jF a.a m) f F:=by refine qQ (w6 (J.less ⋯):cj 100 W _) L _ 500 _ [] [0,1] _ _ _ _ (congrFun aX P) λ aJ d p k j aR=>?_;exact nH bY w _ _ _ _ _ _ (DZ _ _) (G aJ _ aR)
theorem GS{s:cR}{ax:RS}{f:cc}{fp:AP}{Q:BT}{H jC:Nat}(aj:iu c o.aG oG ao)(hT:Q.get jC=Y (cv gC nm qn))(ha:x jC=aC)(J:cj 591 W s)(M:Base f.heap)(hs:∀y k,Q.get y=Y k->y<H/\f.heap.get? (x y)=Y k)(ah:uN H x fp f)(hC:dD fp (CG o c oG ao gC v u) f)(G:∀(a:lQ)B V nm qn st tk m n,V≠gC->At (f.setGen gC .running) fp (cP a o.aL B V nm qn (S (bW #[]) st) (.bool X) tk) (HG o c oG ao V [(gC,ee)] v u) n->da (bZ bY w) s.in1 (gu a.a B) (gp fV (gu a.a B)) (jF a.a m) n (lT ax gC)):dQ (bZ bY w) s (.call (.builtin "generator.__next__") ⟨[R aC],[]⟩) ax f:=by have hG:=(hs jC _ hT).2;rw[ha]at hG;obtain⟨a,B,V,g,p,D,st,A,tk,ay,hF⟩:=hC.now;obtain⟨g1,O,fS,g3,g4,g5⟩:=id hF;(refine cK ((HG.gens aj g5.now).2 (gC,_) (.head _)) λ gs F d=>?_;obtain⟨kk,r,E,m,rfl,hk⟩:=d);refine pA J.h (by have:=J.d;exact lZ this) (lF _ M) (lp hG) F ?_;show da (bZ bY w) s.in1 (gu a.a B) (kk (.send .none)) (jF a.a m) (f.setGen gC .running) (lT ax gC);have F1:Fr (cP a o.aL B V g p (S D st) (.bool A) tk) (HG o c oG ao V [(gC,ee)] v u) fp (f.setGen gC .running):=⟨g1,O,fS,g3,g4,HG.setGen (G:=[(gC,ee)]) (ai:=[(gC,ê a o.aL B V g p (S D st) (.bool A) tk)]) aj ⟨_, .head _⟩ (mr ay) rfl (λ q hq=>by cases hq with|head=>exact⟨λ j=>rfl,λ ay=>absurd rfl ay⟩|tail _ hq=>cases hq) g5⟩;have b8:cj 590 W s.in1:=cj.in1 (J.less ⋯);exact Ov b8 hk (At.start (f:=f.setGen gC .running) M (λ l ak=>⟨ah.lt l ak,ah.nk l ak⟩) F1) λ n st L=>G a B V g p st tk m n ay L
theorem Px(aj:iu c o.aG oG ao)(aX:ξ o c oG ao gC v u i D b i' p')(hc:d.c= .call (.builtin "generator.__next__") ⟨[R aC],[]⟩)(hg:d.gh=CG o c oG ao gC v u)(ae:d.sm=vV i b D X (CG o c oG ao gC i' p'))(hT:d.T.get jC=Y (cv gC nm qn))(ha:x jC=aC):cy x d:=by obtain⟨H,P,rn,rg,rs⟩:=d;cases hc;cases hg;cases ae;intro s ax f fp J M hs aQ ap ah hC G;replace J:cj 591 W s:=J;refine GS aj hT ha J M hs ah hC λ a B V g p st tk m n ay L=>?_;refine UU ay (cj.in1 (J.less ⋯)) aX L λ aJ dl aq td tk tn t1 t2 tv tt k1 k2 l e kk k aR hR=>?_;exact GU (x:=x) aj ay G aR hR
end
inductive B9(b:jR)(t:bU)(gs:eY):Prop|mk kk l p p1 p0(q:gs= .suspended kk l (iD b.aF b.aE) p (nq b.aF t p1 p0) X)(z:kZ ⟨bY,w.params⟩ 20 (kk (.send .none))= .pure (.again (iD b.aF b.aE))):B9 b t gs
noncomputable def B6(b:jR)(gL:Nat)(A aa:bX):List (bU×bV):=(b.aF,sy b)::(b.gx,cv gL A aa)::oX b
noncomputable def Å(b:jR)(i ao aw d aq:bX)(e:Nat)(c:cb)(D:cp)(v:Nat)(t:bU)(aj ay:bX)(gL:Nat)(A aa:bX):List (bU×bV):=(b.aF,rp b i ao aw d aq e)::(oX b++(m5 b.aE b.aI (nP c) c D (v+1) v aj++[(t,fI b.gx 2 ay),(b.gx,cv gL A aa)]))
inductive S0(c:cb)(O:Nat)(ai:GL)(C:AP)(f:cc):Prop|mk(b:jR)(D:cp)(aX:bU)(af:FD)(gL:Nat)(A aa:bX)(q:Fr (B6 b gL A aa) (Fr (uH aX af c D) (dW ((gL,gA (kK aX))::(O,gA (qq b.aF))::ai))) C f):S0 c O ai C f
inductive JK(c:cb)(O:Nat)(ai:GL)(v:Nat)(C:AP)(f:cc):Prop|mk(b:jR)(i ao aw d aq:bX)(e:Nat)(D:cp)(t:bU)(aj ay:bX)(gL:Nat)(A aa:bX)(q:Fr (Å b i ao aw d aq e c D v t aj ay gL A aa) (dW ((gL,kD)::(O,B9 b t)::ai)) C f):JK c O ai v C f
noncomputable def Sf(O:Nat)(ai:GL):GP:=λ C f=>∃gL,dW ((gL,sk)::(O,sk)::ai) C f
noncomputable def fU(c:cb)(O:Nat)(ai:GL)(v:Nat):GP:=λ C f=>(v=0/\S0 c O ai C f)\/(0<v/\v<=c.cps.size/\JK c O ai v C f)\/(v=c.cps.size+1/\Sf O ai C f)
theorem Fr.gen(a:Fr ls P C f)(hk:∀g k,C g->f.heap.get? g=Y k->n.heap.get? g=Y k)(m:∀f':AP,(∀g,f' g->C g)->dD f' P f->dD f' r n):Fr ls r C n:=by obtain⟨z,E,fS,h3,h4,h5⟩:=a;exact⟨λ u hp=>hk u.1 u.2 ((h3 _).mpr (.inl (jd (f:=λ q:bU×bV=>q.1) hp))) (z u hp),E,fS,h3,h4,m fS (λ g ha=>(h3 g).mpr (.inr ha)) h5⟩
theorem fU.map(a:fU c O ai v C f)(hk:∀g k,C g->f.heap.get? g=Y k->n.heap.get? g=Y k)(m:∀(gL:Nat)(F V:eY->Prop)(f':AP),dW ((gL,F)::(O,V)::ai) f' f->dW ((gL,F)::(O,V)::G) f' n):fU c O G v C n:=by
 rcases a with⟨h0,b,D,aX,af,gL,A,aa,a⟩|⟨h0,z,b,i,ao,aw,d,aq,e,D,t,aj,ay,gL,A,aa,a⟩|⟨h0,gL,a⟩;·exact .inl ⟨h0,b,D,aX,af,gL,A,aa,a.gen hk λ f' hf h'=>Fr.eF (h'.now.gen (λ g k ha=>hk g k (hf g ha)) λ au j ae=>(m _ _ _ _ ae.now).eF)⟩
 ·exact .inr (.inl (cZ h0 z ⟨b,i,ao,aw,d,aq,e,D,t,aj,ay,gL,A,aa,a.gen hk λ f' j h'=>(m _ _ _ _ h'.now).eF⟩))
 ·exact .inr (.inr (fM h0 gL (m _ _ _ _ a)))
theorem fU.eF(a:fU c O ai v C f):dD C (fU c O ai v) f:=λ n k1 k2=>a.map k1 λ gL F V f' q=>⟨by rw[k2];exact q.1,q.2⟩
theorem fU.gens(a:fU c O ai v C f):Gh ai f.gens/\∃gL,((gL:Nat)::O::ai.map (·.1)).Nodup:=by
 rcases a with⟨h0,b,D,aX,af,gL,A,aa,a⟩|⟨h0,z,b,i,ao,aw,d,aq,e,D,t,aj,ay,gL,A,aa,a⟩|⟨h0,gL,a⟩;·obtain⟨_,_,_,_,_,a⟩:=a;obtain⟨_,_,_,_,_,a⟩:=a.now;exact fM ⟨a.now.1.1,λ q hq=>a.now.1.2 q (.tail _ (.tail _ hq))⟩ gL a.now.2
 ·obtain⟨_,_,_,_,_,a⟩:=a;exact fM ⟨a.now.1.1,λ q hq=>a.now.1.2 q (.tail _ (.tail _ hq))⟩ gL a.now.2
 ·exact fM ⟨a.1.1,λ q hq=>a.1.2 q (.tail _ (.tail _ hq))⟩ gL a.2
theorem fU.set(a:fU c O ai v C f)(hk:∀g k,C g->f.heap.get? g=Y k->n.heap.get? g=Y k)(hs:n.gens=f.gens.setIfInBounds y t)(hj:∃q,(y,q)∈ai)(i:G.map (·.1)=ai.map (·.1))(hL:∀u∈G,(u.1=y->u.2 t)/\(u.1≠y->u∈ai))(M:t.bare=U):fU c O G v C n:=a.map hk λ gL F V f' q=>by
 have H:((gL:Nat)::O::G.map (·.1)).Nodup:=by rw[i];exact q.2
 refine eE hj λ d b=>?_;have hm:y∈ai.map (·.1):=jd (f:=λ u:Nat×(eY->Prop)=>u.1) b;have n0:=gI.mp q.2;have n1:=gI.mp n0.2;have e1:gL≠y:=λ e=>n0.1 (.tail _ (by rw[e];exact hm));have e2:O≠y:=λ e=>n1.1 (by rw[e];exact hm);exact(dW.set (G:=(gL,F)::(O,V)::G) (f':=f') q (λ u hp=>by cases hp with|head=>exact⟨λ e=>absurd e e1,λ j=> .head _⟩|tail _ hp=>cases hp with|head=>exact⟨λ e=>absurd e e2,λ j=> .tail _ (.head _)⟩|tail _ hp=>exact⟨(hL u hp).1,λ e=> .tail _ (.tail _ ((hL u hp).2 e))⟩) ⟨d, .tail _ (.tail _ b)⟩ H hs M).now
theorem fU.push{F:eY->Prop}(a:fU c O ai v C f)(hk:∀g k,C g->f.heap.get? g=Y k->n.heap.get? g=Y k)(hs:n.gens=f.gens.push t)(hy:F t)(M:t.bare=U):fU c O ((f.gens.size,F)::ai) v C n:=a.map hk λ gL b V f' q=>by
 have j:dW ((f.gens.size,F)::(gL,b)::(O,V)::ai) f' n:=(dW.push (f':=f') q hy hs M).now;refine⟨⟨j.1.1,λ u hp=>?_⟩,?_⟩;·cases hp with|head=>exact j.1.2 _ (.tail _ (.head _))|tail _ hp=>cases hp with|head=>exact j.1.2 _ (.tail _ (.tail _ (.head _)))|tail _ hp=>cases hp with|head=>exact j.1.2 _ (.head _)|tail _ hp=>exact j.1.2 _ (.tail _ (.tail _ (.tail _ hp)))
 ·have p1:([f.gens.size,gL,O]++ai.map (·.1)).Perm ([gL,O,f.gens.size]++ai.map (·.1)):=b82 _ (ff λ j=>by simp only[fv,fz];simp+arith only);exact p1.nodup_iff.mp j.2
theorem fU.ext(a:fU c O ai v C f)(hk:∀g k,C g->f.heap.get? g=Y k->n.heap.get? g=Y k)(hg:∀(y:Nat)(t:eY),f.gens[y]?=Y t->n.gens[y]?=Y t)(j:gw f.gens->gw n.gens):fU c O ai v C n:=a.map hk λ gL F V f' q=>⟨⟨j q.1.1,λ u hp=>let⟨t,z,E⟩:=q.1.2 u hp;⟨t,hg _ _ z,E⟩⟩,q.2⟩
noncomputable def d6(tn tc t1:cp)(k1 k2:Ht)(g:cp):FD:=λ i=>match i with|0=>⟨tn,default,[],0⟩|1=>⟨tc,default,[],0⟩|2=>⟨t1,default,[],0⟩|3=>⟨k1.t,default,[],k1.h⟩|4=>⟨k2.t,default,[],k2.h⟩|_=>⟨g,default,[],0⟩
theorem xT{gL O:Nat}{F V b:eY->Prop}(a:dW ((gL,F)::(O,V)::ai) C f)(hy:b t)(hs:n.gens=f.gens.setIfInBounds O t)(M:t.bare=U:=by rfl):dD f' (dW ((gL,F)::(O,b)::ai)) n:=by have n0:=gI.mp a.2;have n1:=gI.mp n0.2;refine dW.set (G:=(gL,F)::(O,b)::ai) a (λ q hq=>?_) ⟨V, .tail _ (.head _)⟩ a.2 hs M;cases hq with|head=>exact⟨λ e=>absurd (show gL∈_ from(show gL=O from e)▸List.Mem.head _) n0.1,λ j=> .head _⟩|tail _ hq=>cases hq with|head=>exact⟨λ j=>hy,λ ay=>absurd rfl ay⟩|tail _ hq=>exact⟨λ e=>absurd (jd (f:=λ u:Nat×(eY->Prop)=>u.1) hq) (by rw[e];exact n1.1),λ j=> .tail _ (.tail _ hq)⟩
section
variable{c:cb}{O:Nat}{nm qn:bX}{ai:GL}{x:FA}
theorem Ec{e gL:Nat}{dl aq rP d:bU}{p' p1 m:dK}(hi:v+1<=c.cps.size)(G:È ⟨y,Q,H,γ,vC (fU c O ai (v+1)) v B⟩ x fp f ax)(L:At (f.setGen O .running) fp (JI dl aq rP d (v+1) B tn t1 g tc k1 k2++Å b i ao aw aK C e c D (v+1) t aj ay gL A aa) (dW ((gL,kD)::(O,ee)::ai)) n)(hk:kZ ⟨bY,w.params⟩ 20 (kk (.send .none))= .pure (.again (iD b.aF b.aE))):ax (.ok (.ret (R d))) (n.setGen O (.suspended kk [] (iD b.aF b.aE) p' (nq b.aF t p1 m) X)):=by have aV:=L.setGen (O:=O) (t:= .suspended kk [] (iD b.aF b.aE) p' (nq b.aF t p1 m) X) (r:=dW ((gL,kD)::(O,B9 b t)::ai)) λ f' z=>xT z.now ⟨kk,[],p',p1,m,rfl,hk⟩ rfl;exact aV.re.give G rfl (aN [dl,aq,rP,d]) (d6 tn tc t1 k1 k2 g) rfl rfl λ f' y5=>fU.eF (.inr (.inl (cZ (s6 _) hi ⟨b,i,ao,aw,aK,C,e,D,t,aj,ay,gL,A,aa,y5⟩)))
theorem MZ(hn:fF c)(h9:c.cps.contains 9=X)(b9:c.length<=1048576)(hx:c.cps[v]?=Y B)(hT:Q.get E=Y (cv O nm qn))(ha:x E=p):cy x ⟨.call (.builtin "generator.__next__") ⟨[R p],[]⟩,Q,H,fU c O ai v,vC (fU c O ai (v+1)) v B⟩:=by
 intro s ax f fp J M hs aQ ap ah hC G;replace J:cj 110 W s:=J;have hG:=(hs E _ hT).2;rw[ha]at hG;have az:v<c.cps.size:=(iq.mp hx).1;have b8:cj 60 W s.in1:=cj.in1 (J.less ⋯);rcases hC.now with⟨rfl,b,D,aX,af,gL,A,aa,hF⟩|⟨h0,z,b,i,ao,aw,d,aq,e,D,t,aj,ay,gL,A,aa,hF⟩|⟨h0,gL,a⟩;·obtain⟨_,_,_,_,_,P⟩:=id hF;obtain⟨_,_,_,_,_,l1⟩:=P.now;(refine cK (l1.now.1.2 _ (.tail _ (.head _))) λ gs F k=>?_;subst k);refine pA J.h (by have:=J.d;exact lZ this) (lF _ M) (lp hG) F ?_;show da (bZ bY w) s.in1 (qq b.aF) (dn (qq b.aF)) [] (f.setGen O .running) (lT ax O);rw[<-pP];have F1:Fr (B6 b gL A aa) (Fr (uH aX af c D) (dW ((gL,gA (kK aX))::(O,ee)::ai))) fp (f.setGen O .running):=hF.gen (λ j j j a=>a) λ f' j h'=>Fr.eF (h'.now.gen (λ j j j a=>a) λ au j ae=>xT ae.now rfl rfl);refine Oo b8 hn h9 b9 hx (At.start (f:=f.setGen O .running) M (λ l ak=>⟨ah.lt l ak,ah.nk l ak⟩) F1) λ t aE o kr V p1 m ay=>?_;intro n g q c' i ao aw aK C e dl aq y d tn t1 tc k1 k2 kk p' L hk;exact Ec (x:=x) (b:=vK {b with kr:=kr,kl:=V,aE:=aE,aI:=o} g q c') (v:=0) az G L hk
 ·obtain⟨_,_,_,_,_,P⟩:=id hF;(refine cK (P.now.1.2 _ (.tail _ (.head _))) λ gs F aJ=>?_;obtain⟨kk,r,u,p1,m,rfl,hk⟩:=aJ);refine pA J.h (by have:=J.d;exact lZ this) (lF _ M) (lp hG) F ?_;show da (bZ bY w) s.in1 (iD b.aF b.aE) (kk (.send .none)) (nq b.aF t p1 m) (f.setGen O .running) (lT ax O);refine ku bY w _ _ _ _ _ _ 20 ?_;rw[hk];refine nH bY w _ _ _ _ _ _ (DE _ _) ?_;have F1:Fr (Å b i ao aw d aq e c D v t aj ay gL A aa) (dW ((gL,kD)::(O,ee)::ai)) fp (f.setGen O .running):=hF.gen (λ j j j a=>a) λ f' j h'=>xT h'.now rfl rfl;refine Ol (b8.less ⋯) hx (At.start (f:=f.setGen O .running) M (λ l ak=>⟨ah.lt l ak,ah.nk l ak⟩) F1) ?_;intro n g q c' i ao aw aK C e dl aq y d tn t1 tc k1 k2 kk p' L hk;exact Ec (x:=x) (b:=vK b g q c') az G L hk
 ·lia
theorem MY(k:0<c.cps.size)(hi:v=c.cps.size\/v=c.cps.size+1)(hT:Q.get E=Y (cv O nm qn))(ha:x E=p):cy x ⟨.call (.builtin "generator.__next__") ⟨[R p],[]⟩,Q,H,fU c O ai v,ug (fU c O ai (c.cps.size+1))⟩:=by
 intro s ax f fp J M hs aQ ap ah hC G;replace J:cj 110 W s:=J;have hG:=(hs E _ hT).2;rw[ha]at hG;have b8:cj 60 W s.in1:=cj.in1 (J.less ⋯);rcases hC.now with⟨rfl,_⟩|⟨h0,z,b,i,ao,aw,d,aq,e,D,t,aj,ay,gL,A,aa,hF⟩|⟨h0,gL,a⟩;·lia
 ·obtain⟨_,_,_,_,_,P⟩:=id hF;(refine cK (P.now.1.2 _ (.tail _ (.head _))) λ gs F y=>?_;obtain⟨kk,r,u,p1,m,rfl,hk⟩:=y);refine pA J.h (by have:=J.d;exact lZ this) (lF _ M) (lp hG) F ?_;show da (bZ bY w) s.in1 (iD b.aF b.aE) (kk (.send .none)) (nq b.aF t p1 m) (f.setGen O .running) (lT ax O);refine ku bY w _ _ _ _ _ _ 20 ?_;rw[hk];refine nH bY w _ _ _ _ _ _ (DE _ _) ?_;have F1:Fr (Å b i ao aw d aq e c D v t aj ay gL A aa) (dW ((gL,kD)::(O,ee)::ai)) fp (f.setGen O .running):=hF.gen (λ j j j a=>a) λ f' j h'=>xT h'.now rfl rfl;refine UQ (b8.less ⋯) (by rw[Cv];lia) (At.start (f:=f.setGen O .running) M (λ l ak=>⟨ah.lt l ak,ah.nk l ak⟩) F1) λ n L=>?_;have X':At f fp [] (dW ((gL,sk)::(O,ee)::ai)) n:=⟨L.base,L.own,L.keep,L.size,L.drawn,L.os⟩;exact xa (x:=x) (r:=fU c O ai (c.cps.size+1)) (v:=110) G X' rfl rfl λ C hf aK j k2=>fU.eF (.inr (.inr (fM rfl gL (xT (f':=C) hf.now (b:=sk) rfl k2).now)))
 ·(refine cK (a.1.2 _ (.tail _ (.head _))) λ gs F o=>?_;subst o);refine Ll J.h (lp hG) F ?_;have X0:At f fp [] (fU c O ai (c.cps.size+1)) f:=At.start (f:=f) (az:=fp) M (λ l ak=>⟨ah.lt l ak,ah.nk l ak⟩) ⟨λ q hq=>(nomatch hq),pB,fp,λ g=>⟨.inr,λ a=>a.elim (λ q=>(nomatch q)) id⟩,λ g ha=>(nomatch ha),fU.eF (.inr (.inr (fM rfl gL a)))⟩;exact xa (x:=x) (r:=fU c O ai (c.cps.size+1)) (v:=110) (au:=f) G X0 rfl rfl λ C hf aK k1 k2=>hf.sub k1 k2
theorem G2(hn:fF c)(h9:c.cps.contains 9=X)(b9:c.length<=1048576)(k:0<c.cps.size):iu c p (cv O nm qn) (fU c O)where
 ok ai:={next:=λ hx hT ha=>MZ hn h9 b9 hx hT ha,stop:=λ hi hT ha=>MY k hi hT ha,ext:=λ a hk hg M=>fU.eF (a.now.ext hk hg M),bare:=λ a=>a.now.gens.1.1}
 get a:=a.now.gens.1
 set a hk hs hj hK hL M:=fU.eF (a.now.set hk hs hj hK hL M)
 push a hk hs hy M:=fU.eF (a.now.push hk hs hy M)
end
inductive dy(C:AP)(f:cc):Prop|mk ps(q:jV ps)(z:Fr [(246,dm ps)] (λ j c=>gw c.gens) C f):dy C f
theorem dy.ext(a:dy C f)(hk:∀g k,C g->f.heap.get? g=Y k->n.heap.get? g=Y k)(M:gw f.gens->gw n.gens):dy C n:=by obtain⟨ps,h0,z⟩:=a;exact⟨ps,h0,z.gen hk λ j j h'=>λ aK j hg=>by rw[hg];exact M h'.now⟩
theorem dy.bare(a:dy C f):gw f.gens:=by obtain⟨ps,h0,_,_,_,_,_,z⟩:=a;exact z.now
theorem dy.eF(a:dy C f):dD C dy f:=λ j k1 k2=>a.ext k1 (by rw[k2];exact id)
theorem cH.tab(a:cH o c oG ao i0 b pb C f)(M:gw f.gens):dy C f:=by obtain⟨ys,e,e1,e2,u,ps,h0,z,E,h3,h4,h5⟩:=a;have h6:Fr ([(246,dm ps)]++([(o.fN,lst (refs e) e1),(o.er,lst (refs ys) e2),(o.aG,oG)]++(dx c i0 ys++dx c b e))) (ao u) C f:=h5.perm (ff λ j=>by simp only[sI,ft,fv,fz];simp+arith only);exact⟨ps,h0,h6.push.gen (λ q q q a=>a) λ q q q=>λ aK q hg=>by rw[hg];exact M⟩
section
variable{x:FA}{c:cb}{oG:bV}{ao:iH}{o:dz}{V:Nat}{ai:GL}{v i':Nat}{u p':Bool}{B:bU}{nm qn:bX}{t:Nat}
theorem Pr(aj:iu c o.aG oG ao)(hL:∀q∈ai,q.1≠V)(D:∀k5,ţ {o with k5:=k5} (cH o c oG (ao ((V,ee)::ai)) v v u) (cH o c oG (ao ((V,ee)::ai)) i' i' p'))(hc:d.c= .call (.builtin "generator.__next__") ⟨[R B],[]⟩)(hg:d.gh=HG o c oG ao V ai v u)(ae:d.sm=pI 510 dy)(hT:d.T.get t=Y (cv V nm qn))(ha:x t=B):cy x d:=by obtain⟨H,P,rn,rg,rs⟩:=d;cases hc;cases hg;cases ae;intro s ax f fp J M hs aQ ap ah hC G;replace J:cj 510 W s:=J;have hG:=(hs t _ hT).2;rw[ha]at hG;obtain⟨a,g,Q,k5,hF⟩:=hC.now;obtain⟨g1,O,fS,g3,g4,g5⟩:=id hF;(refine cK ((cH.gens aj g5.now).2 (V,ph a.a) (.head _)) λ gs F b=>?_;obtain⟨kk,r,E,p1,m,rfl,hk⟩:=b);refine pA J.h (by have:=J.d;exact lZ this) (lF _ M) (lp hG) F ?_;show da (bZ bY w) s.in1 (iw a.a) (kk (.send .none)) (lP a.a p1 m) (f.setGen V .running) (lT ax V);refine ku bY w _ _ _ _ _ _ 20 ?_;rw[hk];refine nH bY w _ _ _ _ _ _ (DV _) ?_;have b8:cj 500 W s.in1:=cj.in1 (J.less ⋯);have F1:Fr (hP a {o with k5:=k5} g 394 [] Q) (cH o c oG (ao ((V,ee)::ai)) v v u) fp (f.setGen V .running):=⟨g1,O,fS,g3,g4,cH.setGen (ai:=(V,ph a.a)::ai) (G:=(V,ee)::ai) aj ⟨_, .head _⟩ rfl (λ q hq=>by cases hq with|head=>exact⟨λ j=>rfl,λ ay=>absurd rfl ay⟩|tail _ hq=>exact⟨λ e=>absurd e (hL q hq),λ j=> .tail _ hq⟩) g5⟩;refine WN b8 (D k5) (At.start (f:=f.setGen V .running) M (λ l ak=>⟨ah.lt l ak,ah.nk l ak⟩) F1) λ n e' L=>?_;have X':At f fp (C0 a {o with k5:=k5} [] e') (cH o c oG (ao ((V,ee)::ai)) i' i' p') n:=⟨L.base,L.own,L.keep,L.size,L.drawn,L.os⟩;exact xa (x:=x) (r:=dy) (v:=510) G X' rfl rfl λ C hf aK k1 k2=>((hf.now.tab (cH.gens aj hf.now).1).ext k1 λ M=>by rw[k2];exact gw.set M rfl).eF
end
section
variable{x:FA}{c:cb}{oG:bV}{ao:iH}{o:dz}{gC:Nat}{v:Nat}{u:Bool}{aC:bU}{nm qn:bX}{jC:Nat}
theorem Py(aj:iu c o.aG oG ao)(aX:∀B V nm qn,V≠gC->B7 B V nm qn (HG o c oG ao V [(gC,ee)] v u) dy)(hc:d.c= .call (.builtin "generator.__next__") ⟨[R aC],[]⟩)(hg:d.gh=CG o c oG ao gC v u)(ae:d.sm=pI 591 dy)(hT:d.T.get jC=Y (cv gC nm qn))(ha:x jC=aC):cy x d:=by obtain⟨H,P,rn,rg,rs⟩:=d;cases hc;cases hg;cases ae;intro s ax f fp J M hs aQ ap ah hC G;replace J:cj 591 W s:=J;refine GS aj hT ha J M hs ah hC λ a B V g p st tk m n ay L=>?_;refine Xq (cj.in1 (J.less ⋯)) (aX B V g p ay) L λ aJ aR=>?_;have X':At f fp (cP a o.aL B V g p (S (bW #[]) st) (.bool X) tk) dy aJ:=⟨aR.base,aR.own,aR.keep,aR.size,aR.drawn,aR.os⟩;exact xa (x:=x) (r:=dy) (v:=591) G X' rfl rfl λ C hf aK k1 k2=>(hf.now.ext k1 λ M=>by rw[k2];exact gw.set M rfl).eF
end
theorem Nr{A:Type}{m:cD A}{G:A->cD fE}(a:je (bZ bY w) (s.over B fs) B m (λ g n=>da (bZ bY w) s B (G g) fs n F) (λ c n=>da (bZ bY w) s B (aa c) fs n F) f):da (bZ bY w) s B (m.wrap G aa l b) fs f F:=by rintro v u rfl Q;refine yr (Ld (Φ:=λ e n=>e.quiet=U/\F e n) G aa l b m (a (v.over fs) u rfl (Q.over fs)) (λ g p' n h'=>h' v p' rfl Q) (λ c p' n h'=>h' v p' rfl Q)) λ e n D hq=>?_;exact vY e n D hq
theorem P5(hf:∀c,px b aq c=pure c)(a:je (bZ bY w) (s.over B fs) B (gr b aq) (λ c au=>cm (bZ bY w) (s.over B fs) (nM c) (λ v aJ=>∀u,da (bZ bY w) s (.forLoop i v t g aq) (gp fV (.forLoop i v t g aq)) (.ret (lr aq G aa) W X [] B u []::fs) aJ F) (λ j j=>False) au) (λ j j=>False) f):da (bZ bY w) s B ((yx (.For i b t g o) aq).wrap G aa id id) fs f F:=by refine ku bY w s B fs F f _ 1 ?_;show da _ s B ((gr b aq>>=λ c=>px b aq c>>=λ c=>(qN b.pos>>=λ j=>vo [c] (nM c)>>=λ v=>xJ (.forLoop i v t g aq) aq):cD gK).wrap G aa id id) fs f F;rw[mP,mj];refine Nr (D3 a (λ c au x=>?_) λ j j c=>c.elim);rw[hf c];show da _ s B ((qN b.pos>>=λ j=>vo [c] (nM c)>>=λ v=>xJ (.forLoop i v t g aq) aq:cD gK).wrap G aa id id) fs au F;refine ku bY w s B fs F au _ 1 ?_;show da _ s B ((vo [c] (nM c)>>=λ v=>xJ (.forLoop i v t g aq) aq:cD gK).wrap G aa id id) fs au F;rw[mP,mj];refine mv (qE (kS x (λ v aJ A=>?_) λ j j c=>c.elim));exact s_call bY w s B fs F aJ _ _ _ _ _ A
noncomputable abbrev ui:cb:=bW #[115,101,108,102]
noncomputable abbrev Hi:cb:=bW #[99,104,97,114,97,99,116,101,114,115]
noncomputable abbrev W1:cb:=bW #[115,116,97,114,116,95,115,116,97,116,101]
noncomputable abbrev sC:cb:=bW #[116,111,107,101,110,105,122,101]
noncomputable abbrev cC(g:bU):cN:= .func cS (cE g)
noncomputable abbrev l8(g:bU):cN:= .func hS (hE g)
noncomputable def mN:Expr:=w4 (fnOf ip)
noncomputable def Ž(aq:di):List (Bool×cD bX):=(jw ip).map λ e=>(X,dO e aq)
noncomputable def cMc(A H:bU):cD bX:=Ý mN sC (kC (fnOf ip)) (eO ip) (cE A) (R H) 2 (Ž (cE A)) []
noncomputable def zd(t p:bU):List (cb×bX):=[(ui,R t),(Hi,R p)]
noncomputable def za(t p g:bU):List (cb×bX):=[(ui,R t),(Hi,R p),(W1,R g)]
noncomputable def ze(A t p:bU)(af:FD):List (bU×bV):=[(A,nQ (zd t p) af)]
theorem Xr:cS=(cS).take 3++(.For wu ip cB [] (match cF with| .For _ _ _ _ u=>u|_=>default)::Cf):=⋯
theorem UZ(g:bU)(c:bX):px ip (cE g) c=pure c:=⋯
theorem UY:ip= .Call (.Attribute (.Call (.Name "super" (l7 (fnOf mN))) [] [] (eO mN)) sC (kC (fnOf ip))) (jw ip) [] (eO ip):=⋯
theorem UX:mN= .Call (.Name "super" (l7 (fnOf mN))) [] [] (eO mN):=⋯
theorem Ox(aq:di):pM (eO ip) (oI (jw ip) aq)=Ž aq:=by unfold Ž;rw[<-fO];kernel_rfl
theorem b8f{u:lQ->Prop}(aa:∀g k1 k2 k3 k4 k5 e,u ⟨g,k1,k2,k3,k4,k5,O,e⟩)(a:lQ)(hc:a.cs=O):u a:=by cases a;cases hc;exact aa ..
theorem PB:yc Ÿ 460 460 229 sC:=ğ ⋯ ⋯ ⋯ ⋯
section
variable(a:lQ)(o:dz)(st:cp)
noncomputable def ã:List (bU×bV):=[(a.a,qr a o.aL (S (bW #[]) st) (.bool U) .none),(o.aL,inst 460 o.aD),(o.aD,lH o)]
theorem b1f:U' 387 (cE a.a) (ã a o st) 460 o.aL 4=T_ 387 (cE a.a) (ã a o st) 460 o.aL 460 4:=⋯
noncomputable def cM(H:bU):List (bU×bV):=ã a o st++[(H,nT 460 o.aL 460)]
noncomputable def XE:List Nat:=nd 16 36 0x250050000000030220000002000000211244
end
theorem WO:hS=(hS).take 2++[.While nx ti [] (match z8 with| .While _ _ _ u=>u|_=>default)]:=⋯
noncomputable def z9(A g p:bU)(af:FD)(o:dz)(Q:Nat):List (bU×bV):=[(A,nQ (za o.aL p g) af),(o.aL,inst 460 o.aD),(o.aD,lH o),(o.fe,lst [] Q),(g,kx 394 o.aL)]
noncomputable def C3(A g p:bU)(af:FD)(k4:Ht):qw:=⟨A,⟨(af 3).h,(af 3).t⟩,⟨(af 4).h,(af 4).t⟩,⟨(af 5).h,(af 5).t⟩,k4,R p,R g,4⟩
section
noncomputable def XB:List Nat:=nd 16 28 0x1113330200000202002000000211
end
inductive oq(o:dz)(c:cb)(oG:bV)(ao:iH)(V:Nat)(ai:GL)(C:AP)(f:cc):Prop|mk(A g:bU)(af:FD)(Q:Nat)(q:Fr (z9 A g o.aG af o Q) (cH o c oG (ao ((V,gA (l8 A))::ai)) 0 0 X) C f):oq o c oG ao V ai C f
theorem oq.eF(a:oq o c oG ao V ai C f):dD C (oq o c oG ao V ai) f:=by obtain⟨g,l,B,af,z⟩:=a;exact λ n k1 k2=>⟨g,l,B,af,z.eF n k1 k2⟩
section
variable{x:FA}{c:cb}{oG:bV}{ao:iH}{o:dz}{V:Nat}{ai:GL}{v y i':Nat}{u p':Bool}{C:bU}{ty b:cb}{B:bU}{nm qn:bX}{t:Nat}
theorem Fi(J:cj 500 W s)(L:At ae ah (z9 A g o.aG af o Q) P f)(G:∀(a:qw)k5 p1 m n,a.a=A->At ae ah (hP a {o with k5:=k5} g 394 [] Q) P n->da (bZ bY w) s (iw a.a) (gp fV (iw a.a)) (lP a.a p1 m) n F):da (bZ bY w) s (l8 A) (gp fV (l8 A)) [] f F:=by have A0:cj 100 W (s.over (l8 A) []):=N' (J.less ⋯) ⋯ ⋯;refine s_ ?_;have e:dj hS (hE A)=dj ((hS).take 2++[.While nx ti [] (match z8 with| .While _ _ _ u=>u|_=>default)]) (hE A):=congrArg (λ r=>dj r (hE A)) WO;rw[e];refine C_ ?_;refine gY A0 L _ 1000 XB [] [0,1,2,3,4] (λ j j j=> .next) (λ j j k=>[jN (C3 A g o.aG af ⟨(d5 k.2.T 0 3).h,(d5 k.2.T 0 3).t⟩) o.aL (R g),inst 460 o.aD,dU {o with k5:=⟨(d5 k.2.T 2 4).h,(d5 k.2.T 2 4).t⟩},lst [] Q,kx 394 o.aL]) ⋯ λ au d p k aU=>⟨rfl,?_⟩;generalize(⟨(d5 k.2.T 0 3).h,(d5 k.2.T 0 3).t⟩:Ht)=k4 at aU;generalize(⟨(d5 k.2.T 2 4).h,(d5 k.2.T 2 4).t⟩:Ht)=k5 at aU;refine ub (EJ λ m=>?_);exact n_ (a:=C3 A g o.aG af k4) (m:=m) J aU λ n p1 X'=>G (C3 A g o.aG af k4) k5 p1 m n rfl X'
theorem U9(aj:iu c o.aG oG ao)(hL:∀q∈ai,q.1≠V){rn:Nat}(G:È ⟨.call (.builtin "generator.__next__") ⟨[R B],[]⟩,P,rn,γ,yk v ty b (HG o c oG ao V ai i' p')⟩ x fp f ax)(L:At (f.setGen V .running) fp (S_ dl aq td tk v tn t1 t2 tv tt ty b++hP a {o with k5:=k5} aX 394 [] e') (cH o c oG (ao ((V,ee)::ai)) i' i' p') n)(aJ:kZ ⟨bY,w.params⟩ 20 (i (.send .none))= .pure (.again (iw a.a))):ax (.ok (.ret (R tk))) (n.setGen V (.suspended i [] (iw a.a) k (lP a.a aw m) X)):=by have aV:=L.setGen (O:=V) (t:= .suspended i [] (iw a.a) k (lP a.a aw m) X) (r:=cH o c oG (ao ((V,ph a.a)::ai)) i' i' p') λ f' z=>cH.setGen (ai:=(V,ee)::ai) (G:=(V,ph a.a)::ai) aj ⟨_, .head _⟩ rfl (λ q hq=>by cases hq with|head=>exact⟨λ j=>⟨i,[],k,aw,m,rfl,aJ⟩,λ ay=>absurd rfl ay⟩|tail _ hq=>exact⟨λ e=>absurd e (hL q hq),λ j=> .tail _ hq⟩) z;exact aV.re.give G rfl (aN [dl,aq,td,tk]) (tN [tn,t1,t2,tv,tt]) rfl rfl λ f' y5=>HG.eF ⟨a,aX,e',k5,y5⟩
theorem Pt(aj:iu c o.aG oG ao)(hL:∀q∈ai,q.1≠V)(hf:C=450\/C=422)(D:∀k5,vA {o with k5:=k5} (cH o c oG (ao ((V,ee)::ai)) 0 0 X) C (cH o c oG (ao ((V,ee)::ai)) 0 y X))(C2:∀k5,xI {o with k5:=k5} (cH o c oG (ao ((V,ee)::ai)) 0 y X) C v ty b (cH o c oG (ao ((V,ee)::ai)) i' i' p'))(hc:d.c= .call (.builtin "generator.__next__") ⟨[R B],[]⟩)(hg:d.gh=oq o c oG ao V ai)(ae:d.sm=yk v ty b (HG o c oG ao V ai i' p'))(hT:d.T.get t=Y (cv V nm qn))(ha:x t=B):cy x d:=by obtain⟨H,P,rn,rg,rs⟩:=d;cases hc;cases hg;cases ae;intro s ax f fp J M hs aQ ap ah hC G;replace J:cj 510 W s:=J;have hG:=(hs t _ hT).2;rw[ha]at hG;obtain⟨A,g,af,Q,hF⟩:=hC.now;obtain⟨g1,O,fS,g3,g4,g5⟩:=id hF;(refine cK ((cH.gens aj g5.now).2 (V,gA (l8 A)) (.head _)) λ gs F p=>?_;subst p);refine pA J.h (by have:=J.d;exact lZ this) (lF _ M) (lp hG) F ?_;show da (bZ bY w) s.in1 (l8 A) (dn (l8 A)) [] (f.setGen V .running) (lT ax V);rw[<-pP];have b8:cj 500 W s.in1:=cj.in1 (J.less ⋯);have F1:Fr (z9 A g o.aG af o Q) (cH o c oG (ao ((V,ee)::ai)) 0 0 X) fp (f.setGen V .running):=⟨g1,O,fS,g3,g4,cH.setGen (ai:=(V,gA (l8 A))::ai) (G:=(V,ee)::ai) aj ⟨_, .head _⟩ rfl (λ q hq=>by cases hq with|head=>exact⟨λ j=>rfl,λ ay=>absurd rfl ay⟩|tail _ hq=>exact⟨λ e=>absurd e (hL q hq),λ j=> .tail _ hq⟩) g5⟩;refine Fi b8 (At.start (f:=f.setGen V .running) M (λ l ak=>⟨ah.lt l ak,ah.nk l ak⟩) F1) λ a k5 p1 m au bb aU=>?_;refine Fh b8 hf (D k5) (C2 k5) aU λ n aX e' dl aq td tk tn t1 t2 tv tt i aw k L aJ=>?_;exact U9 (x:=x) aj hL G L aJ
end
theorem b18(t p g:bU):qR 229 ⟨[R t,R p,R g],[]⟩ (za t p g):=by unfold qR;kernel_rfl
theorem b19(t p:bU):qR 387 ⟨[R t,R p],[]⟩ (zd t p):=by unfold qR;kernel_rfl
theorem cH.ĸ(aj:iu c o.aG oG ao){V:eY->Prop}(hy:V t)(hk:∀g k,C g->f.heap.get? g=Y k->n.heap.get? g=Y k)(hg:n.gens=f.gens.push t)(a:cH o c oG (ao ai) i0 b pb C f)(M:t.bare=U:=by rfl):cH o c oG (ao ((f.gens.size,V)::ai)) i0 b pb C n:=by obtain⟨ys,e,e1,e2,u,ps,h0,z,E,h3,h4,h5⟩:=a;exact⟨ys,e,e1,e2,u,ps,h0,z,E,h3,h4,h5.gen hk λ f' hf h'=>aj.push h' (λ g k ha ho=>hk g k (hf g ha) ho) hg hy M⟩
inductive qx(o:dz)(c:cb)(oG:bV)(ao:iH)(gC:Nat)(C:AP)(f:cc):Prop|mk(A:bU)(af:FD)(Q:Nat)(q:Fr (ze A o.aL o.aG af++[(o.aL,inst 460 o.aD),(o.aD,lH o),(o.fe,lst [] Q)]) (cH o c oG (ao [(gC,gA (cC A))]) 0 0 X) C f):qx o c oG ao gC C f
theorem qx.eF(a:qx o c oG ao gC C f):dD C (qx o c oG ao gC) f:=by obtain⟨g,l,B,z⟩:=a;exact λ n k1 k2=>⟨g,l,B,z.eF n k1 k2⟩
noncomputable def CH(o:dz)(c:cb)(oG:bV)(ao:iH)(gC Q O:Nat)(g:bU):GP:=λ C f=>O≠gC/\Fr [(o.fe,lst [] Q)] (cH o c oG (ao [(O,gA (l8 g)),(gC,ee)]) 0 0 X) C f
section
variable{x:FA}{c:cb}{oG:bV}{ao:iH}{o:dz}{gC:Nat}{i':Nat}{p':Bool}{b:cb}{aC:bU}{nm qn:bX}{jC:Nat}
theorem Xo(a:lQ)(t B:bU)(V:Nat)(nm qn e A tk:bX):jX (cP a t B V nm qn e A tk) W 100 500 (sG (R B)) [2,2,0,2,0,2] (R B):=kA
theorem Fx(aj:iu c o.aG oG ao)(J:cj 590 W s)(hL:dp.get o.aL=W)(L:At ae ah (ze A o.aL o.aG af++[(o.aL,inst 460 o.aD),(o.aD,lH o),(o.fe,lst [] Q)]) (cH o c oG (ao [(gC,ee)]) 0 0 X) f)(G:∀(a:lQ)B V nm qn st m n,a.a=A->V≠gC->At ae ah (cP a o.aL B V nm qn (S (bW #[]) st) (.bool U) .none) (oq o c oG ao V [(gC,ee)]) n->da (bZ bY w) s (gu a.a B) (gp fV (gu a.a B)) (jF a.a m) n F):da (bZ bY w) s (cC A) (gp fV (cC A)) [] f F:=by
 have A0:cj 200 W (s.over (cC A) []):=N' (J.less ⋯) ⋯ ⋯;have A1:cj 100 W (s.over (cC A) []):=A0.less ⋯;refine s_ ?_;have e1:dj cS (cE A)=dj ((cS).take 3++(.For wu ip cB [] (match cF with| .For _ _ _ _ u=>u|_=>default)::Cf)) (cE A):=congrArg (λ r=>dj r (cE A)) Xr;rw[e1];refine C_ ?_;refine gY A1 L.push _ 1000 (nd 16 6 0x111111) [] [0] (λ j j j=> .next) (λ j j k=>[qr ⟨A,⟨(af 3).h,(af 3).t⟩,⟨(af 4).h,(af 4).t⟩,⟨(d5 k.2.T 0 2).h,(d5 k.2.T 0 2).t⟩,⟨(d5 k.2.T 0 3).h,(d5 k.2.T 0 3).t⟩,⟨(d5 k.2.T 0 4).h,(d5 k.2.T 0 4).t⟩,R o.aG,5⟩ o.aL (S (bW #[]) (Cb k.2.T 0 2)) (.bool U) .none]) ⋯ λ au d p k aU=>⟨rfl,?_⟩;generalize Cb k.2.T 0 2=st at aU;let a:lQ:=⟨A,⟨(af 3).h,(af 3).t⟩,⟨(af 4).h,(af 4).t⟩,⟨(d5 k.2.T 0 2).h,(d5 k.2.T 0 2).t⟩,⟨(d5 k.2.T 0 3).h,(d5 k.2.T 0 3).t⟩,⟨(d5 k.2.T 0 4).h,(d5 k.2.T 0 4).t⟩,R o.aG,5⟩;have aQ:At ae ah (ã a o st++[(o.fe,lst [] Q)]) (cH o c oG (ao [(gC,ee)]) 0 0 X) au:=aU.pull;refine ub (P5 (UZ a.a) ?_);have e2:gr ip (cE a.a)=(zG (.Call (.Name "super" (l7 (fnOf mN))) [] [] (eO mN)) sC (cE a.a) (gr (.Call (.Name "super" (l7 (fnOf mN))) [] [] (eO mN)) (cE a.a))>>=λ l=>qN (kC (fnOf ip)).atName>>=λ q=>vb (.Call (.Name "super" (l7 (fnOf mN))) [] [] (eO mN)) sC (kC (fnOf ip)) (eO ip) (cE a.a) l ((jw ip).length+([]:List tZ).length) (pM (eO ip) (oI (jw ip) (cE a.a))) (vk (eO ip) (uZ [] (cE a.a)))):=(congrArg (λ e=>gr e (cE a.a)) UY).trans (D5 _ _ _ _ _ _ _);rw[e2];refine zw (ŏ A1 rfl aQ.push (b1f a o st) λ aJ H aR=>?_);refine kQ (cJ (pC ?_));have e3:vb (.Call (.Name "super" (l7 (fnOf mN))) [] [] (eO mN)) sC (kC (fnOf ip)) (eO ip) (cE a.a) (R H) ((jw ip).length+([]:List tZ).length) (pM (eO ip) (oI (jw ip) (cE a.a))) (vk (eO ip) (uZ [] (cE a.a)))=cMc a.a H:=by rw[Ox,Ř,<-UX];kernel_rfl
 rw[e3];refine vz A0 (l1:=cM a o st H) aR _ 2000 XE [qA "super.__getattribute__" 3 H (λ q=>[R H,S sC (pL q.c)]) (λ j=>nT 460 o.aL 460) (E_ 229 o.aL) λ j j z E h3 h4=>ĝ (r:=iQ 602) (aX:=460) (e:=460) (C:=229) (H:=H) (c:=o.aL) (g:=sC) (b:=3) PB z E h3 h4 hL,⟨[],λ x j j=>(.call (R 229) ⟨[R o.aL,R o.aG,R (x 5)],[]⟩,Fr [(o.fe,lst [] Q)] (cH o c oG (ao [(gC,ee)]) 0 0 X),pO 229 (za o.aL o.aG (x 5)) (CH o c oG ao gC Q),[]),λ x j=>pO 229 (za o.aL o.aG (x 5)) (CH o c oG ao gC Q),λ x j q e=>zY (b18 o.aL o.aG (x 5)) (kJ e) (kI e) λ fp D t' g hC hk hg=>by
  rw[nt e]at hC;have t:=hC.now;have hl:D.gens.size≠gC:=by obtain⟨_,_,_,_,_,h6⟩:=id t;refine cK ((cH.gens aj h6.now).2 (gC,ee) (.head _)) λ _ q1 _=>?_;exact(kR (iq.mp q1).1).symm
  have E:Fr [(o.fe,lst [] Q)] (cH o c oG (ao [(D.gens.size,gA (l8 g)),(gC,ee)]) 0 0 X) fp t':=t.gen hk λ f' hf h'=>cH.eF (cH.ĸ aj rfl (λ g k ha ho=>hk g k (hf g ha) ho) hg h'.now);exact λ y k1 k2=>⟨hl,E.eF y k1 k2⟩⟩] [0,7,6,1,2,5] (λ d p=>CH o c oG ao gC Q (p 2).t (d 2)) (λ d j j=>R (d 3)) (λ d p j=>[qr a o.aL (S (bW #[]) st) (.bool U) .none,cv (p 2).t (S (d9 229).name (p 3).t) (S (d9 229).qualname (p 4).t),nQ (za o.aL o.aG (d 1)) λ i=>p (i+2),inst 460 o.aD,lH o,kx 394 o.aL]) (λ j j j=>()) (λ j j j=>()) ⋯ λ aM r2 ak o2 j aY=>?_;have ay:(ak 2).t≠gC:=by(refine cK aY.own λ _ _ v=>?_;obtain⟨_,_,_,_,_,h6⟩:=v);exact h6.now.1
 have aZ:=(aY.ghost (r:=Fr [(o.fe,lst [] Q)] (cH o c oG (ao [((ak 2).t,gA (l8 (r2 2))),(gC,ee)]) 0 0 X)) λ C hf=>Fr.eF hf.now.2).pull;have b4:At ae ah (cP a o.aL (r2 3) (ak 2).t (S (d9 229).name (ak 3).t) (S (d9 229).qualname (ak 4).t) (S (bW #[]) st) (.bool U) .none++z9 (r2 2) (r2 1) o.aG (λ i=>ak (i+2)) o Q) _ aM:=aZ.ix [0,1,2,3,4,6,5];have b7:At ae ah (cP a o.aL (r2 3) (ak 2).t (S (d9 229).name (ak 3).t) (S (d9 229).qualname (ak 4).t) (S (bW #[]) st) (.bool U) .none) (oq o c oG ao (ak 2).t [(gC,ee)]) aM:=b4.push.ghost λ C hf=>oq.eF ⟨r2 2,r2 1,λ i=>ak (i+2),Q,hf.now⟩;rw[qJ];refine mR A1 b7 _ 500 _ (R (r2 3)) (Xo a o.aL (r2 3) _ _ _ _ _ _) λ aK b5 m=>?_;exact G a (r2 3) _ _ _ st m aK rfl ay b5
theorem Pz(aj:iu c o.aG oG ao)(aX:∀B V nm qn,V≠gC->w7 B V nm qn (oq o c oG ao V [(gC,ee)]) 0 fy b (HG o c oG ao V [(gC,ee)] i' p'))(hc:d.c= .call (.builtin "generator.__next__") ⟨[R aC],[]⟩)(hg:d.gh=qx o c oG ao gC)(ae:d.sm=vV 0 b (bW #[]) U (CG o c oG ao gC i' p'))(hT:d.T.get jC=Y (cv gC nm qn))(ha:x jC=aC):cy x d:=by obtain⟨H,P,rn,rg,rs⟩:=d;cases hc;cases hg;cases ae;intro s ax f fp J M hs aQ ap ah hC G;replace J:cj 591 W s:=J;have hG:=(hs jC _ hT).2;rw[ha]at hG;obtain⟨A,af,Q,hF⟩:=hC.now;obtain⟨g1,O,fS,g3,g4,g5⟩:=id hF;have hL:dp.get o.aL=W:=ah.nk _ ((g3 _).mpr (.inl (by show o.aL∈(A::o.aL::_);exact .tail _ (.head _))));(refine cK ((cH.gens aj g5.now).2 (gC,gA (cC A)) (.head _)) λ gs F i=>?_;subst i);refine pA J.h (by have:=J.d;exact lZ this) (lF _ M) (lp hG) F ?_;show da (bZ bY w) s.in1 (cC A) (dn (cC A)) [] (f.setGen gC .running) (lT ax gC);rw[<-pP];have b8:cj 590 W s.in1:=cj.in1 (J.less ⋯);have F1:Fr (ze A o.aL o.aG af++[(o.aL,inst 460 o.aD),(o.aD,lH o),(o.fe,lst [] Q)]) (cH o c oG (ao [(gC,ee)]) 0 0 X) fp (f.setGen gC .running):=⟨g1,O,fS,g3,g4,cH.setGen (ai:=[(gC,gA (cC A))]) (G:=[(gC,ee)]) aj ⟨_, .head _⟩ rfl (λ q hq=>by cases hq with|head=>exact⟨λ j=>rfl,λ ay=>absurd rfl ay⟩|tail _ hq=>cases hq) g5⟩;refine Fx aj b8 hL (At.start (f:=f.setGen gC .running) M (λ l ak=>⟨ah.lt l ak,ah.nk l ak⟩) F1) λ a B V g p st m au bb ay L=>?_;refine Š b8 (aX B V g p ay) L λ n dl aq td tk tn t1 t2 tv tt k1 k2 e kk k X' r=>?_;exact GU (x:=x) aj ay G X' r
end
noncomputable def μ(c:cb)(v y:Nat)(k:Bool):Prop:=(cu c dr v=U/\y=cq c dr v/\k=kY c dr v)\/(cu c dr v=X/\cu c de (cq c dr v)=U/\y=cq c de (cq c de (cq c de (cq c dr v)))/\k=kY c de (cq c de (cq c de (cq c dr v))))\/(cu c dr v=X/\cu c de (cq c dr v)=X/\cu c vx (cq c de (cq c dr v))=U/\y=cq c cA (cq c cA (cq c vx (cq c de (cq c dr v))))/\k=kY c cA (cq c cA (cq c vx (cq c de (cq c dr v)))))\/(cu c dr v=X/\cu c de (cq c dr v)=X/\cu c vx (cq c de (cq c dr v))=X/\cu c vu (cq c vx (cq c de (cq c dr v)))=U/\y=cq c cA (cq c cA (cq c cA (cq c cA (cq c vu (cq c vx (cq c de (cq c dr v)))))))/\k=kY c cA (cq c cA (cq c cA (cq c cA (cq c vu (cq c vx (cq c de (cq c dr v))))))))\/(cu c dr v=X/\cu c de (cq c dr v)=X/\cu c vx (cq c de (cq c dr v))=X/\cu c vu (cq c vx (cq c de (cq c dr v)))=X/\cu c vU (cq c vu (cq c vx (cq c de (cq c dr v))))=U/\y=cq c cA (cq c cA (cq c cA (cq c cA (cq c vU (cq c vu (cq c vx (cq c de (cq c dr v))))))))/\k=kY c cA (cq c cA (cq c cA (cq c cA (cq c vU (cq c vu (cq c vx (cq c de (cq c dr v)))))))))
noncomputable def H6(c:cb)(v e:Nat):Prop:=(cu c nr v=X/\v<c.cps.size/\cu c vQ (v+1)=U/\e=v+2)\/(cu c nr v=U/\∃y k,v<y/\μ c (v+1) y k/\cu c vQ y=U/\e=y+1)
noncomputable def Ţ(c:cb)(v b:Nat):Prop:=(c.cps[v]?=Y 39/\b=v+1)\/(c.cps[v]?=Y 76/\c.cps[v+1]?=Y 39/\b=v+2)
noncomputable def ye(c:cb)(v e:Nat):Prop:=∃b,Ţ c v b/\H6 c b e
section
variable{c:cb}{O:Nat}{nm qn:bX}{ao:FG}{o:dz}
theorem Đ(aj:fQ c o.aG (cv O nm qn) ao)(a:Ţ c v b):vA o (cH o c (cv O nm qn) ao v v u) 450 (cH o c (cv O nm qn) ao v b X):=by
 intro x d jL jD hc hg ae aa hd;rcases a with⟨z,rfl⟩|⟨z,E,rfl⟩;·
  cases u;·exact Tr aj z hc hg ae aa hd
  ·exact Ts z hc hg ae aa hd
 ·cases u;·exact Tp aj z E hc hg ae aa hd
  ·exact Tq aj z E hc hg ae aa hd
theorem Qh(aj:fQ c o.aG (cv O nm qn) ao)(a:c.cps[v]?=Y 32):vA o (cH o c (cv O nm qn) ao v v X) 422 (cH o c (cv O nm qn) ao v (v+1) X):=λ hc hg ae aa hd=>Tt aj a hc hg ae aa hd
theorem Ny(aj:fQ c o.aG (cv O nm qn) ao)(a:v=c.cps.size):ţ o (cH o c (cv O nm qn) ao v v X) (cH o c (cv O nm qn) ao v v X):=λ hc hg ae aa hd=>To aj a hc hg ae aa hd
theorem eM.mk'{c b:cb}(a:cu c b v=l):eM c b v l (cq c b v) (kY c b v):=cZ a rfl rfl
theorem eM.t{c b:cb}(a:cu c b v=U):eM c b v U (v+1) X:=cZ a (ec a) (GX a)
theorem GH(aj:fQ c o.aG (cv O nm qn) ao)(hx:c.cps.size<=1000000)(a:μ c v y k):ĭ o c O nm qn ao i0 v u y k:=by
 intro x d jL jD hc hg ae aa hd;rcases a with⟨z,rfl,rfl⟩|⟨z,E,rfl,rfl⟩|⟨z,E,h3,rfl,rfl⟩|⟨z,E,h3,h4,rfl,rfl⟩|⟨z,E,h3,h4,h5,rfl,rfl⟩;·exact h_1 aj hx (.mk' z) hc hg ae aa hd
 ·exact h_2 aj hx (.mk' z) (.mk' E) (.mk' rfl) (.mk' rfl) hc hg ae aa hd
 ·exact h_3 aj hx (.mk' z) (.mk' E) (.mk' h3) (.mk' rfl) (.mk' rfl) hc hg ae aa hd
 ·exact h_4 aj hx (.mk' z) (.mk' E) (.mk' h3) (.mk' h4) (.mk' rfl) (.mk' rfl) (.mk' rfl) (.mk' rfl) hc hg ae aa hd
 ·exact h_5 aj hx (.mk' z) (.mk' E) (.mk' h3) (.mk' h4) (.mk' h5) (.mk' rfl) (.mk' rfl) (.mk' rfl) (.mk' rfl) hc hg ae aa hd
theorem DQ(aj:fQ c o.aG (cv O nm qn) ao)(hx:c.cps.size<=1000000)(h0:i0<=v)(a:H6 c v e):xI o (cH o c (cv O nm qn) ao i0 v u) 450 i0 fy (ib c i0 e) (cH o c (cv O nm qn) ao e e X):=by
 intro Q x d jL jD l hc hg ae aa hd;rcases a with⟨z,E,h3,rfl⟩|⟨z,y,k,hj,E,h3,rfl⟩;·exact Wr aj hx (cZ z (cU z) rfl) E (.t h3) (lR (CD h0)) hc hg ae aa hd
 ·exact Ws aj hx (.t z) (GH aj hx E) (.t h3) (lR (rV h0 hj)) hc hg ae aa hd
theorem Qg(aj:fQ c o.aG (cv O nm qn) ao)(hx:c.cps.size<=1000000)(h0:i0<v)(a:cu c wa v=X)(hl:v<c.cps.size):xI o (cH o c (cv O nm qn) ao i0 v u) 422 i0 V' (ib c i0 v) (cH o c (cv O nm qn) ao v v U):=λ hc hg ae aa hd=>lws aj hx (cZ a (cU a) (GZ a hl)) h0 hc hg ae aa hd
end
section
variable{c:cb}{O:Nat}{nm qn:bX}{ao:iH}{o:dz}{gC:Nat}
theorem Fg(aj:iu c o.aG (cv O nm qn) ao)(hx:c.cps.size<=1000000)(a:ye c v e):yf o c (cv O nm qn) ao gC v u fy (ib c v e) e X:=by
 refine cK a λ b z E=>?_;have hi:v<=b:=by rcases z with⟨_,rfl⟩|⟨_,_,rfl⟩<;>exact zu _ _
 intro B V g p ay x d t hc hg ae hT ha;exact EU aj (λ q hq=>by cases hq with|head=>exact mr ay|tail _ hq=>cases hq) (.inl rfl) (λ k5=>Đ (o:={o with k5:=k5}) (aj.ok _) z) (λ k5=>DQ (o:={o with k5:=k5}) (aj.ok _) hx hi E) hc hg ae hT ha
theorem Wx(aj:iu c o.aG (cv O nm qn) ao)(hx:c.cps.size<=1000000)(a:c.cps[v]?=Y 32)(h':cu c wa (v+1)=X)(hl:v+1<c.cps.size):yf o c (cv O nm qn) ao gC v X V' (ib c v (v+1)) (v+1) U:=by intro B V g p ay x d t hc hg ae hT ha;exact EU aj (λ q hq=>by cases hq with|head=>exact mr ay|tail _ hq=>cases hq) (.inr rfl) (λ k5=>Qh (o:={o with k5:=k5}) (aj.ok _) a) (λ k5=>Qg (o:={o with k5:=k5}) (aj.ok _) hx (nC v) h' hl) hc hg ae hT ha
theorem NI(aj:iu c o.aG (cv O nm qn) ao)(hx:c.cps.size<=1000000)(a:ye c 0 e):∀B V g p,V≠gC->w7 B V g p (oq o c (cv O nm qn) ao V [(gC,ee)]) 0 fy (ib c 0 e) (HG o c (cv O nm qn) ao V [(gC,ee)] e X):=by refine cK a λ b z E=>?_;intro B V g p ay x d t hc hg ae hT ha;exact Pt aj (λ q hq=>by cases hq with|head=>exact mr ay|tail _ hq=>cases hq) (.inl rfl) (λ k5=>Đ (o:={o with k5:=k5}) (aj.ok _) z) (λ k5=>DQ (o:={o with k5:=k5}) (aj.ok _) hx (oz _) E) hc hg ae hT ha
theorem TZ(aj:iu c o.aG (cv O nm qn) ao)(a:v=c.cps.size):∀B V g p,V≠gC->B7 B V g p (HG o c (cv O nm qn) ao V [(gC,ee)] v X) dy:=by intro B V g p ay x d t hc hg ae hT ha;exact Pr aj (λ q hq=>by cases hq with|head=>exact mr ay|tail _ hq=>cases hq) (λ k5=>Ny (o:={o with k5:=k5}) (aj.ok _) a) hc hg ae hT ha
noncomputable def H4(c:cb)(v i e:Nat):Prop:=(i=v/\ye c v e)\/(i=v+1/\c.cps[v]?=Y 32/\cu c wa i=X/\i<c.cps.size/\ye c i e)
theorem UB(aj:iu c o.aG (cv O nm qn) ao)(hx:c.cps.size<=1000000)(a:H4 c v i e):ξ o c (cv O nm qn) ao gC v X i (ib c v i) (ib c i e) e X:=by
 rcases a with⟨rfl,a⟩|⟨rfl,z,E,h3,h4⟩;·exact .inl (cZ (by simp[ib]) rfl (Fg aj hx a))
 ·exact .inr (cI U (Wx aj hx z E h3) (Fg aj hx h4))
end
theorem At.new(L:At ae ah ls P f)(a:k.isFreed=X):At ae ah ((f.heap.objs.size,k)::ls) P {f with heap:=f.heap.push k}:=by
 (refine cK L.own λ az z c=>?_;obtain⟨E,h3,fS,h4,h5,h6⟩:=c);have b:∀{l:bU}{o':bV},f.heap.get? l=Y o'->(f.heap.push k).get? l=Y o':=λ M=>gF _ M;have O:(f.heap.push k).objs.size=f.heap.objs.size+1:=by simp[tQ]
 refine⟨λ l o' M=>b (L.base l o' M),cI (λ l=>az l\/l=f.heap.objs.size) (λ l M=>?_) ⟨?_,?_,fS,λ l=>?_,λ l M=>?_,?_⟩,λ l o' q1 q2=>b (L.keep l o' q1 q2),?_,L.drawn,L.os⟩;·
  rcases M with M|rfl;·exact cZ (z l M).1 (by show l<(f.heap.push k).objs.size;rw[O];exact lR (z l M).2.1) (z l M).2.2
  ·exact cZ (.inr L.size) (by show _<(f.heap.push k).objs.size;rw[O];exact nC _) (EC L.base (gz _))
 ·intro q hq;cases hq with|head=>exact kj _ a|tail _ hq=>exact b (E q hq)
 ·exact gI.mpr ⟨λ hm=>jq _ (E.lt _ hm),h3⟩
 ·show az l\/l=_↔l∈_::_\/fS l;rw[fw,h4 l];constructor;·
   rintro((q|q)|q);·exact .inl (.inr q)
   ·exact .inr q
   ·exact .inl (.inl q)
  ·rintro((q|q)|q);·exact .inr q
   ·exact .inl (.inl q)
   ·exact .inl (.inr q)
 ·intro hf;rcases fw.mp M with rfl|q;·exact jq _ (z _ ((h4 _).mpr (.inr hf))).2.1
  ·exact h5 l q hf
 ·exact h6.sub (λ g o' ha ho=>b ho) rfl
 ·show _<=(f.heap.push k).objs.size;rw[O];exact rX L.size
theorem At.seq(L:At ae ah ((g,lst r e)::ls) P f)(hf:ll C (lst r e)=lst b e'):At ae ah ((g,lst b e')::ls) P {f with heap:=f.heap.update g (ll C)}:=L.upd (rR ..) (by rw[<-hf];exact ou _ (L.has _ (.head _)) (by rw[hf];rfl)) rfl rfl rfl
section
variable{ae f:cc}{ah:AP}{ls:List (bU×bV)}{P:GP}{s:cR}{aw:VS}{V:VS}{aC:bU}{O:Nat}{nm qn:bX}
theorem Uc(aC:bU)(O:Nat)(nm qn:bX):jX [(aC,cv O nm qn)] W 20 500 (sG (R aC)) [1,1,0,1,0,1] (R aC):=kA
theorem Qd(J:cj 30 W s)(L:At ae ah ((aC,cv O nm qn)::ls) P f)(G:∀aj n,At ae ah ((aj,lst [] 2)::(aC,cv O nm qn)::ls) P n->dQ (bZ bY w) s.in1 (.builtin "list.extend.loop" ⟨[R aj,R aC, .none],[]⟩) (wants (λ d aJ=>d= .none/\V (R aj) aJ) aw) n):cm (bZ bY w) s (tO (T "list") [R aC]) V aw f:=by
 refine callType_codes (Q₁:=λ c au=>c=R f.heap.objs.size/\au={f with heap:=f.heap.push {cls:=T "list",data:= .seq #[]}}) F.called_list (F.typeCall_list_1 _) F.entry_list_init (code_list_new _ ⟨rfl,rfl⟩) λ c au x=>?_;(refine eA x λ g l=>?_;subst g;subst l);have Q:({cls:=T "list",data:= .seq #[]}:bV)=lst [] 0:=by unfold lst;rw[<-tS]
 have hS:(f.heap.push {cls:=T "list",data:= .seq #[]}).get? f.heap.objs.size=Y {cls:=T "list",data:= .seq #[]}:=kj _ rfl;have X0:At ae ah ((f.heap.objs.size,lst [] 0)::(aC,cv O nm qn)::ls) P {f with heap:=f.heap.push {cls:=T "list",data:= .seq #[]}}:=by rw[Q];exact L.new rfl
 refine(cZ (cI _ hS rfl) (F.args_list_init_2 _ _) ?_);generalize f.heap.objs.size=aj at X0;generalize({f with heap:=f.heap.push {cls:=T "list",data:= .seq #[]}}:cc)=au at X0;have ay:aj≠aC:=by(refine cK X0.own λ _ _ i=>?_;obtain⟨_,h3,_⟩:=i);exact λ e=>(gI.mp h3).1 (by rw[e];exact .head _)
 have b:∀{n:cc}{r:List bX}{e:Nat},At ae ah ((aj,lst r e)::(aC,cv O nm qn)::ls) P n->n.heap.get? aj=Y (lst r e):=λ L=>L.has _ (.head _);show cm _ s.in1.in1 (do
  let ax<-ñ (R aj)
  b80 (R aj) (λ j=>#[])
  letGo ax.toList.reverse
  zk (R aj) (R aC) .none) _ _ au;refine cJ ?_;unfold ñ;refine cJ (Lm (b X0) rfl (ed ?_));show cm _ s.in1.in1 (zV aj (λ j=>#[])>>=λ j=>letGo ([]:List bX).reverse>>=λ j=>zk (R aj) (R aC) .none) _ _ au;refine cJ (zx (b X0) rfl ?_);have X1:=X0.seq (C:=λ j=>(#[]:Array bX)) (b:=[]) (e':=0) rfl;refine cJ (ą ?_);unfold zk;have hT:∀{n:cc}{r:List bX}{e:Nat},At ae ah ((aj,lst r e)::(aC,cv O nm qn)::ls) P n->n.TypeIs (R aC) "generator" :=λ L=>by have a:=L.has (aC,cv O nm qn) (.tail _ (.head _));refine x_ (lp a) λ k _ _ z E _=>?_;exact cI k z E
 refine cJ (þ (hT X1) ?_);have z:î (R aj) (R aC)=X:=by simp[î,ay]
 have E:(T "generator" ==T "list")=X:=⋯
 have h3:(T "generator" ==T "tuple")=X:=⋯
 simp only[z,E,h3,D9,õ,if_false];rw[qJ];have A2:cj 20 W s.in1.in1:=cj.in1 (cj.in1 (J.less ⋯));have t:At ae ah ([(aC,cv O nm qn)]++((aj,lst [] 0)::ls)) P _:=X1.perm (qD _ _ _);refine cJ (mR A2 t.push _ 500 _ (R aC) (Uc aC O nm qn) λ aJ aR=>?_);have X2:At ae ah ((aj,lst [] 0)::(aC,cv O nm qn)::ls) P aJ:=aR.pull.perm (qD _ _ _);refine cJ (qE ?_);unfold Ke;refine cJ (CN (hT X2) F.gen_no_len ?_);show cm _ s.in1.in1 (specialOf (R aC) (gj "__length_hint__")>>=_) _ _ _;refine cJ (CN (hT X2) F.gen_no_hint ?_);refine ed ?_;show cm _ s.in1.in1 (q8 "list.extend.makes-room" >>=λ j=>b81 (R aj)>>=λ j=>again (.builtin "list.extend.loop" ⟨[R aj,R aC, .none],[]⟩)) _ _ _;refine cJ (v8 ?_);refine cJ ?_;show cm _ s.in1.in1 (zV aj (·.push .none)>>=λ j=>zV aj (·.pop)) _ _ _;refine cJ (zx (b X2) rfl ?_);have X3:=X2.seq (C:=(·.push jt)) (b:=[.none]) (e':=1) rfl;refine zx (hz:=by seq_fits) (b X3) rfl ?_;have H:=X3.seq (C:=(·.pop)) (b:=[]) (e':=2) rfl;exact ed ⟨zF rU _,G aj _ H⟩
end
structure fY where
 k:Nat
 v:cb
 sv:cb
 fi:Bool
structure jb where
 dl:bU
 loc:bU
 td:bU
 tk:bU
 tn:cp
 t1:cp
 t2:cp
 tv:cp
 tt:cp
 st:cp
 k1:Ht
 k2:Ht
noncomputable def lK(u:fY)(t:jb):List (bU×bV):=rM t.dl t.loc t.td t.tk u.k t.tn t.t1 t.t2 t.tv t.tt t.st u.v u.sv u.fi t.k1 t.k2
noncomputable def eN:List fY->List jb->List (bU×bV)|u::r,t::ys=>lK u t++eN r ys|_,_=>[]
noncomputable def f3(ys:List jb):List bX:=ys.map λ t=>R t.tk
noncomputable def oP(c:cb):Nat->Bool->List fY->Prop|v,_,[]=>v=c.cps.size|v,A,u::r=>∃e,H4 c v u.k e/\u.v=ib c u.k e/\u.sv=ib c v u.k/\u.fi=A/\oP c e X r
noncomputable def XT(aC:bU)(O:Nat)(nm qn:bX)(P:GP)(u:fY)(r:GP):Prop:=∀{x:FA}{d:Rc}{jC:Nat},d.c= .call (.builtin "generator.__next__") ⟨[R aC],[]⟩->d.gh=P->d.sm=vV u.k u.v u.sv u.fi r->d.T.get jC=Y (cv O nm qn)->x jC=aC->cy x d
section
variable{ae:cc}{ah:AP}{ax:RS}{s:cR}{aC:bU}{O:Nat}{nm qn:bX}{c:cb}{i:Nat}{m g:bX}{ao:iH}{o:dz}{aj:bU}
theorem Eu(J:cj 600 W s)(aX:XT aC O nm qn P u r)(hl:b.length<=100)(L:At ae ah ((aj,lst b e)::(aC,cv O nm qn)::tp) P f)(G:∀(t:jb)n,At ae ah ((aj,lst (b++[R t.tk]) (e+1))::(aC,cv O nm qn)::(tp++lK u t)) r n->dQ (bZ bY w) s (.builtin "list.extend.loop" ⟨[R aj,R aC, .none],[]⟩) ax n):dQ (bZ bY w) s (.builtin "list.extend.loop" ⟨[R aj,R aC, .none],[]⟩) ax f:=by refine uS zl ?_;rw[uQ rU _];show cm _ s.in1 (oO (R aC)>>=_) _ _ f;rw[mw];have A1:cj 595 W s.in1:=cj.in1 (J.less ⋯);have X1:At ae ah ([(aC,cv O nm qn)]++((aj,lst b e)::tp)) P f:=L.perm (qD _ _ _);refine cJ (vN A1 X1.push _ 1000 (nd 16 2 0x21) [sR 0 aC (cv O nm qn) (Fr ((aj,lst b e)::tp) P) (vV u.k u.v u.sv u.fi (Fr ((aj,lst b e)::tp) r)) λ x q z E h3 h4 h5=>by obtain⟨B,T',H,l,sm⟩:=q;cases z;cases E;cases h3;exact cy.xy (aX (d:=⟨_,T',H,P,vV u.k u.v u.sv u.fi r⟩) (jC:=0) rfl rfl rfl h4 h5)] [0,1,2,3,4] (Fr ((aj,lst b e)::tp) r) (λ d j j=>Y (R (d 3))) (λ d p j=>[cv O nm qn,df [] 0,eB (d 0) (u.k+1) (p 0).t (p 1).t (p 2).t,lb ⟨(p 5).h,(p 5).t⟩ ⟨(p 6).h,(p 6).t⟩ u.sv (p 7).t u.fi,iX (d 2) (jZ (S fy (p 4).t) (S u.v (p 3).t) (d 1))]) ⋯ λ au d p k aR=>?_);let t:jb:=⟨d 0,d 1,d 2,d 3,(p 0).t,(p 1).t,(p 2).t,(p 3).t,(p 4).t,(p 7).t,⟨(p 5).h,(p 5).t⟩,⟨(p 6).h,(p 6).t⟩⟩;have X2:At ae ah ((aC,cv O nm qn)::(lK u t++((aj,lst b e)::tp))) r au:=aR.pull;have X3:At ae ah ((aj,lst b e)::(aC,cv O nm qn)::(tp++lK u t)) r au:=X2.pm [[(aC,cv O nm qn)],lK u t,[(aj,lst b e)],tp] [2,0,3,1];show cm _ s.in1 (zV aj (·.push (R (d 3)))>>=_) _ _ au;refine cJ ?_;refine zx (X3.has _ (.head _)) rfl (ed ⟨zF rU _,G t _ (X3.seq (C:=(·.push (R (d 3)))) (b:=b++[R (d 3)]) (e':=e+1) ?_)⟩) (by show b.toArray.size<=_;rw[KX];exact dZ hl ⋯) (by show(b.toArray.push _).size<=_;rw[Array.size_push,KX];exact dZ (L5 hl) ⋯);show(⟨T uj,W, .seq (Array.push ⟨b⟩ _) _,#[]⟩:bV)=lst _ _;unfold lst;simp
theorem QI(J:cj 600 W s)(aX:∀{x:FA}{d:Rc}{jC:Nat},d.c= .call (.builtin "generator.__next__") ⟨[R aC],[]⟩->d.gh=P->d.sm=pI 591 dy->d.T.get jC=Y (cv O nm qn)->x jC=aC->cy x d)(L:At ae ah ((aj,lst b e)::(aC,cv O nm qn)::tp) P f)(G:∀n,At ae ah ((aj,lst b e)::(aC,cv O nm qn)::tp) dy n->ax (.ok (.ret .none)) n):dQ (bZ bY w) s (.builtin "list.extend.loop" ⟨[R aj,R aC, .none],[]⟩) ax f:=by refine uS zl ?_;rw[uQ rU _];show cm _ s.in1 (oO (R aC)>>=_) _ _ f;rw[mw];have A1:cj 595 W s.in1:=cj.in1 (J.less ⋯);have X1:At ae ah ([(aC,cv O nm qn)]++((aj,lst b e)::tp)) P f:=L.perm (qD _ _ _);refine cJ (vN A1 X1.push _ 1000 (nd 16 3 0x321) [sR 0 aC (cv O nm qn) (Fr ((aj,lst b e)::tp) P) (pI 591 (Fr ((aj,lst b e)::tp) dy)) λ x q z E h3 h4 h5=>by obtain⟨B,T',H,l,sm⟩:=q;cases z;cases E;cases h3;exact cy.xy (aX (d:=⟨_,T',H,P,pI 591 dy⟩) (jC:=0) rfl rfl rfl h4 h5)] [0] (Fr ((aj,lst b e)::tp) dy) (λ j j j=>W) (λ j j j=>[cv O nm qn]) ⋯ λ au d p k aR=>?_);exact ed (G au (aR.pull.perm (qD _ _ _)))
theorem Ew(J:cj 600 W s)(Sf:iu c o.aG (cv i m g) ao)(hx:c.cps.size<=1000000):∀(r:List fY)(v:Nat)(f:cc)(b:List bX)(e:Nat)(tp:List (bU×bV)),oP c v X r->b.length+r.length<=100->At ae ah ((aj,lst b e)::(aC,cv O nm qn)::tp) (CG o c (cv i m g) ao O v X) f->(∀n(ys:List jb),ys.length=r.length->At ae ah ((aj,lst (b++f3 ys) (e+r.length))::(aC,cv O nm qn)::(tp++eN r ys)) dy n->ax (.ok (.ret .none)) n)->dQ (bZ bY w) s (.builtin "list.extend.loop" ⟨[R aj,R aC, .none],[]⟩) ax f
 |[],v,f,b,e,tp,hC,hl,L,G=>by refine QI J (λ z E h3 h4 h5=>Py Sf (TZ Sf hC) z E h3 h4 h5) L λ n X'=>?_;have e1:b++f3 []=b:=md _;have e2:tp++eN [] []=tp:=md _;exact G n [] rfl (by rw[e1,e2];exact X')
 |u::r,v,f,b,e,tp,⟨i',z,E,h3,h4,h5⟩,hl,L,G=>by
  rw[ma]at hl;refine Eu J (u:=u) (r:=CG o c (cv i m g) ao O i' X) (λ q1 q2 q3 q4 q5=>?_) (gB hl) L λ t n X'=>?_;·rw[E,h3,h4]at q3;exact Px Sf (UB Sf hx z) q1 q2 q3 q4 q5
  ·refine Ew J Sf hx r i' n _ _ _ h5 (by rw[qy,ò];exact gB hl) X' λ aK ys hy d=>?_;refine G aK (t::ys) (by rw[ma,ma,hy]) ?_;have e1:b++f3 (t::ys)=b++[R t.tk]++f3 ys:=by simp[f3]
   have e2:tp++eN (u::r) (t::ys)=tp++lK u t++eN r ys:=by simp[eN]
   rw[e1,e2,ma,show e+(r.length+1)=e+1+r.length from by simp+arith only];exact d
theorem QJ(J:cj 600 W s)(Sf:iu c o.aG (cv i m g) ao)(hx:c.cps.size<=1000000)(hC:oP c 0 U (u::r))(hl:r.length<=90)(hk:u.k=0)(L:At ae ah ((aj,lst [] e)::(aC,cv O nm qn)::tp) (qx o c (cv i m g) ao O) f)(G:∀n(ys:List jb),ys.length=r.length+1->At ae ah ((aj,lst (f3 ys) (e+r.length+1))::(aC,cv O nm qn)::(tp++eN (u::r) ys)) dy n->ax (.ok (.ret .none)) n):dQ (bZ bY w) s (.builtin "list.extend.loop" ⟨[R aj,R aC, .none],[]⟩) ax f:=by
 refine GN hC λ i' z E h3 h4 h5=>?_;rcases z with⟨_,p⟩|⟨a,_⟩;·
  refine Eu J (u:=u) (r:=CG o c (cv i m g) ao O i' X) (λ q1 q2 q3 q4 q5=>?_) (oz _) L λ t n X'=>?_;·rw[hk]at E h3;rw[E,h3,h4,hk]at q3;exact Pz Sf (NI Sf hx p) q1 q2 q3 q4 q5
  ·refine Ew J Sf hx r i' n _ _ _ h5 (by rw[qy,ò];simp only[CR];exact gB hl) X' λ aK ys hy d=>?_;refine G aK (t::ys) (by rw[ma,hy]) ?_;have e1:f3 (t::ys)=[]++[R t.tk]++f3 ys:=by simp[f3]
   have e2:tp++eN (u::r) (t::ys)=tp++lK u t++eN r ys:=by simp[eN]
   rw[e1,e2,show e+r.length+1=e+1+r.length from by simp+arith only];exact d
 ·lia
end
noncomputable def iI:List dd:=fP (d9 365).body
noncomputable def il:Expr:=yq ((iI).headD default)
noncomputable def iE(A:bU):di:=dq 365 A
noncomputable def z7(a:bU)(k1 k2:Ht)(t m:bU)(e:Nat):bV:=ly [⟨k1.h,S ui k1.t,R t⟩,⟨k2.h,S (bW #[99,111,112,116,105,111,110,115]) k2.t,R m⟩] e
noncomputable def mK:Expr:=w4 (fnOf il)
noncomputable def Ŷ(aq:di):List (Bool×cD bX):=(jw il).map λ e=>(X,dO e aq)
noncomputable def iMc(A H:bU):cD bX:=Ý mK mo (kC (fnOf il)) (eO il) (iE A) (R H) 0 (Ŷ (iE A)) []
noncomputable def Hs(b:dz):bV:=df [⟨b.k1.h,S (bW #[116,111,107,101,110,95,98,117,102,102,101,114]) b.k1.t,R b.fe⟩,⟨b.k2.h,S (bW #[112,117,115,104,101,100,95,98,97,99,107]) b.k2.t,R b.fN⟩,⟨b.k3.h,S (bW #[99,117,114,114,101,110,116,95,116,101,120,116]) b.k3.t,R b.er⟩] 3
noncomputable def I4(jD:Nat)(y t m:bU):Sm:=⟨300,3,4,λ j j=> .ok (.ret .none),λ g af=>[(jD,lH ⟨t,y,g 0,g 1,g 2,m,0,⟨(af 0).h,(af 0).t⟩,⟨(af 1).h,(af 1).t⟩,⟨(af 2).h,(af 2).t⟩,⟨(af 3).h,(af 3).t⟩,⟨0,0⟩⟩)],λ j j=>[lst [] 0,lst [] 0,lst [] 0],W⟩
theorem TS:il= .Call (.Attribute (.Call (.Name "super" (l7 (fnOf mK))) [] [] (eO mK)) mo (kC (fnOf il))) (jw il) [] (eO il):=⋯
theorem Wv:iI= .Expr il (match(iI).headD default with| .Expr _ u=>u|_=>default)::(iI).tail:=⋯
theorem TR:mK= .Call (.Name "super" (l7 (fnOf mK))) [] [] (eO mK):=⋯
theorem NH(aq:di):pM (eO il) (oI (jw il) aq)=Ŷ aq:=by unfold Ŷ;rw[<-fO];kernel_rfl
theorem PC:yc Ÿ 460 460 222 mo:=ğ ⋯ ⋯ ⋯ ⋯
theorem TQ(g:bU):Dn (iE g)=X:=⋯
theorem Wu(g:bU):ĕ il W (match(iI).headD default with| .Expr _ u=>u|_=>default:dK).line (iE g)=pure X:=⋯
noncomputable def iL(t y:bU):List bU:=[t,y]
noncomputable def iO(y:bU):List bV:=[inst 460 y,df [] 0]
structure è where
 a:bU
 k1:Ht
 k2:Ht
section
variable(a:è)(t y m:bU)(o:dz)
noncomputable def iP(b:bV):List (bU×bV):=[(a.a,z7 a.a a.k1 a.k2 t m 2),(t,inst 460 y),(y,b)]
noncomputable def iK(kk:HK)(g:bU):è:=⟨g,kk 0,kk 1⟩
theorem b14:i7 365 ⟨[R t,R m],[]⟩ 290 [1,3,3,3,3] (λ kk=>z7 0 (kk 0) (kk 1) t m 2) [(t,inst 460 y),(y,df [] 0)]:=by unfold i7;kernel_rfl
theorem b13:U' 365 (iE a.a) (iP a t y m (df [] 0)) 460 t 4=T_ 365 (iE a.a) (iP a t y m (df [] 0)) 460 t 460 4:=⋯
noncomputable def Xz:List Nat:=nd 16 82 0x3330200000202002000000263330200000202002000000263330200000202002000000266615005244
noncomputable def iM(H:bU):List (bU×bV):=iP a t y m (df [] 0)++[(H,nT 460 t 460)]
noncomputable def Xy:List Nat:=nd 16 25 0x3330200000202002000000211
end
noncomputable def d4h(g l B af:Ht):FD:=λ i=>match i with|0=>⟨g.t,default,[],g.h⟩|1=>⟨l.t,default,[],l.h⟩|2=>⟨B.t,default,[],B.h⟩|_=>⟨af.t,default,[],af.h⟩
section
variable{x:FA}{t y m:bU}{jL jD:Nat}
theorem Qe{A1:cR}{ax:RS}{aw:VS}{ae aM:cc}{ah:AP}{P:GP}{a:è}{o:dz}(g:cj 200 W A1)(aY:At ae ah (iP a o.aL o.aD o.aO (Hs o)++[(o.fe,lst [] 0),(o.fN,lst [] 0),(o.er,lst [] 0)]) P aM)(G:∀k4 aK,At ae ah ([(o.aL,inst 460 o.aD),(o.aD,lH {o with k4:=k4})]++[(o.fe,lst [] 0),(o.fN,lst [] 0),(o.er,lst [] 0)]) P aK->ax (.ok (.ret .none)) aK):cm (bZ bY w) A1 (dj (iI).tail (iE a.a)) (λ fl aJ=>ax (.ok (.ret (match fl with| .ret b=>b|_=> .none))) aJ) aw aM:=by rw[i2];exact gY g aY.push _ 2000 Xy [] [1,2] (λ j j j=> .next) (λ j j k=>[inst 460 o.aD,lH {o with k4:=⟨(d5 k.2.T 2 3).h,(d5 k.2.T 2 3).t⟩}]) ⋯ λ aK d p k aZ=>G _ aK aZ.pull
theorem LX(hc:d.c= .call (R 365) ⟨[R t,R m],[]⟩)(ae:d.sm=I4 jD y t m)(aa:eH x d [(jL,t,inst 460 y),(jD,y,df [] 0)])(hd:[jL,jD].Nodup):cy x d:=by
 refine Eg ae aa hd λ s ax f J G X0=>?_;rw[hc];refine At.enter (v:=290) (aj:=iI) (i:=iE) J X0 (b14 t y m) λ A kk au j n X1=>?_;obtain⟨a,rfl,p⟩:∃a:è,A=a.a/\z7 0 (kk 0) (kk 1) t m 2=z7 a.a a.k1 a.k2 t m 2:=(cI (iK kk A) rfl rfl);rw[p]at X1;have L:At f _ (iP a t y m (df [] 0)) (λ j c=>c.gens=f.gens) au:=X1;have i:cj 100 W (s.under (.func iI (iE a.a))):=n.less ⋯;have g:cj 200 W (s.under (.func iI (iE a.a))):=n.less ⋯;generalize s.under (.func iI (iE a.a))=A1 at i g;have e1:dj iI (iE a.a)=dj (.Expr il (match(iI).headD default with| .Expr _ u=>u|_=>default)::(iI).tail) (iE a.a):=congrArg (λ r=>dj r (iE a.a)) Wv;rw[e1];refine KH (L3 ?_ (TQ _) (Wu _));have e2:gr il (iE a.a)=(zG (.Call (.Name "super" (l7 (fnOf mK))) [] [] (eO mK)) mo (iE a.a) (gr (.Call (.Name "super" (l7 (fnOf mK))) [] [] (eO mK)) (iE a.a))>>=λ l=>qN (kC (fnOf il)).atName>>=λ j=>vb (.Call (.Name "super" (l7 (fnOf mK))) [] [] (eO mK)) mo (kC (fnOf il)) (eO il) (iE a.a) l ((jw il).length+([]:List tZ).length) (pM (eO il) (oI (jw il) (iE a.a))) (vk (eO il) (uZ [] (iE a.a)))):=(congrArg (λ e=>gr e (iE a.a)) TS).trans (D5 _ _ _ _ _ _ _);rw[e2];refine zw (ŏ i rfl L (b13 a t y m) λ aJ H aR=>?_);refine kQ (cJ (pC ?_));have e3:vb (.Call (.Name "super" (l7 (fnOf mK))) [] [] (eO mK)) mo (kC (fnOf il)) (eO il) (iE a.a) (R H) ((jw il).length+([]:List tZ).length) (pM (eO il) (oI (jw il) (iE a.a))) (vk (eO il) (uZ [] (iE a.a)))=iMc a.a H:=by rw[NH,Ř,<-TR];kernel_rfl
 rw[e3];refine gY (l1:=iM a t y m H) g aR _ 2000 Xz [qA "super.__getattribute__" 3 H (λ q=>[R H,S mo (pL q.c)]) (λ j=>nT 460 t 460) (E_ 222 t) λ j j z E h3 h4=>ĝ (r:=iQ 602) (aX:=460) (e:=460) (C:=222) (H:=H) (c:=t) (g:=mo) (b:=3) PC z E h3 h4 (L.kt (.tail _ (.head _)))] [0,1,2,6,7,8] (λ j j j=> .none) (λ d j k=>[z7 a.a a.k1 a.k2 t m 2,inst 460 y,Hs ⟨t,y,d 2,d 3,d 4,m,0,⟨(d5 k.2.T 2 0).h,(d5 k.2.T 2 0).t⟩,⟨(d5 k.2.T 2 1).h,(d5 k.2.T 2 1).t⟩,⟨(d5 k.2.T 2 2).h,(d5 k.2.T 2 2).t⟩,⟨0,0⟩,⟨0,0⟩⟩,lst [] 0,lst [] 0,lst [] 0]) ⋯ λ aM r2 ak o2 aY=>?_;let o:dz:=⟨t,y,r2 2,r2 3,r2 4,m,0,⟨(d5 o2.2.T 2 0).h,(d5 o2.2.T 2 0).t⟩,⟨(d5 o2.2.T 2 1).h,(d5 o2.2.T 2 1).t⟩,⟨(d5 o2.2.T 2 2).h,(d5 o2.2.T 2 2).t⟩,⟨0,0⟩,⟨0,0⟩⟩;refine kQ (Qe (o:=o) g aY λ k4 aK aZ=>?_);exact G (aN [r2 2,r2 3,r2 4]) (d4h o.k1 o.k2 o.k3 k4) [W,Y (lH {o with k4:=k4})] [(r2 2,lst [] 0),(r2 3,lst [] 0),(r2 4,lst [] 0)] aK aZ rfl rfl rfl
end
theorem b17(c:cb)(D:cp):qR 342 ⟨[S c D],[]⟩ (yY c D):=by unfold qR;kernel_rfl
noncomputable def Æ(b a:bU):List (cb×bX):=[(bW #[102],R b),(bW #[115,111,117,114,99,101,95,102,105,108,101],R a)]
theorem WR(b a:bU):qR 335 ⟨[R b,R a],[]⟩ (Æ b a):=by unfold qR;kernel_rfl
noncomputable def xS:List dd:=fP (d9 349).body
noncomputable def xE(A:bU):di:=dq 349 A
noncomputable def Hj:dd->Expr| .Return (Y e) _=>e|_=>default
noncomputable def xC:Expr:=Hj ((xS).getD 1 default)
noncomputable def xA:Expr:=(jw xC).headD default
structure tz where
 a:bU
 k1:Ht
 k2:Ht
 k3:Ht
 x:cb
 t:cp
 aO:bU
noncomputable def P_(a:tz):bV:=ly [⟨a.k1.h,S (bW #[116,101,120,116]) a.k1.t,S a.x a.t⟩,⟨a.k2.h,S (bW #[99,111,112,116,105,111,110,115]) a.k2.t,R a.aO⟩] 2
noncomputable def qY(a:tz)(t:bU):bV:=ly [⟨a.k1.h,S (bW #[116,101,120,116]) a.k1.t,S a.x a.t⟩,⟨a.k2.h,S (bW #[99,111,112,116,105,111,110,115]) a.k2.t,R a.aO⟩,⟨a.k3.h,S (bW #[108,101,120,101,114]) a.k3.t,R t⟩] 3
noncomputable def JA(Q:BT)(y i:Nat):cp:=match Q.get y with
 |Y k=>match k.data with
  | .dict b _=>match b.toList[i]? with
   |Y e=>match e.val with| .int _ D=>D|_=>0
   |W=>0
  |_=>0
 |W=>0
section
variable(a:tz)(o:dz)
noncomputable def x1P:List (bU×bV):=[(a.a,P_ a)]
noncomputable def x2P:List (bU×bV):=[(a.a,qY a o.aL),(o.aL,inst 460 o.aD),(o.aD,lH o)]
noncomputable def Xu:List Nat:=nd 16 157 0x2043200002000002000002444442044044777080008080080000897770800080800800008999999100008080000000000000000000000000000000004044442040444410132000020000020000021
noncomputable def Bf(ak:List (bU×bV)):Nat->bU->GP:=λ O g=>Fr ak (dW [(O,gA (kK g))])
noncomputable def Be(ak:List (bU×bV))(gL:Nat)(t:bU):Nat->bU->GP:=λ O g=>Fr ak (dW [(O,gA (qq g)),(gL,gA (kK t))])
noncomputable def Bd(ak:List (bU×bV))(gL:Nat)(t:bU)(i:Nat)(p:bU):Nat->bU->GP:=λ O g=>Fr ak (dW [(O,gA (cC g)),(i,gA (qq p)),(gL,gA (kK t))])
end
theorem CL(ak:uu)(v:Ctx)(aq:di)(l2:List dd)(V:gK->dK->cc->Prop)(aw:bX->dK->cc->Prop):∀(l1:List dd)(u:dK)(f:cc),xN ak v (dj l1 aq) (λ C p' n=>match C with| .next=>xN ak v (dj l2 aq) V aw p' n|C=>V C p' n) aw u f->xN ak v (dj (l1++l2) aq) V aw u f|[],u,f,a=>by have e:dj [] aq=pure .next:=rfl;rw[e,Sem.wp_pure']at a;exact a|st::d,u,f,a=>by rw[CK,qH,LF];rw[qH,LF]at a;refine Ds ak v _ (λ C p' n h'=>?_) (λ j j j h'=>h') _ _ a;cases C with|next=>exact CL ak v aq l2 V aw d p' n h'|_=>exact h'
section
variable{ak:uu}{s:cR}{aw:VS}{f:cc}{aq:di}
theorem mU(a:cm ak s (fZ l1 aq) (λ C n=>C= .next/\cm ak s (dj l2 aq) V aw n) aw f):cm ak s (dj (l1++l2) aq) V aw f:=by rw[<-i2]at a;intro v u Q;refine CL ak v aq l2 _ _ l1 u f ?_;refine Ds ak v _ (λ C p' n h'=>?_) (λ j j j h'=>h') _ _ (a v u Q);obtain⟨rfl,E⟩:=h';exact E v p' Q
theorem ŧ(a:cm ak s (gr e aq) (λ b n=>V (.ret b) n) aw f):cm ak s (dj [.Return (Y e) o] aq) V aw f:=by rw[qH,exec_Return_some];refine cJ (cJ (pC (cJ (kS a (λ b n h'=>ed (ed h')) λ j j a=>a))))
end
theorem At.join(L:At f (λ l=>l∈([]:List bU)) ls (λ j c=>c.gens=f.gens) au)(ah:∀l,fp l->l<f.heap.objs.size/\dp.get l=W)(hC:dD fp P f):At f fp ls P au:=by
 (refine cK L.own λ az z a=>?_;obtain⟨E,h3,fS,h4,h5,h6⟩:=a);have hg:au.gens=f.gens:=h6.now;have ay:∀l∈cz ls,f.heap.objs.size<=l:=λ l M=>(z l ((h4 l).mpr (.inl M))).1.resolve_left λ q=>(nomatch q);refine⟨L.base,cI (λ l=>l∈cz ls\/fp l) (λ l M=>?_) ⟨E,h3,fp,λ l=>ua,λ l M hf=>jq _ (fm (ah l hf).1 (ay l M)),?_⟩,λ l k q1 j=>L.keep l k q1 (λ q=>(nomatch q)),L.size,L.drawn,L.os⟩;·
  rcases M with M|M;·exact⟨.inr (ay l M),(z l ((h4 l).mpr (.inl M))).2⟩
  ·exact cZ (.inl M) (fm (ah l M).1 L.size) (ah l M).2
 ·exact hC.sub (λ g k ha ho=>L.keep g k ho (λ q=>(nomatch q))) hg
theorem dy.at(L:At ae ah ls dy f):∃ps,jV ps/\At ae ah (ls++[(246,dm ps)]) (dW []) f:=by(refine cK L.own λ az z b=>?_;obtain⟨E,h3,fS,h4,h5,h6⟩:=b);obtain⟨ps,k1,k2⟩:=h6.now;refine(cI ps k1 (At.pull (l1:=ls) (l2:=[(246,dm ps)]) ⟨L.base,cI az z ⟨E,h3,fS,h4,h5,?_⟩,L.keep,L.size,L.drawn,L.os⟩));exact Fr.eF (k2.gen (λ j j j a=>a) λ f' j h'=>dW.eF ⟨⟨h'.now,λ q hq=>(nomatch hq)⟩,pB⟩)
theorem Vd:xS=(xS).take 1++[.Return (Y xC) (match(xS).getD 1 default with| .Return _ u=>u|_=>default)]:=⋯
noncomputable def Ų:Expr->dK| .Name _ u=>u|_=>default
theorem Ve:xC= .Call (.Name "list" (Ų (fnOf xC))) [xA] [] (eO xC):=⋯
theorem P8(aq:di):oI [xA] aq=[(X,gr xA aq)]:=⋯
section
variable(b1:Bool)(a:tz)(c:cb)(D:cp)(m t:bU)
noncomputable def Bg(kk:HK)(g:bU):tz:=⟨g,kk 0,kk 1,⟨0,0⟩,c,D,m⟩
theorem XU:i7 349 ⟨[S c D,R m],[]⟩ 620 [1,1,1,1,1] (λ kk=>P_ (Bg c D m kk 0)) []:=by unfold i7;kernel_rfl
theorem RU:jX [(a.a,qY a t)] W 100 1000 (dO (.Name "list" (Ų (fnOf xC))) (xE a.a)) [0,0] (T uj):=kA
end
theorem dW.perm(a:dW ai C f)(u:ai.Perm G):dW G C f:=⟨⟨a.1.1,λ q hq=>a.1.2 q (u.mem_iff.mpr hq)⟩,(u.map _).nodup_iff.mp a.2⟩
theorem ľ{V:eY->Prop}(hC:dD fp (Fr ak (dW ai)) f)(hk:∀g k,fp g->f.heap.get? g=Y k->n.heap.get? g=Y k)(hg:n.gens=f.gens.push t)(hy:V t)(M:t.bare=U:=by rfl):dD fp (Fr ak (dW ((f.gens.size,V)::ai))) n:=Fr.eF (hC.now.gen hk λ j j a=>dW.push a.now hy hg M)
section
variable{c:cb}{D:cp}{m:bU}
theorem Eo(J:cj 635 W s)(M:Base f.heap)(ah:∀l,fp l->l<f.heap.objs.size/\dp.get l=W)(hC:dD fp dy f)(G:∀(a:tz)(aj aC:bU)(gC:Nat)(aX aU:bX)(o:dz)(O:Nat)(b6 b8:bX)(n:cc),At f fp ((aj,lst [] 2)::(aC,cv gC aX aU)::[(a.a,qY a o.aL)]) (qx o c (cv O b6 b8) (fU c O) gC) n->dQ (bZ bY w) (s.under (.func xS (xE a.a))).in1 (.builtin "list.extend.loop" ⟨[R aj,R aC, .none],[]⟩) (wants (λ b aJ=>b= .none/\ax (.ok (.ret (R aj))) aJ) (λ e aJ=>cm (bZ bY w) (s.under (.func xS (xE a.a))) (pH (xE a.a) e) (λ q aM=>ax (.error e) aM) (λ q q=>False) aJ)) n):dQ (bZ bY w) s (.call (R 349) ⟨[S c D,R m],[]⟩) ax f:=by refine At.enter (v:=620) (aj:=xS) (i:=xE) (J.less ⋯) (At.zero M ah hC) (XU c D m) λ A kk au q A0 X0=>?_;obtain⟨a,hh,hx,hs⟩:∃a:tz,a.a=A/\a.x=c/\P_ (Bg c D m kk 0)=P_ a:=(gn (Bg c D m kk A) rfl rfl rfl);rw[hs]at X0;subst hh;refine cK (dy.at X0) λ ps aw X1=>?_;have A1:cj 320 W (s.under (.func xS (xE a.a))):=A0.less ⋯;have A2:cj 100 W (s.under (.func xS (xE a.a))):=A0.less ⋯;refine kQ ?_;have Q:dj xS (xE a.a)=dj ((xS).take 1++[.Return (Y xC) (match(xS).getD 1 default with| .Return _ u=>u|_=>default)]) (xE a.a):=congrArg (λ r=>dj r (xE a.a)) Vd;rw[Q];refine mU ?_;have t:At f fp (x1P a) (Fr [(246,dm ps)] (dW [])) au:=X1.push;refine gY A1 t _ 2000 (nd 16 45 0x112000030300000000000000000000000000000000010) [qP [2,1] (λ x=>[(x 2,inst 460 (x 1)),(x 1,df [] 0)]) (λ x j=> .call (R 365) ⟨[R (x 2),R a.aO],[]⟩) (λ x=>I4 1 (x 1) (x 2) a.aO) λ j j z E h3=>LX z E h3 ⋯] [0,2,1,3,4,5] (λ j j j=> .next) (λ d p k=>[qY {a with k3:=⟨(d5 k.2.T 0 2).h,(d5 k.2.T 0 2).t⟩} (d 1),inst 460 (d 0),lH ⟨d 1,d 0,d 2,d 3,d 4,a.aO,0,⟨(p 0).h,(p 0).t⟩,⟨(p 1).h,(p 1).t⟩,⟨(p 2).h,(p 2).t⟩,⟨(p 3).h,(p 3).t⟩,⟨0,0⟩⟩,lst [] 0,lst [] 0,lst [] 0]) ⋯ λ aJ r1 F o1 aR=>⟨rfl,?_⟩;let o:dz:=⟨r1 1,r1 0,r1 2,r1 3,r1 4,a.aO,0,⟨(F 0).h,(F 0).t⟩,⟨(F 1).h,(F 1).t⟩,⟨(F 2).h,(F 2).t⟩,⟨(F 3).h,(F 3).t⟩,⟨0,0⟩⟩;let h':tz:={a with k3:=⟨(d5 o1.2.T 0 2).h,(d5 o1.2.T 0 2).t⟩};have af:h'.x=c:=hx;refine ŧ ?_;have e1:gr xC (xE h'.a)=gr (.Call (.Name "list" (Ų (fnOf xC))) [xA] [] (eO xC)) (xE h'.a):=congrArg (λ e=>gr e (xE h'.a)) Ve;rw[e1];refine PySem.Call_name1 (P8 _) ?_;rw[fO];have b3:At f fp ([(h'.a,qY h' o.aL)]++([(o.aL,inst 460 o.aD),(o.aD,lH o),(o.fe,lst [] 0),(o.fN,lst [] 0),(o.er,lst [] 0)]++[(246,dm ps)])) (dW []) aJ:=aR.pull;refine mR A2 b3.push _ 1000 _ (T uj) (RU h' o.aL) λ aM aY=>?_;rw[<-tS];refine PySem.callWith_type1 ?_;have v:At f fp (x2P h' o++[(o.fe,lst [] 0),(o.fN,lst [] 0),(o.er,lst [] 0),(246,dm ps)]) (dW []) aM:=aY.pull;refine vz A1 v.push _ 2000 Xu [⟨[],λ x p j=>(.call (R 342) ⟨[S h'.x h'.t],[]⟩,Fr [(o.fe,lst [] 0),(o.fN,lst [] 0),(o.er,lst [] 0),(246,dm ps)] (dW []),pO 342 (yY h'.x h'.t) (Bf [(o.fe,lst [] 0),(o.fN,lst [] 0),(o.er,lst [] 0),(246,dm ps)]),[]),λ x p=>pO 342 (yY h'.x h'.t) (Bf [(o.fe,lst [] 0),(o.fN,lst [] 0),(o.er,lst [] 0),(246,dm ps)]),λ x p q e=>zY (b17 h'.x h'.t) (kJ e) (kI e) λ fp D t' g hC hk hg=>by rw[nt e]at hC;exact ľ hC hk hg rfl⟩,⟨[],λ x p j=>(.call (R 335) ⟨[R (x 5),R (x 7)],[]⟩,Bf [(o.fe,lst [] 0),(o.fN,lst [] 0),(o.er,lst [] 0),(246,dm ps)] (p 2).t (x 4),pO 335 (Æ (x 5) (x 7)) (Be [(o.fe,lst [] 0),(o.fN,lst [] 0),(o.er,lst [] 0),(246,dm ps)] (p 2).t (x 4)),[]),λ x p=>pO 335 (Æ (x 5) (x 7)) (Be [(o.fe,lst [] 0),(o.fN,lst [] 0),(o.er,lst [] 0),(246,dm ps)] (p 2).t (x 4)),λ x p q e=>zY (WR (x 5) (x 7)) (kJ e) (kI e) λ fp D t' g hC hk hg=>by rw[nt e]at hC;exact ľ hC hk hg rfl⟩,⟨[],λ x p j=>(.call (R 387) ⟨[R o.aL,R (x 10)],[]⟩,Be [(o.fe,lst [] 0),(o.fN,lst [] 0),(o.er,lst [] 0),(246,dm ps)] (p 2).t (x 4) (p 16).t (x 9),pO 387 (zd o.aL (x 10)) (Bd [(o.fe,lst [] 0),(o.fN,lst [] 0),(o.er,lst [] 0),(246,dm ps)] (p 2).t (x 4) (p 16).t (x 9)),[]),λ x p=>pO 387 (zd o.aL (x 10)) (Bd [(o.fe,lst [] 0),(o.fN,lst [] 0),(o.er,lst [] 0),(246,dm ps)] (p 2).t (x 4) (p 16).t (x 9)),λ x p q e=>zY (b19 o.aL (x 10)) (kJ e) (kI e) λ fp D t' g hC hk hg=>by rw[nt e]at hC;exact ľ hC hk hg rfl⟩] [12,0,11,1,2,10,9,5,7,6,4] (λ d p=>Bd [(o.fe,lst [] 0),(o.fN,lst [] 0),(o.er,lst [] 0),(246,dm ps)] (p 2).t (d 1) (p 16).t (d 6) (p 23).t (d 8)) (λ d j j=>R (d 9)) (λ d p k=>[cv (p 23).t (S (d9 387).name (p 24).t) (S (d9 387).qualname (p 25).t),qY h' o.aL,nQ (zd o.aL (d 7)) λ i=>p (i+23),inst 460 o.aD,lH o,cv (p 16).t (S (d9 335).name (p 17).t) (S (d9 335).qualname (p 18).t),nQ (Æ (d 2) (d 4)) λ i=>p (i+16),cv (p 2).t (S (d9 342).name (p 3).t) (S (d9 342).qualname (p 4).t),inst 324 (d 3),df [⟨(d5 k.2.T 6 0).h,S (bW #[102,105,108,101,110,97,109,101]) (d5 k.2.T 6 0).t, .none⟩,⟨(d5 k.2.T 6 1).h,S (bW #[114,111,119]) (d5 k.2.T 6 1).t,I 1 (JA k.2.T 6 1)⟩] 2,nQ (yY h'.x h'.t) λ i=>p (i+2)]) (λ j j j=>()) (λ j j j=>()) ⋯ λ aK r2 ak o2 j aZ=>?_;let b:jR:=⟨r2 6,0,0,r2 4,r2 3,r2 2,⟨(ak 19).h,(ak 19).t⟩,⟨(ak 20).h,(ak 20).t⟩,⟨0,0⟩,⟨0,0⟩,⟨0,0⟩,⟨0,0⟩,⟨0,0⟩,⟨(d5 o2.2.T 6 0).h,(d5 o2.2.T 6 0).t⟩,⟨(d5 o2.2.T 6 1).h,(d5 o2.2.T 6 1).t⟩,JA o2.2.T 6 1⟩;·have b4:At f fp ([(r2 9,cv (ak 23).t (S (d9 387).name (ak 24).t) (S (d9 387).qualname (ak 25).t)),(h'.a,qY h' o.aL)]++(ze (r2 8) o.aL (r2 7) (λ i=>ak (i+23))++[(o.aL,inst 460 o.aD),(o.aD,lH o),(o.fe,lst [] 0)])++sI o.fN o.er (r2 7) c (cv (ak 16).t (S (d9 335).name (ak 17).t) (S (d9 335).qualname (ak 18).t)) 0 0 [] [] 0 0 ps++B6 b (ak 2).t (S (d9 342).name (ak 3).t) (S (d9 342).qualname (ak 4).t)++uH (r2 1) (λ i=>ak (i+2)) h'.x h'.t) (dW [((ak 23).t,gA (cC (r2 8))),((ak 16).t,gA (qq (r2 6))),((ak 2).t,gA (kK (r2 1)))]) aK:=aZ.pull.ix [0,1,2,3,4,11,12,13,5,14,6,7,8,9,10];have b7:=(b4.ghost (r:=dW (((ak 2).t,gA (kK (r2 1)))::((ak 16).t,gA (qq b.aF))::[((ak 23).t,gA (cC (r2 8)))])) λ C hf=>dW.eF (hf.now.perm (List.reverse_perm _).symm)).push.push;rw[af]at b7;have b5:=(b7.ghost (r:=fU c (ak 16).t [((ak 23).t,gA (cC (r2 8)))] 0) λ C hf=>fU.eF (.inl ⟨rfl,b,h'.t,r2 1,λ i=>ak (i+2),(ak 2).t,S (d9 342).name (ak 3).t,S (d9 342).qualname (ak 4).t,hf.now⟩)).push;have az:=(b5.ghost (r:=cH {o with aG:=r2 7} c (cv (ak 16).t (S (d9 335).name (ak 17).t) (S (d9 335).qualname (ak 18).t)) (fU c (ak 16).t [((ak 23).t,gA (cC (r2 8)))]) 0 0 X) λ C hf=>cH.eF ⟨[],[],0,0,0,ps,aw,rfl,rfl,oz _, .inl rfl,hf.now⟩).push;have ao:At f fp [(r2 9,cv (ak 23).t (S (d9 387).name (ak 24).t) (S (d9 387).qualname (ak 25).t)),(h'.a,qY h' o.aL)] (qx {o with aG:=r2 7} c (cv (ak 16).t (S (d9 335).name (ak 17).t) (S (d9 335).qualname (ak 18).t)) (fU c (ak 16).t) (ak 23).t) aK:=az.ghost λ C hf=>qx.eF ⟨r2 8,λ i=>ak (i+23),0,hf.now⟩;exact Qd (A0.less ⋯) ao λ aj aV L=>G h' aj _ _ _ _ {o with aG:=r2 7} _ _ _ aV L
end
noncomputable def mC(l:List (cN×dK)):List bX:=l.map λ q=>R q.2.line
noncomputable def xP(r:List bU):List (cN×dK):=r.map λ g=>(fW,{(default:dK)with line:=g})
theorem Dl(r:List bU):mC (xP r)=r.map .ref:=by unfold mC xP;rw[uY];rfl
inductive nX(r:List fY)(l:List (cN×dK))(C:AP)(f:cc):Prop|mk(ys:List jb)(q:ys.length=r.length)(z:mC l=f3 ys)(j:Fr (eN r ys) dy C f):nX r l C f
theorem nX.eF(a:nX r l C f):dD C (nX r l) f:=by obtain⟨ys,z,E,h3⟩:=a;exact λ n k1 k2=>⟨ys,z,E,h3.eF n k1 k2⟩
noncomputable def W0(r:List fY):Sm:=⟨635,1,1,λ g j=> .ok (.ret (R (g 0))),λ j j=>[],λ j af=>[lst (mC (af 0).b) (r.length+2)],Y λ j af=>nX r (af 0).b⟩
section
variable{x:FA}{c:cb}{D:cp}{m:bU}
theorem N8(hn:fF c)(h9:c.cps.contains 9=X)(hx:c.cps.size<=1000000)(h0:0<c.cps.size)(hC:oP c 0 U (u::r))(hk:u.k=0)(hl:r.length<=90)(hc:d.c= .call (R 349) ⟨[S c D,R m],[]⟩)(hg:d.gh=dy)(ae:d.sm=W0 (u::r)):cy x d:=by
 obtain⟨H,P,rn,rg,rs⟩:=d;cases hc;cases hg;cases ae;intro s ax f fp J M hs aQ ap ah g G;replace J:cj 635 W s:=J;refine Eo J M (λ l ak=>⟨ah.lt l ak,ah.nk l ak⟩) g λ a aj aC gC aX aU o O b6 b8 au L=>?_;have af:c.length<=1048576:=dZ (show c.length<=1000000 from hx) ⋯;have A1:cj 600 W (s.under (.func xS (xE a.a))).in1:=cj.in1 (cj.func (J.less ⋯));refine QJ A1 (G2 hn h9 af h0) hx hC hl hk L λ n ys hy aV=>?_;refine⟨rfl,?_⟩;have b:At f fp (([(aj,lst (f3 ys) (2+r.length+1))]++eN (u::r) ys)++[(aC,cv gC aX aU),(a.a,qY a o.aL)]) dy n:=aV.perm (ff λ j=>by simp only[ft,fv,fz];lia);refine ue b.drop.fin λ y1 y2 y3 aw y4 y5=>?_;refine G (λ t=>aj) (λ t=>⟨0,default,xP (ys.map (·.tk)),0⟩) _ rfl ?_ ?_ ?_ (λ q hq=>nomatch hq) (λ l k q1 t q3=>aV.keep l k q1 (q3 rfl)) aV.size ?_ aV.drawn aV.os;·intro i k hk;match i,hk with|0,hk=>cases hk;have:=y1 (aj,_) (.head _);show n.heap.get? aj=Y (lst (mC (xP (ys.map (·.tk)))) ((u::r).length+2));rw[Dl,uY,ma,show r.length+1+2=2+r.length+1 from by simp+arith only];exact this|i+1,hk=>cases hk
 ·intro i hk;match i,hk with|0,_=>exact(y2 aj (.head _)).imp_right λ q=>⟨rfl,q⟩|i+1,hk=>exact absurd (show i+1<1 from hk) uC
 ·intro i k' hk aJ _;have z:i<1:=hk;have E:k'<1:=aJ;lia
 ·refine(cI aw (λ l ak=>(cZ (y4 l ak).1 (y4 l ak).2.1 (λ i hk e=>(y4 l ak).2.2 ?_))) (nX.eF ⟨ys,by rw[hy,ma],?_,y5⟩));·rw[e];exact .head _
  ·show mC (xP (ys.map (·.tk)))=_;rw[Dl,uY];rfl
end
structure hY(i:eV)(r:List bU)(e:bU)(d:bV)(fl:Option (Option bU))(a:eV):Prop where
 size:i.objs.size<=a.objs.size
 ne:e∉r
 keep:∀l k,i.get? l=Y k->l≠e->l∉r->a.get? l=Y k
 fr:∀l∈r,∀k,i.get? l=Y k->∃sl,a.get? l=Y {k with slots:=sl}
 ex:∃vs,a.get? e=Y {d with data:= .fields vs}/\1<vs.size/\match fl with|W=>vs[1]?=Y .none|Y C=>∃Q P c,vs[1]?=Y (R Q)/\i.get? Q=W/\Q≠e/\a.get? Q=Y P/\P.data= .fields c/\c[3]?=Y (C.elim .none λ g=>mA g)
noncomputable def mz(a:eV)(r:List bU)(e:bU)(b:List di):Prop:=∀aq∈b,aq.scope.kind≠ .module/\∃ai k,aq.frame=Y ai/\ai∈r/\ai≠e/\a.get? ai=Y k/\∀vs,k.data≠ .fields vs
noncomputable def Gc:eV:=⟨#[],default⟩
theorem LZ(g:bU):Gc.get? g=W:=Ku (oz _)
theorem mz.IP{fl:Option (Option bU)}(az:hY i r e d fl a):∀{b:List di},mz i r e b->a.FunFrames Gc b|[],_=>trivial|aq::b,aa=>by refine mQ (aa aq (.head _)) λ z ai k E h3 h4 h5 h6=>?_;refine eE (az.fr ai h3 k h5) λ sl h7=>?_;exact cZ z (xx ai _ E (LZ ai) h7 h6) (mz.IP az λ c he=>aa c (.tail _ he))
theorem mz.mem:∀{b:List di},mz a r e b->∀l∈b.filterMap (·.frame),l∈r/\l≠e|[],_,_,M=>by cases M|aq::b,aa,l,M=>by refine mQ (aa aq (.head _)) λ z ai k E h3 h4 h5 h6=>?_;rw[tF,E]at M;cases M with|head=>exact⟨h3,h4⟩|tail _ M=>exact mz.mem (λ c he=>aa c (.tail _ he)) l M
section
variable{ak:uu}{s:cR}{aw:VS}{f:cc}{i:eV}{r:List bU}{e:bU}{d:bV}
theorem Mt{fl:Option (Option bU)}(az:hY i r e d fl f.heap)(G:∀b,(fl=W->b= .none)->(fl≠W->b≠ .none)->V b f):cm ak s (mZ (R e) 1) V aw f:=by refine sJ az.ex λ vs z E h3=>?_;cases fl with|none=>exact jr z rfl h3 (G _ (λ j=>rfl) λ q=>absurd rfl q)|some C=>refine ź h3 λ Q P c k1 _=>?_;exact jr z rfl k1 (G _ (λ q=>nomatch q) λ j q=>nomatch q)
theorem qL(az:hY i r e d (Y C) f.heap)(G:∀h',hY i r e d (Y f') h'->V () {f with heap:=h'}):cm ak s (E5 (R e) f') V aw f:=by
 refine Dd az.ex λ vs z E Q P c k1 k2 k3 k4 k5 b=>?_;unfold E5;refine cJ (jr z rfl k1 ?_);rw[if_pos (show(R Q !=jt)=U from by simp)];have h3:3<c.size:=(iq.mp b).1;refine rY k4 k5 h3 (G _ ?_);have m:∀l,l≠Q->(f.heap.update Q (zH (·.setIfInBounds 3 (f'.elim jt λ C=>mA C)))).get? l=f.heap.get? l:=λ l M=>ð _ _ (mr M);have ax:∀l k,i.get? l=Y k->l≠Q:=λ l k M q=>by rw[q,k2]at M;cases M
 have hd:=CA k5 (·.setIfInBounds 3 (f'.elim jt λ C=>mA C));refine⟨by rw[show(f.heap.update Q _).objs.size=f.heap.objs.size from Cu ..];exact az.size,az.ne,λ l k M q1 q2=>(m l (ax l k M)).trans (az.keep l k M q1 q2),λ l M k ho=>?_,vs,(m e (mr k3)).trans z,E,Q,_,_,k1,k2,k3,ou _ k4 (Cw hd),hd,?_⟩;·refine eE (az.fr l M k ho) λ sl j=>?_;exact⟨sl,(m l (ax l k ho)).trans j⟩
 ·rw[zj h3]
theorem xm{fl:Option (Option bU)}(b9:s.frames=Y (aq::aQ))(hf:aq.frame=Y ai)(hE:mz i r e (aq::aQ))(ao:∃k,i.get? e=Y k)(az:hY i r e d fl f.heap)(x:fl=W\/fl=Y W)(G:∀h',hY i r e d (Y (Y ai)) h'->V () {f with heap:=h'}):cm ak s (tP (R e) aq) V aw f:=by
 refine sJ az.ex λ vs z E h3=>?_;have p:∀(n:bX)(hn:Bool)(f:cc),hY i r e d fl f.heap->f.heap.get? e=Y {d with data:= .fields vs}->(∀h',hY i r e d (Y (Y ai)) h'->V () {f with heap:=h'})->cm ak s (do
  let g<-frameOf aq
  let pl<-entryPlaceOf ai hn
  let l<-KD n g .none (mA ai) .none pl
  setField (R e) 1 l) V aw f:=by
  intro n hn f az z G;refine cJ (wpAny_frameOf_fun b9 (hE.IP az) hf λ h' hs=>?_);refine cJ (wpAny_entryPlaceOf λ pl o=>?_);unfold KD newFields;refine cJ (nB ?_ (o.sizeOk5 _ _ _ _ _));have hm:=hE.mem;have t:h'.get? e=Y {d with data:= .fields vs}:=(hs.2.1 e λ q=>(hm e q).2 rfl).trans z;have ba:=gF (h:=h') {cls:=T "traceback",dict:=W,data:= .fields ([n,R ai, .none,mA ai, .none]++(if pl.isEmpty then uW 6 jt else pl)).toArray} t;refine rY ba rfl E (G _ ?_);have y:h'.objs.size≠e:=oy (fc t);have B:=CA (o:={d with data:= .fields vs}) rfl (·.setIfInBounds 1 (R h'.objs.size));have F:=ou (zH (·.setIfInBounds 1 (R h'.objs.size))) ba (Cw B);have C:=(ð (h'.push {cls:=T "traceback",dict:=W,data:= .fields ([n,R ai, .none,mA ai, .none]++(if pl.isEmpty then uW 6 jt else pl)).toArray}) (zH (·.setIfInBounds 1 (R h'.objs.size))) (mr y)).trans (kj h' rfl);have v:∀l k,l≠e->h'.get? l=Y k->((h'.push {cls:=T "traceback",dict:=W,data:= .fields ([n,R ai, .none,mA ai, .none]++(if pl.isEmpty then uW 6 jt else pl)).toArray}).update e (zH (·.setIfInBounds 1 (R h'.objs.size)))).get? l=Y k:=λ l k A M=>by rw[ð _ _ (mr A)];exact gF _ M
  refine⟨?_,az.ne,λ l k M q1 q2=>v l k q1 ((hs.2.1 l λ q=>q2 (hm l q).1).trans (az.keep l k M q1 q2)),λ l M k ho=>?_,vs.setIfInBounds 1 (R h'.objs.size),F,by rw[Kj];exact E,h'.objs.size,_,_,by rw[zj E],?_,y,C,rfl,?_⟩;·rw[Cu,mf,hs.1];exact rX az.size
  ·refine eE (az.fr l M k ho) λ sl j=>?_;refine eE (hs.2.2 l _ j) λ aX D=>?_;exact⟨aX,v l _ (λ q=>az.ne (q▸M)) D⟩
  ·exact Ku (by rw[hs.1];exact az.size)
  ·rcases o with rfl|⟨_,_,_,_,_,_,_,rfl⟩<;>simp
 unfold tP;simp only[hf];rcases x with rfl|rfl;·refine cJ (jr z rfl h3 ?_);rw[if_neg ⋯];exact p _ _ f az z G
 ·refine xc h3 λ Q P c k1 k2 k3 k4 k5 b=>?_;refine cJ (jr z rfl k1 ?_);rw[if_pos (show(R Q !=jt)=U from by simp)];refine cJ (jr k4 k5 b ?_);rw[if_neg (show¬(((W:Option bU).elim jt λ g=>mA g)==mA ai)=U from λ a=>by cases a)];have h3:3<c.size:=(iq.mp b).1;refine cJ (rY k4 k5 h3 ?_);have m:∀l,l≠Q->(f.heap.update Q (zH (·.setIfInBounds 3 jt))).get? l=f.heap.get? l:=λ l M=>ð _ _ (mr M);have ax:∀l k,i.get? l=Y k->l≠Q:=λ l k M q=>by rw[q,k2]at M;cases M
  have hd:=CA k5 (·.setIfInBounds 3 jt);refine p _ _ _ ⟨by rw[show(f.heap.update Q _).objs.size=f.heap.objs.size from Cu ..];exact az.size,az.ne,λ l k M q1 q2=>(m l (ax l k M)).trans (az.keep l k M q1 q2),λ l M k ho=>?_,vs,(m e (mr k3)).trans z,E,Q,_,_,k1,k2,k3,ou _ k4 (Cw hd),hd,?_⟩ ((m e (mr k3)).trans z) λ h' u=>G h' u;·refine eE (az.fr l M k ho) λ sl j=>?_;exact⟨sl,(m l (ax l k ho)).trans j⟩
  ·rw[zj h3];rfl
end
section
variable{ae f:cc}{ah:AP}{ls:List (bU×bV)}{P:GP}{s:cR}{ai:Nat}
theorem vm{ak:uu}{A:Type}{V:A->cc->Prop}{aw:VS}{B:cN}{l:Bool}{b:List bX}{i:dX->cD A}(a:dQ ak s B (λ d n=>cm ak s (i d) V aw n) f):cm ak s (.call B W l b i) V aw f:=λ v u Q=>by rw[Sem.wp_call];exact(ÿ a (λ d n D=>D v u Q):dQ ak s B (λ d n=>xN ak v (i d) (λ g j f=>V g f) (λ e j f=>aw e f) u n) f) _ u rfl (Q.enter B W u (by intro c;cases c))
end
theorem At.trans{ae f au:cc}{ah:AP}{ls ao:List (bU×bV)}{P r:GP}{az fS:AP}(L:At ae ah ls P f)(z:∀l,az l->(ah l\/ae.heap.objs.size<=l)/\l<f.heap.objs.size/\dp.get l=W)(E:∀l,fS l->az l)(aV:At f fS ao r au):At ae ah ao r au:=by
 refine cK aV.own λ af g1 O=>?_;refine⟨aV.base,cI af (λ l M=>⟨?_,(g1 l M).2⟩) O,λ l k q1 q2=>aV.keep l k (L.keep l k q1 q2) λ hf=>?_,dZ L.size aV.size,aV.drawn.trans L.drawn,aV.os.trans L.os⟩;·
  rcases(g1 l M).1 with q|q;·exact(z l (E l q)).1
  ·exact .inr (dZ L.size q)
 ·rcases(z l (E l hf)).1 with q|q;·exact q2 q
  ·exact absurd (fc q1) (iA.mpr q)
section
variable{ak:uu}{s:cR}{aw:VS}{f:cc}{i:eV}{r:List bU}{e:bU}{d:bV}
theorem hY.ext{fl:Option (Option bU)}(az:hY i r e d fl a)(hs:a.objs.size<=h'.objs.size)(hk:∀l k,a.get? l=Y k->h'.get? l=Y k):hY i r e d fl h':=by
 refine sJ az.ex λ vs z E h3=>?_;refine⟨dZ az.size hs,az.ne,λ l k q1 q2 q3=>hk l k (az.keep l k q1 q2 q3),λ l M k ho=>?_,vs,hk _ _ z,E,?_⟩;·refine eE (az.fr l M k ho) λ sl j=>?_;exact⟨sl,hk _ _ j⟩
 ·cases fl with|none=>exact h3|some C=>refine xc h3 λ Q P c k1 k2 k3 k4 k5 b=>?_;exact Ē Q P c k1 k2 k3 (hk _ _ k4) k5 b
theorem NO(hf:aq.frame=Y ai)(az:hY i r e d (Y (Y ai)) f.heap)(G:V () f):cm ak s (tP (R e) aq) V aw f:=by refine Dd az.ex λ vs z E Q P c k1 k2 k3 k4 k5 b=>?_;unfold tP;simp only[hf];refine cJ (jr z rfl k1 ?_);rw[if_pos (show(R Q !=jt)=U from by simp)];refine cJ (jr k4 k5 b ?_);rw[if_pos (show(((Y ai:Option bU).elim jt λ g=>mA g)==mA ai)=U from if_pos rfl)];exact ed G
theorem zS{fl:Option (Option bU)}(b9:s.frames=Y (aq::aQ))(hf:aq.frame=Y ai)(hE:mz i r e (aq::aQ))(ao:∃k,i.get? e=Y k)(az:hY i r e d fl f.heap)(x:fl=W\/fl=Y W\/fl=Y (Y ai))(G:∀h',hY i r e d (Y W) h'->V () {f with heap:=h'}):cm ak s (pH aq (R e)) V aw f:=by
 unfold pH;rcases x with rfl|rfl|rfl;·exact cJ (xm b9 hf hE ao az (.inl rfl) λ h' u=>qL (f:={f with heap:=h'}) u λ ae g=>G ae g)
 ·exact cJ (xm b9 hf hE ao az (.inr rfl) λ h' u=>qL (f:={f with heap:=h'}) u λ ae g=>G ae g)
 ·exact cJ (NO hf az (qL az λ ae g=>G ae g))
theorem Pb(a:V () f):cm ak s (wL c) V aw f:=by unfold wL;refine cJ (CM λ st=>?_);refine cJ (pC (cJ (qE (wpAny_point (pC a)))))
end
structure jQ where
 e:bU
 aT:bU
 dE:bU
 k1:Ht
 k2:Ht
 k3:Ht
 m:bX
 hl:bU
 loc:bU
 dl:bU
 tn:cp
 t1:cp
 t2:cp
noncomputable def mH(t:jQ):bV:=⟨R 177,Y t.dE, .fields #[R t.aT, .none, .none, .none, .bool X, .none],#[]⟩
noncomputable def w9(t:jQ)(a:bX):bV:=df [⟨t.k1.h,S (bW #[109,115,103]) t.k1.t,t.m⟩,⟨t.k2.h,S (bW #[108,111,99]) t.k2.t,a⟩,⟨t.k3.h,S (bW #[104,105,110,116,115]) t.k3.t,R t.hl⟩] 3
noncomputable def i8(t:jQ):Option Nat->List (bU×bV)|W=>[(t.e,mH t),(t.dE,w9 t .none)]|Y B=>[(t.e,mH t),(t.dE,w9 t (R t.loc)),(t.loc,eB t.dl (B+1) t.tn t.t1 t.t2),(t.dl,df [] 0)]
theorem qS(t:jQ):∀i,(t.e,mH t)∈i8 t i|W=> .head _|Y _=> .head _
noncomputable def gW(b:List di):List bU:=b.filterMap (·.frame)
noncomputable def kE(f:cc)(az:AP)(b:List di):Prop:=∀aq∈b,aq.scope.kind≠ .module/\∃ai k,aq.frame=Y ai/\f.heap.get? ai=Y k/\(∀vs,k.data≠ .fields vs)/\¬az ai/\dp.get ai=W
structure km(f:cc)(fp:AP)(b:List di)(i:Option Nat)(t:jQ)(r:List bU)(au n:cc):Prop where
 X:At f fp (i8 t i) dy au
 l1:∀l∈r,l∉cz (i8 t i)/\l≠246/\dp.get l=W
 l2:∀l∈r,l∈gW b\/f.heap.objs.size<=l\/fp l
 ok:mz au.heap r t.e b
 F:hY au.heap r t.e (mH t) (Y W) n.heap
 d:n.drawn=au.drawn
 os:n.os=au.os
 b:gw n.gens
noncomputable def š(f:cc)(fp:AP)(b:List di)(i:Option Nat)(e:bU)(n:cc):Prop:=∃t r au,t.e=e/\km f fp b i t r au n
noncomputable def mG(v:Nat)(B:cN)(γ:GP)(i:Option Nat):Prop:=∀(s:cR)(ax:RS)(f:cc)(fp:AP)(b:List di),cj v W s->s.frames=Y b->kE f fp b->Base f.heap->(∀l,fp l->l<f.heap.objs.size/\dp.get l=W)->dD fp γ f->(∀n e,š f fp b i e n->ax (.error (R e)) n)->dQ (bZ bY w) s B ax f
noncomputable def mq(v:Nat)(C A:bU)(fo:bV)(γ:GP)(i:Option Nat):Prop:=∀(s:cR)(aw:VS)(V:hZ)(ae:cc)(ah:AP)(f:cc)(aQ:List di),cj v W s->s.frames=Y (dq C A::aQ)->kE ae ah aQ->ae.heap.objs.size<=A->At ae ah [(A,fo)] γ f->(∀n e t r au,t.e=e->At ae ah (i8 t i) dy au->(∀l∈r,l∉cz (i8 t i)/\l≠246/\dp.get l=W)->(∀l∈r,l∈gW (dq C A::aQ)\/ae.heap.objs.size<=l\/ah l)->mz au.heap r t.e (dq C A::aQ)->(∃fl,(fl=W\/fl=Y W)/\hY au.heap r t.e (mH t) fl n.heap)->n.drawn=au.drawn->n.os=au.os->gw n.gens->aw (R e) n)->cm (bZ bY w) s (dj (fP (d9 C).body) (dq C A)) V aw f
section
theorem xn(hf:∀g,(dq C g).frame=Y g)(hk:∀g,(dq C g).scope.kind≠ .module)(k:∀g,(lD (fP (d9 C).body) (dq C g)).envs=[dq C g])(aa:i7 C o v ay fo [])(z:∀A kk,mq v C A (fo kk) γ i):mG (v+10) (.call (R C) o) γ i:=by
 intro s ax f fp b J b9 hF M ah hC G;refine At.enter J (At.zero M ah hC) aa λ A kk au aU A1 X1=>?_;have p:(s.under (.func (fP (d9 C).body) (dq C A))).frames=Y (dq C A::b):=by show mS (lD (fP (d9 C).body) (dq C A)).envs s.frames=_;rw[k,wX,b9];rfl
 refine kQ (z A kk _ _ _ f fp au b A1 p hF aU X1 λ n e t r aJ he X2 l1 l2 hE⟨fl,x,az⟩hd a j=>?_);subst he;refine zS p (hf _) hE ⟨_,X2.has _ (qS t i)⟩ az (x.elim .inl λ q=> .inr (.inl q)) λ h' u=>?_;refine G _ _ ⟨t,r,aJ,rfl,X2,l1,λ l M=>?_,λ aq he=>hE aq (.tail _ he),u,hd,a,j⟩;rcases l2 l M with q|q;·
  have q':l∈(dq C A::b).filterMap (·.frame):=q;rw[tF,hf]at q';rcases fw.mp q' with rfl|q';·exact .inr (.inl aU)
  ·exact .inl q'
 ·exact .inr q
theorem mq.F4(hf:(dq C A).frame=Y A)(hk:(dq C A).scope.kind≠ .module)(aa:∀(s:cR)(aw:VS)(V:hZ)(ae:cc)(ah:AP)(f:cc),cj v W s->At ae ah [(A,fo)] γ f->(∀aJ a P B(kk:dX->cD gK),(∀vs,a.data≠ .fields vs)->At ae ah [(A,a)] P aJ->mG g B P i->(∀e,kZ ⟨bY,w.params⟩ 20 (kk (.error (R e)))= .raise (R e))->dQ (bZ bY w) s B (λ d n=>cm (bZ bY w) s (kk d) V aw n) aJ)->cm (bZ bY w) s (dj (fP (d9 C).body) (dq C A)) V aw f)(u:g<=v):mq v C A fo γ i:=by
 intro s aw V ae ah f aQ J b9 hF aU L G;refine aa s aw V ae ah f J L λ aJ a P B kk c X2 aX m=>?_;(refine cK X2.own λ az z o=>?_;obtain⟨E,h3,fS,h4,h5,h6⟩:=o);have hh:=E _ (.head _);have jN:kE aJ fS (dq C A::aQ):=by
  intro aq he;cases he with
   |head=>exact⟨hk,A,_,hf,hh,c,h5 A (.head _),(z A ((h4 _).mpr (.inl (.head _)))).2.2⟩
   |tail _ he=>
    refine mQ (hF aq he) λ q1 ai k q2 q3 q4 q5 q6=>?_;refine⟨q1,ai,k,q2,X2.keep _ _ q3 q5,q4,λ b=>?_,q6⟩;rcases(z ai ((h4 ai).mpr (.inr b))).1 with j|j;·exact q5 j
    ·exact absurd (fc q3) (iA.mpr j)
 refine aX s _ aJ fS _ (J.less u) b9 jN X2.base (λ l M=>(z l ((h4 l).mpr (.inr M))).2) h6 λ n e⟨t,r,au,he,ax⟩=>?_;refine xM 20 ?_;rw[m];refine ml ?_;refine G n e t r au he (X2.trans z (λ l M=>(h4 l).mpr (.inr M)) ax.X) ax.l1 (λ l M=>?_) ax.ok ⟨_, .inr rfl,ax.F⟩ ax.d ax.os ax.b;rcases ax.l2 l M with q|q|q;·exact .inl q
 ·exact .inr (.inl (dZ X2.size q))
 ·exact .inr (z l ((h4 l).mpr (.inr q))).1.symm
end
noncomputable def erS:List dd:=fP (d9 286).body
noncomputable def erE(A:bU):di:=dq 286 A
noncomputable def á(t:bU)(m:bX)(kk:HK):bV:=ly [⟨(kk 0).h,S ui (kk 0).t,R t⟩,⟨(kk 1).h,S (bW #[109,101,115,115,97,103,101]) (kk 1).t,m⟩] 2
noncomputable def b1b(A:bU)(kk:HK)(m:bX)(o:dz)(t:eG)(B b:Nat)(ys:List eG)(e1 e2:Nat):List (bU×bV):=[(A,á o.aL m kk),(o.aL,inst 460 o.aD),(o.aD,dU o),(o.fN,lst [R t.v.a] e1),(o.er,lst (refs ys) e2),(t.v.d,gf t.v B),(t.v.a,inst 204 t.v.d),(t.dl,df [] 0),(t.v.loc,eB t.dl (b+1) t.tn t.t1 t.t2)]
noncomputable def b1a(A:bU)(kk:HK)(m:bX)(o:dz)(O:Nat)(nm qn:bX)(ys:List eG)(e1 e2:Nat):List (bU×bV):=[(A,á o.aL m kk),(o.aL,inst 460 o.aD),(o.aD,dU o),(o.fN,lst [] e1),(o.er,lst (refs ys) e2),(o.aG,cv O nm qn)]
noncomputable def V7:List Nat:=nd 16 281 0xc0cc0cceee0c000c0c00c0000cddddd90000d0000090009deee0c000c0c00c0000cddeeec0c000c0c00c0000cdddddddddd010000c0c0000000000000000000000000000001101160770007000071111aa2a555530220000020000002a00070007aaa4444040444430220000020000002a4040404430220000020000002aaaaa0103200000020000020000021
noncomputable def V6:List Nat:=nd 16 216 0xb0bb0bbddd0b000b0b00b0000bccccccddd0b000b0b00b0000bccdddb0b000b0b00b0000bcccccccccc010000b0b0000000000000000000000000000001101111177777926600302200000200000027004040404430220000020000002777770103200000020000020000021
section
variable(o:dz)
noncomputable def vq:Option bV->Bool
 |Y k=>match k.data with| .dict _ _=>U|_=>X
 |W=>X
theorem WS(m:bX):i7 286 ⟨[R o.aL,m],[]⟩ 250 [1,1,1,1,1] (á o.aL m) []:=by unfold i7;kernel_rfl
end
theorem Mq(a:vq k=U):∃fo,k=Y fo/\∀vs,fo.data≠ .fields vs:=by cases k with|none=>cases a|some fo=>obtain⟨B,af,c,sl⟩:=fo;cases c with|dict b H=>exact cI _ rfl (λ vs e=>nomatch e)|_=>cases a
theorem wZ(a:vq k=U):∀vs,(jf k).data≠ .fields vs:=by refine cK (Mq a) λ fo z E=>?_;rw[z];exact E
theorem DA(hf:(dq C A).frame=Y A)(hk:(dq C A).scope.kind≠ .module)(hF:kE ae ah aQ)(aU:ae.heap.objs.size<=A)(c:∀vs,fo.data≠ .fields vs)(L:At ae ah (i8 t i++[(A,fo)]) dy au):At ae ah (i8 t i) dy au/\(∀l∈gW (dq C A::aQ),l∉cz (i8 t i)/\l≠246/\dp.get l=W)/\(∀l∈gW (dq C A::aQ),l∈gW (dq C A::aQ)\/ae.heap.objs.size<=l\/ah l)/\mz au.heap (gW (dq C A::aQ)) t.e (dq C A::aQ)/\hY au.heap (gW (dq C A::aQ)) t.e (mH t) W au.heap:=by
 (refine cK (id L.own) λ az z d=>?_;obtain⟨E,h3,fS,h4,h5,h6⟩:=d);have Q:cz (i8 t i++[(A,fo)])=cz (i8 t i)++[A]:=mc;rw[Q]at h3 h5;simp only[Q,fJ]at h4;have H:=ow.mp h3;obtain⟨ps,aw,t1,_,fT,t2,t3,_⟩:=h6.now;have a:fS 246:=(t2 246).mpr (.inl (.head _));have F:∀l,az l->ah l\/ae.heap.objs.size<=l:=λ l M=>(z l M).1;have be:∀aq∈aQ,∀ai k,aq.frame=Y ai->ae.heap.get? ai=Y k->¬ah ai->¬az ai:=λ aq b ai k b q2 q3 q4=>by
  rcases F ai q4 with j|j;·exact q3 j
  ·exact absurd (fc q2) (iA.mpr j)
 have P:∀l∈gW aQ,¬az l/\dp.get l=W:=λ l M=>by refine cK (tG.mp M) λ aq he ak=>?_;refine mQ (hF aq he) λ q1 ai k q2 q3 q4 q5 q6=>?_;obtain rfl:ai=l:=jo (q2.symm.trans ak);exact⟨be aq he _ k q2 q3 q5,q6⟩
 have fl:gW (dq C A::aQ)=A::gW aQ:=by unfold gW;rw[tF,hf]
 have f:∀l∈cz (i8 t i),az l:=λ l M=>(h4 l).mpr (.inl (.inl M));have e:t.e∈cz (i8 t i):=jd (f:=λ u:bU×bV=>u.1) (qS t i);have l1:∀l∈gW (dq C A::aQ),l∉cz (i8 t i)/\l≠246/\dp.get l=W:=λ l M=>by
  rw[fl]at M;rcases fw.mp M with rfl|M;·exact cZ (λ q=>H.2.2 l q l (.head _) rfl) (λ q=>h5 l (fJ.mpr (.inr (.head _))) (q▸a)) (z l ((h4 l).mpr (.inl (.inr (.head _))))).2.2
  ·exact cZ (λ q=>(P l M).1 (f l q)) (λ q=>(P l M).1 ((h4 l).mpr (.inr (q▸a)))) (P l M).2
 have ay:t.e∉gW (dq C A::aQ):=λ q=>(l1 _ q).1 e;refine(i6 L.drop l1 (λ l M=> .inl M) (λ aq he=>?_) ⟨gz _,ay,λ l k q b b=>q,λ l M k ho=>⟨k.slots,ho⟩,#[R t.aT, .none, .none, .none, .bool X, .none],L.has _ (fJ.mpr (.inl (qS t i))),by show 1<6;decide,rfl⟩);cases he with
  |head=>exact s8 hk A fo hf (by rw[fl];exact .head _) (λ q=>ay (by rw[fl,q];exact .head _)) (L.has _ (fJ.mpr (.inr (.head _)))) c
  |tail _ he=>
   refine mQ (hF aq he) λ q1 ai k q2 q3 q4 q5 q6=>?_;have hm:ai∈gW (dq C A::aQ):=by rw[fl];exact .tail _ (tG.mpr (cI aq he q2))
   exact s8 q1 ai k q2 hm (λ q=>ay (q▸hm)) (L.keep _ _ q3 q5) q4
theorem At.bare(L:At ae ah ls dy f):gw f.gens:=by refine cK L.vE λ fS a _=>?_;exact a.now.bare
noncomputable def oM(c:cb)(b:Nat)(pb:Bool)(i:Option Nat):Prop:=(pb=U/\(∃B,c.cps[b]?=Y B)/\i=Y b)\/(pb=X/\b=c.cps.size/\i=W)
noncomputable def jM(o:dz)(c:cb)(oG:bV)(ao:FG)(i0 b:Nat)(pb:Bool):GP:=Fr [(o.aL,inst 460 o.aD),(o.aD,dU o)] (cH o c oG ao i0 b pb)
theorem Gx(aw:jV ps)(a:Fr ((246,dm ps)::ak) P C f)(M:gw f.gens):dD C dy f:=by have h6:Fr ([(246,dm ps)]++ak) P C f:=a;exact dy.eF ⟨ps,aw,h6.push.gen (λ j j j a=>a) λ j j j=>λ aK j hg=>by rw[hg];exact M⟩
section
variable{c:cb}{O:Nat}{nm qn:bX}{ao:FG}{o:dz}{i0 b:Nat}{pb:Bool}{i:Option Nat}{m:cb}{D:cp}
theorem Ĕ(g:bU):(dq 286 g).frame=Y g:=⋯
theorem ĥ(g:bU):(dq 286 g).scope.kind≠ .module:=by
 have:(dq 286 g).scope.kind= .function:=⋯
 rw[this];exact λ a=>nomatch a
theorem NQ(g:bU):(lD (fP (d9 286).body) (dq 286 g)).envs=[dq 286 g]:=⋯
theorem QN(aj:fQ c o.aG (cv O nm qn) ao)(hx:c.cps.size<=1000000)(hk:oM c b pb i)(A:bU)(kk:HK):mq 250 286 A (á o.aL (S m D) kk) (jM o c (cv O nm qn) ao i0 b pb) i:=by
 intro s aw V ae ah f aQ J b9 hF aU L G;refine cK L.pull.vE λ fS h6 q=>?_;rw[i2];show cm _ s (fZ erS (erE A)) V aw f;rcases hk with⟨rfl,⟨B,hc⟩,rfl⟩|⟨rfl,hi,rfl⟩;·
  refine vj (h6.now.vG hc) λ ys t e1 e2 ps F q1 q2=>?_;have aq:(refs ys).length<=1048576:=by have:=(iq.mp hc).1;rw[tT];exact uD hx (rx q1) this
  have X2:At ae ah (b1b A kk (S m D) o t B b ys e1 e2++((246,dm ps)::(o.aG,cv O nm qn)::dx c i0 ys)) (ao (b+1)) f:=(q _ q2.eF).pull.ix [0,1,2,3,4,5,6,9,10,8,7];let az:FA->Cfg gK×Mem->jQ:=λ d k=>⟨d 2,d 1,d 4,⟨(d5 k.2.T 13 0).h,(d5 k.2.T 13 0).t⟩,⟨(d5 k.2.T 13 1).h,(d5 k.2.T 13 1).t⟩,⟨(d5 k.2.T 13 2).h,(d5 k.2.T 13 2).t⟩,S m D,d 5,t.v.loc,t.dl,t.tn,t.t1,t.t2⟩;refine xp J X2.push _ 2000 V7 [qA "list.append" 4 o.er (λ j=>[R o.er,R t.v.a]) (λ j=>lst (refs ys) e2) (Ŭ 4 (refs ys) (R t.v.a) e2) λ j j z E h3 h4=>Eh (y:=4) z E h3 h4 aq] [11,13,8,7,0] (λ d j j=> .raise (R (d 2))) (λ d j k=>[mH (az d k),w9 (az d k) (R t.v.loc),eB t.dl (b+1) t.tn t.t1 t.t2,df [] 0,jf (k.2.T.get 0)]) (λ j j k=>vq (k.2.T.get 0)) (λ j j j=>U) ⋯ λ au d p k hd X3=>?_;have X3:At ae ah (i8 (az d k) (Y b)++[(A,jf (k.2.T.get 0))]) _ au:=X3;refine ml ?_;refine J_ (DA (Ĕ _) (ĥ _) hF aU (wZ hd) (X3.ghost λ C hf=>Gx F hf.now (Fm aj hf.now))) λ k1 k2 k3 k4 k5=>?_;exact G au _ (az d k) _ au rfl k1 k2 k3 k4 (cI _ (.inl rfl) k5) rfl rfl k1.bare
 ·refine zT (h6.now.G_ hi) λ ys e1 e2 u ps F q1 l q2=>?_;have X2:At ae ah (b1a A kk (S m D) o O nm qn ys e1 e2++((246,dm ps)::dx c i0 ys)) (ao u) f:=(q _ q2.eF).pull.ix [0,1,2,3,4,5,6];let az:FA->Cfg gK×Mem->jQ:=λ d k=>⟨d 4,d 3,d 6,⟨(d5 k.2.T 12 0).h,(d5 k.2.T 12 0).t⟩,⟨(d5 k.2.T 12 1).h,(d5 k.2.T 12 1).t⟩,⟨(d5 k.2.T 12 2).h,(d5 k.2.T 12 2).t⟩,S m D,d 7,0,0,0,0,0⟩;refine xG J X2.push _ 2000 V6 [sR 5 o.aG (cv O nm qn) (Fr ((246,dm ps)::dx c i0 ys) (ao u)) (ug (Fr ((246,dm ps)::dx c i0 ys) (ao (c.cps.size+1)))) λ j j z E h3=>aj.Ū (ls:=(246,dm ps)::dx c i0 ys) (v:=u) (E:=5) z E h3 l] [10,12,0] (λ j j=>Fr ((246,dm ps)::dx c i0 ys) (ao (c.cps.size+1))) (λ d j j=> .raise (R (d 4))) (λ d j k=>[mH (az d k),w9 (az d k) .none,jf (k.2.T.get 0)]) (λ j j k=>vq (k.2.T.get 0)) (λ j j j=>U) ⋯ λ au d p k hd X3=>?_;have X3:At ae ah (i8 (az d k) W++[(A,jf (k.2.T.get 0))]) _ au:=X3;refine ml ?_;refine J_ (DA (Ĕ _) (ĥ _) hF aU (wZ hd) (X3.ghost λ C hf=>Gx F hf.now (Fm aj hf.now))) λ k1 k2 k3 k4 k5=>?_;exact G au _ (az d k) _ au rfl k1 k2 k3 k4 (cI _ (.inl rfl) k5) rfl rfl k1.bare
theorem Ş(aj:fQ c o.aG (cv O nm qn) ao)(hx:c.cps.size<=1000000)(hk:oM c b pb i):mG 260 (.call (R 286) ⟨[R o.aL,S m D],[]⟩) (jM o c (cv O nm qn) ao i0 b pb) i:=xn Ĕ ĥ NQ (WS o (S m D)) λ A kk=>QN aj hx hk A kk
end
noncomputable def C7(r:List (cb×bX))(kk:HK)(H:Nat):bV:=ly (Q 0 r) H where Q(v:Nat):List (cb×bX)->List pF|[]=>[]|(H,b)::d=>⟨(kk v).h,S H (kk v).t,b⟩::Q (v+1) d
noncomputable def fb(C A:bU):cD gK:=fZ (fP (d9 C).body) (dq C A)
noncomputable def BW(A:bU)(fo:bV)(o:dz):List (bU×bV):=[(A,fo),(o.aL,inst 460 o.aD),(o.aD,dU o)]
noncomputable def Bo(o:dz)(kk:HK):bV:=C7 [(ui,R o.aL),(bW #[101,111,102], .bool X)] kk 2
noncomputable def Jy(o:dz)(V:cb)(tv:cp)(kk:HK):bV:=C7 [(ui,R o.aL),(bW #[118,97,108,105,100],S V tv)] kk 2
noncomputable def uz(o:dz)(kk:HK):bV:=C7 [(ui,R o.aL)] kk 1
noncomputable def a6i(A:bU)(fo:bV)(o:dz)(O:Nat)(nm qn:bX)(ys:List eG)(e1 e2:Nat):List (bU×bV):=[(A,fo),(o.aL,inst 460 o.aD),(o.aD,dU o),(o.fN,lst [] e1),(o.er,lst (refs ys) e2),(o.aG,cv O nm qn)]
end Mine
end
section
open PySem PySem.W PySem.W.X PySem.Calls Builtin Builtin.Str Builtin.Int
namespace Mine
noncomputable def G3:Sm:=⟨60,0,1,λ j af=> .ok (.ret (S vQ (af 0).t)),λ j j=>[],λ j j=>[],W⟩
noncomputable def AY:cN->cp| .call _ ⟨[.str _ D,_],_⟩=>D|_=>0
noncomputable def ų:cN->cp| .call _ ⟨[_, .str _ D],_⟩=>D|_=>0
theorem join_tree_str(A:cb)(D:cp)(c:cb)(u:cp):«str.join» ⟨[S A D,S c u],[]⟩=(do
 let ty<-typeOf (S c u)
 if(ty==T "list" ||ty==T "tuple")=U then
  (do
   match<-zW (S c u)with
    |Y xs=>
     EG A xs.toList
    |W=>
     unsupported "internal:str.join")else
  (do
   let v<-(nM (S c u)).tryCatch λ e=>do
    if<-č e (T "TypeError")then
     q8 "str.join.not-iterable"
     raiseError"TypeError" "can only join an iterable" else
     throw e
   let n<-FI v
   EG A n)):=rfl
noncomputable def Jv:bX->cD Bool:=b1x
theorem U0:@Ke=Jv:=b2a
noncomputable def jP(m:bU)(b:bX)(v:Nat):List (bU×bV):=[(m,gO U b v)]
section
variable(m:bU)(D:cp)
theorem b11:jX (jP m (S vQ D) 0) W 40 500 (sG (R m)) [1,1,0,1,0,1] (R m):=kA
theorem b12:jX (jP m (S vQ D) 0) W 40 500 (Jv (R m)) [1,1,1,1,1,1,1] X:=kA
end
section
variable{x:FA}
theorem Mc(hc:d.c= .call (.builtin "str.join") ⟨[S A (AY d.c),S vQ (ų d.c)],[]⟩)(ae:d.sm=G3):cy x d:=by
 obtain⟨H,P,rn,rg,rs⟩:=d;simp only at hc ae;generalize AY H=D at hc;generalize ų H=u at hc;cases hc;cases ae;intro s ax f fp J M hs aQ ap ah hC G;replace J:cj 60 W s:=J;refine kg CQ.plain F.entry_str_join (CQ.check _ _ _ _ _ _ _ _ (pE _ _ _) (F.args_str_join_2 _ _) ?_);rw[join_tree_str];refine cJ (þ (pE _ _ _) ?_);show cm _ s.in1 ((nM (S vQ u)).tryCatch _>>=λ v=>FI v>>=λ n=>EG A n) _ _ f;have A1:cj 59 W s.in1:=cj.in1 (J.less ⋯);have A2:cj 40 W s.in1.in1:=cj.in1 (A1.less ⋯);have A3:cj 40 W s.in1.in1.in1:=cj.in1 (cj.in1 (A1.less ⋯));have X0:At f gZ [] (λ t c=>c.gens=f.gens) f:=At.start (az:=gZ) (ls:=[]) (P:=λ t c=>c.gens=f.gens) M (λ l ak=>(ak:False).elim) (show Fr [] (λ t c=>c.gens=f.gens) gZ f from⟨λ q hq=>(nomatch hq),pB,gZ,λ g=>⟨.inr,λ a=>a.elim (λ q=>(nomatch q)) id⟩,λ g ha=>(nomatch ha),tU⟩);refine cJ (wpAny_tryCatch (KP ?_));have b:({cls:=T (tL vQ),data:= .fields #[S vQ u,I 0 0]}:bV)=gO U (S vQ u) 0:=by
  have:tL vQ="str_ascii_iterator" :=by decide+kernel
  rw[this,Ķ];rfl
 rw[b];have X1:At f gZ [(f.heap.objs.size,gO U (S vQ u) 0)] (λ t c=>c.gens=f.gens) {f with heap:=f.heap.push (gO U (S vQ u) 0)}:=X0.new rfl;generalize f.heap.objs.size=m at X1;generalize({f with heap:=f.heap.push (gO U (S vQ u) 0)}:cc)=au at X1;unfold FI;refine cJ (cJ (wpAny_runValue (uS F.entry_proto_collect ?_)));rw[uQ F.plain_proto_collect _];show cm _ s.in1.in1 (p_ []>>=λ r=>again (.builtin "list.__iadd__" ⟨[r,R m],[]⟩)) _ _ au;refine cJ (nB ?_);refine ed ⟨zF KU _,uS F.entry_list_iadd ?_⟩;rw[uQ KU _];have Q:({cls:=T "list",data:= .seq ([]:List bX).toArray}:bV)=lst [] 0:=by unfold lst;rw[<-tS]
 rw[Q];have X2:At f gZ ((au.heap.objs.size,lst [] 0)::jP m (S vQ u) 0) (λ t c=>c.gens=f.gens) {au with heap:=au.heap.push (lst [] 0)}:=X1.new rfl;generalize au.heap.objs.size=aj at X2;generalize({au with heap:=au.heap.push (lst [] 0)}:cc)=aJ at X2;have ay:aj≠m:=by(refine cK X2.own λ _ _ C=>?_;obtain⟨_,h3,_⟩:=C);exact λ e=>(gI.mp h3).1 (by rw[e];exact .head _)
 show cm _ s.in1.in1 (zk (R aj) (R m) (R aj)) _ _ aJ;unfold zk;have hT:aJ.TypeIs (R m) "str_ascii_iterator" :=(cI _ (X2.has (m,gO U (S vQ u) 0) (.tail _ (.head _))) (by show T τ=_;rw[<-Ķ]));refine cJ (þ hT ?_);have z:î (R aj) (R m)=X:=by simp[î,ay]
 have E:(T "str_ascii_iterator" ==T "list")=X:=⋯
 have h3:(T "str_ascii_iterator" ==T "tuple")=X:=⋯
 simp only[z,E,h3,D9,õ,if_false];rw[qJ,U0];have X3:At f gZ (jP m (S vQ u) 0++[(aj,lst [] 0)]) (λ t c=>c.gens=f.gens) aJ:=X2.perm (qD _ _ _);refine cJ (mR A2 X3.push _ 500 _ (R m) (b11 m u) λ aM aY=>?_);refine cJ (qE (mR A2 aY _ 500 _ X (b12 m u) λ aK aZ=>?_));refine ed ?_;refine⟨zF rU _,?_⟩;refine uS zl ?_;rw[uQ rU _];show cm _ s.in1.in1 (oO (R m)>>=_) _ _ aK;rw[mw];refine cJ (gY A2 aZ _ 500 (nd 16 8 0x11110101) [] [0] (λ j p j=>Y (S vQ (p 0).t)) (λ j j j=>[gO U (S vQ u) 1]) ⋯ λ aV d p k b4=>?_);have o:At f gZ ((aj,lst [] 0)::jP m (S vQ u) 1) (λ t c=>c.gens=f.gens) aV:=(At.pull (l1:=jP m (S vQ u) 1) b4).perm (qD _ _ _);show cm _ s.in1.in1 (zV aj (·.push (S vQ (p 0).t))>>=_) _ _ aV;refine cJ (zx (o.has _ (.head _)) rfl (ed ⟨zF rU _,?_⟩));have X6:=o.seq (C:=(·.push (S vQ (p 0).t))) (b:=[S vQ (p 0).t]) (e':=1) rfl;generalize({aV with heap:=aV.heap.update aj (ll (·.push (S vQ (p 0).t)))}:cc)=b3 at X6;refine uS zl ?_;rw[uQ rU _];show cm _ s.in1.in1 (oO (R m)>>=_) _ _ b3;rw[mw];have B:At f gZ (jP m (S vQ u) 1++[(aj,lst [S vQ (p 0).t] 1)]) (λ t c=>c.gens=f.gens) b3:=X6.perm (qD _ _ _);refine cJ (gY A2 B.push _ 500 (nd 16 9 0x311110101) [] [0] (λ j j j=>W) (λ j j j=>[gO U .none 1]) ⋯ λ b6 r7 af O b5=>?_);have y:At f gZ ((aj,lst [S vQ (p 0).t] 1)::jP m .none 1) (λ t c=>c.gens=f.gens) b6:=(At.pull (l1:=jP m .none 1) b5).perm (qD _ _ _);refine ed ?_;show cm _ s.in1 (load aj>>=_) _ _ b6;refine cJ (zL (y.has _ (.head _)) ?_);refine ed ?_;show cm _ s.in1 (q8 "str.join.same-object" >>=λ t=>ret (S vQ (p 0).t)) _ _ b6;refine cJ (v8 (ed ?_));have hG:b6.gens=f.gens:=by(refine cK y.own λ _ _ L=>?_;obtain⟨_,_,_,_,_,j⟩:=L);exact j.now
 exact G (λ t=>0) (λ t=>⟨(p 0).t,default,[],0⟩) b6 rfl (λ i k hk=>nomatch hk) (λ i hk=>absurd hk (uT i)) (λ i t hk=>absurd hk (uT i)) (λ q hq=>nomatch hq) (λ l k q1 t t=>y.keep l k q1 id) y.size hG y.drawn y.os
end
end Mine
end
section
open PySem PySem.W PySem.W.X PySem.Calls
namespace Mine
noncomputable def Wl:Cfg gK->cp| .b (.call (.call _ ⟨[_, .str _ D],_⟩) _ _ _ _)=>D|_=>0
noncomputable def IM:Cfg gK->Bool| .b (.call _ _ O _ _)=>O|_=>X
noncomputable def II:Cfg gK->List bX| .b (.call _ _ _ r _)=>r|_=>[]
noncomputable def À:Cfg gK->dX->cD gK| .b (.call _ _ _ _ i)=>i|_=>λ j=> .pure .next
section
variable{c:cb}{O:Nat}{nm qn:bX}{ao:FG}{o:dz}{i0 b:Nat}{pb:Bool}{i:Option Nat}
abbrev BE:Type:=Bool×(bU->cD gK)
noncomputable def bE:RO gK BE:=λ _ _ k=>(vq (k.2.T.get 0),λ e=>kZ ⟨bY,w.params⟩ 20 (À k.1 (.error (R e))))
noncomputable def Cg:RO gK BE:=λ _ _ _=>(U,λ e=> .raise (R e))
noncomputable def bT(j:cp->cN):RO gK (cD gK):=λ _ _ k=> .call (j (Wl k.1)) W (IM k.1) (II k.1) (À k.1)
theorem vy(hf:(dq C A).frame=Y A)(hk:(dq C A).scope.kind≠ .module)(aX:∀D,mG g (j D) (jM o c (cv O nm qn) ao i0 a l) i)(u:g<=v)(ay:List Nat)(t:List Qi)(aa:la W (fb C A) v 2000 ay t (BW A fo o) (cH o c (cv O nm qn) ao i0 b pb) [0,1,2] bE=l9 W (fb C A) v 2000 ay t (BW A fo o) (cH o c (cv O nm qn) ao i0 b pb) (λ _ _=>cH o c (cv O nm qn) ao i0 a l) (bT j) (λ _ _ k=>[jf (k.2.T.get 0),inst 460 o.aD,dU o]) Cg):mq v C A fo (jM o c (cv O nm qn) ao i0 b pb) i:=by refine mq.F4 hf hk (λ s aw V ae ah f J L G=>?_) u;rw[i2];refine xG J (show At ae ah (BW A fo o) (cH o c (cv O nm qn) ao i0 b pb) f from L.pull) (fb C A) 2000 ay t [0,1,2] _ _ _ bE Cg aa λ au d p k e X2=>?_;refine eA (eo e) λ e3 B=>?_;exact vm (G au _ _ _ _ (wZ e3) (At.push (l1:=[(A,jf (k.2.T.get 0))]) (l2:=[(o.aL,inst 460 o.aD),(o.aD,dU o)]) X2) (aX _) λ e=>congrFun B e)
end
noncomputable def Xt:List Nat:=[1,2,0,0,0,0,0,0,2,0,0,0,0,0,2,2,0,3,4,4,0,4,0,4,0,4,0,0,1,2,0,0,0,0,0,0,2,0,0,0,0,0,2,2,0,3,0,0,6,6,2,8,1,1,1,1,1,1,2,0,0,0,0,0,2,0,0,0,0,0,2,0,0,0,0,0,0,2,3,0]
theorem GD(g:bU):(dq 237 g).frame=Y g:=⋯
theorem Gq(g:bU):(dq 237 g).scope.kind≠ .module:=by
 have:(dq 237 g).scope.kind= .function:=⋯
 rw[this];exact λ a=>nomatch a
theorem Up(g:bU):(lD (fP (d9 237).body) (dq 237 g)).envs=[dq 237 g]:=⋯
theorem GB(g:bU):(dq 293 g).frame=Y g:=⋯
theorem Gp(g:bU):(dq 293 g).scope.kind≠ .module:=by
 have:(dq 293 g).scope.kind= .function:=⋯
 rw[this];exact λ a=>nomatch a
theorem Uo(g:bU):(lD (fP (d9 293).body) (dq 293 g)).envs=[dq 293 g]:=⋯
theorem GA(g:bU):(dq 457 g).frame=Y g:=⋯
theorem Gn(g:bU):(dq 457 g).scope.kind≠ .module:=by
 have:(dq 457 g).scope.kind= .function:=⋯
 rw[this];exact λ a=>nomatch a
theorem Um(g:bU):(lD (fP (d9 457).body) (dq 457 g)).envs=[dq 457 g]:=⋯
theorem xD(g:bU):(dq 450 g).frame=Y g:=⋯
theorem xv(g:bU):(dq 450 g).scope.kind≠ .module:=by
 have:(dq 450 g).scope.kind= .function:=⋯
 rw[this];exact λ a=>nomatch a
theorem Un(g:bU):(lD (fP (d9 450).body) (dq 450 g)).envs=[dq 450 g]:=⋯
noncomputable abbrev vMe:cb:=bW #[69,120,112,101,99,116,101,100,32,39]
noncomputable abbrev vMu:cb:=bW #[85,110,101,120,112,101,99,116,101,100,32,101,115,99,97,112,101,32,99,104,97,114,97,99,116,101,114]
noncomputable abbrev vMn:cb:=bW #[69,120,112,101,99,116,101,100,32,97,32,99,104,97,114,97,99,116,101,114,44,32,98,117,116,32,97,116,32,101,110,100,32,111,102,32,102,105,108,101]
section
variable{c:cb}{O:Nat}{nm qn:bX}{ao:FG}{o:dz}{i0 b:Nat}{pb:Bool}{i:Option Nat}
theorem QM{m p1 p2 V p:Bool}(aj:fQ c o.aG (cv O nm qn) ao)(hx:c.cps.size<=1000000)(f:eM c dr b X d m)(g:eM c de d X a p1)(v:eM c vx a X e p2)(l:eM c vu e X k V)(r:eM c vU k X n p)(hk:oM c n p i)(A:bU)(kk:HK):mq 270 457 A (uz o kk) (jM o c (cv O nm qn) ao i0 b pb) i:=vy (j:=λ D=> .call (R 286) ⟨[R o.aL,S vMu D],[]⟩) (GA _) (Gn _) (λ D=>Ş aj hx hk) (⋯:260<=270) (nd 16 159 0x32000000200000200000212032000000200000200000212032000000200000200000212032000000200000200000212030220002000000213200000020000020000021203200000020000020000021) [fG aj hx 1 i0 pb f,fG aj hx 1 i0 m g,fG aj hx 1 i0 p1 v,fG aj hx 1 i0 p2 l,fG aj hx 1 i0 V r] ⋯
theorem QK(aj:fQ c o.aG (cv O nm qn) ao)(hx:c.cps.size<=1000000)(f:eM c vQ b X y u)(hk:oM c y u i)(A:bU)(kk:HK):mq 270 293 A (Jy o vQ tv kk) (jM o c (cv O nm qn) ao i0 b pb) i:=vy (j:=λ D=> .call (R 286) ⟨[R o.aL,S vMe D],[]⟩) (GB _) (Gp _) (λ D=>Ş aj hx hk) (⋯:260<=270) (nd 16 52 0x2132000000200000200000212013200000020000020000021) [fG aj hx 1 i0 pb f,qW (λ q=> .call (.builtin "str.join") ⟨[S (bW #[44,32]) (AY q.c),S vQ (ų q.c)],[]⟩) G3 λ j j=>Mc] ⋯
theorem QP(o:dz):i7 457 ⟨[R o.aL],[]⟩ 270 [1,1,1] (uz o) []:=by unfold i7;kernel_rfl
theorem QQ(o:dz):i7 450 ⟨[R o.aL],[]⟩ 360 [1,1,1] (uz o) []:=by unfold i7;kernel_rfl
theorem QR(o:dz)(tv:cp):i7 293 ⟨[R o.aL,S vQ tv],[]⟩ 270 [1,1,1,1,1] (Jy o vQ tv) []:=by unfold i7;kernel_rfl
theorem QS(o:dz):i7 237 ⟨[R o.aL],[(bW #[101,111,102], .bool X)]⟩ 270 [1,0,1,1,1,1] (Bo o) []:=by unfold i7;kernel_rfl
end
section
variable{c:cb}{O:Nat}{nm qn:bX}{ao:FG}{o:dz}{i0 b:Nat}{pb:Bool}{i:Option Nat}
theorem PL(aj:fQ c o.aG (cv O nm qn) ao)(hx:c.cps.size<=1000000)(hi:b=c.cps.size)(A:bU)(kk:HK):mq 270 237 A (Bo o kk) (jM o c (cv O nm qn) ao i0 b X) W:=by refine mq.F4 (g:=260) (GD _) (Gq _) (λ s aw V ae ah f J L G=>?_) ⋯;refine cK L.pull.vE λ fS h6 q=>?_;refine zT (h6.now.G_ hi) λ ys e1 e2 u ps F q1 l q2=>?_;rw[i2];show cm _ s (fb 237 A) V aw f;have X2:At ae ah (a6i A (Bo o kk) o O nm qn ys e1 e2++((246,dm ps)::dx c i0 ys)) (ao u) f:=(q _ q2.eF).pull.ix [0,1,2,3,4,5,6];refine xG J X2.push _ 2000 Xt [sR 5 o.aG (cv O nm qn) (Fr ((246,dm ps)::dx c i0 ys) (ao u)) (ug (Fr ((246,dm ps)::dx c i0 ys) (ao (c.cps.size+1)))) λ j j z E h3=>aj.Ū (ls:=(246,dm ps)::dx c i0 ys) (v:=u) (E:=5) z E h3 l] [0,1,2,3,4,5] (λ j j=>Fr ((246,dm ps)::dx c i0 ys) (ao (c.cps.size+1))) (bT λ D=> .call (R 286) ⟨[R o.aL,S vMn D],[]⟩) (λ j j k=>[jf (k.2.T.get 0),inst 460 o.aD,dU o,lst [] e1,lst (refs ys) e2,cv O nm qn]) bE Cg ⋯ λ au d p k e X3=>?_;refine eA (eo e) λ e3 B=>?_;have H:At ae ah ([(A,jf (k.2.T.get 0))]++[(o.aL,inst 460 o.aD),(o.aD,dU o)]++([(o.fN,lst [] e1),(o.er,lst (refs ys) e2),(o.aG,cv O nm qn)]++((246,dm ps)::dx c i0 ys))) (ao (c.cps.size+1)) au:=X3.pull;have M:=(H.push.ghost (r:=cH o c (cv O nm qn) ao i0 b X) λ C hf=>cH.eF (cH.ű hi F q1 hf.now)).push;exact vm (G au _ _ _ _ (wZ e3) M (Ş aj hx (.inr (cZ rfl hi rfl))) (congrFun B))
theorem SX(aj:fQ c o.aG (cv O nm qn) ao)(hx:c.cps.size<=1000000)(hi:b=c.cps.size):mG 280 (uM o.aL) (jM o c (cv O nm qn) ao i0 b X) W:=xn GD Gq Up (QS o) λ A kk=>PL aj hx hi A kk
theorem Ui{m p1 p2 V p:Bool}(aj:fQ c o.aG (cv O nm qn) ao)(hx:c.cps.size<=1000000)(f:eM c dr b X d m)(g:eM c de d X a p1)(v:eM c vx a X e p2)(l:eM c vu e X k V)(r:eM c vU k X n p)(hk:oM c n p i):mG 280 (.call (R 457) ⟨[R o.aL],[]⟩) (jM o c (cv O nm qn) ao i0 b pb) i:=xn GA Gn Um (QP o) λ A kk=>QM aj hx f g v l r hk A kk
theorem GG(aj:fQ c o.aG (cv O nm qn) ao)(hx:c.cps.size<=1000000)(f:eM c vQ b X y u)(hk:oM c y u i)(D:cp):mG 280 (.call (R 293) ⟨[R o.aL,S vQ D],[]⟩) (jM o c (cv O nm qn) ao i0 b pb) i:=xn GB Gp Uo (QR o D) λ A kk=>QK aj hx f hk A kk
end
section
variable{c:cb}{O:Nat}{nm qn:bX}{ao:FG}{o:dz}{i0 b d:Nat}{m pb:Bool}{i:Option Nat}(aj:fQ c o.aG (cv O nm qn) ao)(hx:c.cps.size<=1000000)
include aj hx
theorem Qp(f:eM c nr b X d m)(aX:mG 280 (uM o.aL) (jM o c (cv O nm qn) ao i0 d m) i)(A:bU)(kk:HK):mq 360 450 A (uz o kk) (jM o c (cv O nm qn) ao i0 b pb) i:=vy (j:=λ D=>uM o.aL) (xD _) (xv _) (λ j=>aX) (⋯:280<=360) (nd 16 47 0x3200000020000020000021203200000020000020000021) [fG aj hx 1 i0 pb f] ⋯
theorem Qo(f:eM c nr b X d m)(hi:d<c.cps.size)(aX:∀D,mG 280 (.call (R 293) ⟨[R o.aL,S vQ D],[]⟩) (jM o c (cv O nm qn) ao i0 (d+1) X) i)(A:bU)(kk:HK):mq 360 450 A (uz o kk) (jM o c (cv O nm qn) ao i0 b pb) i:=vy (j:=λ D=> .call (R 293) ⟨[R o.aL,S vQ D],[]⟩) (xD _) (xv _) aX (⋯:280<=360) (nd 16 72 0x32000000200000200000210203200000020000020000021203200000020000020000021) [fG aj hx 1 i0 pb f,J9 aj hx 1 i0 d m hi] ⋯
theorem Qn(f:eM c nr b U d m)(aX:mG 280 (.call (R 457) ⟨[R o.aL],[]⟩) (jM o c (cv O nm qn) ao i0 d m) i)(A:bU)(kk:HK):mq 360 450 A (uz o kk) (jM o c (cv O nm qn) ao i0 b pb) i:=vy (j:=λ D=> .call (R 457) ⟨[R o.aL],[]⟩) (xD _) (xv _) (λ j=>aX) (⋯:280<=360) (nd 16 45 0x32000020000020000021203200000020000020000021) [fG aj hx 1 i0 pb f] ⋯
theorem Qm(f:eM c nr b U d m)(n:ĭ o c O nm qn ao i0 d m y k)(aX:∀D,mG 280 (.call (R 293) ⟨[R o.aL,S vQ D],[]⟩) (jM o c (cv O nm qn) ao i0 y k) i)(A:bU)(kk:HK):mq 360 450 A (uz o kk) (jM o c (cv O nm qn) ao i0 b pb) i:=vy (j:=λ D=> .call (R 293) ⟨[R o.aL,S vQ D],[]⟩) (xD _) (xv _) aX (⋯:280<=360) (nd 16 69 0x32000000200000200000212032000020000020000021203200000020000020000021) [fG aj hx 1 i0 pb f,qM 457 o 1 (λ j=>[]) (gN o c O nm qn ao i0 d m) (mu 340 (gN o c O nm qn ao i0 y k)) λ j j=>n] ⋯
end
section
variable{s:cR}{F:ES}{f:cc}{i:eV}{r:List bU}{e:bU}{d:bV}{aq:di}{ai:bU}{aQ:List di}{c B:cN}{G:lh}{m:dK}
theorem Vc(p:(s.over c [.ret (lr aq G (jJ aq)) W X [] B m []]).frames=Y (aq::aQ))(l:(s.over B []).frames=Y (aq::aQ))(hf:aq.frame=Y ai)(hE:mz i r e (aq::aQ))(ao:∃k,i.get? e=Y k)(az:hY i r e d (Y W) f.heap)(a:∀h',hY i r e d (Y W) h'->F (.ret (.error (R e))) {f with heap:=h'}):da (bZ bY w) s c (kv aq (R e)) [.ret (lr aq G (jJ aq)) W X [] B m []] f F:=by
 unfold kv sj;refine mv (cJ (xm p hf hE ao az (.inr rfl) λ h' u=>Pb ?_));refine s_pop bY w s c [] F _ (.error (R e)) _ rfl _ _ _ _ _ _ _ ?_;unfold lr;refine mv (D4 (ml ?_));refine cJ (Mt u λ b z E=>?_);have hv:(b==jt)=X:=by have:=E (λ q=>nomatch q);simp[this]
 rw[if_neg (by rw[hv];decide),hf];refine qL (f:={f with heap:=h'}) u λ ae g=>?_;unfold jJ;refine mv (zS (f:={f with heap:=ae}) l hf hE ao g (.inr (.inr rfl)) λ h3 j=>?_);exact O_ bY w _ _ _ _ (.error (R e)) _ rfl (a h3 j)
end
theorem SA(a:cm (bZ bY w) (s.over (.forLoop i v t g aq) fs) (oO v) (λ j j=>False) (λ c n=>da (bZ bY w) s (.forLoop i v t g aq) (kv aq c) fs n F) f):da (bZ bY w) s (.forLoop i v t g aq) (gp fV (.forLoop i v t g aq)) fs f F:=by show da _ s _ ((ň i v t g aq).onRaise (sj aq)) fs f F;unfold ň;refine ku bY w s _ fs F f _ 1 ?_;show da _ s _ (Dt ((oO v).onRaise (λ j=>qN {i.pos with line:=0})>>=λ d=>_) (sj aq)) fs f F;rw[wI,mP,mj];refine mv (D4 (kS a (λ c n hx=>hx.elim) λ c n hx=>pC ?_));show da _ s _ _ fs n F;have e1:kv aq c=(sj aq c).wrap (λ j=> .raise c) .raise id id:=rfl;rw[e1]at hx;first|exact hx|(rw[<-uR]at hx;exact hx)
noncomputable def uq(s:cR)(ax:RS)(g:bU)(O:Nat)(e:End)(au:cc):Prop:=match e with| .ret (.error c)=>cm (bZ bY w) s.in1 (wF (R g) c:cD fE) (λ aj n=>match aj with| .done C=>ax (.ok C) n| .again c'=>c'.quiet=U/\dQ (bZ bY w) s c' ax n) (λ e n=>ax (.error e) n) (au.setGen O .finished)|_=>False
theorem CT(J:s.handled=W)(hd:s.depth<zy)(hl:f.heap.NoLimit)(hg:f.heap.IsGen g O)(F:f.gens[O]?=Y gs)(a:HQ s.in1 gs (f.setGen O .running) (uq s ax g O)):dQ (bZ bY w) s (.call (.builtin "generator.__next__") ⟨[R g],[]⟩) ax f:=by
 refine kg uX.plain CX (uX.check _ _ _ _ _ _ _ _ hg.typeIs (D6 _) ?_);show cm _ _ (wC (R g) (.send .none)) _ _ f;unfold wC;refine cJ (qE (CO hg (cJ (CV F ?_))));have aQ:∀(e:End)(au:cc),uq s ax g O e au->cm (bZ bY w) s.in1 ((λ m=>(match m with
  |KS b=>ret b
  | .returned b=>do
   if b== .none then
    s9 (<-lS (T "StopIteration") [])
   q8 "generator.return-value"
   throw (<-lS (T "StopIteration") [b])
  | .raised e=>do
   if let LG _:=Ć .none then
    if gs.status==Lh then
     q8 "generator.throw.into-fresh"
     throw e
   wF (R g) e
  | .running=>do
   q8 "generator.already-executing"
   raiseError"ValueError" "generator already executing"
  | .justStarted=>do
   q8 "generator.send-to-fresh"
   raiseError"TypeError" "can't send non-None value to a just-started generator"
  | .finished=>match Ć .none with
   | .send _=>do
    s9 (<-lS (T "StopIteration") [])
   | .throw e=>throw e:cD Fin)) e.result) (λ aj n=>match aj with| .done C=>ax (.ok C) n| .again c'=>c'.quiet=U/\dQ (bZ bY w) s c' ax n) (λ e n=>ax (.error e) n) (au.setGen O e.genState):=by intro e au he;cases e with|susp b l r i B u fs=>exact he.elim|ret d=>cases d with|ok C=>exact he.elim|error c=>exact he
 cases gs with
  |running=>exact a.elim
  |finished=>exact a.elim
  |fresh ak=>
   refine cJ (ø hl hd ?_);show cm _ _ (.resume O (.send .none) [] _) _ _ f;refine į Fin bY w F (.inl (iC rfl rfl rfl rfl)) (·.In s.in1) (λ j a=>a) ?_;have h':da (bZ bY w) s.in1 ak (gp fV ak) [] (f.setGen O .running) (uq s ax g O):=by rw[pP];exact a
   exact Ě h' λ e au he v u Q=>aQ e au he v u Q
  |suspended q p ak o t k=>refine cJ (ø hl hd ?_);show cm _ _ (.resume O (.send .none) [] _) _ _ f;refine į Fin bY w F (.inr (ś q p o k rfl rfl)) (·.In s.in1) (λ j a=>a) ?_;exact Ě a λ e au he v u Q=>aQ e au he v u Q
noncomputable def Ju:bX->bX->cD Bool:=b2p
theorem TU:@č=Ju:=b2x
noncomputable def xV(t:jQ)(vs:Array bX):bV:=⟨R 177,Y t.dE, .fields vs,#[]⟩
theorem TP(t:jQ)(vs:Array bX):jX [(t.e,xV t vs)] W 100 500 (Ju (R t.e) (T ŭ)) [1,0] X:=kA
structure Ç(f n:cc):Prop where
 k:∀l k,f.heap.get? l=Y k->n.heap.get? l=Y k
 z:f.heap.objs.size<=n.heap.objs.size
 g:n.gens=f.gens
 d:n.drawn=f.drawn
 os:n.os=f.os
section
variable{s:cR}{aw:VS}{f:cc}{i:eV}{r:List bU}{t:jQ}{fl:Option (Option bU)}
theorem f_{V:Bool->cc->Prop}(J:cj 100 W s)(M:Base f.heap)(d:dp.get t.e=W)(az:hY i r t.e (mH t) fl f.heap)(G:∀n,Ç f n->V X n):cm (bZ bY w) s (č (R t.e) (T "StopIteration")) V aw f:=by
 refine sJ az.ex λ vs z E h3=>?_;have hs:f.heap.get? t.e=Y (xV t vs):=z;have aR:Fr [(t.e,xV t vs)] (λ q c=>c.gens=f.gens) (λ l=>l=t.e) f:=by
  refine⟨λ u hp=>?_,gI.mpr ⟨λ a=>(nomatch a),pB⟩,gZ,λ g=>?_,λ g q a=>a,tU⟩;·cases hp with|head=>exact hs|tail _ hp=>cases hp
  ·constructor;·rintro rfl;exact .inl (.head _)
   ·rintro(a|a);·cases a with|head=>rfl|tail _ a=>cases a
    ·exact a.elim
 have L:At f (λ l=>l=t.e) [(t.e,xV t vs)] (λ q c=>c.gens=f.gens) f:=At.start M (λ l ak=>by have b:l=t.e:=ak;subst b;exact⟨fc hs,d⟩) aR;rw[a_,TU];refine mR J L _ 500 _ X (TP t vs) λ n X'=>G n ⟨λ l k m=>?_,X'.size,?_,X'.drawn,X'.os⟩;·
  by_cases e:l=t.e;·subst e;rw[hs]at m;cases m;exact X'.has _ (.head _)
  ·exact X'.keep l k m e
 ·(refine cK X'.own λ _ _ o=>?_;obtain⟨_,_,_,_,_,j⟩:=o);exact j.now
theorem NP{V:fE->cc->Prop}(J:cj 100 W s)(M:Base f.heap)(d:dp.get t.e=W)(ha:f.heap.get? g=Y (cv O nm qn))(az:hY i r t.e (mH t) fl f.heap)(G:∀n,Ç f n->aw (R t.e) n):cm (bZ bY w) s (wF (R g) (R t.e):cD fE) V aw f:=by unfold wF b7t;refine cJ (cJ (zL ha (ed ?_)));refine cJ (f_ J M d az λ au S1=>?_);have b:Base au.heap:=λ l k m=>S1.k l k (M l k m);rw[if_neg (by simp)];unfold b7v;refine cJ (f_ J b d (az.ext S1.z S1.k) λ aJ a=>?_);rw[if_pos ⋯];exact ml (G aJ ⟨λ l k q=>a.k l k (S1.k l k q),dZ S1.z a.z,a.g.trans S1.g,a.d.trans S1.d,a.os.trans S1.os⟩)
theorem Gb{V:Option bX->cc->Prop}(hT:f.TypeIs (R g) "generator")(a:dQ (bZ bY w) s (.call (.builtin "generator.__next__") ⟨[R g],[]⟩) (λ d n=>match d with| .error c=>cm (bZ bY w) s (č c (T "StopIteration")) (λ l aK=>l=X/\aw c aK) (λ j j=>False) n| .ok _=>False) f):cm (bZ bY w) s (oO (R g)) V aw f:=by unfold oO;refine cJ (wpAny_attempt (Kk (name:=gj "__next__") hT uX (wpAny_call (ÿ a λ d n D=>?_))));cases d with|ok C=>exact D.elim|error c=>refine cJ (kS D (λ l aK M=>?_) λ j j q=>q.elim);obtain⟨rfl,hE⟩:=M;rw[if_neg zp];exact ml hE
end
theorem km.base{f:cc}{fp:AP}{b:List di}{i:Option Nat}{t:jQ}{r:List bU}{au n:cc}(ax:km f fp b i t r au n):Base n.heap:=λ l k m=>by
 (refine cK ax.X.own λ az z a=>?_;obtain⟨E,h3,fS,h4,h5,h6⟩:=a);refine ax.F.keep l k (ax.X.base l k m) (λ e=>?_) λ hm=>?_;·have:az l:=(h4 l).mpr (.inl (e▸jd (f:=λ u:bU×bV=>u.1) (qS t i)));rw[(z l this).2.2]at m;cases m
 ·rw[(ax.l1 l hm).2.2]at m;cases m
theorem km.kt{f:cc}{fp:AP}{b:List di}{i:Option Nat}{t:jQ}{r:List bU}{au n:cc}(ax:km f fp b i t r au n):dp.get t.e=W/\(fp t.e\/f.heap.objs.size<=t.e):=by(refine cK ax.X.own λ az z a=>?_;obtain⟨E,h3,fS,h4,h5,h6⟩:=a);have:az t.e:=(h4 _).mpr (.inl (jd (f:=λ u:bU×bV=>u.1) (qS t i)));exact⟨(z _ this).2.2,(z _ this).1⟩
theorem km.keep{f:cc}{fp:AP}{b:List di}{i:Option Nat}{t:jQ}{r:List bU}{au n:cc}(ax:km f fp b i t r au n){l:bU}{k:bV}(M:f.heap.get? l=Y k)(hf:¬fp l)(hn:l∉gW b):n.heap.get? l=Y k:=by
 have lt:=fc M;refine ax.F.keep l k (ax.X.keep l k M hf) (λ e=>?_) λ hm=>?_;·
  rcases ax.kt.2 with q|q;·exact hf (e▸q)
  ·exact absurd lt (iA.mpr (e▸q))
 ·rcases ax.l2 l hm with q|q|q;·exact hn q
  ·exact absurd lt (iA.mpr q)
  ·exact hf q
theorem km.ext{f:cc}{fp:AP}{b:List di}{i:Option Nat}{t:jQ}{r:List bU}{au n aK:cc}(ax:km f fp b i t r au n)(aj:Ç n aK):km f fp b i t r au aK:=⟨ax.X,ax.l1,ax.l2,ax.ok,ax.F.ext aj.z aj.k,aj.d.trans ax.d,aj.os.trans ax.os,by rw[aj.g];exact ax.b⟩
section
theorem km.up{ae aK au n:cc}{fp az fS:AP}{ls:List (bU×bV)}{P:GP}{aq:di}{ai:bU}{aQ:List di}{i:Option Nat}{t:jQ}{r:List bU}(x:km aK fS (aq::aQ) i t r au n)(L:At ae fp ls P aK)(z:∀l,az l->(fp l\/ae.heap.objs.size<=l)/\l<aK.heap.objs.size/\dp.get l=W)(E:∀l,fS l->az l)(hf:aq.frame=Y ai)(hL:az ai){a:eV}(u:hY au.heap r t.e (mH t) (Y W) a){aM:cc}(e1:aM.heap=a)(e2:aM.drawn=n.drawn)(e3:aM.os=n.os)(e4:aM.gens=n.gens:=by rfl):km ae fp aQ i t r au aM:=by
 refine⟨L.trans z E x.X,x.l1,λ l M=>?_,λ c he=>x.ok c (.tail _ he),e1▸u,e2.trans x.d,e3.trans x.os,by rw[e4];exact x.b⟩;rcases x.l2 l M with q|q|q;·
  have q':l∈(aq::aQ).filterMap (·.frame):=q;rw[tF,hf]at q';rcases fw.mp q' with rfl|q';·exact .inr (z l hL).1.symm
  ·exact .inl q'
 ·exact .inr (.inl (dZ L.size q))
 ·exact .inr (z l (E l q)).1.symm
theorem Fl{s:cR}{ax:RS}{f aK au n:cc}{fp az fS:AP}{ls:List (bU×bV)}{P:GP}{aq:di}{ai:bU}{aQ:List di}{i:Option Nat}{t:jQ}{r:List bU}{c B:cN}{a:lh}{m:dK}{g:bU}{O:Nat}{nm qn:bX}(J:cj 110 W s)(b9:s.frames=Y aQ)(k:c.envs=[])(hc:B.envs=[aq])(aR:B.isFrame=U)(o:B.env?=Y aq)(hf:aq.frame=Y ai)(x:km aK fS (aq::aQ) i t r au n)(L:At (f.setGen O .running) fp ls P aK)(z:∀l,az l->(fp l\/f.heap.objs.size<=l)/\l<aK.heap.objs.size/\dp.get l=W)(E:∀l,fS l->az l)(hL:az ai)(ha:f.heap.get? g=Y (cv O nm qn))(aw:¬fp g)(ba:g∉gW aQ)(G:∀n e,š f fp aQ i e n->ax (.error (R e)) n):da (bZ bY w) s.in1 c (kv aq (R t.e)) [.ret (lr aq a (jJ aq)) W X [] B m []] n (uq s ax g O):=by
 have C:(s.in1.over B []).frames=Y (aq::aQ):=by show mS B.envs (mS (se []) s.frames)=_;rw[hc,b9];rfl
 have ae:(s.in1.over c [.ret (lr aq a (jJ aq)) W X [] B m []]).frames=Y (aq::aQ):=by
  show mS c.envs (mS (se [(B,m)]) s.frames)=_;rw[k,b9];have:se [(B,m)]=[aq]:=by unfold se;simp[aR,o]
  rw[this];rfl
 refine eA x.kt λ d _=>?_;have X':At f fp ls P aK:=⟨L.base,L.own,L.keep,L.size,L.drawn,L.os⟩;refine Vc ae C hf x.ok ⟨_,x.X.has _ (qS t i)⟩ x.F λ h' u=>?_;have b:km f fp aQ i t r au {n with heap:=h'}:=x.up X' z E hf hL u rfl rfl rfl;show cm (bZ bY w) s.in1 (wF (R g) (R t.e):cD fE) _ _ ({n with heap:=h'}.setGen O .finished);have Rc:km f fp aQ i t r au ({n with heap:=h'}.setGen O .finished):=⟨b.X,b.l1,b.l2,b.ok,b.F,b.d,b.os,b.b.set rfl⟩;refine NP (cj.in1 (J.less ⋯)) Rc.base d (Rc.keep ha aw ba) Rc.F λ aM j=>?_;exact G aM t.e (Ŵ t r au rfl (Rc.ext j))
end
theorem LB(hm:f.heap.get? g=Y (kx C c))(a:dQ (bZ bY w) s (.call (R C) ⟨[R c],[]⟩) ax f):dQ (bZ bY w) s (.call (R g) ⟨[],[]⟩) ax f:=by
 have aM:f.heap.get? g=Y {cls:=T "method",data:= .fields #[R C,R c]}:=by rw[hm];unfold kx;rw[<-Ei]
 refine codeAny_of_tree ?_;show cm _ _ (callAny (R g) ⟨[],[]⟩) _ _ f;unfold callAny;refine cJ (zL aM ?_);show cm _ _ (if(T "method" ==T "method" ||T "method" ==T "builtin_function_or_method" ||T "method" ==T "method-wrapper")=U then _ else _) _ _ f;rw[if_pos ⋯];exact ed ⟨rfl,a⟩
noncomputable def B8(v:Nat)(g:bU)(O:Nat)(nm qn:bX)(γ:GP)(i:Option Nat):Prop:=∀(s:cR)(ax:RS)(f:cc)(fp:AP)(b:List di),cj v W s->s.frames=Y b->kE f fp b->Base f.heap->(∀l,fp l->l<f.heap.objs.size/\dp.get l=W)->dD fp γ f->f.heap.get? g=Y (cv O nm qn)->¬fp g->g∉gW b->(∀n e,š f fp b i e n->ax (.error (R e)) n)->dQ (bZ bY w) s (.call (.builtin "generator.__next__") ⟨[R g],[]⟩) ax f
theorem Ep(g:bU):(hE g).frame=Y g:=⋯
theorem QA(g:bU):(hE g).scope.kind≠ .module:=by
 have:(hE g).scope.kind= .function:=⋯
 rw[this];exact λ a=>nomatch a
theorem Er(g:bU):(kM g).envs=[]:=⋯
theorem NM(g:bU):(l8 g).envs=[hE g]:=⋯
theorem Ua(g:bU):(l8 g).isFrame=U:=⋯
theorem QB(g:bU):(l8 g).env?=Y (hE g):=⋯
theorem Ms(g:bU)(m:dK):se ((nj g m).map tK)=[hE g]:=⋯
section
variable{c:cb}{oG:bV}{ao:iH}{o:dz}{V:Nat}{ai:GL}{y:Nat}{B:bU}{nm qn:bX}{i:Option Nat}
theorem kE.on{ae aK:cc}{ah:AP}{ls:List (bU×bV)}{P:GP}{aQ:List di}(hF:kE ae ah aQ)(L:At ae ah ls P aK){az fS:AP}(z:∀l,az l->(ah l\/ae.heap.objs.size<=l)/\l<aK.heap.objs.size/\dp.get l=W)(E:∀l,fS l->az l):kE aK fS aQ:=λ aq he=>by
 refine mQ (hF aq he) λ q1 ai k q2 q3 q4 q5 q6=>?_;refine(s8 q1 ai k q2 (L.keep _ _ q3 q5) q4 (λ b=>?_) q6);rcases(z ai (E ai b)).1 with j|j;·exact q5 j
 ·exact absurd (fc q3) (iA.mpr j)
theorem Ub(aj:iu c o.aG oG ao)(hL:∀q∈ai,q.1≠V)(D:∀k5,vA {o with k5:=k5} (cH o c oG (ao ((V,ee)::ai)) 0 0 X) 450 (cH o c oG (ao ((V,ee)::ai)) 0 y X))(C2:∀k5,mG 370 (.call (R 450) ⟨[R o.aL],[]⟩) (jM {o with k5:=k5} c oG (ao ((V,ee)::ai)) 0 y X) i):B8 510 B V nm qn (oq o c oG ao V ai) i:=by
 intro s ax f fp aQ J b9 hF M ah hC hG aw ba G;obtain⟨A,g,af,Q,bc⟩:=hC.now;obtain⟨g1,O,fS,g3,g4,g5⟩:=id bc;(refine cK ((cH.gens aj g5.now).2 (V,gA (l8 A)) (.head _)) λ gs F v=>?_;subst v);refine CT J.h (by have:=J.d;exact lZ this) (lF _ M) (lp hG) F ?_;show da (bZ bY w) s.in1 (l8 A) (dn (l8 A)) [] (f.setGen V .running) (uq s ax B V);rw[<-pP];have b8:cj 500 W s.in1:=cj.in1 (J.less ⋯);have F1:Fr (z9 A g o.aG af o Q) (cH o c oG (ao ((V,ee)::ai)) 0 0 X) fp (f.setGen V .running):=⟨g1,O,fS,g3,g4,cH.setGen (ai:=(V,gA (l8 A))::ai) (G:=(V,ee)::ai) aj ⟨_, .head _⟩ rfl (λ q hq=>by cases hq with|head=>exact⟨λ j=>rfl,λ ay=>absurd rfl ay⟩|tail _ hq=>exact⟨λ e=>absurd e (hL q hq),λ j=> .tail _ hq⟩) g5⟩;refine Fi b8 (At.start (f:=f.setGen V .running) M (λ l ak=>ah l ak) F1) λ a k5 p1 m au bb aU=>?_;have A1:∀{u},cj 420 W (s.in1.over (kM a.a) (nj a.a u)):=xR (b8.less ⋯);refine xk b8 aU λ aJ aR=>?_;refine xu A1 aR (wm a.a) 1000 vO [Bl [1,2] [(o.aL,inst 460 o.aD),(o.aD,dU {o with k5:=k5})] (.call (R 394) ⟨[R o.aL],[]⟩) (cH o c oG (ao ((V,ee)::ai)) 0 0 X) (sa 300 450 o.aL (cH o c oG (ao ((V,ee)::ai)) 0 y X)) λ j j z E h3 h4=>D k5 (jL:=1) (jD:=2) z E h3 h4 ⋯] [0,1,2,3,5] (λ j j=>cH o c oG (ao ((V,ee)::ai)) 0 y X) (λ j j j=> .pure (.again (kM a.a))) (λ d j j=>[jN a o.aL (R (d 0)),inst 460 o.aD,dU {o with k5:=k5},lst [] Q,kx 450 o.aL]) (λ j j j=>()) (λ j j j=>()) ⋯ λ aM d p k j aY=>?_;have aY:At (f.setGen V .running) fp (hP a {o with k5:=k5} (d 0) 450 [] Q) _ aM:=aY;refine nH bY w _ _ _ _ _ _ (zR _) ?_;refine n_ b8 aY λ aK p2 aZ=>?_;refine xk b8 aZ λ aV b4=>?_;show da (bZ bY w) s.in1 (kM a.a) ((fZ oi (hE a.a)).wrap (ß a.a) (kv (hE a.a)) id id) (nj a.a m) aV (uq s ax B V);refine mv ?_;refine xp A1 b4 _ 1000 (nd 16 3 0x051) [] [0,3,4,1,2] (λ j j k=> .call (.call (R (d 0)) ⟨[],[]⟩) W (IM k.1) (II k.1) (À k.1)) (λ j j j=>[jN a o.aL (R (d 0)),lst [] Q,kx 450 o.aL,inst 460 o.aD,dU {o with k5:=k5}]) (λ j j k e=>kZ ⟨bY,w.params⟩ 20 (À k.1 (.error (R e)))) (λ j j j e=> .raise (R e)) ⋯ λ b3 H L o' kk b7=>?_;have b5:At (f.setGen V .running) fp [(a.a,jN a o.aL (R (d 0))),(o.fe,lst [] Q),(d 0,kx 450 o.aL)] (jM {o with k5:=k5} c oG (ao ((V,ee)::ai)) 0 y X) b3:=At.push (l1:=[(a.a,jN a o.aL (R (d 0))),(o.fe,lst [] Q),(d 0,kx 450 o.aL)]) (l2:=[(o.aL,inst 460 o.aD),(o.aD,dU {o with k5:=k5})]) b7;(refine cK (id b5.own) λ az z b=>?_;obtain⟨E,h3,C,h4,h5,h6⟩:=b);have aX:kE (f.setGen V .running) fp aQ:=hF;have jN:kE b3 C (hE a.a::aQ):=by intro aq he;cases he with|head=>exact⟨QA _,a.a,_,Ep _,E _ (.head _),λ vs e=>(nomatch e),h5 a.a (.head _),(z a.a ((h4 _).mpr (.inl (.head _)))).2.2⟩|tail _ he=>exact aX.on b5 z (λ l M=>(h4 l).mpr (.inr M)) aq he
 have ae:(s.in1.over (kM a.a) (nj a.a m)).frames=Y (hE a.a::aQ):=by show mS (kM a.a).envs (mS (se ((nj a.a m).map tK)) s.frames)=_;rw[Er,Ms,b9];rfl
 refine vm (LB (E (d 0,kx 450 o.aL) (.tail _ (.tail _ (.head _)))) ?_);refine C2 k5 _ _ b3 C _ (A1.less ⋯) ae jN b5.base (λ l M=>(z l ((h4 l).mpr (.inr M))).2) h6 λ n e⟨t,r,b6,he,x⟩=>?_;subst he;refine xM 20 ?_;rw[congrFun kk];refine ml ?_;exact Fl (J.less ⋯) b9 (Er _) (NM _) (Ua _) (QB _) (Ep _) x b5 z (λ l M=>(h4 l).mpr (.inr M)) ((h4 _).mpr (.inl (.head _))) hG aw ba G
end
theorem ĩ(g:bU):(cE g).frame=Y g:=⋯
theorem Ro(g:bU):(cE g).scope.kind≠ .module:=by
 have:(cE g).scope.kind= .function:=⋯
 rw[this];exact λ a=>nomatch a
theorem EB(g B:bU):(gu g B).envs=[]:=⋯
theorem Rp(g:bU):(cC g).envs=[cE g]:=⋯
theorem Xs(g:bU):(cC g).isFrame=U:=⋯
theorem V0(g:bU):(cC g).env?=Y (cE g):=⋯
theorem Ow(g:bU)(m:dK):se ((jF g m).map tK)=[cE g]:=⋯
section
variable{c:cb}{oG:bV}{ao:iH}{o:dz}{gC:Nat}{aC:bU}{nm qn:bX}{i:Option Nat}
theorem V1(aj:iu c o.aG oG ao)(aa:∀B V g p,V≠gC->B8 510 B V g p (oq o c oG ao V [(gC,ee)]) i):B8 591 aC gC nm qn (qx o c oG ao gC) i:=by
 intro s ax f fp aQ J b9 hF M ah hC hG aw ba G;obtain⟨A,af,Q,bc⟩:=hC.now;obtain⟨g1,O,fS,g3,g4,g5⟩:=id bc;have hL:dp.get o.aL=W:=(ah _ ((g3 _).mpr (.inl (by show o.aL∈(A::o.aL::_);exact .tail _ (.head _))))).2;(refine cK ((cH.gens aj g5.now).2 (gC,gA (cC A)) (.head _)) λ gs F D=>?_;subst D);refine CT J.h (by have:=J.d;exact lZ this) (lF _ M) (lp hG) F ?_;show da (bZ bY w) s.in1 (cC A) (dn (cC A)) [] (f.setGen gC .running) (uq s ax aC gC);rw[<-pP];have b8:cj 590 W s.in1:=cj.in1 (J.less ⋯);have F1:Fr (ze A o.aL o.aG af++[(o.aL,inst 460 o.aD),(o.aD,lH o),(o.fe,lst [] Q)]) (cH o c oG (ao [(gC,ee)]) 0 0 X) fp (f.setGen gC .running):=⟨g1,O,fS,g3,g4,cH.setGen (ai:=[(gC,gA (cC A))]) (G:=[(gC,ee)]) aj ⟨_, .head _⟩ rfl (λ q hq=>by cases hq with|head=>exact⟨λ b=>rfl,λ ay=>absurd rfl ay⟩|tail _ hq=>cases hq) g5⟩;refine Fx aj b8 hL (At.start (f:=f.setGen gC .running) M (λ l ak=>ah l ak) F1) λ a B V g p st m au bb ay L=>?_;refine SA ?_;(refine cK (id L.own) λ az z u=>?_;obtain⟨E,h3,C,h4,h5,h6⟩:=u);have v:=E (B,cv V g p) (.tail _ (.head _));refine x_ (lp v) λ P _ _ nx pf _=>?_;refine Gb ⟨P,nx,pf⟩ ?_;have aX:kE (f.setGen gC .running) fp aQ:=hF;have H:=gI.mp h3;have fA:az a.a:=(h4 _).mpr (.inl (.head _));have fH:az B:=(h4 _).mpr (.inl (.tail _ (.head _)));have jN:kE au C (cE a.a::aQ):=by intro aq he;cases he with|head=>exact⟨Ro _,a.a,_,ĩ _,E _ (.head _),λ vs e=>(nomatch e),h5 a.a (.head _),(z a.a fA).2.2⟩|tail _ he=>exact aX.on L z (λ l M=>(h4 l).mpr (.inr M)) aq he
 have ae:(s.in1.over (gu a.a B) (jF a.a m)).frames=Y (cE a.a::aQ):=by show mS (gu a.a B).envs (mS (se ((jF a.a m).map tK)) s.frames)=_;rw[EB,Ow,b9];rfl
 have y:B∉gW (cE a.a::aQ):=by
  unfold gW;rw[tF,ĩ];intro hm;rcases fw.mp hm with e|hm;·exact H.1 (by rw[<-e];exact .head _)
  ·refine cK (tG.mp hm) λ aq he ak=>?_;refine mQ (hF aq he) λ q1 ai k q2 q3 q4 q5 q6=>?_;obtain rfl:ai=B:=jo (q2.symm.trans ak);rcases(z ai fH).1 with j|j;·exact q5 j
   ·exact absurd (fc q3) (iA.mpr j)
 have A2:cj 550 W (s.in1.over (gu a.a B) (jF a.a m)):=w6 b8;refine aa B V g p ay _ _ au C _ (A2.less ⋯) ae jN L.base (λ l M=>(z l ((h4 l).mpr (.inr M))).2) h6 v (h5 B (.tail _ (.head _))) y λ n e⟨t,r,aJ,he,x⟩=>?_;subst he;refine f_ (A2.less ⋯) x.base x.kt.1 x.F λ aK d=>⟨rfl,?_⟩;exact Fl (J.less ⋯) b9 (EB _ _) (Rp _) (Xs _) (V0 _) (ĩ _) (x.ext d) L z (λ l M=>(h4 l).mpr (.inr M)) fA hG aw ba G
end
noncomputable def HR(c:cb)(v:Nat)(i:Option Nat):Prop:=(cu c nr v=X/\v=c.cps.size/\i=W)\/(cu c nr v=X/\v<c.cps.size/\cu c vQ (v+1)=X/\oM c (v+1) (kY c vQ (v+1)) i)\/(cu c nr v=U/\cu c dr (v+1)=X/\cu c de (v+1)=X/\cu c vx (v+1)=X/\cu c vu (v+1)=X/\cu c vU (v+1)=X/\oM c (v+1) (kY c vU (v+1)) i)\/(cu c nr v=U/\∃y k,μ c (v+1) y k/\cu c vQ y=X/\oM c y (kY c vQ y) i)
section
variable{c:cb}{O:Nat}{nm qn:bX}{o:dz}{i0 v:Nat}{pb:Bool}{i:Option Nat}
theorem Qj(aj:fQ c o.aG (cv O nm qn) ao)(hx:c.cps.size<=1000000)(a:HR c v i):mG 370 (.call (R 450) ⟨[R o.aL],[]⟩) (jM o c (cv O nm qn) ao i0 v pb) i:=by
 refine xn xD xv Un (QQ o) λ A kk=>?_;rcases a with⟨z,E,rfl⟩|⟨z,E,h3,h4⟩|⟨z,E,h3,h4,h5,h6,h7⟩|⟨z,y,k,E,h3,h4⟩;·exact Qp aj hx (cZ z (cU z) (GY z (pD E.symm))) (SX aj hx E) A kk
 ·exact Qo aj hx (cZ z (cU z) rfl) E (λ D=>GG aj hx (cZ h3 (cU h3) rfl) h4 D) A kk
 ·exact Qn aj hx (.t z) (Ui aj hx (cZ E (cU E) rfl) (cZ h3 (cU h3) rfl) (cZ h4 (cU h4) rfl) (cZ h5 (cU h5) rfl) (cZ h6 (cU h6) rfl) h7) A kk
 ·exact Qm aj hx (.t z) (GH aj hx E) (λ D=>GG aj hx (cZ h3 (cU h3) rfl) h4 D) A kk
noncomputable def i5(c:cb)(i:Option Nat):Prop:=∃y,Ţ c 0 y/\HR c y i
theorem zX(g:bU):(xE g).frame=Y g:=⋯
theorem P6(g:bU):(xE g).scope.kind≠ .module:=by
 have:(xE g).scope.kind= .function:=⋯
 rw[this];exact λ a=>nomatch a
theorem P7(g:bU):(lD xS (xE g)).envs=[xE g]:=⋯
theorem Qf(hn:fF c)(h9:c.cps.contains 9=X)(hx:c.cps.size<=1000000)(h0:0<c.cps.size)(hB:i5 c i):mG 635 (.call (R 349) ⟨[S c D,R m],[]⟩) dy i:=by
 intro s ax f fp aQ J b9 hF M ah hC G;refine cK hB λ y hO ao=>?_;have af:c.length<=1048576:=dZ (show c.length<=1000000 from hx) ⋯;refine Eo J M ah hC λ a aj aC gC aX aU o O b6 b8 au L=>?_;have Sf:iu c o.aG (cv O b6 b8) (fU c O):=G2 hn h9 af h0;have A0:cj 620 W (s.under (.func xS (xE a.a))):=cj.func (J.less ⋯);have A1:cj 600 W (s.under (.func xS (xE a.a))).in1.in1:=cj.in1 (cj.in1 (A0.less ⋯));have C:(s.under (.func xS (xE a.a))).frames=Y (xE a.a::aQ):=by show mS (lD xS (xE a.a)).envs s.frames=_;rw[P7,wX,b9];rfl
 have aa:=V1 (aC:=aC) (nm:=aX) (qn:=aU) (gC:=gC) (o:=o) (i:=i) Sf λ B V g p ay=>Ub Sf (λ q hq=>by cases hq with|head=>exact mr ay|tail _ hq=>cases hq) (λ k5=>Đ (o:={o with k5:=k5}) (Sf.ok _) hO) (λ k5=>Qj (o:={o with k5:=k5}) (Sf.ok _) hx ao);refine uS zl ?_;rw[uQ rU _];show cm _ (s.under (.func xS (xE a.a))).in1.in1 (oO (R aC)>>=_) _ _ au;(refine cK (id L.own) λ Fo z Q=>?_;obtain⟨E,h3,fS,h4,h5,h6⟩:=Q);have hG:=E (aC,cv gC aX aU) (.tail _ (.head _));refine x_ (lp hG) λ P _ _ nx pf _=>?_;have A:Fo a.a:=(h4 _).mpr (.inl (.tail _ (.tail _ (.head _))));have fC:Fo aC:=(h4 _).mpr (.inl (.tail _ (.head _)));have H:=gI.mp (gI.mp h3).2;have jN:kE au fS (xE a.a::aQ):=by intro aq he;cases he with|head=>exact⟨P6 _,a.a,_,zX _,E _ (.tail _ (.tail _ (.head _))),λ vs e=>(nomatch e),h5 a.a (.tail _ (.tail _ (.head _))),(z a.a A).2.2⟩|tail _ he=>exact hF.on L z (λ l M=>(h4 l).mpr (.inr M)) aq he
 have ae:aC∉gW (xE a.a::aQ):=by
  unfold gW;rw[tF,zX];intro hm;rcases fw.mp hm with e|hm;·exact H.1 (by rw[e];exact .head _)
  ·refine cK (tG.mp hm) λ aq he ak=>?_;refine mQ (hF aq he) λ q1 ai k q2 q3 q4 q5 q6=>?_;obtain rfl:ai=aC:=jo (q2.symm.trans ak);rcases(z ai fC).1 with j|j;·exact q5 j
   ·exact absurd (fc q3) (iA.mpr j)
 refine cJ (Gb ⟨P,nx,pf⟩ ?_);refine aa _ _ au fS (xE a.a::aQ) (A1.less ⋯) C jN L.base (λ l M=>(z l ((h4 l).mpr (.inr M))).2) h6 hG (h5 aC (.tail _ (.head _))) ae λ n e⟨t,r,aJ,he,x⟩=>?_;subst he;refine f_ (A1.less ⋯) x.base x.kt.1 x.F λ aK d=>⟨rfl,?_⟩;have b:=x.ext d;show cm (bZ bY w) (s.under (.func xS (xE a.a))) (pH (xE a.a) (R t.e)) _ _ aK;refine zS C (zX _) b.ok ⟨_,b.X.has _ (qS t i)⟩ b.F (.inr (.inl rfl)) λ h' u=>?_;exact G _ t.e ⟨t,r,aJ,rfl,b.up L z (λ l M=>(h4 l).mpr (.inr M)) (zX _) A u rfl rfl rfl⟩
end
section
variable{ae f:cc}{ah:AP}{ls:List (bU×bV)}{P:GP}{s:cR}{ai:Nat}{hv:Option bX}
theorem OZ{A:Type}{V:A->cc->Prop}(J:cj ai hv s)(L:At ae ah ls P f)(D:cD A)(H:Nat)(ay:List Nat)(b:A)(hF:∀(B:cN)(d:FA)(p:FD)(γ:GP),ux (cz ls) (fg ls) d γ b (run (cx b1) (pre (cz ls) d) p B hv ai H (.b D) (fB (fg ls) ay [] γ)))(G:∀n,At ae ah ls P n->V b n):cm (bZ bY w) s D V aw f:=by refine o_ J L D H ay [] (λ d j k=>ux (cz ls) (fg ls) d P b k) (λ B d p=>hF B d p P) λ d p k Q=>?_;refine(tJ Q.ob (w_ Q.rc) _ (lC 0 ls.length) ls P Q.cfg (Ğ ls 0 Q.sl) ?_ zq Q.gh (λ n X'=>ed (G n X')));have:=zQ (cz ls) d;rw[gi]at this;exact this
end
theorem At.here(M:Base f.heap)(a:gy f.heap ls)(hn:(cz ls).Nodup)(hk:∀g∈cz ls,dp.get g=W)(hS:∀g,fS g->g<f.heap.objs.size/\dp.get g=W/\g∉cz ls)(hC:dD fS P f):At f (λ l=>l∈cz ls\/fS l) ls P f:=At.start M (λ l ak=>ak.elim (λ q=>⟨a.lt l q,hk l q⟩) λ q=>⟨(hS l q).1,(hS l q).2.1⟩) ⟨a,hn,fS,λ g=>ua,λ g ha hf=>(hS g hf).2.2 ha,hC⟩
theorem tR{A:Type}{V:A->cc->Prop}(J:cj ai hv s)(M:Base f.heap)(a:gy f.heap ls)(hn:(cz ls).Nodup)(hk:∀g∈cz ls,dp.get g=W)(D:cD A)(H:Nat)(ay:List Nat)(b:A)(hF:∀(B:cN)(d:FA)(p:FD)(γ:GP),ux (cz ls) (fg ls) d γ b (run (cx b1) (pre (cz ls) d) p B hv ai H (.b D) (fB (fg ls) ay [] γ)))(G:∀n,Ç f n->V b n):cm (bZ bY w) s D V aw f:=by
 have L:At f (λ l=>l∈cz ls\/gZ l) ls (λ t c=>c.gens=f.gens) f:=At.here M a hn hk (λ g ha=>ha.elim) tU;refine OZ J L D H ay b hF λ n X'=>G n ⟨λ l k m=>?_,X'.size,?_,X'.drawn,X'.os⟩;·
  by_cases e:l∈cz ls;·(refine cK (iN.mp e) λ u hp o=>?_;subst o);have q1:=a u hp;have q2:=X'.has u hp;rw[m]at q1;cases q1;exact q2
  ·exact X'.keep l k m λ q=>q.elim e id
 ·(refine cK X'.own λ _ _ i=>?_;obtain⟨_,_,_,_,_,j⟩:=i);exact j.now
theorem cj.mark(a:cj af W s):cj af (Y e) (s.mark (Y e)):=⟨by show(s.mark (Y e)).handled=Y e;unfold Dw;simp[a.h,markOver],a.d,a.u⟩
noncomputable def oW:List dd:=fP (d9 595).body
noncomputable def gU(g:bU):di:=dq 595 g
noncomputable def H8:dd->List dd×List wN×List dd×List dd×dK| .Try g l B af u=>(g,l,B,af,u)|_=>([],[],[],[],default)
noncomputable def rJ:wN->Expr| .ExceptHandler (Y D) _ _ _=>D|_=>default
noncomputable def jY:wN->List dd| .ExceptHandler _ _ l _=>l
noncomputable def th:wN->dK| .ExceptHandler _ _ _ u=>u
noncomputable def nc:=H8 ((oW).headD default)
noncomputable def stH:wN:=(nc).2.1.headD (.ExceptHandler W W [] default)
noncomputable def i9(c:cb)(D:cp)(i:Ht)(sl:Array (Option bX)):bV:=⟨T Ŕ,W, .dict ⟨[⟨i.h,S (bW #[116,101,120,116]) i.t,S c D⟩]⟩ 1,sl⟩
noncomputable def uv(c:cb)(D:cp)(i k2:Ht)(e:bU)(H:Nat)(sl:Array (Option bX)):bV:=⟨T Ŕ,W, .dict ⟨[⟨i.h,S (bW #[116,101,120,116]) i.t,S c D⟩,⟨k2.h,S (bW #[102,97,117,108,116]) k2.t,R e⟩]⟩ H,sl⟩
noncomputable def IQ:bX->bX->cD Bool:=b1v
theorem QL:@excMatches=IQ:=b28
noncomputable def Ys:di->cb->bX->cD Unit:=b2n
theorem Pj:@storeName=Ys:=b2v
noncomputable def b1k:di->cb->bX->cD Unit:=JO
theorem Rq:@EH=b1k:=JQ
noncomputable def Yl:di->cb->dK->cD Unit:=b1y
theorem Pd:@Kt=Yl:=b2b
noncomputable abbrev vp:cb:=bW #[102,97,117,108,116]
theorem Sy:oW=[.Try (nc).1 [.ExceptHandler (Y (rJ stH)) (Y vp) (jY stH) (th stH)] [] [] (nc).2.2.2.2,(oW).getD 1 default]:=⋯
noncomputable def b1p:List Nat:=nd 16 321 0x0555500505055c2033000300003ccccc102300003000300034555500505055b2033000300003bbbbb102300003000300034555500505055a2033000300003aaaaaaaa10230000300030003455550050505592033000300003999991023000030003000342220300030300300003422203000303003000034222030003030030000342220300030300300003444100003030000000000000000000000000000010
noncomputable def XK:List Nat:=nd 16 20 0x30220002002000000021
noncomputable def XJ:List Nat:=nd 16 78 0x040400000040000000000000400004302200020020000000210004000430220002002000000021
theorem xB(g:bU):(gU g).frame=Y g:=⋯
theorem TL(g:bU):(gU g).scope.kind≠ .module:=by
 have:(gU g).scope.kind= .function:=⋯
 rw[this];exact λ a=>nomatch a
theorem Uk(g:bU):(lD oW (gU g)).envs=[gU g]:=⋯
theorem Sx:(nc).1=[.Expr (yq ((nc).1.headD default)) (match(nc).1.headD default with| .Expr _ u=>u|_=>default)]:=⋯
theorem Sw(g:bU):Dn (gU g)=X:=⋯
theorem VY(g:bU):ĕ (yq ((nc).1.headD default)) W (match(nc).1.headD default with| .Expr _ u=>u|_=>default:dK).line (gU g)=pure X:=⋯
theorem Gu:jY stH=(jY stH).headD default::(jY stH).tail:=⋯
section
variable(c:cb)(D:cp)(A:bU)(i:Ht)(sl:Array (Option bX))(t:jQ)(vs:Array bX)(hv:bX)(k2:Ht)(H:Nat)
theorem VZ:i7 595 ⟨[S c D],[]⟩ 650 [1,1,1] (λ kk=>i9 c D (kk 0) #[]) []:=by unfold i7;kernel_rfl
noncomputable def Wm:Cfg bX->bU| .b (.call (.call _ ⟨[_,R g],_⟩) _ _ _ _)=>g|_=>0
noncomputable def C4:Cfg bX->Bool| .b (.call _ _ O _ _)=>O|_=>X
noncomputable def BX:Cfg bX->List bX| .b (.call _ _ _ r _)=>r|_=>[]
noncomputable def uJ:Cfg bX->dX->cD bX| .b (.call _ _ _ _ i)=>i|_=>λ j=> .pure .none
theorem Yr:jX [(A,i9 c D i sl)] (Y hv) 100 500 (dO (rJ stH) (gU A)) [0] (R 177):=kA
theorem Yt:jX [(t.e,xV t vs)] (Y hv) 100 500 (IQ (R t.e) (R 177)) [0,0,0,1,0] U:=kA
noncomputable def sbP(kc:Option Nat):List (bU×bV):=match kc with|W=>[(A,uv c D i k2 t.e H sl),(t.e,xV t vs),(t.dE,w9 t .none)]|Y B=>[(A,uv c D i k2 t.e H sl),(t.e,xV t vs),(t.dE,w9 t (R t.loc)),(t.loc,eB t.dl (B+1) t.tn t.t1 t.t2),(t.dl,df [] 0)]
noncomputable def G7:Cfg gK->cp| .b (.pure (.ret (.int _ D)))=>D|_=>0
end
structure After(f:cc)(fp:AP)(aQ:List di)(n:cc):Prop where
 base:Base n.heap
 keep:∀l k,f.heap.get? l=Y k->¬fp l->l∉gW aQ->n.heap.get? l=Y k
 fr:∀l∈gW aQ,∀k,f.heap.get? l=Y k->∃sl,n.heap.get? l=Y {k with slots:=sl}
 size:f.heap.objs.size<=n.heap.objs.size
 d:n.drawn=f.drawn
 os:n.os=f.os
noncomputable def vJ:Option Nat->Nat|W=>0|Y v=>v+1
inductive TabAt(f:cc)(fp:AP)(n:cc):Prop|mk(fT:AP)(q:(∀l,fT l->(fp l\/f.heap.objs.size<=l)/\l<n.heap.objs.size/\dp.get l=W))(z:dD fT dy n):TabAt f fp n
section
variable{c:cb}{D:cp}{i:Option Nat}
theorem MW{f aJ aM b3:cc}{fp az fS:AP}{aQ:List di}{r:List bU}{t:jQ}{A:bU}{d:Ht}(hF:kE f fp aQ)(aU:f.heap.objs.size<=A)(X2:At f fp [(A,i9 c D d #[])] dy aJ)(z:∀l,az l->(fp l\/f.heap.objs.size<=l)/\l<aJ.heap.objs.size/\dp.get l=W)(h4:∀l,az l↔l∈cz [(A,i9 c D d #[])]\/fS l)(h5:∀l∈cz [(A,i9 c D d #[])],¬fS l)(L:aJ.heap.get? A=Y (i9 c D d #[]))(x:km aJ fS (gU A::aQ) i t r aM b3):∃(sl:_)(F:_)(F6:AP),At b3 F6 ((A,i9 c D d sl)::(t.e,xV t F)::(i8 t i).tail) dy b3/\∀{ao:List (bU×bV)}{n:cc},At b3 F6 ao dy n->After f fp aQ n/\TabAt f fp n:=by
 have fA:az A:=(h4 _).mpr (.inl (.head _));have b5:=x.ok;refine mQ (b5 _ (.head _)) λ _ ai oL q1 q2 q3 q4 q5=>?_;obtain rfl:A=ai:=jo ((xB _).symm.trans q1);have bp:aM.heap.get? A=Y (i9 c D d #[]):=x.X.keep _ _ L (h5 A (.head _));have aZ:dp.get A=W:=(z A fA).2.2;have bf:=x.kt.1;have ae:∀{a:eV},hY aM.heap r t.e (mH t) (Y W) a->∃sl,a.get? A=Y (i9 c D d sl):=λ az=>by refine eE (az.fr A q2 _ bp) λ sl j=>?_;exact⟨sl,j⟩
 refine eE (ae x.F) λ sl au=>?_;refine sJ x.F.ex λ F s o C=>?_;(refine cK (id x.X.own) λ af p1 bh=>?_;obtain⟨p2,V,fT,p,p5,B⟩:=bh);obtain⟨ps,aw,t1,_,br,t2,t3,_⟩:=B.now;have b4:fT 246:=(t2 246).mpr (.inl (.head _));have b6:af 246:=(p 246).mpr (.inr b4);have bg:aM.heap.get? 246=Y (dm ps):=t1 (246,dm ps) (.head _);have aY:∀l∈cz (i8 t i),af l:=λ l M=>(p l).mpr (.inl M);have H:t.e∈cz (i8 t i):=jd (f:=λ u:bU×bV=>u.1) (qS t i);have bq:(246:bU)≠t.e:=λ e=>p5 t.e H (e▸b4);have b7:A∉cz (i8 t i)/\A≠246:=⟨(x.l1 A q2).1,(x.l1 A q2).2.1⟩;have bc:∀l k,aM.heap.get? l=Y k->l≠t.e->af l->l∉r->b3.heap.get? l=Y k:=λ l k M ay b hl=>x.F.keep l k M ay hl;have b9:b3.heap.get? 246=Y (dm ps):=bc 246 _ bg bq b6 (λ hm=>(x.l1 246 hm).2.1 rfl);have aR:Fr [(246,dm ps)] (λ b c=>gw c.gens) (λ l=>l=(246:bU)) b3:=by
  refine⟨λ q hq=>?_,gI.mpr ⟨λ a=>(nomatch a),pB⟩,λ b=>False,λ g=>?_,λ b b q=>q,λ aK b hg=>by show gw aK.gens;rw[hg];exact x.b⟩;·cases hq with|head=>exact b9|tail _ hq=>cases hq
  ·constructor;·rintro rfl;exact .inl (.head _)
   ·rintro(a|a);·cases a with|head=>rfl|tail _ a=>cases a
    ·exact a.elim
 have be:dD (λ l=>l=(246:bU)) dy b3:=dy.eF ⟨ps,aw,aR⟩;let J:List (bU×bV):=(A,i9 c D d sl)::(t.e,xV t F)::(i8 t i).tail;have tl:∀u∈(i8 t i).tail,u∈i8 t i/\u.1≠t.e:=by
  intro u hp;have Q:i8 t i=(t.e,mH t)::(i8 t i).tail:=by cases i<;>rfl
  refine⟨by rw[Q];exact .tail _ hp,λ e=>?_⟩;have hm:u.1∈cz (i8 t i).tail:=jd (f:=λ u:bU×bV=>u.1) hp;rw[Q]at V;rw[e]at hm;exact(gI.mp V).1 hm
 have Q:cz J=A::cz (i8 t i):=by show A::t.e::cz (i8 t i).tail=_;cases i<;>rfl
 have bj:gy b3.heap J:=by
  intro u hp;rcases fw.mp hp with rfl|hp;·exact au
  rcases fw.mp hp with rfl|hp;·exact s
  ·have j:=tl u hp;have zm:=jd (f:=λ u:bU×bV=>u.1) j.1;exact bc u.1 u.2 (p2 u j.1) j.2 (aY u.1 zm) λ hm=>(x.l1 u.1 hm).1 zm
 have X6:At b3 (λ l=>l∈cz J\/l=246) J dy b3:=At.here x.base bj (by rw[Q];exact gI.mpr ⟨b7.1,V⟩) (λ g ha=>by
  rw[Q]at ha;rcases fw.mp ha with rfl|ha;·exact aZ
  ·exact(p1 g (aY g ha)).2.2) (λ g ha=>by
  subst ha;refine(cZ (fc b9) (p1 246 b6).2.2 ?_);rw[Q];intro hm;rcases fw.mp hm with e|hm;·exact b7.2 e.symm
  ·exact p5 246 hm b4) be;have ax:∀l,(l∈cz J\/l=246)->fp l\/f.heap.objs.size<=l:=λ l M=>by
  have gb:∀l,af l->fp l\/f.heap.objs.size<=l:=λ l gb=>by
   rcases(p1 l gb).1 with j|j;·exact(z l ((h4 l).mpr (.inr j))).1
   ·exact .inr (dZ X2.size j)
  rcases M with M|rfl;·
   rw[Q]at M;rcases fw.mp M with rfl|M;·exact .inr aU
   ·exact gb l (aY l M)
  ·exact gb 246 b6
 have bb:f.heap.objs.size<=b3.heap.objs.size:=dZ X2.size (dZ x.X.size x.F.size);have aj:∀{ao:List (bU×bV)}{n},At b3 (λ l=>l∈cz J\/l=246) ao dy n->After f fp aQ n/\TabAt f fp n:=by
  intro ao n aV;(refine cK (id aV.own) λ aa y1 bl=>?_;obtain⟨y2,y3,fH,y4,y5,y6⟩:=bl);refine⟨⟨aV.base,λ l k m ah ba=>?_,λ l bk k m=>?_,dZ bb aV.size,aV.drawn.trans (x.d.trans (x.X.drawn.trans X2.drawn)),aV.os.trans (x.os.trans (x.X.os.trans X2.os))⟩,fH,λ l b8=>⟨?_,(y1 l ((y4 l).mpr (.inr b8))).2⟩,y6⟩;·
   have lt:=fc m;have q2:=X2.keep l k m ah;have E:¬fS l:=λ j=>by
    rcases(z l ((h4 l).mpr (.inr j))).1 with j|j;·exact ah j
    ·exact absurd lt (iA.mpr j)
   have nn:l∉gW (gU A::aQ):=by
    unfold gW;rw[tF,xB];intro hm;rcases fw.mp hm with rfl|hm;·exact absurd lt (iA.mpr aU)
    ·exact ba hm
   refine aV.keep l k (x.keep q2 E nn) λ j=>?_;rcases ax l j with j|j;·exact ah j
   ·exact absurd lt (iA.mpr j)
  ·refine cK (tG.mp bk) λ aq he ak=>?_;refine mQ (hF aq he) λ q1 ai o' q2 q3 q4 q5 q6=>?_;obtain rfl:ai=l:=jo (q2.symm.trans ak);have lt:=fc m;have E:¬fS ai:=λ j=>by
    rcases(z ai ((h4 ai).mpr (.inr j))).1 with j|j;·exact q5 j
    ·exact absurd lt (iA.mpr j)
   have z3:=x.X.keep ai k (X2.keep ai k m q5) E;refine mQ (x.ok aq (.tail _ he)) λ _ G P r2 O v r5 y=>?_;obtain rfl:ai=G:=jo (q2.symm.trans r2);refine eE (x.F.fr ai O k z3) λ aX z6=>?_;refine⟨aX,aV.keep ai _ z6 λ j=>?_⟩;rcases ax ai j with j|j;·exact q5 j
   ·exact absurd lt (iA.mpr j)
  ·rcases(y1 l ((y4 l).mpr (.inr b8))).1 with j|j;·exact ax l j
   ·exact .inr (dZ bb j)
 exact Ŵ sl F _ X6 aj
theorem LS(a:cj 600 (Y (R t.e)) b)(X6:At b3 F6 ([(A,i9 c D d sl)]++((t.e,xV t F)::(i8 t i).tail)) dy b3)(G:∀k2 tk aa,At b3 F6 [(A,uv c D d k2 t.e 2 sl)] dy aa->V (.ret (I (vJ i:Int) tk)) aa):cm (bZ bY w) b (storeName (gU A) vp (R t.e)) (λ j aJ=>cm (bZ bY w) b (dj ((jY stH).headD default::(jY stH).tail) (gU A)) V aw aJ) E' b3:=by
 rw[Pj];refine gY (a.less ⋯:cj 100 _ _) X6.push _ 500 (nd 16 2 0x11) [] [0] (λ j j j=>()) (λ j j k=>[uv c D d ⟨(d5 k.2.T 0 1).h,(d5 k.2.T 0 1).t⟩ t.e 2 sl]) ⋯ λ b6 r7 af O y=>?_;generalize(⟨(d5 O.2.T 0 1).h,(d5 O.2.T 0 1).t⟩:Ht)=k2 at y;have e:At b3 F6 (sbP c D A d sl t F k2 2 i) dy b6:=by have:=y.pull;cases i<;>exact this
 rw[<-Gu,i2];cases i with|none=>exact gY (a.less ⋯:cj 200 _ _) e _ 1000 XK [] [0] (λ j j k=> .ret (I 0 (G7 k.1))) (λ j j j=>[uv c D d k2 t.e 2 sl]) ⋯ λ aa g f l v=>G _ _ aa v|some B=>exact gY (a.less ⋯:cj 200 _ _) e _ 1000 XJ [] [0] (λ j j k=> .ret (I ((B+1:Nat):Int) (G7 k.1))) (λ j j j=>[uv c D d k2 t.e 2 sl]) ⋯ λ aa g f l v=>G _ _ aa v
theorem M8{b3 aa:cc}{F6:AP}{t:jQ}{A:bU}{d k2:Ht}{sl:Array (Option bX)}{A1:cR}{V:US}{aw:VS}(A0:cj 600 W A1)(v:At b3 F6 [(A,uv c D d k2 t.e 2 sl)] dy aa)(G:∀n,At b3 F6 [] dy n->V () n):cm (bZ bY w) A1 (do
 EH (gU A) vp .none
 Kt (gU A) vp (th stH)) V aw aa:=by rw[Rq,Pd];exact gY (A0.less ⋯:cj 100 W _) v _ 500 (nd 16 4 0x1111) [] [] (λ j j j=>()) (λ j j j=>[]) ⋯ λ b4 e a b B=>G b4 B
theorem Ph(hn:fF c)(h9:c.cps.contains 9=X)(hx:c.cps.size<=1000000)(h0:0<c.cps.size)(hB:i5 c i)(J:cj 660 W s)(b9:s.frames=Y aQ)(hF:kE f fp aQ)(M:Base f.heap)(ah:∀l,fp l->l<f.heap.objs.size/\dp.get l=W)(hC:dD fp dy f)(G:∀n t',After f fp aQ n->TabAt f fp n->ax (.ok (.ret (I (vJ i) t'))) n):dQ (bZ bY w) s (.call (R 595) ⟨[S c D],[]⟩) ax f:=by
 refine At.enter (v:=650) (aj:=oW) (i:=gU) J (At.zero M ah hC) (VZ c D) λ A kk au aU A0 X1=>?_;generalize kk 0=d at X1;have C:(s.under (.func oW (gU A))).frames=Y (gU A::aQ):=by show mS (lD oW (gU A)).envs s.frames=_;rw[Uk,wX,b9];rfl
 replace A0:cj 645 W (s.under (.func oW (gU A))):=A0.less ⋯;have hh:=A0.h;generalize s.under (.func oW (gU A))=A1 at C A0 hh;refine kQ ?_;have Q:dj oW (gU A)=dj [.Try (nc).1 [.ExceptHandler (Y (rJ stH)) (Y vp) (jY stH) (th stH)] [] [] (nc).2.2.2.2,(oW).getD 1 default] (gU A):=congrArg (λ r=>dj r (gU A)) Sy;rw[Q,qH];refine cJ (L1 ?_);have e1:dj (nc).1 (gU A)=dj [.Expr (yq ((nc).1.headD default)) (match(nc).1.headD default with| .Expr _ u=>u|_=>default)] (gU A):=congrArg (λ r=>dj r (gU A)) Sx;rw[e1,qH];refine cJ (wpAny_Expr_any ?_ (Sw _) (VY _));rw[fO];refine xp (A0.less ⋯:cj 640 W _) X1 _ 3000 b1p [] [0] (λ j j k=> .call (.call (R 349) ⟨[S c D,R (Wm k.1)],[]⟩) W (C4 k.1) (BX k.1) (uJ k.1)) (λ j j j=>[i9 c D d #[]]) (λ j j k e=>kZ ⟨bY,w.params⟩ 20 (uJ k.1 (.error (R e)))) (λ j j j e=> .raise (R e)) ⋯ λ aJ r2 ak o2 bb X2=>?_;have X2:At f fp [(A,i9 c D d #[])] _ aJ:=X2;(refine cK (id X2.own) λ az z aw=>?_;obtain⟨E,h3,fS,h4,h5,h6⟩:=aw);have fA:az A:=(h4 _).mpr (.inl (.head _));have L:=E _ (.head _);have jN:kE aJ fS (gU A::aQ):=by intro aq he;cases he with|head=>exact⟨TL _,A,_,xB _,L,λ vs e=>(nomatch e),h5 A (.head _),(z A fA).2.2⟩|tail _ he=>exact hF.on X2 z (λ l M=>(h4 l).mpr (.inr M)) aq he
 refine vm ?_;refine Qf hn h9 hx h0 hB _ _ aJ fS _ (A0.less ⋯) C jN X2.base (λ l M=>(z l ((h4 l).mpr (.inr M))).2) h6 λ n e⟨t,r,aM,he,x⟩=>?_;subst he;refine xM 20 ?_;rw[congrFun bb];refine ml ?_;have b5:=x.ok;have ao:∃k,aM.heap.get? t.e=Y k:=⟨_,x.X.has _ (qS t i)⟩;refine xm C (xB _) b5 ao x.F (.inr rfl) λ g1 F1=>?_;refine qL (f:={n with heap:=g1}) F1 λ O F2=>?_;have V:km aJ fS (gU A::aQ) i t r aM {n with heap:=O}:=⟨x.X,x.l1,x.l2,x.ok,F2,x.d,x.os,x.b⟩;have ae:∀{a:eV},hY aM.heap r t.e (mH t) (Y W) a->∃sl,a.get? A=Y (i9 c D d sl):=λ az=>by refine mQ (x.ok _ (.head _)) λ _ ai oL q1 q2 q3 q4 q5=>?_;obtain rfl:A=ai:=jo ((xB _).symm.trans q1);refine eE (az.fr A q2 _ (x.X.keep _ _ L (h5 A (.head _)))) λ sl j=>?_;exact⟨sl,j⟩
 have aZ:dp.get A=W:=(z A fA).2.2;have bf:=x.kt.1;refine wpAny_handleBy_cons (codeAny_handlers_test ?_) (by intro q;cases q);refine eE (ae F2) λ aY bg=>?_;rw[fO];have b:cj 645 (Y (R t.e)) (A1.mark (Y (R t.e))):=A0.mark;refine tR (b.less ⋯) V.base (ls:=[(A,i9 c D d aY)]) (λ u hp=>by cases hp with|head=>exact bg|tail _ hp=>cases hp) (gI.mpr ⟨λ a=>(nomatch a),pB⟩) (λ g ha=>by cases ha with|head=>exact aZ|tail _ ha=>cases ha) _ 500 _ (R 177) (Yr c D A d aY (R t.e)) λ aK S4=>?_;have P:=V.ext S4;refine sJ P.F.ex λ vs o p y=>?_;rw[QL];refine tR (b.less ⋯) P.base (ls:=[(t.e,xV t vs)]) (λ u hp=>by cases hp with|head=>exact o|tail _ hp=>cases hp) (gI.mpr ⟨λ a=>(nomatch a),pB⟩) (λ g ha=>by cases ha with|head=>exact bf|tail _ ha=>cases ha) _ 500 _ U (Yt t vs (R t.e)) λ aV S5=>?_;have H:=P.ext S5;rw[if_pos rfl];show dQ _ _ (.handlers (R t.e) [.ExceptHandler W (Y vp) (jY stH) (th stH)] (gU A)) _ aV;rw[Gu];refine codeAny_handlers_suite_as ?_;refine qL H.F λ m F6=>?_;have af:km aJ fS (gU A::aQ) i t r aM {aV with heap:=m}:=⟨x.X,x.l1,x.l2,x.ok,F6,H.d,H.os,H.b⟩;generalize({aV with heap:=m}:cc)=b3 at af;refine ź (MW hF aU X2 z h4 h5 L af) λ sl F F6 X6 aj=>?_;refine LS (b.less ⋯) X6 λ k2 tk aa v=>?_;refine M8 (A0.less ⋯) v λ b4 B=>ed ?_;exact G b4 tk (aj B).1 (aj B).2
end
noncomputable abbrev gm:cb:=bW #[99,104,97,114]
noncomputable def U_(B:Nat):Sm:=⟨60,2,2,λ g j=> .ok (.ret (R (g 1))),λ j j=>[],λ g af=>[lst [S gm (af 1).t] 0,dk [I (B:Nat) (af 0).t,R (g 0)]],W⟩
noncomputable def eJ:cN->cp| .call _ ⟨[.str _ D],_⟩=>D|_=>0
section
variable{x:FA}
theorem N1(hc:d.c= .call (R 588) ⟨[S (bW #[39,B,39]) (eJ d.c)],[]⟩)(ae:d.sm=U_ B):cy x d:=dJ hc ae 2000 (nd 16 49 0x0020000000020022333300002000000200002002221010111) [] [3,4] [18,19] ⋯
theorem N0(hc:d.c= .call (R 588) ⟨[S (bW #[76,39,B,39]) (eJ d.c)],[]⟩)(ae:d.sm=U_ B):cy x d:=dJ hc ae 2000 (nd 16 58 0x0020000000020022444400002000000200002223333002002221010111) [] [4,5] [21,22] ⋯
end
noncomputable def Cd(c:cb)(D:cp)(i:Ht):bV:=ly [⟨i.h,S (bW #[116,120,116]) i.t,S c D⟩] 1
noncomputable abbrev nZ:String:=JS
noncomputable abbrev oY:String:=JR
noncomputable def uK(a:String)(x:bU):bV:=⟨T a,W, .fields #[R x, .none, .none, .none, .bool X, .none],#[]⟩
noncomputable def C9(Q:BT)(y:Nat):bU:=match Q.get y with
 |Y k=>match k.data with
  | .fields vs=>match vs.toList with|R g::_=>g|_=>0
  |_=>0
 |W=>0
noncomputable def JC(c:cb)(ay:List Nat)(y:Nat)(D:cp)(A:bU)(i:Ht)(γ:GP):pn gK Bool:=la W (fb 42 A) 60 2000 ay [] [(A,Cd c D i)] γ [y+1,0] λ j j k=>vq (k.2.T.get 0)
noncomputable def JB(c:cb)(ie:Bool)(ay:List Nat)(y:Nat)(D:cp)(A:bU)(i:Ht)(γ:GP):pn gK Bool:=l9 W (fb 42 A) 60 2000 ay [] [(A,Cd c D i)] γ (λ j j=>γ) (λ d j j=> .raise (R (d y))) (λ j j k=>[uK (if ie then oY else nZ) (C9 k.2.T (y+1)),jf (k.2.T.get 0)]) λ j j j=>U
noncomputable def gP(c:cb)(ie:Bool):Prop:=∃(ay:List Nat)(y:Nat),JC c ay y=JB c ie ay y
theorem jz(ay:List Nat)(y:Nat)(a:JC c ay y=JB c ie ay y:=by kernel_rfl):gP c ie:=rI ay y a
theorem Xk:gP (bW #[]) U:=jz (nd 16 6 0x001001) 1
theorem Xj:gP (bW #[76]) U:=jz (nd 16 15 0x001112222001001) 2
theorem Xi:gP (bW #[76,76,39,97,39]) X:=jz (nd 16 17 0x00001112222001001) 2
theorem Xh:gP (bW #[97]) X:=jz (nd 16 8 0x00001001) 1
theorem Xg:gP (bW #[39,97]) X:=jz (nd 16 15 0x000000100001001) 1
theorem Xf:gP (bW #[97,39]) X:=jz (nd 16 8 0x00001001) 1
theorem Xe:gP (bW #[34,97,34]) X:=jz (nd 16 8 0x00001001) 1
theorem Xd:gP (bW #[117,39,97,39]) X:=jz (nd 16 8 0x00001001) 1
theorem Xc:gP (bW #[39,97,98,39]) X:=jz (nd 16 35 0x00000010011222200001000000100001001) 2
theorem Xb:gP (bW #[39,39]) X:=jz (nd 16 35 0x00000010011222200001000000100001001) 2
theorem Uy:gP (bW #[39]) X:=jz (nd 16 35 0x00000010011222200001000000100001001) 2
theorem Ux:gP (bW #[108,39,97,39]) X:=jz (nd 16 8 0x00001001) 1
theorem su(v e:Nat):gP (bW #[39,v,e,39]) X:=jz (nd 16 35 0x00000010011222200001000000100001001) 2
theorem sb(v e:Nat):gP (bW #[76,39,v,e,39]) X:=jz (nd 16 44 0x00000010011333300001000000100001112222001001) 3
theorem K_(v e q:Nat):gP (bW #[39,v,e,q,39]) X:=jz (nd 16 35 0x00000010011222200001000000100001001) 2
theorem y_(v e q:Nat):gP (bW #[76,39,v,e,q,39]) X:=jz (nd 16 44 0x00000010011333300001000000100001112222001001) 3
theorem vI(v e q u:Nat):gP (bW #[39,v,e,q,u,39]) X:=jz (nd 16 35 0x00000010011222200001000000100001001) 2
theorem vr(v e q u:Nat):gP (bW #[76,39,v,e,q,u,39]) X:=jz (nd 16 44 0x00000010011333300001000000100001112222001001) 3
theorem HJ(v e q u A:Nat):gP (bW #[39,v,e,q,u,A,39]) X:=jz (nd 16 35 0x00000010011222200001000000100001001) 2
theorem GO(v e q u A:Nat):gP (bW #[76,39,v,e,q,u,A,39]) X:=jz (nd 16 44 0x00000010011333300001000000100001112222001001) 3
theorem Xa(v e q u A i:Nat):gP (bW #[39,v,e,q,u,A,i,39]) X:=jz (nd 16 35 0x00000010011222200001000000100001001) 2
theorem Uw(v e q u A i:Nat):gP (bW #[76,39,v,e,q,u,A,i,39]) X:=jz (nd 16 44 0x00000010011333300001000000100001112222001001) 3
noncomputable def sO:List dd:=fP (d9 588).body
noncomputable def jj(g:bU):di:=dq 588 g
noncomputable def tj(g:bU):di:=dq 42 g
noncomputable def q9:=H8 ((sO).headD default)
noncomputable def jA(v:Nat):wN:=(q9).2.1.getD v (.ExceptHandler W W [] default)
noncomputable def J0:Expr:=Hj ((q9).1.headD default)
theorem RW:sO=[.Try (q9).1 [.ExceptHandler (Y (rJ (jA 0))) W ((jY (jA 0)).headD default::(jY (jA 0)).tail) (th (jA 0)), .ExceptHandler (Y (rJ (jA 1))) W ((jY (jA 1)).headD default::(jY (jA 1)).tail) (th (jA 1))] [] [] (q9).2.2.2.2]:=⋯
theorem RV:(q9).1=[.Return (Y J0) (match(q9).1.headD default with| .Return _ u=>u|_=>default)]:=⋯
theorem Gz(g:bU):(jj g).frame=Y g:=⋯
theorem TM(g:bU):(jj g).scope.kind≠ .module:=by
 have:(jj g).scope.kind= .function:=⋯
 rw[this];exact λ a=>nomatch a
theorem Ul(g:bU):(lD sO (jj g)).envs=[jj g]:=⋯
theorem HC(g:bU):(tj g).frame=Y g:=⋯
theorem Wt(g:bU):(tj g).scope.kind≠ .module:=by
 have:(tj g).scope.kind= .function:=⋯
 rw[this];exact λ a=>nomatch a
theorem WT(g:bU):(lD (fP (d9 42).body) (tj g)).envs=[tj g]:=⋯
section
variable(c:cb)(D:cp)(A:bU)(i:Ht)(sl:Array (Option bX))(hv:bX)
theorem Vf:i7 588 ⟨[S c D],[]⟩ 120 [1,1,1] (λ kk=>i9 c D (kk 0) #[]) []:=by unfold i7;kernel_rfl
theorem Xl:i7 42 ⟨[S c D],[]⟩ 100 [1,1,1] (λ kk=>Cd c D (kk 0)) []:=by unfold i7;kernel_rfl
theorem HU:jX [(A,i9 c D i sl)] (Y hv) 60 500 (dO (rJ (jA 0)) (jj A)) [0,0] (T nZ):=kA
theorem XX:jX [(A,i9 c D i sl)] (Y hv) 60 500 (dO (rJ (jA 1)) (jj A)) [0,0] (T oY):=kA
theorem XZ:jX [(A,i9 c D i sl)] (Y hv) 60 500 (fZ ((jY (jA 0)).headD default::(jY (jA 0)).tail) (jj A)) [] (.ret .none):=kA
theorem XY:jX [(A,i9 c D i sl)] (Y hv) 60 500 (fZ ((jY (jA 1)).headD default::(jY (jA 1)).tail) (jj A)) [] (.ret .none):=kA
end
theorem ŕ:"AssertionError" =nZ:=b6a
theorem G5:"IndexError" =oY:=b69
theorem G1:vf (T "AssertionError") (T "BaseException")=pure U:=by rw[uU];kernel_rfl
theorem Ss:vf (T "IndexError") (T "BaseException")=pure U:=by rw[uU];kernel_rfl
theorem Hl:vf (T ((Lp "AssertionError").elim "type" λ c=>c.metatype)) (T "tuple")=pure X:=by rw[uU];kernel_rfl
theorem Wi:vf (T ((Lp "IndexError").elim "type" λ c=>c.metatype)) (T "tuple")=pure X:=by rw[uU];kernel_rfl
theorem Sv:vf (T "AssertionError") (T "AssertionError")=pure U:=by rw[uU];kernel_rfl
theorem Su:vf (T "IndexError") (T "AssertionError")=pure X:=by rw[uU];kernel_rfl
theorem Sr:vf (T "IndexError") (T "IndexError")=pure U:=by rw[uU];kernel_rfl
section
variable{c:cb}{D:cp}{ie:Bool}
theorem LQ(hx:gP c ie)(J:cj 130 W s)(b9:s.frames=Y aQ)(hF:kE f gZ aQ)(M:Base f.heap)(G:∀n,After f gZ aQ n->n.gens=f.gens->ax (.ok (.ret .none)) n):dQ (bZ bY w) s (.call (R 588) ⟨[S c D],[]⟩) ax f:=by
 have P:∀{f:cc},dD gZ (λ t c=>c.gens=f.gens) f:=λ t t a=>a;refine At.enter (v:=120) (aj:=sO) (i:=jj) J (At.zero (fp:=gZ) M (λ _(a:False)=>a.elim) (P (f:=f))) (Vf c D) λ F kk au aU A0 X1=>?_;generalize kk 0=d at X1;have C:(s.under (.func sO (jj F))).frames=Y (jj F::aQ):=by show mS (lD sO (jj F)).envs s.frames=_;rw[Ul,wX,b9];rfl
 have hh:=A0.h;generalize s.under (.func sO (jj F))=A1 at C A0 hh;refine kQ ?_;have Q:dj sO (jj F)=dj [.Try (q9).1 [.ExceptHandler (Y (rJ (jA 0))) W ((jY (jA 0)).headD default::(jY (jA 0)).tail) (th (jA 0)), .ExceptHandler (Y (rJ (jA 1))) W ((jY (jA 1)).headD default::(jY (jA 1)).tail) (th (jA 1))] [] [] (q9).2.2.2.2] (jj F):=congrArg (λ r=>dj r (jj F)) RW;rw[Q,qH];refine cJ (L1 ?_);have e1:dj (q9).1 (jj F)=dj [.Return (Y J0) (match(q9).1.headD default with| .Return _ u=>u|_=>default)] (jj F):=congrArg (λ r=>dj r (jj F)) RV;rw[e1];refine ŧ ?_;rw[fO];refine xp (A0.less ⋯:cj 100 W _) X1 _ 3000 (nd 16 3 0x010) [] [0] (λ j j k=> .call (.call (R 42) ⟨[S c D],[]⟩) W (C4 k.1) (BX k.1) (uJ k.1)) (λ j j j=>[i9 c D d #[]]) (λ j j k e=>kZ ⟨bY,w.params⟩ 20 (uJ k.1 (.error (R e)))) (λ j j j e=> .raise (R e)) ⋯ λ aJ r2 ak o2 bb X2=>?_;have X2:At f _ [(F,i9 c D d #[])] _ aJ:=X2;(refine cK (id X2.own) λ az z bK=>?_;obtain⟨E,h3,fS,h4,h5,h6⟩:=bK);have O:aJ.gens=f.gens:=h6.now;have fA:az F:=(h4 _).mpr (.inl (.head _));have bA:=E (F,_) (.head _);have bz:=(z F fA).2.2;generalize uJ o2.1=kc at bb⊢;refine vm ?_;refine At.enter (v:=100) (aj:=ya 42) (i:=dq 42) (A0.less ⋯) (At.zero (fp:=gZ) X2.base (λ _(a:False)=>a.elim) (P (f:=aJ))) (Xl c D) λ aC bL aM t A3 X3=>?_;generalize bL 0=bJ at X3;have bC:(A1.under (â 42 aC)).frames=Y (tj aC::jj F::aQ):=by show mS (lD (fP (d9 42).body) (tj aC)).envs A1.frames=_;rw[WT,wX,C];rfl
 generalize A1.under (â 42 aC)=A2 at bC A3;refine kQ ?_;refine zb hx λ ay y bx=>?_;have e3:dj (ya 42) (dq 42 aC)=fb 42 aC:=by rw[i2];rfl
 rw[e3];refine xp (A3.less ⋯:cj 60 W _) X3 _ 2000 ay [] [y+1,0] _ _ _ _ (congrFun (congrFun (congrFun (congrFun bx D) aC) bJ) _) (λ aK v b8 o4 hd H=>?_) (gI.mpr ⟨by simp,by simp⟩);have H:At aJ _ [(v y,uK (if ie then oY else nZ) (C9 o4.2.T (y+1))),(aC,jf (o4.2.T.get 0))] _ aK:=H;have ah:=wZ hd;generalize jf (o4.2.T.get 0)=fo at H ah;refine ml ?_;generalize v y=e at H;generalize C9 o4.2.T (y+1)=x at H;clear bx;(refine cK (id H.own) λ af p1 bN=>?_;obtain⟨p2,V,fT,p,p5,B⟩:=bN);have g4:aK.gens=aJ.gens:=B.now;have Ge:af e:=(p e).mpr (.inl (.head _));have GC:af aC:=(p aC).mpr (.inl (.tail _ (.head _)));have n3:=gI.mp V;have bw:e≠aC:=λ q=>n3.1 (by rw[q];exact .head _);have bj:∀l,af l->aJ.heap.objs.size<=l:=λ l M=>(p1 l M).1.resolve_left λ q=>nomatch q;have bI:=fc bA;have br:e≠F:=λ q=>absurd bI (iA.mpr (q▸bj e Ge));have aV:∀l k,f.heap.get? l=Y k->aJ.heap.get? l=Y k:=λ l k q=>X2.keep l k q λ j=>nomatch j;have bh:∀l k,aJ.heap.get? l=Y k->aK.heap.get? l=Y k:=λ l k q=>H.keep l k q λ j=>nomatch j;have be:∀aq∈aQ,∃ai k,aq.frame=Y ai/\f.heap.get? ai=Y k/\(∀vs,k.data≠ .fields vs)/\dp.get ai=W/\aq.scope.kind≠ .module:=λ aq he=>by refine mQ (hF aq he) λ q1 ai k q2 q3 q4 q5 q6=>?_;exact Ľ ai k q2 q3 q4 q6 q1
 let r:List bU:=aC::F::gW aQ;have bF:∀aq∈aQ,∀ai,aq.frame=Y ai->ai∈r:=λ aq he ai hL=> .tail _ (.tail _ (tG.mpr (cI aq he hL)));have bq:∀l∈gW aQ,∃k,f.heap.get? l=Y k/\dp.get l=W:=λ l M=>by refine cK (tG.mp M) λ aq he hL=>?_;refine Ń (be aq he) λ ai k q2 q3 q4 q6 q1=>?_;obtain rfl:ai=l:=jo (q2.symm.trans hL);exact cI k q3 q6
 have bG:e∉r:=by
  intro hm;rcases fw.mp hm with q|hm;·exact bw q
  rcases fw.mp hm with q|hm;·exact br q
  ·refine cK (bq e hm) λ k q3 _=>?_;exact absurd (fc (aV e k q3)) (iA.mpr (bj e Ge))
 have bP:∀l∈r,dp.get l=W:=by
  intro l hm;rcases fw.mp hm with rfl|hm;·exact(p1 l GC).2.2
  rcases fw.mp hm with rfl|hm;·exact bz
  ·exact(bq l hm).choose_spec.2
 have bf:dp.get e=W:=(p1 e Ge).2.2;have F0:hY aK.heap r e (uK (if ie then oY else nZ) x) W aK.heap:=⟨gz _,bG,λ l k q t t=>q,λ l M k ho=>⟨k.slots,ho⟩,#[R x, .none, .none, .none, .bool X, .none],p2 (e,_) (.head _),by show 1<6;decide,rfl⟩;have bB:aK.heap.get? F=Y (i9 c D d #[]):=bh _ _ bA;have bO:∀aq∈aQ,aq.scope.kind≠ .module/\∃ai k,aq.frame=Y ai/\ai∈r/\ai≠e/\aK.heap.get? ai=Y k/\∀vs,k.data≠ .fields vs:=λ aq he=>by refine Ń (be aq he) λ ai k q2 q3 q4 q6 q1=>?_;exact s8 q1 ai k q2 (bF aq he ai q2) (λ q=>bG (q▸bF aq he ai q2)) (bh _ _ (aV _ _ q3)) q4
 have bD:mz aK.heap r e (jj F::aQ):=λ aq he=>by cases he with|head=>exact s8 (TM _) F _ (Gz _) (.tail _ (.head _)) br.symm bB (λ vs q=>nomatch q)|tail _ he=>exact bO aq he
 have bM:mz aK.heap r e (tj aC::jj F::aQ):=λ aq he=>by cases he with|head=>exact s8 (Wt _) aC _ (HC _) (.head _) bw.symm (p2 (aC,fo) (.tail _ (.head _))) ah|tail _ he=>exact bD aq he
 have ao:∃k,aK.heap.get? e=Y k:=⟨_,p2 (e,_) (.head _)⟩;have aX:∀{a:eV}{fl},hY aK.heap r e (uK (if ie then oY else nZ) x) fl a->Base a:=λ az l k m=>az.keep l k (H.base l k m) (λ q=>by rw[q,bf]at m;cases m) λ hm=>by rw[bP l hm]at m;cases m
 have ae:∀{a:eV}{fl},hY aK.heap r e (uK (if ie then oY else nZ) x) fl a->∃sl,a.get? F=Y (i9 c D d sl):=λ az=>by refine eE (az.fr F (.tail _ (.head _)) _ bB) λ sl j=>?_;exact⟨sl,j⟩
 have aR:∀{n:cc}{fl},hY aK.heap r e (uK (if ie then oY else nZ) x) fl n.heap->n.TypeIs (R e) (if ie then"IndexError" else"AssertionError"):=λ az=>by
  refine cK az.ex λ vs o _=>?_;refine(cI _ o ?_);cases ie;·show T nZ=_;rw[<-ŕ];rfl
  ·show T oY=_;rw[<-G5];rfl
 have aj:∀{n:cc}{fl},hY aK.heap r e (uK (if ie then oY else nZ) x) fl n.heap->n.gens=aK.gens->n.drawn=aK.drawn->n.os=aK.os->ax (.ok (.ret .none)) n:=by
  intro n fl az e1 e2 e3;refine G n ⟨aX az,λ l k m t ba=>?_,λ l bk k m=>?_,dZ X2.size (dZ H.size az.size),e2.trans (H.drawn.trans X2.drawn),e3.trans (H.os.trans X2.os)⟩ (e1.trans (g4.trans O));·
   have lt:=fc m;refine az.keep l k (bh _ _ (aV _ _ m)) (λ q=>?_) λ hm=>?_;·exact absurd (fc (aV _ _ m)) (iA.mpr (q▸bj e Ge))
   ·rcases fw.mp hm with q|hm;·exact absurd (fc (aV _ _ m)) (iA.mpr (q▸bj aC GC))
    rcases fw.mp hm with q|hm;·exact absurd lt (iA.mpr (q▸aU))
    ·exact ba hm
  ·exact az.fr l (.tail _ (.tail _ bk)) k (bh _ _ (aV _ _ m))
 refine zS bC (HC _) bM ao F0 (.inl rfl) λ h5 F5=>?_;refine xM 20 ?_;rw[congrFun bb];refine ml ?_;refine xm (f:={aK with heap:=h5}) C (Gz _) bD ao F5 (.inr rfl) λ h6 F6=>?_;refine qL (f:={aK with heap:=h6}) F6 λ h7 F7=>?_;have b:cj 120 (Y (R e)) (A1.mark (Y (R e))):=A0.mark;have aZ:∀{n:cc}{sl:Array (Option bX)},n.heap.get? F=Y (i9 c D d sl)->gy n.heap [(F,i9 c D d sl)]:=λ q u hp=>by cases hp with|head=>exact q|tail _ hp=>cases hp
 have b5:∀sl,(cz [(F,i9 c D d sl)]).Nodup:=λ t=>gI.mpr ⟨λ a=>(nomatch a),pB⟩;have b7:∀sl,∀g∈cz [(F,i9 c D d sl)],dp.get g=W:=λ t g ha=>by cases ha with|head=>exact bz|tail _ ha=>cases ha
 refine eE (ae F7) λ aY bg=>?_;cases ie with|false=>refine Cs G1 Hl Sv (b:=U) ?_;rw[fO];refine tR (f:={aK with heap:=h7}) (b.less ⋯) (aX F7) (aZ (n:={aK with heap:=h7}) bg) (b5 _) (b7 _) _ 500 _ (T nZ) (HU c D F d aY (R e)) λ aa i=>?_;have A:=F7.ext i.z i.k;refine(cZ (by rw[<-ŕ]) (aR A) ?_);rw[if_pos rfl];refine qL A λ h9 F9=>?_;refine eE (ae F9) λ bp aw=>?_;rw[i2];refine tR (f:={aa with heap:=h9}) (b.less ⋯) (aX F9) (aZ (n:={aa with heap:=h9}) aw) (b5 _) (b7 _) _ 500 _ (.ret .none) (XZ c D F d bp (R e)) λ bR b6=>?_;exact ed (aj (F9.ext b6.z b6.k) (b6.g.trans i.g) (b6.d.trans i.d) (b6.os.trans i.os))|true=>refine Cs G1 Hl Su (b:=X) ?_;rw[fO];refine tR (f:={aK with heap:=h7}) (b.less ⋯) (aX F7) (aZ (n:={aK with heap:=h7}) bg) (b5 _) (b7 _) _ 500 _ (T nZ) (HU c D F d aY (R e)) λ aa i=>?_;have A:=F7.ext i.z i.k;refine(cZ (by rw[<-ŕ]) (aR A) ?_);rw[if_neg ⋯];refine eE (ae A) λ bQ bH=>?_;refine Cs Ss Wi Sr (b:=U) ?_;rw[fO];refine tR (b.less ⋯) (aX A) (aZ bH) (b5 _) (b7 _) _ 500 _ (T oY) (XX c D F d bQ (R e)) λ b4 L=>?_;have F9:=A.ext L.z L.k;refine(cZ (by rw[<-G5]) (aR F9) ?_);rw[if_pos rfl];refine qL F9 λ b3 bl=>?_;refine eE (ae bl) λ bp aw=>?_;rw[i2];refine tR (f:={b4 with heap:=b3}) (b.less ⋯) (aX bl) (aZ (n:={b4 with heap:=b3}) aw) (b5 _) (b7 _) _ 500 _ (.ret .none) (XY c D F d bp (R e)) λ bS bc=>?_;exact ed (aj (bl.ext bc.z bc.k) (bc.g.trans (L.g.trans i.g)) (bc.d.trans (L.d.trans i.d)) (bc.os.trans (L.os.trans i.os)))
end
end Mine
end
section
open PySem PySem.W PySem.W.X PySem.Calls
namespace Mine
end Mine
end
section
open PySem PySem.W PySem.W.X PySem.Calls PySem.NumText
namespace Mine
section
variable{x:FA}{d:Rc}
theorem Ng(M:(c.cps.toList==t.cps.toList)=l)(hc:d.c= .call (.builtin "str.__eq__") ⟨[S c (cG 0 d.c),S t (cG 1 d.c)],[]⟩)(ae:d.sm=lq (.bool l)):cy x d:=by subst M;exact vh F.slot_str_eq (λ j=>pE _ _ _) F.entry_str_eq (F.args_str_eq_2 _ _) (gives_str_eq _ _ _ _) hc ae
theorem Ft(b:builtinKind c=W)(l:vB c o)(a:V () f):cm ak s (zr c o) V aw f:=by simp only[zr,b];cases e:Manifest.signature? c with|none=>exact ed a|some g=>simp only[vB,e]at l;simp only[l];exact ed a
theorem Nm(hv:b<=0x10FFFF)(hc:d.c= .call (.builtin "chr") ⟨[I (b:Nat) (cG 0 d.c)],[]⟩)(ae:d.sm=qU ⟨#[b]⟩):cy x d:=by
 intro s ax f _ _ _ hs _ _ _ _ G;rw[hc];have hd:(decide ((b:Int)<0)||decide ((b:Int)>0x10FFFF))=X:=by rw[decide_eq_false (by lia),decide_eq_false (by lia)];rfl
 refine kg F.plain_chr F.entry_chr (Ft F.kind_chr (F.args_chr1 _) ?_);refine gives_chr _ _ hd bY w s ax f ⟨by show 1<=iR;decide,?_⟩;have:=G (λ j=>0) (λ j=>⟨f.toks,⟨0,0,0,0⟩,[],0⟩) {f with toks:=f.toks+1};rw[ae]at this;exact this rfl (λ i k a=>by cases a) (λ i a=>by cases a) (λ i k' a=>by cases a) (λ u hp=>by cases hp) (λ j j a j j=>a) (gz _) rfl rfl rfl
end
noncomputable def fj(l:Nat):List Nat->List Nat->Prop|[],[]=>True|B::g,af::m=>(48<=B/\B<=102/\B≠95/\Ť B=Y af/\af<l)/\fj l g m|_,_=>False
noncomputable def fh(l:Nat)(m:List Nat):Nat:=m.foldl (λ b af=>b*l+af) 0
theorem fj.fold:∀{g m:List Nat}(b:Array Nat)(q:Bool),fj l g m->(g≠[]\/q=U)->g.foldlM (Ă l) (b,q)=Y (⟨b.toList++m⟩,U)
 |[],[],b,q,_,hq=>by
  rcases hq with a|a;·exact absurd rfl a
  ·subst a;show Y _=_;simp
 |B::g,af::m,b,q,⟨⟨z,E,h3,h4,h5⟩,D⟩,_=>by
  rw[List.foldlM_cons];have:Ă l (b,q) B=Y (b.push af,U):=by unfold Ă;rw[if_neg (by simpa using h3),h4];show(if af<l then _ else _)=_;rw[if_pos h5]
  rw[this];show g.foldlM (Ă l) (b.push af,U)=_;rw[fj.fold (b.push af) U D (.inr rfl)];simp
theorem fj.ge:∀{g m:List Nat},fj l g m->∀B∈g,48<=B/\B<=102
 |[],[],_,_,a=>nomatch a
 |B::g,af::m,⟨a,D⟩,c,hx=>by
  rcases fw.mp hx with e|hx;·subst e;exact⟨a.1,a.2.1⟩
  ·exact fj.ge D c hx
set_option tactic.hygienic true in theorem fj.pre(M:l=8\/l=16)(a:fj l g m)(hp:Ŋ g=Y u):(l==0||l==u)=X:=by
 have E:u=16\/u=8\/u=2:=by
  unfold Ŋ at hp;repeat' split at hp
  all_goals first|(cases hp;simp)|cases hp
 match g,m,a with
  |[],_,_=>cases hp
  |[B],_,_=>unfold Ŋ at hp;split at hp<;>simp_all
  |B::e::g,af::C::m,⟨_,⟨g1,O,g3,g4,g5⟩,_⟩=>
   have he:e≠120/\e≠111/\e≠88/\e≠79:=by
    refine⟨kR (gB O),kR (gB O),λ q=>?_,λ q=>?_⟩;·
     subst q;have:C=33:=by have:=g4;unfold Ť at this;simp at this;exact this.symm
     lia
    ·subst q;have:C=24:=by have:=g4;unfold Ť at this;simp at this;exact this.symm
     lia
   have:u=2:=by
    unfold Ŋ at hp;split at hp;·rename_i e' _ b;simp only[CS]at b;obtain⟨_,rfl,_⟩:=b;simp[he.1,he.2.1,he.2.2.1,he.2.2.2]at hp;exact hp.2.symm
    ·cases hp
   rcases M with M|M<;>subst M<;>subst this<;>rfl
set_option tactic.hygienic true in theorem Mk(M:l=8\/l=16)(a:fj l g m)(h0:g≠[]):(int_private% "readNumeral") 0 l g=(int_private% "Numeral.value") (fh l m):=by
 rw[readNumeral_eq];have O:=a.ge;have b:∀r:List Nat,(∀B∈r,48<=B/\B<=102)->r.dropWhile blank=r:=λ r hl=>by cases r with|nil=>rfl|cons B r=>exact dropWhile_of (by have:=hl B (.head _);exact gB this.1)
 rw[b _ O];have f:sign g=(X,g):=by cases g with|nil=>exact absurd rfl h0|cons B r=>have:=O B (.head _);exact sign_of (oy (gB this.1)) (oy (gB this.1))
 rw[f];have c:based l g=(l,X,g):=by
  unfold based;have j:(l==0)=X:=by rcases M with e|e<;>subst e<;>rfl
  split;·rename_i u hp;rw[a.pre M hp];rfl
  ·rw[j];rfl
 simp only[c];rw[b _ (λ B hc=>O B (List.mem_reverse.mp hc)),List.reverse_reverse];have d:digits? l g=Y ⟨m⟩:=by unfold digits?;rw[a.fold #[] X (.inl h0)];simp
 rw[d];unfold judge;simp only[bne_self_eq_false,Bool.and_false,D0,õ,if_false];have i:(l==10)=X:=by rcases M with e|e<;>subst e<;>rfl
 simp only[i,D0,õ,if_false];unfold fh;simp
theorem P9(hs:(c.takeWhile (·!=0)).length<=640)(D:(int_private% "readNumeral") 0 l (c.takeWhile (·!=0))=(int_private% "Numeral.value") H)(ha:((c.takeWhile (·!=0)).length==c.length)=U)(a:V (I H f.toks) {f with toks:=f.toks+1}):cm ak s ((int_private% "intFromText") b c l) V aw f:=by
 obtain⟨hp,O,af,tk,os⟩:=f;repeat(any_goals(first|assumption|(with_reducible refine ú (decide_eq_true hs) ?_)|(with_reducible refine ú (decide_eq_true ha) ?_)|wp_step))
 all_goals(try rw[D])
 all_goals(try dsimp only)
 repeat(any_goals(first|assumption|(with_reducible refine ú (decide_eq_true hs) ?_)|(with_reducible refine ú (decide_eq_true ha) ?_)|wp_step))
structure b1r(u:Prop):Prop where
 out:u
theorem LL(M:l=8\/l=16)(hs:(Ę c).length<=640)(D:(int_private% "readNumeral") 0 l (Ę c)=(int_private% "Numeral.value") H)(ha:((Ę c).length==(ė c).length)=U):vT (Builtin.«int.__new__» ⟨[T "int",S c o,I l tb],[]⟩) (.int H):= .of_wp λ ak s aw f V a=>by
 obtain⟨hp,O,af,tk,os⟩:=f;have f1:=F.conv_sub_int;have f2:=F.madeHere_int;have b:typeOf (S c o)=pure (T "str"):=rfl;have hk:=b1r.mk (ě hs (ě D ha));clear hs D ha;rcases M with e|e<;>subst e;all_goals repeat(any_goals(first|assumption|((with_reducible show cm _ _ ((int_private% "intFromText") _ _ _) _ _ _);refine P9 hk.out.1 hk.out.2.1 hk.out.2.2 ?_)|wp_step))
 all_goals first|exact cI _ rfl a|skip
theorem Ls(g l:bX):zr "int.__new__" ⟨[T "int",g,l],[]⟩=pure ():=⋯
theorem Lr:plainId "int.__new__" =U:=by decide+kernel
theorem fj.seen(a:fj l g m):ė ⟨g.toArray⟩=g/\Ę ⟨g.toArray⟩=g:=by
 have e1:ė ⟨g.toArray⟩=g:=by show(if(g.toArray.all (·<128))=U then _ else _)=_;rw[if_pos (by rw[List.all_toArray,ù];exact λ B hc=>decide_eq_true (by have:=a.ge B hc;exact gB this.2))]
 refine⟨e1,?_⟩;show(ė ⟨g.toArray⟩).takeWhile _=_;rw[e1];exact takeWhile_all λ B hc=>by have:=a.ge B hc;simp;exact oy (gB this.1)
section
variable{x:FA}{d:Rc}
theorem Nc(M:l=8\/l=16)(hd:fj l g m)(h0:g≠[])(hl:g.length<=640)(hc:d.c= .call (.builtin "int.__new__") ⟨[T "int",S ⟨g.toArray⟩ (cG 1 d.c),I (l:Nat) (cG 2 d.c)],[]⟩)(ae:d.sm=mB (fh l m)):cy x d:=by intro s ax f _ _ _ hs _ _ _ _ G;rw[hc];refine kg Lr F.entry_int_new (by rw[Ls];refine ed ?_;refine LL M (H:=fh l m) (by rw[hd.seen.2];exact hl) (by rw[hd.seen.2];exact Mk M hd h0) (by rw[hd.seen.1,hd.seen.2];exact if_pos rfl) bY w s ax f ?_;show ax _ _;have:=G (λ j=>0) (λ j=>⟨f.toks,⟨0,0,0,0⟩,[],0⟩) {f with toks:=f.toks+1};rw[ae]at this;exact this rfl (λ i k a=>by cases a) (λ i a=>by cases a) (λ i k' a=>by cases a) (λ u hp=>by cases hp) (λ j j a j j=>a) (gz _) rfl rfl rfl)
end
noncomputable def kB:List (Nat×Nat):=[(97,7),(98,8),(102,12),(110,10),(114,13),(116,9),(118,11),(101,27),(92,92),(34,34),(39,39),(63,63)]
noncomputable def mL(c:cb):Int:=b22 (w.params.strHash c.cps)
theorem TY:mL ⟨#[i]⟩=hashStr w ⟨#[i]⟩:=by unfold mL;rw[<-b2f];rfl
noncomputable def ym(tk tv:Nat->cp):List pF:=[⟨mL ⟨#[97]⟩,S ⟨#[97]⟩ (tk 0),S ⟨#[7]⟩ (tv 0)⟩,⟨mL ⟨#[98]⟩,S ⟨#[98]⟩ (tk 1),S ⟨#[8]⟩ (tv 1)⟩,⟨mL ⟨#[102]⟩,S ⟨#[102]⟩ (tk 2),S ⟨#[12]⟩ (tv 2)⟩,⟨mL ⟨#[110]⟩,S ⟨#[110]⟩ (tk 3),S ⟨#[10]⟩ (tv 3)⟩,⟨mL ⟨#[114]⟩,S ⟨#[114]⟩ (tk 4),S ⟨#[13]⟩ (tv 4)⟩,⟨mL ⟨#[116]⟩,S ⟨#[116]⟩ (tk 5),S ⟨#[9]⟩ (tv 5)⟩,⟨mL ⟨#[118]⟩,S ⟨#[118]⟩ (tk 6),S ⟨#[11]⟩ (tv 6)⟩,⟨mL ⟨#[101]⟩,S ⟨#[101]⟩ (tk 7),S ⟨#[27]⟩ (tv 7)⟩,⟨mL ⟨#[92]⟩,S ⟨#[92]⟩ (tk 8),S ⟨#[92]⟩ (tv 8)⟩,⟨mL ⟨#[34]⟩,S ⟨#[34]⟩ (tk 9),S ⟨#[34]⟩ (tv 9)⟩,⟨mL ⟨#[39]⟩,S ⟨#[39]⟩ (tk 10),S ⟨#[39]⟩ (tv 10)⟩,⟨mL ⟨#[63]⟩,S ⟨#[63]⟩ (tk 11),S ⟨#[63]⟩ (tv 11)⟩]
noncomputable def GJ(k:Option bV):List pF:=match k with
 |Y k=>match k.data with| .dict b _=>b.toList|_=>[]
 |W=>[]
noncomputable def b1c(k:Option bV):Nat:=match k with
 |Y k=>match k.data with| .dict _ e=>e|_=>0
 |W=>0
noncomputable def strTok:Option bX->cp|Y (.str _ D)=>D|_=>0
noncomputable def AW(k:Option bV)(v:Nat):cp:=strTok ((GJ k)[v]?.map (·.key))
noncomputable def Z'(k:Option bV)(v:Nat):cp:=strTok ((GJ k)[v]?.map (·.val))
noncomputable def Ü(k:Option bV):bV:=df (ym (AW k) (Z' k)) (b1c k)
noncomputable def wj(tk tv:Nat->cp)(i:cb):Option bX:=findBy Value.isStrOf ⟨ym tk tv⟩ i
theorem Nt:"dict" =Hh:=b6e
theorem QW(r:List pF)(e:Nat):df r e={cls:=T "dict",dict:=W,data:= .dict ⟨r⟩ e,slots:=#[]}:=by unfold df;rw[Nt]
theorem Gg{tk tv:Nat->cp}{a:eV}{g:bU}{e:Nat}(hg:a.get? g=Y (df (ym tk tv) e)):a.MapOf (FF bY w) g (wj tk tv):=by
 rw[QW]at hg;refine(NG _ _ _ hg (cZ rfl rfl rfl) rfl (λ c hx=>?_) (λ i=>rfl));have hx:c∈ym tk tv:=by simpa using hx
 simp only[ym,fw,m9,or_false]at hx;rcases hx with q|q|q|q|q|q|q|q|q|q|q|q<;>subst q<;>exact cI _ (DG _ _ _ _) TY
theorem Gi(a:(i,b)∈kB):∃v,wj tk tv ⟨#[i]⟩=Y (S ⟨#[b]⟩ (tv v)):=by
 simp only[kB,fw,m9,or_false]at a;rcases a with q|q|q|q|q|q|q|q|q|q|q|q<;>cases q;·exact⟨0,rfl⟩
 ·exact⟨1,rfl⟩
 ·exact⟨2,rfl⟩
 ·exact⟨3,rfl⟩
 ·exact⟨4,rfl⟩
 ·exact⟨5,rfl⟩
 ·exact⟨6,rfl⟩
 ·exact⟨7,rfl⟩
 ·exact⟨8,rfl⟩
 ·exact⟨9,rfl⟩
 ·exact⟨10,rfl⟩
 ·exact⟨11,rfl⟩
section
variable{x:FA}{d:Rc}
theorem TJ:((cx b1).kt.get 1).isSome=U:=⋯
theorem Nu(hn:∀y,y<d.n->(cx b1).kt.get (x y)=W)(hj:y<d.n)(ha:x y=g):(g==sysModules)=X:=by rw[beq_eq_false_iff_ne];intro e;have:=hn y hj;rw[ha,e]at this;have i:=TJ;rw[show(1:bU)=sysModules from rfl,this]at i;cases i
theorem Pw(hc:d.c= .call (.builtin "dict.__contains__") ⟨[R g,S ⟨#[i]⟩ (cG 1 d.c)],[]⟩)(ae:d.sm=lq (.bool l))(hT:d.T.get y=Y (Ü (d.T.get y)))(ha:x y=g)(M:(wj (AW (d.T.get y)) (Z' (d.T.get y)) ⟨#[i]⟩).isSome=l):cy x d:=by intro s ax f _ _ _ hs _ hk _ _ G;have h0:=(hs y _ hT).2;have z:=Nu hk (hs y _ hT).1 ha;rw[ha]at h0;rw[hc];have m:=Gg h0;refine kg Kv.plain F.entry_dict_contains (Kv.check _ _ _ _ _ _ _ _ m.typeIs (F.args_dict_contains_2 _ _) ?_);refine meets_dict_contains (FF bY w) g (DG _ _ _ _) z s ax f (cI _ m ?_);have:=G (λ j=>0) (λ j=>⟨f.toks,⟨0,0,0,0⟩,[],0⟩) {f with toks:=f.toks+1};rw[ae]at this;rw[M];exact this rfl (λ i k a=>by cases a) (λ i a=>by cases a) (λ i k' a=>by cases a) (λ u hp=>by cases hp) (λ j j a j j=>a) (gz _) rfl rfl rfl
theorem Pu(hc:d.c= .call (.builtin "dict.__getitem__") ⟨[R g,S ⟨#[i]⟩ (cG 1 d.c)],[]⟩)(ae:d.sm=qU ⟨#[b]⟩)(hT:d.T.get y=Y (Ü (d.T.get y)))(ha:x y=g)(M:(i,b)∈kB):cy x d:=by intro s ax f _ _ _ hs _ hk _ _ G;have h0:=(hs y _ hT).2;rw[ha]at h0;rw[hc];have m:=Gg h0;refine eE (Gi (tk:=AW (d.T.get y)) (tv:=Z' (d.T.get y)) M) λ v hi=>?_;refine kg KC.plain F.entry_dict_getitem (KC.check _ _ _ _ _ _ _ _ m.typeIs (F.args_dict_getitem_2 _ _) ?_);refine meets_dict_getitem (FF bY w) g (DG _ _ _ _) s ax f (eC _ _ m hi ?_);have:=G (λ j=>0) (λ j=>⟨Z' (d.T.get y) v,⟨0,0,0,0⟩,[],0⟩) {f with toks:=f.toks+1};rw[ae]at this;exact this rfl (λ i k a=>by cases a) (λ i a=>by cases a) (λ i k' a=>by cases a) (λ u hp=>by cases hp) (λ j j a j j=>a) (gz _) rfl rfl rfl
end
theorem lG(a:i=117\/i=85\/i=120):(wj tk tv ⟨#[i]⟩).isSome=X:=by rcases a with q|q|q<;>subst q<;>rfl
noncomputable def gc(t:cb):Sm:=⟨60,0,1,λ j af=> .ok (.ret (S t (af 0).t)),λ j j=>[],λ j j=>[],W⟩
noncomputable abbrev d7:cb:=bW #[48,49,50,51,52,53,54,55]
noncomputable abbrev dT:cb:=bW #[48,49,50,51,52,53,54,55,56,57,97,98,99,100,101,102,65,66,67,68,69,70]
noncomputable def O'(F:Rc->Prop)(r:List Rc):Nat->Prop|0=>True|H+1=>O' F r H/\F (rf r H)
theorem O'.at{F:Rc->Prop}:∀{H v:Nat},O' F r H->v<H->F (rf r v)
 |H+1,v,a,hi=>by
  by_cases q:v=H;·subst q;exact a.2
  ·exact a.1.at (lN hi q)
theorem b8d{F:Rc->Prop}(H:Nat)(a:r.length=H)(aa:O' F r H):∀c∈r,F c:=Hk λ v hi=>aa.at (a▸hi)
theorem Md(M:l=8\/l=16)(hd:fj l g m)(h0:g≠[])(hl:g.length<=640)(hv:fh l m=b)(hc:d.c= .call (.builtin "int.__new__") ⟨[T "int",S ⟨g.toArray⟩ (cG 1 d.c),I (l:Nat) (cG 2 d.c)],[]⟩)(ae:d.sm=mB (b:Nat)):cy x d:=Nc M hd h0 hl hc (by rw[hv];exact ae)
theorem Gf(a:(i,b)∈kB):fx d7 i=X:=by simp only[kB,fw,m9,or_false]at a;rcases a with q|q|q|q|q|q|q|q|q|q|q|q<;>cases q<;>kernel_rfl
theorem Hq(a:(i,b)∈kB):(#[i].toList==#[120].toList)=X:=by simp only[kB,fw,m9,or_false]at a;rcases a with q|q|q|q|q|q|q|q|q|q|q|q<;>cases q<;>kernel_rfl
theorem Gd(a:(i,b)∈kB):(wj tk tv ⟨#[i]⟩).isSome=U:=by refine eE (Gi (tk:=tk) (tv:=tv) a) λ v hi=>?_;rw[hi];rfl
end Mine
end
section
open PySem PySem.W PySem.W.X PySem.Calls
namespace Mine
noncomputable def eS(c:cb)(b:Nat):Sm:=⟨80,1,2,λ g j=> .ok (.ret (R (g 0))),λ j j=>[],λ j af=>[dk [S c (af 0).t,I (b:Nat) (af 1).t]],W⟩
noncomputable def pT(c:cb):Sm:=⟨80,1,1,λ g j=> .ok (.ret (R (g 0))),λ j j=>[],λ j af=>[dk [S c (af 0).t, .none]],W⟩
noncomputable abbrev ek:cb:=bW #[48,49,50,51,52,53,54,55,56,57,97,98,99,100,101,102]
noncomputable abbrev el:cb:=bW #[48,49,50,51,52,53,54,55,56,57,65,66,67,68,69,70]
noncomputable def f5(k:Option bV)(v:Nat):cp:=match k with
 |Y k=>match k.data with
  | .seq xs _=>match xs.toList[v]? with|Y (.int _ D)=>D|Y (.str _ D)=>D|_=>0
  |_=>0
 |W=>0
noncomputable def lEp(k:Option bV):Nat:=match k with
 |Y k=>match k.data with| .seq _ e=>e|_=>0
 |W=>0
noncomputable def AX(k:Option bV):bV:=lst [I 39 (f5 k 0),I 92 (f5 k 1)] (lEp k)
noncomputable def nV(l:Int):Prop:=∀g:Int,Kb g l=X
section
variable{x:FA}{d:Rc}
theorem DL{g:Int}{l af:Nat}(M:l≠0)(a:g.fmod l=af)(hc:d.c= .call (.builtin "int.__mod__") ⟨[I g (cG 0 d.c),I (l:Nat) (cG 1 d.c)],[]⟩)(ae:d.sm=mB (af:Nat)):cy x d:=Ed (v:=(af:Nat)) F.slot_int_mod (λ f=>v9 f _ _) F.entry_int_mod (F.args_int_mod_2 _ _) (by have:=b7u g (cG 0 d.c) (l:Nat) (cG 1 d.c) (by simpa using M);rw[a]at this;exact this) hc ae
theorem Ma(M:l≠0)(a:g%l=af)(hc:d.c= .call (.builtin "int.__mod__") ⟨[I (g:Nat) (cG 0 d.c),I (l:Nat) (cG 1 d.c)],[]⟩)(ae:d.sm=mB (af:Nat)):cy x d:=DL M (by rw[Int.fmod_eq_emod_of_nonneg _ (CB l),<-Int.natCast_emod,a]) hc ae
theorem DM{g q:Int}{l:Nat}(M:l≠0)(hp:nV l)(a:g.fdiv l=q)(hc:d.c= .call (.builtin "int.__floordiv__") ⟨[I g (cG 0 d.c),I (l:Nat) (cG 1 d.c)],[]⟩)(ae:d.sm=mB q):cy x d:=Ed (v:=q) F.slot_int_floordiv (λ f=>v9 f _ _) F.entry_int_floordiv (F.args_int_floordiv_2 _ _) (by have:=b2k g (cG 0 d.c) (l:Nat) (cG 1 d.c) (by simpa using M) (by rw[hp g];decide);rw[a]at this;exact this) hc ae
theorem Mh{g l q:Nat}(M:l≠0)(hp:nV l)(a:g/l=q)(hc:d.c= .call (.builtin "int.__floordiv__") ⟨[I (g:Nat) (cG 0 d.c),I (l:Nat) (cG 1 d.c)],[]⟩)(ae:d.sm=mB (q:Nat)):cy x d:=DM M hp (by rw[Int.fdiv_eq_ediv_of_nonneg _ (CB l),<-Int.natCast_ediv,a]) hc ae
theorem Nf(a:decide (0<g)=u)(hc:d.c= .call (.builtin "int.__gt__") ⟨[I (g:Nat) (cG 0 d.c),I 0 (cG 1 d.c)],[]⟩)(ae:d.sm=lq (.bool u)):cy x d:=by
 subst a;refine vh F.slot_int_gt (λ f=>v9 f _ _) F.entry_int_gt (F.args_int_gt_2 _ _) (gives_int_gt _ _ _ _) hc ?_;rw[ae];have:decide (0<g)=decide ((g:Int)>0):=by
  by_cases q:0<g;·rw[decide_eq_true q,decide_eq_true (by omega)]
  ·rw[decide_eq_false q,decide_eq_false (by omega)]
 rw[this]
theorem M9(hi:v<2^63)(a:c.cps[v]?=Y B)(hc:d.c= .call (.builtin "str.__getitem__") ⟨[S c (cG 0 d.c),I (v:Nat) (cG 1 d.c)],[]⟩)(ae:d.sm=qU ⟨#[B]⟩):cy x d:=by
 have az:v<c.cps.size:=(iq.mp a).1;refine N2 (t:=⟨#[B]⟩) F.slot_str_getitem (λ j=>pE _ _ _) F.entry_str_getitem (F.args_str_getitem_2 _ _) (gives_str_getitem c v _ _ B ?_ ?_) (by show 1<=iR;decide) hc ae;·rw[decide_eq_false (by lia),decide_eq_false (by omega)];rfl
 ·have aQ:(v:Int)<(c.length:Nat):=Int.ofNat_lt.mpr az;rw[seqIndex_of (CB v) aQ];exact a
theorem N6(hp:(decide (b=39)||decide (b=92))=u)(hc:d.c= .call (.builtin "list.__contains__") ⟨[R g,I (b:Nat) (cG 1 d.c)],[]⟩)(ae:d.sm=lq (.bool u))(hT:d.T.get y=Y (AX (d.T.get y)))(ha:x y=g):cy x d:=by
 intro s ax f _ _ _ hs _ _ _ _ G;have h0:=(hs y _ hT).2;rw[ha,AX,lst_is]at h0;rw[hc];generalize f5 (d.T.get y) 0=t1 at h0;generalize f5 (d.T.get y) 1=t2 at h0;refine zC F.slot_list_contains (cI _ h0 rfl) F.entry_list_contains (F.args_list_contains_2 _ _) (MeetsSeq.list_contains g _ _ _ (λ t=>match t with| .int j _=>j==(b:Int)|_=>X) λ t hy=>?_) ⟨h0,?_⟩;·simp only[List.mem_toArray,fw,m9,or_false]at hy;rcases hy with q|q<;>subst q<;>exact b86 _ _ _ _
 ·have:((⟨[I 39 t1,I 92 t2]⟩:Array bX).any (λ t=>match t with| .int j _=>j==(b:Int)|_=>X))=u:=by
   subst hp;have e1:((39:Int)==(b:Int))=decide (b=39):=by
    by_cases q:b=39;·subst q;rfl
    ·rw[decide_eq_false q];exact beq_eq_false_iff_ne.mpr (by lia)
   have e2:((92:Int)==(b:Int))=decide (b=92):=by
    by_cases q:b=92;·subst q;rfl
    ·rw[decide_eq_false q];exact beq_eq_false_iff_ne.mpr (by lia)
   rw[List.any_toArray];simp only[List.any_cons,List.any_nil,D9,e1,e2]
  rw[this];have:=G (λ o=>0) (λ o=>⟨0,⟨0,0,0,0⟩,[],0⟩) f;rw[ae]at this;exact this rfl (λ i k a=>by cases a) (λ i a=>by cases a) (λ i k' a=>by cases a) (λ u hp=>by cases hp) (λ o o a o o=>a) (gz _) rfl rfl rfl
end
theorem np(a:(if(l:Int)==0 then 0 else(l:Int).natAbs.log2/30+1)<=300):nV l:=λ g=>by unfold Kb;have:decide ((if(l:Int)==0 then 0 else(l:Int).natAbs.log2/30+1)>300)=X:=decide_eq_false (Bm a);simp only[this,D0]
theorem ia:nV (8:Nat):=np ⋯
theorem ew:nV (16:Nat):=np ⋯
theorem nN:nV (256:Nat):=np ⋯
theorem iU:nV (512:Nat):=np ⋯
theorem pG:nV (53248:Nat):=np ⋯
theorem Ï:nV (9:Nat):=np ⋯
theorem Jf:nV (2:Nat):=np ⋯
noncomputable def ik:List dd:=fP (d9 600).body
noncomputable def cW(g:bU):di:=dq 600 g
structure LV where
 sQ:bX
 wr:bX
 du:bX
 wo:bX
 co:bX
 pl:bX
 n:bX
 ki:bX
 m:bX
 wi:bX
structure TV where
 te:bX
 cl:bX
 v:bX
 cn:bX
 ga:bX
 to:bX
noncomputable def LV.get(C:LV):Nat->bX|0=>C.sQ|1=>C.wr|2=>C.du|3=>C.wo|4=>C.co|5=>C.pl|6=>C.n|7=>C.ki|8=>C.m|_=>C.wi
noncomputable def TV.get(Q:TV):Nat->bX|10=>Q.te|11=>Q.cl|12=>Q.v|13=>Q.cn|14=>Q.ga|_=>Q.to
noncomputable def Jq:Nat->cb|0=>bW #[115,99,114,105,112,116]|1=>bW #[119,114,105,116,116,101,110]|2=>bW #[100,117,101]|3=>bW #[119,111,114,116,104,115]|4=>bW #[99,111,108,117,109,110]|5=>bW #[112,108,97,99,101]|6=>bW #[110]|7=>bW #[107,105,110,100]|8=>bW #[109]|9=>bW #[119,105,100,101]|10=>bW #[116,101,120,116]|11=>bW #[99,111,108]|12=>bW #[118]|13=>bW #[99,111,110,116,101,110,116]|14=>bW #[103,97,112]|_=>bW #[116,111,107,101,110,115]
noncomputable def b0y(G:HK)(C:LV)(y:Nat):pF:=⟨(G y).h,S (Jq y) (G y).t,C.get y⟩
noncomputable def Ym(G:HK)(Q:TV)(y:Nat):pF:=⟨(G y).h,S (Jq y) (G y).t,Q.get y⟩
noncomputable def ck(ai tl:List Nat)(G KT:HK)(C:LV)(Q:TV)(sl:Array (Option bX)):bV:={ly (ai.map (b0y G C)++tl.map (Ym KT Q)) (ai.length+tl.length)with slots:=sl}
noncomputable def posOf(y:Nat):List Nat->Nat|[]=>0|c::r=>if c=y then 0 else posOf y r+1
noncomputable def ni(Q:BT)(af:Nat)(ai:List Nat)(y:Nat):Ht:=⟨(d5 Q 0 (af+posOf y ai)).h,(d5 Q 0 (af+posOf y ai)).t⟩
noncomputable def pY(y:Nat)(ai:List Nat):List Nat:=if ai.contains y then ai else ai++[y]
noncomputable def gQ:List Nat:=[0,1,2,3,4]
noncomputable def rm:List Nat:=[0,1,2,3,4,5,6]
noncomputable def cw:List Nat:=[0,1,2,3,4,5,6,8,7,9]
noncomputable def layA(ai:List Nat):List Nat:=pY 11 (pY 10 ai)
noncomputable def layB(ai:List Nat):List Nat:=pY 12 ai
noncomputable def hJ(ai:List Nat):List Nat:=pY 14 (pY 10 (pY 12 (pY 13 ai)))
noncomputable def gk:List (List Nat):=[[],layA [],layB [],hJ [],layB (layA []),hJ (layA []),layA (layB []),hJ (layB []),layA (hJ []),hJ (layB (layA [])),hJ (layA (layB [])),layA (hJ (layB []))]
theorem LR:∀D∈gk,layA D∈gk/\layB D∈gk/\hJ D∈gk:=⋯
noncomputable def mV:Expr×Expr×List dd:=match(ik).getD 1 default with| .For D v l _ _=>(D,v,l)|_=>default
noncomputable def nu:List dd:=(mV).2.2
end Mine
namespace Mine
noncomputable def pW:dd->Expr×List dd×List dd| .If D l e _=>(D,l,e)|_=>default
noncomputable def mJ:=pW ((nu).getD 2 default)
noncomputable def ql:=pW ((mJ).2.2.getD 0 default)
noncomputable def uG:=pW ((ql).2.2.getD 0 default)
noncomputable def fK:List dd:=(mJ).2.1
noncomputable def mE:List dd:=(ql).2.1
noncomputable def iB:List dd:=(uG).2.1
noncomputable def fD:List dd:=(uG).2.2
noncomputable def asg:dd->List Expr×Expr| .Assign c b _=>(c,b)|_=>default
noncomputable def m7(f:dd):Expr:=(asg f).1.getD 0 default
noncomputable def kO(f:dd):Expr:=(asg f).2
noncomputable def st(r:List dd)(v:Nat):dd:=r.getD v default
noncomputable def fk(f:dd):Expr:=(pW f).1
end Mine
namespace Mine
noncomputable def jk(Q:BT)(i:Nat):cp:=match Q.get 0 with
 |Y k=>match k.data with
  | .dict b _=>match b.toList[i]? with
   |Y e=>match e.val with| .str _ D=>D| .int _ D=>D|_=>0
   |W=>0
  |_=>0
 |W=>0
noncomputable def v_:List (List Nat):=[hJ [],hJ (layA []),hJ (layB []),layA (hJ []),hJ (layB (layA [])),hJ (layA (layB [])),layA (hJ (layB []))]
theorem M7:∀D∈gk,hJ D∈v_:=⋯
noncomputable def nh(ai:List Nat):List Nat:=pY 12 (pY 13 ai)
noncomputable def iv(ai:List Nat):List Nat:=pY 10 (nh ai)
section
variable{x:FA}{d:Rc}
theorem Nb(a:decide (g=l)=u)(hc:d.c= .call (.builtin "int.__eq__") ⟨[I (g:Nat) (cG 0 d.c),I (l:Nat) (cG 1 d.c)],[]⟩)(ae:d.sm=lq (.bool u)):cy x d:=by
 subst a;refine vh F.slot_int_eq (λ f=>v9 f _ _) F.entry_int_eq (F.args_int_eq_2 _ _) (gives_int_eq _ _ _ _) hc ?_;rw[ae];have:((g:Int)==(l:Int))=decide (g=l):=by
  by_cases q:g=l;·subst q;simp
  ·rw[decide_eq_false q];exact beq_eq_false_iff_ne.mpr (by lia)
 rw[this]
theorem Pp(a:(g !=0)=u)(hc:d.c= .call (.builtin "int.__bool__") ⟨[I g (cG 0 d.c)],[]⟩)(ae:d.sm=lq (.bool u)):cy x d:=by subst a;exact vh F.slot_int_bool (λ f=>v9 f _ _) F.entry_int_bool (F.args_int_bool_1 _) (gives_int_bool _ _) hc ae
end
section
variable{x:FA}{d:Rc}
theorem Nn(hz:c++t=j)(hl:j.length<=iR)(hc:d.c= .call (.builtin "str.__add__") ⟨[S c (cG 0 d.c),S t (cG 1 d.c)],[]⟩)(ae:d.sm=qU j):cy x d:=by
 intro s ax f _ _ _ hs _ _ _ _ G;rw[hc];have aj:∀(D:cp)(n:cc),n.heap=f.heap->n.gens=f.gens->n.drawn=f.drawn->n.os=f.os->ax (.ok (.ret (S j D))) n:=λ D n e1 e2 e3 e4=>by have:=G (λ q=>0) (λ q=>⟨D,⟨0,0,0,0⟩,[],0⟩) n;rw[ae]at this;exact this rfl (λ i k a=>by cases a) (λ i a=>by cases a) (λ i k' a=>by cases a) (λ u hp=>by cases hp) (λ q q a q q=>by rw[e1];exact a) (by rw[e1];exact gz _) e2 e3 e4
 refine zD F.slot_str_add (pE _ _ _) F.entry_str_add (F.args_str_add_2 _ _) (gives_str_add c t _ _) ?_;by_cases hx:(c.length==0)=U;·
  rw[if_pos hx];have b:c=bW #[]:=by
   cases c with
    |mk g=>
     have:g.size=0:=by simpa[zN]using hx
     rw[Kn.mp this]
  have:t=j:=by rw[<-hz,b];cases t;show _=bW _;simp
  rw[<-this]at aj;exact aj _ f rfl rfl rfl rfl
 ·rw[if_neg hx];by_cases hy:(t.length==0)=U;·
   rw[if_pos hy];have e:t=bW #[]:=by
    cases t with
     |mk g=>
      have:g.size=0:=by simpa[zN]using hy
      rw[Kn.mp this]
   have:c=j:=by rw[<-hz,e];cases c;show _=bW _;simp
   rw[<-this]at aj;exact aj _ f rfl rfl rfl rfl
  ·rw[if_neg hy,hz];exact⟨hl,aj _ _ rfl rfl rfl rfl⟩
end
section
variable{x:FA}{d:Rc}
theorem N9(a:c.length=H)(hf:H<2^62)(hc:d.c= .call (.builtin "len") ⟨[S c (cG 0 d.c)],[]⟩)(ae:d.sm=mB (H:Nat)):cy x d:=by subst a;intro s ax f _ _ _ hs _ _ _ _ G;rw[hc];refine kg plain_len entry_len (Ft kind_len (args_len1 _) ?_);unfold FL.«len»;refine cJ (m:=oneArg "len" _) (ed ?_);refine cJ (m:=callSpecial? (S c (cG 0 d.c)) (gj "__len__")) (Kk (name:=gj "__len__") (pE f _ _) Lq (call_gives Lq (pE f _ _) F.entry_str_len (F.args_str_len_1 _) (gives_str_len c _) ?_));show cm _ _ _ _ _ {f with toks:=f.toks+1};refine cJ (qE (ed ?_));refine cJ (ą ?_);show cm _ _ (if((c.length:Nat):Int)<0 then _ else _) _ _ _;rw[if_neg (by lia)];show cm _ _ (if((c.length:Nat):Int)>=2^63 then _ else _) _ _ _;rw[if_neg (by omega)];refine cJ (wpAny_mkInt (ed ?_));have:=G (λ j=>0) (λ j=>⟨f.toks+1,⟨0,0,0,0⟩,[],0⟩) {f with toks:=f.toks+1+1};rw[ae]at this;exact this rfl (λ i k a=>by cases a) (λ i a=>by cases a) (λ i k' a=>by cases a) (λ u hp=>by cases hp) (λ j j a j j=>a) (gz _) rfl rfl rfl
theorem Pk(hx:c=bW #[39,B,39]\/c=bW #[76,39,B,39])(hc:d.c= .call (R 588) ⟨[S c (eJ d.c)],[]⟩)(ae:d.sm=U_ B):cy x d:=by
 rcases hx with q|q<;>subst q;·exact N1 hc ae
 ·exact N0 hc ae
end
noncomputable def RN(V:VS):RS:=λ d f=>match d with| .ok (.ret .none)=>V .none f|_=>False
noncomputable def RI(V:VS):RS:=λ d f=>match d with| .ok (.ret (I j o))=>V (I j o) f|_=>False
noncomputable def jh:Expr->Expr| .Compare r _ _ _=>r|_=>default
noncomputable def kX:Expr->Expr| .Compare _ _ d _=>d.getD 0 default|_=>default
noncomputable def w0:Expr->dK| .Compare _ _ _ u=>u|_=>default
noncomputable def m6:Cfg bX->cN| .b (.call B _ _ _ _)=>B|_=>default
noncomputable def J8:Cfg bX->cp| .b (.pure (.int _ D))=>D| .b (.pure (.str _ D))=>D|_=>0
noncomputable abbrev Ic:String:=JV
theorem PH:"list_iterator" =Ic:=b6c
noncomputable abbrev Ib:String:=K4
theorem PG:"slice" =Ib:=b7l
noncomputable def eU(c:bX)(v:Nat):bV:=⟨T Ic,W, .fields #[c,I v 0],#[]⟩
theorem oJ(c:bX)(v:Nat):eU c v={cls:=T "list_iterator",dict:=W,data:= .fields #[c,I v 0],slots:=#[]}:=by unfold eU;rw[PH]
noncomputable def π(D:cp):bV:=⟨T Ib,W, .fields #[.none,I 14 D, .none],#[]⟩
noncomputable def ς(k:Option bV):cp:=match k with
 |Y k=>match k.data with
  | .fields vs=>match vs.toList with|[_, .int _ D,_]=>D|_=>0
  |_=>0
 |W=>0
noncomputable def cut(xs:List bX):List bX:=(Ė ⟨xs⟩ W (Y 14) W).toList
theorem QX(a:b∈cut xs):b∈xs:=by unfold cut Ė at a;simp only[tG]at a;refine cK a λ v _ hi=>?_;have:=Ks hi;simpa using this
theorem QY(xs:List bX):(cut xs).length<=14:=by
 unfold cut Ė;simp only;refine dZ (List.length_filterMap_le _ _) (sliceRange_length_le _ _ _ _ (λ j=>?_) λ hc=>?_);·
  simp only[sliceBounds];constructor;·assumption
  ·simp;omega
 ·simp[sliceBounds]at hc
noncomputable def Hf(xs:List bX):Sm:=⟨10,1,0,λ g j=> .ok (.ret (R (g 0))),λ j j=>[],λ j j=>[lst (cut xs) 0],W⟩
section
variable{x:FA}{d:Rc}
theorem Nl(hc:d.c= .call (.builtin "list.__getitem__") ⟨[R g,R sl],[]⟩)(ae:d.sm=Hf xs)(hT:d.T.get y=Y (lst xs e))(hS:d.T.get m=Y (π (ς (d.T.get m))))(ha:x y=g)(hs:x m=sl)(hl:xs.length<=1048576):cy x d:=by
 intro s ax f _ _ _ t _ _ _ _ G;have h0:=(t y _ hT).2;have z:=(t m _ hS).2;rw[ha,lst_is]at h0;rw[hs,π,<-PG]at z;rw[hc];have b:f.TypeIs (R sl) "slice" :=(cI _ z rfl);refine kg Kz.plain F.entry_list_getitem (Kz.check _ _ _ _ _ _ _ _ (cI _ h0 rfl) (F.args_list_getitem_2 _ _) ?_);show cm _ _ (Kd (R sl)>>=_) _ _ f;refine cJ ?_;unfold Kd;refine cJ (CN b slice_no_index ?_);simp only[Option.isNone_none,if_true];refine ed ?_;show cm _ _ (typeOf (R sl)>>=_) _ _ f;refine cJ (þ b ?_);rw[if_neg ⋯];rw[listSliceParts_eq];refine cJ (cJ (jr z rfl (x:= .none) rfl (cJ (CU .none ?_))));rw[if_neg ⋯];refine cJ (jr z rfl (x:= .none) rfl (cJ (CU .none ?_)));refine cJ (jr z rfl (x:=I 14 (ς (d.T.get m))) rfl (cJ (CU (.int _ _) (ed ?_))));refine cJ (m:=ñ (R g)) ?_;unfold ñ;refine cJ (Lm h0 rfl (ed ?_));refine cJ (wW (sliceIndices_raw W (Y 14) W xs.length (by simp)) ?_);refine cJ (nB (ed ?_) (dZ (slicePick_size_le ⟨xs⟩ W (Y 14) W) (dZ hl ⋯)));refine G (λ j=>f.heap.objs.size) (λ j=>⟨0,⟨0,0,0,0⟩,[],0⟩) {f with heap:=f.heap.push {cls:=T "list",data:= .seq (Ė ⟨xs⟩ W (Y 14) W)}} (by rw[ae];rfl) (λ i k a=>?_) (λ i j=> .inl (gz _)) (λ i k' a h' j=>?_) (λ u hp=>by rw[ae]at hp;cases hp) (λ l k M j j=>gF _ M) ?_ (by rw[ae];rfl) rfl rfl|>λ q=>by rw[ae]at q;exact q
 ·rw[ae]at a;match i,a with|0,a=>cases a;show(f.heap.push _).get? f.heap.objs.size=_;rw[lst_is];exact kj _ rfl|i+1,a=>cases a
 ·rw[ae]at a h';have e1:i<1:=a;have e2:k'<1:=h';omega
 ·show f.heap.objs.size<=(f.heap.push _).objs.size;simp[tQ]
end
set_option tactic.hygienic true in theorem Mu(step:∀{V:VS}{aw:VS},V b n->cm (bZ bY w) s.in1 (nM v) V aw f)(a:ax (.ok (.ret (R n.heap.objs.size))) {n with heap:=n.heap.push {cls:=T "enumerate",data:= .fields #[.none, .bool X,b,I 0 0, .none, .none]}}):cm (bZ bY w) s.in1 (Builtin.«enumerate.__new__» ⟨[T "enumerate",v],[]⟩) (λ aj n=>match aj with| .done C=>ax (.ok C) n| .again c'=>c'.quiet=U/\dQ (bZ bY w) s c' ax n) (λ e n=>ax (.error e) n) f:=by
 obtain⟨hp,O,af,tk,os⟩:=f;obtain⟨g,d,c,k,j⟩:=n;have i:=Lw;wp_walk;refine CM λ st=>ed ?_;split;·
  rename_i B _ _ _ _ _;cases(B==T "enumerate");·wp_walk using step;exact a
  ·wp_walk using step;exact a
 ·wp_walk using step;exact a
theorem Lu(g:bX):zr "enumerate.__new__" ⟨[T "enumerate",g],[]⟩=pure ():=⋯
noncomputable def Hd(c:bU):Sm:=⟨10,2,0,λ l j=> .ok (.ret (R (l 1))),λ j j=>[],λ l j=>[eU (R c) 0,fI (l 0) 0 .none],W⟩
theorem Ni(hc:d.c= .call (.builtin "enumerate.__new__") ⟨[T "enumerate",R g],[]⟩)(ae:d.sm=Hd g)(hT:d.T.get y=Y (lst xs e))(ha:x y=g):cy x d:=by
 obtain⟨H,P,rn,rg,rs⟩:=d;cases hc;cases ae;intro s ax f fp _ _ hs _ _ _ hC G;have h0:=(hs y _ hT).2;rw[ha,lst_is]at h0;refine Cq (Ċ _) Cy ?_;rw[Lu];refine ed ?_;have p:(f.heap.push {cls:=T "list_iterator",data:= .fields #[R g,I 0 0]}).objs.size=f.heap.objs.size+1:=mf ..;refine Mu (n:={f with heap:=f.heap.push {cls:=T "list_iterator",data:= .fields #[R g,I 0 0]}}) (b:=R f.heap.objs.size) (λ{V aw}a=>KQ (Ww _ h0 rfl _ rfl) a) ?_;rw[p];refine G (λ i=>if i=0 then f.heap.objs.size else f.heap.objs.size+1) (λ j=>⟨0,⟨0,0,0,0⟩,[],0⟩) {f with heap:=(f.heap.push {cls:=T "list_iterator",data:= .fields #[R g,I 0 0]}).push {cls:=T "enumerate",data:= .fields #[.none, .bool X,R f.heap.objs.size,I 0 0, .none, .none]}} rfl (λ i k hk=>?_) (λ i hk=>?_) (λ i k' hk aJ e=>?_) (λ u hp=>by cases hp) (λ l k M j j=>gF _ (gF _ M)) ?_ rfl rfl rfl;·match i,hk with|0,hk=>cases hk;show nD _ f.heap.objs.size=Y (eU (R g) 0);rw[oJ];exact gF _ (kj _ rfl)|1,hk=>cases hk;show nD _ (f.heap.objs.size+1)=Y (fI f.heap.objs.size 0 .none);unfold fI;rw[<-qI,<-p];exact kj _ rfl|i+2,hk=>cases hk
 ·match i,hk with|0,_=>exact .inl (gz _)|1,_=>exact .inl (Ĉ _)|i+2,hk=>exact absurd (show i+2<2 from hk) (by omega)
 ·have ao:i<2:=hk;have ai:k'<2:=aJ;match i,ao,k',ai with|0,_,0,_=>rfl|1,_,1,_=>rfl|0,_,1,_=>exact absurd (show f.heap.objs.size=f.heap.objs.size+1 from e) (by omega)|1,_,0,_=>exact absurd (show f.heap.objs.size+1=f.heap.objs.size from e) (by omega)
 ·show f.heap.objs.size<=zO _;rw[mf,p];omega
noncomputable def I3(y:Nat)(g:bU)(v:Nat)(b:bX):Sm:=⟨1,0,0,λ j j=> .ok (.ret b),λ j j=>[(y,eU (R g) (v+1))],λ j j=>[],W⟩
noncomputable def Ha(y:Nat)(v:Nat):Sm:=⟨1,2,0,λ g j=> .error (R (g 1)),λ j j=>[(y,eU .none v)],λ g j=>[dk [],pN (g 0)],W⟩
section
variable{x:FA}{d:Rc}
theorem Pn(hc:d.c= .call (.builtin "list_iterator.__next__") ⟨[R g],[]⟩)(ae:d.sm=I3 y c v b)(hT:d.T.get y=Y (eU (R c) v))(hS:d.T.get m=Y (lst xs e))(ha:x y=g)(hs:x m=c)(hv:xs[v]?=Y b):cy x d:=by
 intro s ax f _ _ _ t _ _ _ _ G;have h0:=(t y _ hT).2;have z:=(t m _ hS).2;rw[ha,oJ]at h0;rw[hs,lst_is]at z;rw[hc];have aj:∀(C:bV->bV),C {cls:=T "list_iterator",dict:=W,data:= .fields #[R c,I v 0],slots:=#[]}=eU (R c) (v+1)->ax (.ok (.ret b)) {f with heap:=f.heap.update g C}:=λ C hf=>by
  have r:=ou C h0 (by rw[hf,oJ];rfl);have o:=rR f.heap g C;have:=G (λ j=>0) (λ j=>⟨0,⟨0,0,0,0⟩,[],0⟩) {f with heap:=f.heap.update g C};rw[ae]at this;refine this rfl (λ i k a=>by cases a) (λ i a=>by cases a) (λ i k' a=>by cases a) (λ u hp=>?_) (λ q k M ay j=>?_) (pD o.1.symm) rfl rfl rfl;·cases hp with|head=>show(f.heap.update g _).get? (x y)=_;rw[ha,r,hf]|tail _ hp=>cases hp
  ·have:q≠g:=by rw[<-ha];exact ay (y,_) (.head _)
   exact(o.2 q this).trans M
 refine kg ô.plain Ky (ô.check _ _ _ _ _ _ _ _ (cI _ h0 rfl) (KI _) ?_);show cm _ _ (mZ (R g) 0>>=_) _ _ f;refine cJ (jr h0 rfl (x:=R c) rfl ?_);rw[if_neg (show¬((R c==jt)=U)from λ a=>Lc (show X=U from a))];show cm _ _ (mZ (R g) 1>>=_) _ _ f;refine cJ (jr h0 rfl (x:=I v 0) rfl ?_);show cm _ _ (zW (R c)>>=_) _ _ f;refine cJ ?_;unfold zW;refine cJ (zL z (ed ?_));have l:(⟨xs⟩:Array bX)[((v:Nat):Int).toNat]?=Y b:=by rw[wK];simpa using hv
 simp only[l];refine cJ (rY h0 rfl (nC _) (ed ?_));exact aj _ (by rw[oJ];rfl)
theorem N7(hc:d.c= .call (.builtin "list_iterator.__next__") ⟨[R g],[]⟩)(ae:d.sm=Ha y v)(hT:d.T.get y=Y (eU (R c) v))(hS:d.T.get m=Y (lst xs e))(ha:x y=g)(hs:x m=c)(hv:xs[v]?=W):cy x d:=by
 obtain⟨H,P,rn,rg,rs⟩:=d;cases hc;cases ae;intro s ax f fp J _ t _ _ _ _ G;replace J:cj 1 W s:=J;have h0:=(t y _ hT).2;have z:=(t m _ hS).2;rw[ha,oJ]at h0;rw[hs,lst_is]at z;have aj:∀(C:bV->bV),C {cls:=T "list_iterator",dict:=W,data:= .fields #[R c,I v 0],slots:=#[]}=eU .none v->ax (.error (R ((f.heap.update g C).push {cls:=T "tuple",data:= .seq #[]}).objs.size)) {f with heap:=((f.heap.update g C).push {cls:=T "tuple",data:= .seq #[]}).push {cls:=T "StopIteration",data:= .fields #[R (f.heap.update g C).objs.size, .none, .none, .none, .bool X, .none]}}:=by
  intro C hf;have r:=ou C h0 (by rw[hf,oJ];rfl);have o:=rR f.heap g C;have O:(f.heap.update g C).objs.size=f.heap.objs.size:=o.1;have p:((f.heap.update g C).push {cls:=T "tuple",data:= .seq #[]}).objs.size=f.heap.objs.size+1:=by rw[mf,O]
  rw[p,O];refine G (λ i=>if i=0 then f.heap.objs.size else f.heap.objs.size+1) (λ j=>⟨0,default,[],0⟩) _ rfl (λ i k hk=>?_) (λ i hk=>?_) (λ i k' hk aJ e=>?_) (λ u hp=>?_) (λ q k M ay j=>?_) ?_ rfl rfl rfl;·match i,hk with|0,hk=>cases hk;show nD _ f.heap.objs.size=Y (dk []);refine gF _ ?_;unfold dk;rw[<-xh,<-O];exact kj _ rfl|1,hk=>cases hk;show nD _ (f.heap.objs.size+1)=Y (pN f.heap.objs.size);unfold pN;rw[<-a_,<-p];exact kj _ rfl|i+2,hk=>cases hk
  ·match i,hk with|0,_=>exact .inl (gz _)|1,_=>exact .inl (Ĉ _)|i+2,hk=>exact absurd (show i+2<2 from hk) (by omega)
  ·have ao:i<2:=hk;have ai:k'<2:=aJ;match i,ao,k',ai with|0,_,0,_=>rfl|1,_,1,_=>rfl|0,_,1,_=>exact absurd (show f.heap.objs.size=f.heap.objs.size+1 from e) (by omega)|1,_,0,_=>exact absurd (show f.heap.objs.size+1=f.heap.objs.size from e) (by omega)
  ·cases hp with|head=>show nD _ (x y)=Y (eU .none v);rw[ha];exact gF _ (gF _ (by rw[r,hf]))|tail _ hp=>cases hp
  ·have:q≠g:=by rw[<-ha];exact ay (y,_) (.head _)
   exact gF _ (gF _ ((o.2 q this).trans M))
  ·show f.heap.objs.size<=zO _;rw[mf,p];omega
 refine kg ô.plain Ky (ô.check _ _ _ _ _ _ _ _ (cI _ h0 rfl) (KI _) ?_);show cm _ _ (mZ (R g) 0>>=_) _ _ f;refine cJ (jr h0 rfl (x:=R c) rfl ?_);rw[if_neg (show¬((R c==jt)=U)from λ a=>Lc (show X=U from a))];show cm _ _ (mZ (R g) 1>>=_) _ _ f;refine cJ (jr h0 rfl (x:=I v 0) rfl ?_);show cm _ _ (zW (R c)>>=_) _ _ f;refine cJ ?_;unfold zW;refine cJ (zL z (ed ?_));have l:(⟨xs⟩:Array bX)[((v:Nat):Int).toNat]?=W:=by rw[wK];simpa using hv
 simp only[l];refine cJ (v8 (cJ (rY h0 rfl (s6 _) ?_)));show cm _ _ (lS (T "StopIteration") []>>=_) _ _ _;refine cJ ?_;simp only[lS,h_];refine cJ (nB ?_ (by size_fits));refine cJ (m:=qC _ _) (wW (a:=jt) (by first|rfl|(simp only[qC];rfl)) ?_);refine nB ?_ (by size_fits);simp only[s9];refine cJ (zE ?_);rw[show s.in1.handled=W from J.h];refine ml ?_;exact aj _ (by rw[oJ];rfl)
end
end Mine
end
section
open PySem PySem.W PySem.W.X PySem.Calls PySem.NumText
namespace Mine
section
noncomputable def cV(g:Int)(l af:Nat)(a:g.fmod l=af)(M:l≠0:=by decide):Qi:=qB "int.__mod__" (λ q=>[I g (cG 0 q.c),I (l:Nat) (cG 1 q.c)]) (mB (af:Nat)) λ j j=>DL M a
noncomputable def dG(g l af:Nat)(a:g%l=af)(M:l≠0:=by decide):Qi:=qB "int.__mod__" (λ q=>[I (g:Nat) (cG 0 q.c),I (l:Nat) (cG 1 q.c)]) (mB (af:Nat)) λ j j=>Ma M a
noncomputable def eP(g:Int)(l:Nat)(af:Int)(a:g.fdiv l=af)(hp:nV l)(M:l≠0:=by decide):Qi:=qB "int.__floordiv__" (λ q=>[I g (cG 0 q.c),I (l:Nat) (cG 1 q.c)]) (mB af) λ j j=>DM M hp a
noncomputable def dH(g l af:Nat)(a:g/l=af)(hp:nV l)(M:l≠0:=by decide):Qi:=qB "int.__floordiv__" (λ q=>[I (g:Nat) (cG 0 q.c),I (l:Nat) (cG 1 q.c)]) (mB (af:Nat)) λ j j=>Mh M hp a
noncomputable def cY(g:Nat)(u:Bool)(a:decide (0<g)=u):Qi:=qB "int.__gt__" (λ q=>[I (g:Nat) (cG 0 q.c),I 0 (cG 1 q.c)]) (lq (.bool u)) λ j j=>Nf a
noncomputable def dF(c:cb)(v B:Nat)(hi:v<2^63)(a:c.cps[v]?=Y B):Qi:=qB "str.__getitem__" (λ q=>[S c (cG 0 q.c),I (v:Nat) (cG 1 q.c)]) (qU ⟨#[B]⟩) λ j j=>M9 hi a
noncomputable def lU(b:Nat)(a:b<=0x10FFFF):Qi:=qB "chr" (λ q=>[I (b:Nat) (cG 0 q.c)]) (qU ⟨#[b]⟩) λ j j=>Nm a
noncomputable def Ig(y b:Nat)(u:Bool)(a:(decide (b=39)||decide (b=92))=u):Qi:=qT "list.__contains__" y (λ x q=>[R (x y),I (b:Nat) (cG 1 q.c)]) (λ q=>AX (q.T.get y)) (λ j=>lq (.bool u)) λ j j z E h3=>N6 a z E h3 rfl
noncomputable def lM(c t:cb)(l:Bool)(a:(c.cps.toList==t.cps.toList)=l:=by rfl):Qi:=qB "str.__eq__" (λ q=>[S c (cG 0 q.c),S t (cG 1 q.c)]) (lq (.bool l)) λ j j=>Ng a
noncomputable def l5(y i:Nat)(l:Bool)(a:∀tk tv,(wj tk tv ⟨#[i]⟩).isSome=l):Qi:=qT "dict.__contains__" y (λ x q=>[R (x y),S ⟨#[i]⟩ (cG 1 q.c)]) (λ q=>Ü (q.T.get y)) (λ j=>lq (.bool l)) λ j j z E h3=>Pw z E h3 rfl (a _ _)
noncomputable def Jd(y i b:Nat)(a:(i,b)∈kB):Qi:=qT "dict.__getitem__" y (λ x q=>[R (x y),S ⟨#[i]⟩ (cG 1 q.c)]) (λ q=>Ü (q.T.get y)) (λ j=>qU ⟨#[b]⟩) λ j j z E h3=>Pu z E h3 rfl a
noncomputable def nU(l b:Nat)(g:List Nat)(M:l=8\/l=16){m:List Nat}(hd:fj l g m)(hv:fh l m=b)(h0:g≠[]:=by intro a;cases a)(hl:g.length<=640:=by exact cL rfl):Qi:=qB "int.__new__" (λ q=>[T "int",S ⟨g.toArray⟩ (cG 1 q.c),I (l:Nat) (cG 2 q.c)]) (mB (b:Nat)) λ j j=>Md M hd h0 hl hv
end
end Mine
end
section
open PySem PySem.W PySem.W.X PySem.Calls
namespace Mine
end Mine
end
section
open PySem PySem.W PySem.W.X PySem.Calls
namespace Mine
section
noncomputable def ri(c t j:cb)(hz:c++t=j)(hl:j.length<=iR):Qi:=qB "str.__add__" (λ q=>[S c (cG 0 q.c),S t (cG 1 q.c)]) (qU j) λ b b=>Nn hz hl
noncomputable def uw(g l:Nat)(u:Bool)(a:decide (g=l)=u):Qi:=qB "int.__eq__" (λ q=>[I (g:Nat) (cG 0 q.c),I (l:Nat) (cG 1 q.c)]) (lq (.bool u)) λ j j=>Nb a
noncomputable def Jc(g:Int)(u:Bool)(a:(g !=0)=u):Qi:=qB "int.__bool__" (λ q=>[I g (cG 0 q.c)]) (lq (.bool u)) λ j j=>Pp a
noncomputable def yl(c:cb)(H:Nat)(a:c.length=H)(hf:H<2^62):Qi:=qB "len" (λ q=>[S c (cG 0 q.c)]) (mB (H:Nat)) λ j j=>N9 a hf
noncomputable def Bj(c:cb)(B:Nat)(a:c=bW #[39,B,39]\/c=bW #[76,39,B,39]):Qi:=qW (λ q=> .call (R 588) ⟨[S c (eJ q.c)],[]⟩) (U_ B) λ j j=>Pk a
noncomputable def Jb(y m v:Nat)(xs:List bX)(e:Nat)(b:bX)(hv:xs[v]?=Y b):Qi:=Bk "list_iterator.__next__" y m (λ x j=>[R (x y)]) (λ x j=>eU (R (x m)) v) (λ j j=>lst xs e) (λ x=>I3 y (x m) v b) λ j j z E h3 h4=>Pn z E h3 h4 rfl rfl hv
noncomputable def Ih(y m v:Nat)(xs:List bX)(e:Nat)(hv:xs[v]?=W):Qi:=Bk "list_iterator.__next__" y m (λ x j=>[R (x y)]) (λ x j=>eU (R (x m)) v) (λ j j=>lst xs e) (λ j=>Ha y v) λ j j z E h3 h4=>N7 z E h3 h4 rfl rfl hv
noncomputable def YB(y m:Nat)(xs:List bX)(e:Nat)(hl:xs.length<=1048576):Qi:=Bk "list.__getitem__" y m (λ x j=>[R (x y),R (x m)]) (λ j j=>lst xs e) (λ j q=>π (ς (q.T.get m))) (λ j=>Hf xs) λ j j z E h3 h4=>Nl z E h3 h4 rfl rfl hl
noncomputable def YA(y:Nat)(xs:List bX)(e:Nat):Qi:=qT "enumerate.__new__" y (λ x j=>[T "enumerate",R (x y)]) (λ j=>lst xs e) (λ x=>Hd (x y)) λ j j z E h3=>Ni z E h3 rfl
end
structure RK(c:VS->dX->cc->Prop)where
 β:Type
 l:(dX->cD bX)->β
 r:β
 ok:∀{s:cR}{V:VS}{aw:VS}{i:dX->cD bX}{q:dX}{f:cc},l i=r->c V q f->cm (bZ bY w) s (i q) V aw f
noncomputable def RN.rk:RK RN:=⟨cD bX,λ i=>kZ ⟨bY,w.params⟩ 20 (i (.ok (.ret .none))), .pure .none,λ{s V aw i q f}e hq=>by
 unfold RN at hq;split at hq;·refine xM 20 ?_;rw[e];exact ed hq
 ·exact hq.elim⟩
set_option tactic.hygienic true in noncomputable def RI.rk:RK RI:=⟨Int->cp->cD bX,λ i j o=>kZ ⟨bY,w.params⟩ 20 (i (.ok (.ret (I j o)))),λ j o=> .pure (I j o),λ{s V aw i q f}e hq=>by
 unfold RI at hq;split at hq;·rename_i j o;refine xM 20 ?_;rw[congrFun (congrFun e j) o];exact ed hq
 ·exact hq.elim⟩
section
variable{ae f:cc}{ah:AP}{l1 ak:List (bU×bV)}{P:GP}{s:cR}{af:Nat}{V:VS}{aw:VS}{c:VS->dX->cc->Prop}
abbrev eX(o:Type):Type:=(List bU×Cfg bX×List (Option bV)×GP×o)×Nat×List kP
noncomputable def kL(b:RK c)(r:List lg)(x:FA)(C:List Nat)(k:Cfg bX×Mem):eX b.β:=((k.2.ob.map (·.1),k.1,C.map k.2.T.get,k.2.gh,b.l (uJ k.1)),uB r x k.2.rc)
noncomputable def Jr(b:RK c)(r:List lg)(x:FA)(B:cN)(os:List bV)(γ:GP)(k:Cfg bX×Mem):eX b.β:=((k.2.ob.map (λ u=>x u.2), .b (.call B W (C4 k.1) (BX k.1) (uJ k.1)),os.map Y,γ,b.r),uA r k.2.rc)
abbrev KF(o:Type):Type:=GP->cN->FA->FD->eX o×eX o
noncomputable def Jt(b:RK c)(D:cD bX)(af H:Nat)(ay:List Nat)(t:List Qi)(r:List (bU×bV))(C:List Nat):KF b.β:=λ γ y d p=>bo λ l=>kL b (ij t (pre (cz r) d) p) (pre (cz r) d) C (rn l D af H ay (ic t) r γ y d p)
noncomputable def Js(b:RK c)(D:cD bX)(af H:Nat)(ay:List Nat)(t:List Qi)(r:List (bU×bV))(B:FA->FD->Cfg bX×Mem->cN)(os:FA->FD->Cfg bX×Mem->List bV):KF b.β:=λ γ y d p=>bo λ l=>Jr b (ij t (pre (cz r) d) p) (pre (cz r) d) (B d p (rn l D af H ay (ic t) r γ y d p)) (os d p (rn l D af H ay (ic t) r γ y d p)) γ (rn l D af H ay (ic t) r γ y d p)
theorem my(b:RK c)(J:cj af W s)(L:At ae ah (l1++ak) P f)(D:cD bX)(H:Nat)(ay:List Nat)(t:List Qi)(C:List Nat)(B:FA->FD->Cfg bX×Mem->cN)(os:FA->FD->Cfg bX×Mem->List bV)(a:Jt b D af H ay t l1 C=Js b D af H ay t l1 B os)(G:∀n d p k,At ae ah ((C.map (pre (cz l1) d)).zip (os d p k)++ak) P n->dQ (bZ bY w) s (B d p k) (c V) n)(hd:C.Nodup:=by decide):cm (bZ bY w) s D V aw f:=by refine o_ J (At.push L) D H ay (ic t) (λ d p k=>kL b (ij t (pre (cz l1) d) p) (pre (cz l1) d) C k=Jr b (ij t (pre (cz l1) d) p) (pre (cz l1) d) (B d p k) (os d p k) (Fr ak P) k) (λ y d p=>qX (congrFun (congrFun (congrFun (congrFun a (Fr ak P)) y) d) p) b1) λ d p k Q=>?_;refine eA (eo Q) λ e O=>?_;refine eA (eo e) λ e1 e=>?_;refine eA (eo e) λ e2 e=>?_;refine eA (eo e) λ e3 e=>?_;refine eA (eo e) λ e4 M=>?_;refine eA (tV e3 (p:=C.map (pre (cz l1) d)) (gi _)) λ z E=>?_;exact tJ e1 (si O (tW t _ p)) _ C _ _ e2 z E hd e4 (λ n X'=>vm (ÿ (G n d p k X'.pull) λ q aK hq=>b.ok M hq))
theorem Fz{ai:List (List Nat)}{tl:List Nat}{l1:List Nat->List (bU×bV)}(hL:tl∈ai)(b:RK c)(J:cj af W s)(L:At ae ah (l1 tl++ak) P f)(D:cD bX)(H:Nat)(ay:List Nat)(t:List Qi)(C:List Nat)(B:FA->FD->Cfg bX×Mem->cN)(os:List Nat->FA->FD->Cfg bX×Mem->List bV)(a:ai.map (λ tl=>Jt b D af H ay t (l1 tl) C)=ai.map λ tl=>Js b D af H ay t (l1 tl) B (os tl))(G:∀n d p k,At ae ah ((C.map (pre (cz (l1 tl)) d)).zip (os tl d p k)++ak) P n->dQ (bZ bY w) s (B d p k) (c V) n)(hd:C.Nodup:=by decide):cm (bZ bY w) s D V aw f:=my b J L D H ay t C B (os tl) (CE.mp a tl hL) G hd
end
section
variable{s:cR}{aw:VS}{ae f:cc}{ah:AP}{P:GP}{ak:List (bU×bV)}{A:bU}{G KT:HK}{C:LV}{Q:TV}{sl:Array (Option bX)}{tl:List Nat}
theorem Y3(J:cj 100 W s)(L:At ae ah ([(A,ck [0] [] G (λ j=>⟨0,0⟩) {C with sQ:=R c} Q sl)]++ak) P f)(Kc:∀n(n0:bU)(n1:bU)(n2:bU)(n3:bU)(a:bU)(K':HK)(tw:cp)(tc:cp)(ta:cp)(t1:cp)(t2:cp)(tb:cp)(tq:cp)(tv:cp),At ae ah ([(A,ck gQ [] K' (λ j=>⟨0,0⟩) {C with sQ:=R c,wr:=S (bW #[76,39,65,39]) tw,du:=R n1,wo:=R a,co:=I 5 tc} Q sl),(n0,dk [S fy ta,S (bW #[76,39,65,39]) t1,S (bW #[]) t2,I 1 tb]),(n1,lst [R n0] 0),(n2,lst [S gm tq] 0),(n3,dk [I 65 tv,R n2]),(a,lst [R n3] 0)]++ak) P n->V .next n):cm (bZ bY w) s (fZ ((ik).take 1) (cW A)) V aw f:=eZ J L _ 3000 (nd 16 61 0x11111111a8878808088878808088878808088878808088878808088070777) [] [0,1,2,3,4,5] (λ d p k=> .next) (λ d p k=>[ck gQ [] (ni k.2.T 0 gQ) (λ j=>⟨0,0⟩) {C with sQ:=R c,wr:=S (bW #[76,39,65,39]) (jk k.2.T 1),du:=R (d 1),wo:=R (d 4),co:=I 5 (jk k.2.T 4)} Q sl,dk [S fy (f5 (k.2.T.get 1) 0),S (bW #[76,39,65,39]) (f5 (k.2.T.get 1) 1),S (bW #[]) (f5 (k.2.T.get 1) 2),I 1 (f5 (k.2.T.get 1) 3)],lst [R (d 0)] 0,lst [S gm (f5 (k.2.T.get 3) 0)] 0,dk [I 65 (f5 (k.2.T.get 4) 0),R (d 2)],lst [R (d 3)] 0]) ⋯ (λ n d p k X'=>Kc n _ _ _ _ _ _ _ _ _ _ _ _ _ _ X')
theorem Y7(u:xs.length<=1048576)(J:cj 100 W s)(L:At ae ah ([(A,ck gQ [] G (λ j=>⟨0,0⟩) {C with sQ:=R c} Q sl),(c,lst xs e)]++ak) P f)(Kc:∀n(n1:bU)(n2:bU)(n3:bU),At ae ah ([(A,ck gQ [] G (λ j=>⟨0,0⟩) {C with sQ:=R c} Q sl),(c,lst xs e),(n1,lst (cut xs) 0),(n2,eU (R n1) 0),(n3,fI n2 0 .none)]++ak) P n->V (R n3) n):cm (bZ bY w) s (dO (mV).2.1 (cW A)) V aw f:=eZ J L _ 3000 (nd 16 16 0x6060662002222100) [YB 1 2 xs e u,YA 3 (cut xs) 0] [0,1,3,4,5] (λ d p k=>(R (d 3))) (λ d p k=>[ck gQ [] G (λ j=>⟨0,0⟩) {C with sQ:=R c} Q sl,lst xs e,lst (cut xs) 0,eU (R (d 1)) 0,fI (d 2) 0 .none]) ⋯ (λ n d p k X'=>Kc n _ _ _ X')
theorem Y5(J:cj 100 W s)(L:At ae ah ([(aE,fI o 0 .none)]++ak) P f)(Kc:∀n,At ae ah ([(aE,fI o 0 .none)]++ak) P n->V (R aE) n):cm (bZ bY w) s (Cm (R aE)) V aw f:=eZ J L _ 3000 (nd 16 6 0x101011) [] [0] (λ d p k=>(R aE)) (λ d p k=>[fI o 0 .none]) ⋯ (λ n d p k X'=>Kc n X')
theorem Y4{V:(Option bX)->cc->Prop}(hv:xs[v]?=Y b)(J:cj 100 W s)(L:At ae ah ([(aE,fI o (v:Nat) aj),(o,eU (R c) v),(c,lst xs e)]++ak) P f)(Kc:∀n(n0:bU)(tn:cp),At ae ah ([(aE,pK n0 o (v+1) b),(o,eU (R c) (v+1)),(c,lst xs e),(n0,dk [I (v:Nat) tn,b])]++ak) P n->V (Y (R n0)) n):cm (bZ bY w) s (yD (R aE)) V aw f:=eZ J L _ 3000 (nd 16 21 0x111111111111112210101) [Jb 1 2 v xs e b hv] [0,1,2,3] (λ d p k=>(Y (R (d 0)))) (λ d p k=>[pK (d 0) o (v+1) b,eU (R c) (v+1),lst xs e,dk [I (v:Nat) (f5 (k.2.T.get 3) 0),b]]) ⋯ (λ n d p k X'=>Kc n _ _ X')
theorem Y6{V:(Option bX)->cc->Prop}(hv:xs[v]?=W)(J:cj 100 W s)(L:At ae ah ([(aE,fI o (v:Nat) aj),(o,eU (R c) v),(c,lst xs e)]++ak) P f)(Kc:∀n,At ae ah ([(c,lst xs e)]++ak) P n->V W n):cm (bZ bY w) s (yD (R aE)) V aw f:=eZ J L _ 3000 (nd 16 8 0x52210101) [Ih 1 2 v xs e hv] [2] (λ d p k=>W) (λ d p k=>[lst xs e]) ⋯ (λ n d p k X'=>Kc n X')
end
section
variable{s:cR}{aw:VS}{ae f:cc}{ah:AP}{P:GP}{ak:List (bU×bV)}{A:bU}{G KT:HK}{C:LV}{Q:TV}{sl:Array (Option bX)}{tl:List Nat}
theorem Y1(J:cj 100 W s)(L:At ae ah ([(A,ck gQ [] G (λ j=>⟨0,0⟩) C Q sl),(x,dk [I v t1,I H t2])]++ak) P f)(Kc:∀n(K':HK),At ae ah ([(A,ck rm [] K' (λ j=>⟨0,0⟩) {C with pl:=I v t1,n:=I H t2} Q sl)]++ak) P n->V () n):cm (bZ bY w) s (nF (mV).1 (cW A) (R x)) V aw f:=eZ J L _ 3000 (nd 16 39 0x111153323303033323303033323303033020222) [] [0] (λ d p k=>()) (λ d p k=>[ck rm [] (ni k.2.T 0 rm) (λ j=>⟨0,0⟩) {C with pl:=I v t1,n:=I H t2} Q sl]) ⋯ (λ n d p k X'=>Kc n _ X')
theorem Y0(J:cj 100 W s)(L:At ae ah ([(A,ck cw tl G KT C Q sl),(x,dk [I v t1,I H t2])]++ak) P f)(Kc:∀n,At ae ah ([(A,ck cw tl G KT {C with pl:=I v t1,n:=I H t2} Q sl)]++ak) P n->V () n):cm (bZ bY w) s (nF (mV).1 (cW A) (R x)) V aw f:=eZ J L _ 3000 (nd 16 39 0x111153323303033323303033323303033020222) [] [0] (λ d p k=>()) (λ d p k=>[ck cw tl G KT {C with pl:=I v t1,n:=I H t2} Q sl]) ⋯ (λ n d p k X'=>Kc n X')
theorem Vz{V:hZ}{v H m:Int}{i:Nat}{t1 t2:cp}(hk:H.fmod (9:Nat)=(i:Nat))(hm:H.fdiv (9:Nat)=m)(hw:(m+v).fmod (2:Nat)=(0:Nat))(J:cj 100 W s)(L:At ae ah ([(A,ck rm [] G (λ j=>⟨0,0⟩) {C with pl:=I v t1,n:=I H t2} Q sl)]++ak) P f)(Kc:∀n(K':HK)(tk:cp)(O:cp)(tw:cp),At ae ah ([(A,ck cw [] K' (λ j=>⟨0,0⟩) {C with pl:=I v t1,n:=I H t2,ki:=I (i:Nat) tk,m:=I m O,wi:=S (bW #[]) tw} Q sl)]++ak) P n->V .next n):cm (bZ bY w) s (fZ ((nu).take 2) (cW A)) V aw f:=eZ J L _ 3000 (nd 16 52 0x1100200111111533233030333233030333233030330202222121) [cV H 9 i hk,eP H 9 m hm Ï,cV (m+v) 2 0 hw] [0] (λ d p k=> .next) (λ d p k=>[ck cw [] (ni k.2.T 0 cw) (λ j=>⟨0,0⟩) {C with pl:=I v t1,n:=I H t2,ki:=I (i:Nat) (jk k.2.T 8),m:=I m (jk k.2.T 7),wi:=S (bW #[]) (jk k.2.T 9)} Q sl]) ⋯ (λ n d p k X'=>Kc n _ _ _ _ X')
theorem Vy{V:hZ}{v H m:Int}{i:Nat}{t1 t2:cp}(hk:H.fmod (9:Nat)=(i:Nat))(hm:H.fdiv (9:Nat)=m)(hw:(m+v).fmod (2:Nat)=(1:Nat))(J:cj 100 W s)(L:At ae ah ([(A,ck rm [] G (λ j=>⟨0,0⟩) {C with pl:=I v t1,n:=I H t2} Q sl)]++ak) P f)(Kc:∀n(K':HK)(tk:cp)(O:cp)(tw:cp),At ae ah ([(A,ck cw [] K' (λ j=>⟨0,0⟩) {C with pl:=I v t1,n:=I H t2,ki:=I (i:Nat) tk,m:=I m O,wi:=S (bW #[76]) tw} Q sl)]++ak) P n->V .next n):cm (bZ bY w) s (fZ ((nu).take 2) (cW A)) V aw f:=eZ J L _ 3000 (nd 16 52 0x1100200111111533233030333233030333233030330202222121) [cV H 9 i hk,eP H 9 m hm Ï,cV (m+v) 2 1 hw] [0] (λ d p k=> .next) (λ d p k=>[ck cw [] (ni k.2.T 0 cw) (λ j=>⟨0,0⟩) {C with pl:=I v t1,n:=I H t2,ki:=I (i:Nat) (jk k.2.T 8),m:=I m (jk k.2.T 7),wi:=S (bW #[76]) (jk k.2.T 9)} Q sl]) ⋯ (λ n d p k X'=>Kc n _ _ _ _ X')
theorem Vx{V:hZ}{v H m:Int}{i:Nat}{t1 t2:cp}(hk:H.fmod (9:Nat)=(i:Nat))(hm:H.fdiv (9:Nat)=m)(hw:(m+v).fmod (2:Nat)=(0:Nat))(J:cj 100 W s)(L:At ae ah ([(A,ck cw tl G KT {C with pl:=I v t1,n:=I H t2} Q sl)]++ak) P f)(Kc:∀n(tk:cp)(O:cp)(tw:cp),At ae ah ([(A,ck cw tl G KT {C with pl:=I v t1,n:=I H t2,ki:=I (i:Nat) tk,m:=I m O,wi:=S (bW #[]) tw} Q sl)]++ak) P n->V .next n):cm (bZ bY w) s (fZ ((nu).take 2) (cW A)) V aw f:=eZ J L _ 3000 (nd 16 52 0x1100200111111533233030333233030333233030330202222121) [cV H 9 i hk,eP H 9 m hm Ï,cV (m+v) 2 0 hw] [0] (λ d p k=> .next) (λ d p k=>[ck cw tl G KT {C with pl:=I v t1,n:=I H t2,ki:=I (i:Nat) (jk k.2.T 8),m:=I m (jk k.2.T 7),wi:=S (bW #[]) (jk k.2.T 9)} Q sl]) ⋯ (λ n d p k X'=>Kc n _ _ _ X')
theorem Vv{V:hZ}{v H m:Int}{i:Nat}{t1 t2:cp}(hk:H.fmod (9:Nat)=(i:Nat))(hm:H.fdiv (9:Nat)=m)(hw:(m+v).fmod (2:Nat)=(1:Nat))(J:cj 100 W s)(L:At ae ah ([(A,ck cw tl G KT {C with pl:=I v t1,n:=I H t2} Q sl)]++ak) P f)(Kc:∀n(tk:cp)(O:cp)(tw:cp),At ae ah ([(A,ck cw tl G KT {C with pl:=I v t1,n:=I H t2,ki:=I (i:Nat) tk,m:=I m O,wi:=S (bW #[76]) tw} Q sl)]++ak) P n->V .next n):cm (bZ bY w) s (fZ ((nu).take 2) (cW A)) V aw f:=eZ J L _ 3000 (nd 16 52 0x1100200111111533233030333233030333233030330202222121) [cV H 9 i hk,eP H 9 m hm Ï,cV (m+v) 2 1 hw] [0] (λ d p k=> .next) (λ d p k=>[ck cw tl G KT {C with pl:=I v t1,n:=I H t2,ki:=I (i:Nat) (jk k.2.T 8),m:=I m (jk k.2.T 7),wi:=S (bW #[76]) (jk k.2.T 9)} Q sl]) ⋯ (λ n d p k X'=>Kc n _ _ _ X')
theorem Vt{V:Bool->cc->Prop}(hk:decide (i=5)=U)(J:cj 100 W s)(L:At ae ah ([(A,ck cw tl G KT {C with ki:=I (i:Nat) t1} Q sl)]++ak) P f)(Kc:∀n,At ae ah ([(A,ck cw tl G KT {C with ki:=I (i:Nat) t1} Q sl)]++ak) P n->V U n):cm (bZ bY w) s (oK (mJ).1 (cW A) (dO (mJ).1 (cW A))) V aw f:=eZ J L _ 3000 (nd 16 2 0x21) [uw i 5 U hk] [0] (λ d p k=>U) (λ d p k=>[ck cw tl G KT {C with ki:=I (i:Nat) t1} Q sl]) ⋯ (λ n d p k X'=>Kc n X')
theorem Vu{V:Bool->cc->Prop}(hk:decide (i=5)=X)(J:cj 100 W s)(L:At ae ah ([(A,ck cw tl G KT {C with ki:=I (i:Nat) t1} Q sl)]++ak) P f)(Kc:∀n,At ae ah ([(A,ck cw tl G KT {C with ki:=I (i:Nat) t1} Q sl)]++ak) P n->V X n):cm (bZ bY w) s (oK (mJ).1 (cW A) (dO (mJ).1 (cW A))) V aw f:=eZ J L _ 3000 (nd 16 2 0x21) [uw i 5 X hk] [0] (λ d p k=>X) (λ d p k=>[ck cw tl G KT {C with ki:=I (i:Nat) t1} Q sl]) ⋯ (λ n d p k X'=>Kc n X')
theorem Vr{V:Bool->cc->Prop}(hk:decide (i=7)=U)(J:cj 100 W s)(L:At ae ah ([(A,ck cw tl G KT {C with ki:=I (i:Nat) t1} Q sl)]++ak) P f)(Kc:∀n,At ae ah ([(A,ck cw tl G KT {C with ki:=I (i:Nat) t1} Q sl)]++ak) P n->V U n):cm (bZ bY w) s (oK (ql).1 (cW A) (dO (ql).1 (cW A))) V aw f:=eZ J L _ 3000 (nd 16 2 0x21) [uw i 7 U hk] [0] (λ d p k=>U) (λ d p k=>[ck cw tl G KT {C with ki:=I (i:Nat) t1} Q sl]) ⋯ (λ n d p k X'=>Kc n X')
theorem Vs{V:Bool->cc->Prop}(hk:decide (i=7)=X)(J:cj 100 W s)(L:At ae ah ([(A,ck cw tl G KT {C with ki:=I (i:Nat) t1} Q sl)]++ak) P f)(Kc:∀n,At ae ah ([(A,ck cw tl G KT {C with ki:=I (i:Nat) t1} Q sl)]++ak) P n->V X n):cm (bZ bY w) s (oK (ql).1 (cW A) (dO (ql).1 (cW A))) V aw f:=eZ J L _ 3000 (nd 16 2 0x21) [uw i 7 X hk] [0] (λ d p k=>X) (λ d p k=>[ck cw tl G KT {C with ki:=I (i:Nat) t1} Q sl]) ⋯ (λ n d p k X'=>Kc n X')
theorem Vp{V:Bool->cc->Prop}(hk:decide (i=8)=U)(J:cj 100 W s)(L:At ae ah ([(A,ck cw tl G KT {C with ki:=I (i:Nat) t1} Q sl)]++ak) P f)(Kc:∀n,At ae ah ([(A,ck cw tl G KT {C with ki:=I (i:Nat) t1} Q sl)]++ak) P n->V U n):cm (bZ bY w) s (oK (uG).1 (cW A) (dO (uG).1 (cW A))) V aw f:=eZ J L _ 3000 (nd 16 2 0x21) [uw i 8 U hk] [0] (λ d p k=>U) (λ d p k=>[ck cw tl G KT {C with ki:=I (i:Nat) t1} Q sl]) ⋯ (λ n d p k X'=>Kc n X')
theorem Vq{V:Bool->cc->Prop}(hk:decide (i=8)=X)(J:cj 100 W s)(L:At ae ah ([(A,ck cw tl G KT {C with ki:=I (i:Nat) t1} Q sl)]++ak) P f)(Kc:∀n,At ae ah ([(A,ck cw tl G KT {C with ki:=I (i:Nat) t1} Q sl)]++ak) P n->V X n):cm (bZ bY w) s (oK (uG).1 (cW A) (dO (uG).1 (cW A))) V aw f:=eZ J L _ 3000 (nd 16 2 0x21) [uw i 8 X hk] [0] (λ d p k=>X) (λ d p k=>[ck cw tl G KT {C with ki:=I (i:Nat) t1} Q sl]) ⋯ (λ n d p k X'=>Kc n X')
theorem FY{V:VS}{m:Int}{t1:cp}(hm:m.fmod (12:Nat)=(0:Nat))(J:cj 100 W s)(L:At ae ah ([(A,ck cw tl G KT {C with m:=I m t1} Q sl)]++ak) P f)(Kc:∀n(n1:bU)(ta:cp)(tb:cp),At ae ah ([(A,ck cw tl G KT {C with m:=I m t1} Q sl),(n1,dk [S (bW #[39,39]) ta,I 0 tb])]++ak) P n->V (R n1) n):cm (bZ bY w) s (dO (kO (st fK 0)) (cW A)) V aw f:=eZ J L _ 3000 (nd 16 13 0xf0f0fff21100) [cV m 12 0 hm] [0,2] (λ d p k=>(R (d 1))) (λ d p k=>[ck cw tl G KT {C with m:=I m t1} Q sl,dk [S (bW #[39,39]) (f5 (k.2.T.get 2) 0),I 0 (f5 (k.2.T.get 2) 1)]]) ⋯ (λ n d p k X'=>Kc n _ _ _ X')
theorem FX{V:VS}{m:Int}{t1:cp}(hm:m.fmod (12:Nat)=(1:Nat))(J:cj 100 W s)(L:At ae ah ([(A,ck cw tl G KT {C with m:=I m t1} Q sl)]++ak) P f)(Kc:∀n(n2:bU)(ta:cp)(tb:cp),At ae ah ([(A,ck cw tl G KT {C with m:=I m t1} Q sl),(n2,dk [S (bW #[39,97,98,39]) ta,I 3 tb])]++ak) P n->V (R n2) n):cm (bZ bY w) s (dO (kO (st fK 0)) (cW A)) V aw f:=eZ J L _ 3000 (nd 16 13 0xf0f0fff21100) [cV m 12 1 hm] [0,3] (λ d p k=>(R (d 2))) (λ d p k=>[ck cw tl G KT {C with m:=I m t1} Q sl,dk [S (bW #[39,97,98,39]) (f5 (k.2.T.get 3) 0),I 3 (f5 (k.2.T.get 3) 1)]]) ⋯ (λ n d p k X'=>Kc n _ _ _ X')
theorem FW{V:VS}{m:Int}{t1:cp}(hm:m.fmod (12:Nat)=(2:Nat))(J:cj 100 W s)(L:At ae ah ([(A,ck cw tl G KT {C with m:=I m t1} Q sl)]++ak) P f)(Kc:∀n(n3:bU)(ta:cp)(tb:cp),At ae ah ([(A,ck cw tl G KT {C with m:=I m t1} Q sl),(n3,dk [S (bW #[39,92,56,39]) ta,I 3 tb])]++ak) P n->V (R n3) n):cm (bZ bY w) s (dO (kO (st fK 0)) (cW A)) V aw f:=eZ J L _ 3000 (nd 16 13 0xf0f0fff21100) [cV m 12 2 hm] [0,4] (λ d p k=>(R (d 3))) (λ d p k=>[ck cw tl G KT {C with m:=I m t1} Q sl,dk [S (bW #[39,92,56,39]) (f5 (k.2.T.get 4) 0),I 3 (f5 (k.2.T.get 4) 1)]]) ⋯ (λ n d p k X'=>Kc n _ _ _ X')
theorem FV{V:VS}{m:Int}{t1:cp}(hm:m.fmod (12:Nat)=(3:Nat))(J:cj 100 W s)(L:At ae ah ([(A,ck cw tl G KT {C with m:=I m t1} Q sl)]++ak) P f)(Kc:∀n(a:bU)(ta:cp)(tb:cp),At ae ah ([(A,ck cw tl G KT {C with m:=I m t1} Q sl),(a,dk [S (bW #[39,92,113,39]) ta,I 3 tb])]++ak) P n->V (R a) n):cm (bZ bY w) s (dO (kO (st fK 0)) (cW A)) V aw f:=eZ J L _ 3000 (nd 16 13 0xf0f0fff21100) [cV m 12 3 hm] [0,5] (λ d p k=>(R (d 4))) (λ d p k=>[ck cw tl G KT {C with m:=I m t1} Q sl,dk [S (bW #[39,92,113,39]) (f5 (k.2.T.get 5) 0),I 3 (f5 (k.2.T.get 5) 1)]]) ⋯ (λ n d p k X'=>Kc n _ _ _ X')
theorem FU{V:VS}{m:Int}{t1:cp}(hm:m.fmod (12:Nat)=(4:Nat))(J:cj 100 W s)(L:At ae ah ([(A,ck cw tl G KT {C with m:=I m t1} Q sl)]++ak) P f)(Kc:∀n(a:bU)(ta:cp)(tb:cp),At ae ah ([(A,ck cw tl G KT {C with m:=I m t1} Q sl),(a,dk [S (bW #[39,92,48,48,48,48,39]) ta,I 6 tb])]++ak) P n->V (R a) n):cm (bZ bY w) s (dO (kO (st fK 0)) (cW A)) V aw f:=eZ J L _ 3000 (nd 16 13 0xf0f0fff21100) [cV m 12 4 hm] [0,6] (λ d p k=>(R (d 5))) (λ d p k=>[ck cw tl G KT {C with m:=I m t1} Q sl,dk [S (bW #[39,92,48,48,48,48,39]) (f5 (k.2.T.get 6) 0),I 6 (f5 (k.2.T.get 6) 1)]]) ⋯ (λ n d p k X'=>Kc n _ _ _ X')
theorem FT{V:VS}{m:Int}{t1:cp}(hm:m.fmod (12:Nat)=(5:Nat))(J:cj 100 W s)(L:At ae ah ([(A,ck cw tl G KT {C with m:=I m t1} Q sl)]++ak) P f)(Kc:∀n(a:bU)(ta:cp)(tb:cp),At ae ah ([(A,ck cw tl G KT {C with m:=I m t1} Q sl),(a,dk [S (bW #[39,92,120,103,39]) ta,I 4 tb])]++ak) P n->V (R a) n):cm (bZ bY w) s (dO (kO (st fK 0)) (cW A)) V aw f:=eZ J L _ 3000 (nd 16 13 0xf0f0fff21100) [cV m 12 5 hm] [0,7] (λ d p k=>(R (d 6))) (λ d p k=>[ck cw tl G KT {C with m:=I m t1} Q sl,dk [S (bW #[39,92,120,103,39]) (f5 (k.2.T.get 7) 0),I 4 (f5 (k.2.T.get 7) 1)]]) ⋯ (λ n d p k X'=>Kc n _ _ _ X')
theorem FR{V:VS}{m:Int}{t1:cp}(hm:m.fmod (12:Nat)=(6:Nat))(J:cj 100 W s)(L:At ae ah ([(A,ck cw tl G KT {C with m:=I m t1} Q sl)]++ak) P f)(Kc:∀n(a:bU)(ta:cp)(tb:cp),At ae ah ([(A,ck cw tl G KT {C with m:=I m t1} Q sl),(a,dk [S (bW #[39,92,117,48,48,48,48,48,39]) ta,I 8 tb])]++ak) P n->V (R a) n):cm (bZ bY w) s (dO (kO (st fK 0)) (cW A)) V aw f:=eZ J L _ 3000 (nd 16 13 0xf0f0fff21100) [cV m 12 6 hm] [0,8] (λ d p k=>(R (d 7))) (λ d p k=>[ck cw tl G KT {C with m:=I m t1} Q sl,dk [S (bW #[39,92,117,48,48,48,48,48,39]) (f5 (k.2.T.get 8) 0),I 8 (f5 (k.2.T.get 8) 1)]]) ⋯ (λ n d p k X'=>Kc n _ _ _ X')
theorem FQ{V:VS}{m:Int}{t1:cp}(hm:m.fmod (12:Nat)=(7:Nat))(J:cj 100 W s)(L:At ae ah ([(A,ck cw tl G KT {C with m:=I m t1} Q sl)]++ak) P f)(Kc:∀n(a:bU)(ta:cp)(tb:cp),At ae ah ([(A,ck cw tl G KT {C with m:=I m t1} Q sl),(a,dk [S (bW #[39,92,39]) ta,I 0 tb])]++ak) P n->V (R a) n):cm (bZ bY w) s (dO (kO (st fK 0)) (cW A)) V aw f:=eZ J L _ 3000 (nd 16 13 0xf0f0fff21100) [cV m 12 7 hm] [0,9] (λ d p k=>(R (d 8))) (λ d p k=>[ck cw tl G KT {C with m:=I m t1} Q sl,dk [S (bW #[39,92,39]) (f5 (k.2.T.get 9) 0),I 0 (f5 (k.2.T.get 9) 1)]]) ⋯ (λ n d p k X'=>Kc n _ _ _ X')
theorem FP{V:VS}{m:Int}{t1:cp}(hm:m.fmod (12:Nat)=(8:Nat))(J:cj 100 W s)(L:At ae ah ([(A,ck cw tl G KT {C with m:=I m t1} Q sl)]++ak) P f)(Kc:∀n(a:bU)(ta:cp)(tb:cp),At ae ah ([(A,ck cw tl G KT {C with m:=I m t1} Q sl),(a,dk [S (bW #[39,97]) ta,I 0 tb])]++ak) P n->V (R a) n):cm (bZ bY w) s (dO (kO (st fK 0)) (cW A)) V aw f:=eZ J L _ 3000 (nd 16 13 0xf0f0fff21100) [cV m 12 8 hm] [0,10] (λ d p k=>(R (d 9))) (λ d p k=>[ck cw tl G KT {C with m:=I m t1} Q sl,dk [S (bW #[39,97]) (f5 (k.2.T.get 10) 0),I 0 (f5 (k.2.T.get 10) 1)]]) ⋯ (λ n d p k X'=>Kc n _ _ _ X')
theorem FO{V:VS}{m:Int}{t1:cp}(hm:m.fmod (12:Nat)=(9:Nat))(J:cj 100 W s)(L:At ae ah ([(A,ck cw tl G KT {C with m:=I m t1} Q sl)]++ak) P f)(Kc:∀n(a:bU)(ta:cp)(tb:cp),At ae ah ([(A,ck cw tl G KT {C with m:=I m t1} Q sl),(a,dk [S (bW #[39]) ta,I 0 tb])]++ak) P n->V (R a) n):cm (bZ bY w) s (dO (kO (st fK 0)) (cW A)) V aw f:=eZ J L _ 3000 (nd 16 13 0xf0f0fff21100) [cV m 12 9 hm] [0,11] (λ d p k=>(R (d 10))) (λ d p k=>[ck cw tl G KT {C with m:=I m t1} Q sl,dk [S (bW #[39]) (f5 (k.2.T.get 11) 0),I 0 (f5 (k.2.T.get 11) 1)]]) ⋯ (λ n d p k X'=>Kc n _ _ _ X')
theorem EL{V:VS}{m:Int}{t1:cp}(hm:m.fmod (12:Nat)=(10:Nat))(J:cj 100 W s)(L:At ae ah ([(A,ck cw tl G KT {C with m:=I m t1} Q sl)]++ak) P f)(Kc:∀n(a:bU)(ta:cp)(tb:cp),At ae ah ([(A,ck cw tl G KT {C with m:=I m t1} Q sl),(a,dk [S (bW #[39,92,110]) ta,I 0 tb])]++ak) P n->V (R a) n):cm (bZ bY w) s (dO (kO (st fK 0)) (cW A)) V aw f:=eZ J L _ 3000 (nd 16 13 0xf0f0fff21100) [cV m 12 10 hm] [0,12] (λ d p k=>(R (d 11))) (λ d p k=>[ck cw tl G KT {C with m:=I m t1} Q sl,dk [S (bW #[39,92,110]) (f5 (k.2.T.get 12) 0),I 0 (f5 (k.2.T.get 12) 1)]]) ⋯ (λ n d p k X'=>Kc n _ _ _ X')
theorem EK{V:VS}{m:Int}{t1:cp}(hm:m.fmod (12:Nat)=(11:Nat))(J:cj 100 W s)(L:At ae ah ([(A,ck cw tl G KT {C with m:=I m t1} Q sl)]++ak) P f)(Kc:∀n(a:bU)(ta:cp)(tb:cp),At ae ah ([(A,ck cw tl G KT {C with m:=I m t1} Q sl),(a,dk [S (bW #[39,92,120,52]) ta,I 0 tb])]++ak) P n->V (R a) n):cm (bZ bY w) s (dO (kO (st fK 0)) (cW A)) V aw f:=eZ J L _ 3000 (nd 16 13 0xf0f0fff21100) [cV m 12 11 hm] [0,13] (λ d p k=>(R (d 12))) (λ d p k=>[ck cw tl G KT {C with m:=I m t1} Q sl,dk [S (bW #[39,92,120,52]) (f5 (k.2.T.get 13) 0),I 0 (f5 (k.2.T.get 13) 1)]]) ⋯ (λ n d p k X'=>Kc n _ _ _ X')
theorem Y2(hL:tl∈gk)(J:cj 100 W s)(L:At ae ah ([(A,ck cw tl G KT C Q sl),(x,dk [S c t1,I B t2])]++ak) P f)(Kc:∀n(K':HK),At ae ah ([(A,ck cw (layA tl) G K' C {Q with te:=S c t1,cl:=I B t2} sl)]++ak) P n->V () n):cm (bZ bY w) s (nF (m7 (st fK 0)) (cW A) (R x)) V aw f:=jT (l1:=λ tl=>[(A,ck cw tl G KT C Q sl),(x,dk [S c t1,I B t2])]) hL J L _ 3000 (nd 16 39 0x111153323303033323303033323303033020222) [] [0] (λ d p k=>()) (λ tl d p k=>[ck cw (layA tl) G (ni k.2.T 10 (layA tl)) C {Q with te:=S c t1,cl:=I B t2} sl]) ⋯ (λ n d p k X'=>Kc n _ X')
theorem Yi(hL:tl∈gk)(hy:wi++c=t)(hl:t.length<=iR)(J:cj 100 W s)(L:At ae ah ([(A,ck cw (layA tl) G KT {C with wi:=S wi t2} {Q with te:=S c t1,cl:=I B t3} sl)]++ak) P f)(Kc:∀n D,At ae ah ([(A,ck cw (layA tl) G KT {C with wi:=S wi t2} {Q with te:=S c t1,cl:=I B t3} sl)]++ak) P n->dQ (bZ bY w) s (.call (R 595) ⟨[S t D],[]⟩) (RI V) n):cm (bZ bY w) s (dO (jh (fk (st fK 1))) (cW A)) V aw f:=Fz (l1:=λ tl=>[(A,ck cw (layA tl) G KT {C with wi:=S wi t2} {Q with te:=S c t1,cl:=I B t3} sl)]) hL RI.rk J L _ 3000 (nd 16 5 0x2110) [ri wi c t hy hl] [0] (λ d p k=> .call (R 595) ⟨[S t (eJ (m6 k.1))],[]⟩) (λ tl d p k=>[ck cw (layA tl) G KT {C with wi:=S wi t2} {Q with te:=S c t1,cl:=I B t3} sl]) ⋯ (λ n d p k X'=>Kc n _ X')
theorem Sg(hL:tl∈gk)(hc:(B !=0)=X)(M:wi.length=l)(a:l<2^62)(J:cj 100 W s)(L:At ae ah ([(A,ck cw (layA tl) G KT {C with wi:=S wi t1} {Q with cl:=I B t2} sl)]++ak) P f)(Kc:∀n(g:cp),At ae ah ([(A,ck cw (layA tl) G KT {C with wi:=S wi t1} {Q with cl:=I B t2} sl)]++ak) P n->V (I 0 g) n):cm (bZ bY w) s (dO (kX (fk (st fK 1))) (cW A)) V aw f:=jT (l1:=λ tl=>[(A,ck cw (layA tl) G KT {C with wi:=S wi t1} {Q with cl:=I B t2} sl)]) hL J L _ 3000 (nd 16 2 0x21) [Jc B X hc] [0] (λ d p k=>(I 0 (J8 k.1))) (λ tl d p k=>[ck cw (layA tl) G KT {C with wi:=S wi t1} {Q with cl:=I B t2} sl]) ⋯ (λ n d p k X'=>Kc n _ X')
theorem Se(hL:tl∈gk)(hc:(B !=0)=U)(M:wi.length=l)(a:l<2^62)(J:cj 100 W s)(L:At ae ah ([(A,ck cw (layA tl) G KT {C with wi:=S wi t1} {Q with cl:=I B t2} sl)]++ak) P f)(Kc:∀n(g:cp),At ae ah ([(A,ck cw (layA tl) G KT {C with wi:=S wi t1} {Q with cl:=I B t2} sl)]++ak) P n->V (I (B+l) g) n):cm (bZ bY w) s (dO (kX (fk (st fK 1))) (cW A)) V aw f:=jT (l1:=λ tl=>[(A,ck cw (layA tl) G KT {C with wi:=S wi t1} {Q with cl:=I B t2} sl)]) hL J L _ 3000 (nd 16 9 0x2100121) [Jc B U hc,yl wi l M a] [0] (λ d p k=>(I (B+l) (J8 k.1))) (λ tl d p k=>[ck cw (layA tl) G KT {C with wi:=S wi t1} {Q with cl:=I B t2} sl]) ⋯ (λ n d p k X'=>Kc n _ X')
theorem Yk{V:hZ}{m:Int}{g:Nat}{t1:cp}(hL:tl∈gk)(hm:m.fmod (55000:Nat)=(g:Nat))(J:cj 100 W s)(L:At ae ah ([(A,ck cw tl G KT {C with m:=I m t1} Q sl)]++ak) P f)(Kc:∀n(K':HK)(tv:cp),At ae ah ([(A,ck cw (layB tl) G K' {C with m:=I m t1} {Q with v:=I (g:Nat) tv} sl)]++ak) P n->V .next n):cm (bZ bY w) s (fZ ((mE).take 1) (cW A)) V aw f:=jT (l1:=λ tl=>[(A,ck cw tl G KT {C with m:=I m t1} Q sl)]) hL J L _ 3000 (nd 16 4 0x1121) [cV m 55000 g hm] [0] (λ d p k=> .next) (λ tl d p k=>[ck cw (layB tl) G (ni k.2.T 10 (layB tl)) {C with m:=I m t1} {Q with v:=I (g:Nat) (jk k.2.T (10+posOf 12 (layB tl)))} sl]) ⋯ (λ n d p k X'=>Kc n _ _ X')
theorem VM(hL:tl∈gk)(hx:wi++bW #[39]=c)(H:c.length<=iR)(ha:g<=0x10FFFF)(hy:c++bW #[g]=t)(b:t.length<=iR)(hz:t++bW #[39]=j)(i:j.length<=iR)(hw:j=bW #[39,g,39]\/j=bW #[76,39,g,39])(J:cj 200 W s)(L:At ae ah ([(A,ck cw (layB tl) G KT {C with wi:=S wi t2} {Q with v:=I (g:Nat) t1} sl)]++ak) P f)(Kc:∀n(n0:bU)(n1:bU)(tc:cp)(tv:cp),At ae ah ([(A,ck cw (layB tl) G KT {C with wi:=S wi t2} {Q with v:=I (g:Nat) t1} sl),(n0,lst [S gm tc] 0),(n1,dk [I (g:Nat) tv,R n0])]++ak) P n->V (R n1) n):cm (bZ bY w) s (dO (jh (fk (st mE 1))) (cW A)) V aw f:=jT (l1:=λ tl=>[(A,ck cw (layB tl) G KT {C with wi:=S wi t2} {Q with v:=I (g:Nat) t1} sl)]) hL J L _ 3000 (nd 16 11 0x20222100210) [ri wi (bW #[39]) c hx H,lU g ha,ri c (bW #[g]) t hy b,ri t (bW #[39]) j hz i,Bj j g hw] [0,1,2] (λ d p k=>(R (d 1))) (λ tl d p k=>[ck cw (layB tl) G KT {C with wi:=S wi t2} {Q with v:=I (g:Nat) t1} sl,lst [S gm (f5 (k.2.T.get 1) 0)] 0,dk [I (g:Nat) (f5 (k.2.T.get 2) 0),R (d 0)]]) ⋯ (λ n d p k X'=>Kc n _ _ _ _ X')
theorem VL(hL:tl∈gk)(J:cj 100 W s)(L:At ae ah ([(A,ck cw (layB tl) G KT C {Q with v:=I (g:Nat) t1} sl)]++ak) P f)(Kc:∀n(n0:bU)(n1:bU)(tc:cp)(tv:cp),At ae ah ([(A,ck cw (layB tl) G KT C {Q with v:=I (g:Nat) t1} sl),(n0,lst [S gm tc] 0),(n1,dk [I (g:Nat) tv,R n0])]++ak) P n->V (R n1) n):cm (bZ bY w) s (dO (kX (fk (st mE 1))) (cW A)) V aw f:=jT (l1:=λ tl=>[(A,ck cw (layB tl) G KT C {Q with v:=I (g:Nat) t1} sl)]) hL J L _ 3000 (nd 16 1 0x1) [] [0,1,2] (λ d p k=>(R (d 1))) (λ tl d p k=>[ck cw (layB tl) G KT C {Q with v:=I (g:Nat) t1} sl,lst [S gm (f5 (k.2.T.get 1) 0)] 0,dk [I (g:Nat) (f5 (k.2.T.get 2) 0),R (d 0)]]) ⋯ (λ n d p k X'=>Kc n _ _ _ _ X')
theorem Yh{V:VS}{m:Int}{t1:cp}(hm:m.fmod (12:Nat)=(0:Nat))(J:cj 200 W s)(L:At ae ah ([(A,ck cw tl G KT {C with m:=I m t1} Q sl)]++ak) P f)(Kc:∀n D,At ae ah ([(A,ck cw tl G KT {C with m:=I m t1} Q sl)]++ak) P n->dQ (bZ bY w) s (.call (R 588) ⟨[S (bW #[]) D],[]⟩) (RN V) n):cm (bZ bY w) s (dO (jh (fk (st iB 0))) (cW A)) V aw f:=my RN.rk J L _ 3000 (nd 16 15 0x3030333211000) [cV m 12 0 hm] [0] (λ d p k=> .call (R 588) ⟨[S (bW #[]) (eJ (m6 k.1))],[]⟩) (λ d p k=>[ck cw tl G KT {C with m:=I m t1} Q sl]) ⋯ (λ n d p k X'=>Kc n _ X')
theorem Yg{V:VS}{m:Int}{t1:cp}(hm:m.fmod (12:Nat)=(1:Nat))(J:cj 200 W s)(L:At ae ah ([(A,ck cw tl G KT {C with m:=I m t1} Q sl)]++ak) P f)(Kc:∀n D,At ae ah ([(A,ck cw tl G KT {C with m:=I m t1} Q sl)]++ak) P n->dQ (bZ bY w) s (.call (R 588) ⟨[S (bW #[76]) D],[]⟩) (RN V) n):cm (bZ bY w) s (dO (jh (fk (st iB 0))) (cW A)) V aw f:=my RN.rk J L _ 3000 (nd 16 15 0x3030333211000) [cV m 12 1 hm] [0] (λ d p k=> .call (R 588) ⟨[S (bW #[76]) (eJ (m6 k.1))],[]⟩) (λ d p k=>[ck cw tl G KT {C with m:=I m t1} Q sl]) ⋯ (λ n d p k X'=>Kc n _ X')
theorem Yf{V:VS}{m:Int}{t1:cp}(hm:m.fmod (12:Nat)=(2:Nat))(J:cj 200 W s)(L:At ae ah ([(A,ck cw tl G KT {C with m:=I m t1} Q sl)]++ak) P f)(Kc:∀n D,At ae ah ([(A,ck cw tl G KT {C with m:=I m t1} Q sl)]++ak) P n->dQ (bZ bY w) s (.call (R 588) ⟨[S (bW #[76,76,39,97,39]) D],[]⟩) (RN V) n):cm (bZ bY w) s (dO (jh (fk (st iB 0))) (cW A)) V aw f:=my RN.rk J L _ 3000 (nd 16 15 0x3030333211000) [cV m 12 2 hm] [0] (λ d p k=> .call (R 588) ⟨[S (bW #[76,76,39,97,39]) (eJ (m6 k.1))],[]⟩) (λ d p k=>[ck cw tl G KT {C with m:=I m t1} Q sl]) ⋯ (λ n d p k X'=>Kc n _ X')
theorem Ye{V:VS}{m:Int}{t1:cp}(hm:m.fmod (12:Nat)=(3:Nat))(J:cj 200 W s)(L:At ae ah ([(A,ck cw tl G KT {C with m:=I m t1} Q sl)]++ak) P f)(Kc:∀n D,At ae ah ([(A,ck cw tl G KT {C with m:=I m t1} Q sl)]++ak) P n->dQ (bZ bY w) s (.call (R 588) ⟨[S (bW #[97]) D],[]⟩) (RN V) n):cm (bZ bY w) s (dO (jh (fk (st iB 0))) (cW A)) V aw f:=my RN.rk J L _ 3000 (nd 16 15 0x3030333211000) [cV m 12 3 hm] [0] (λ d p k=> .call (R 588) ⟨[S (bW #[97]) (eJ (m6 k.1))],[]⟩) (λ d p k=>[ck cw tl G KT {C with m:=I m t1} Q sl]) ⋯ (λ n d p k X'=>Kc n _ X')
theorem Yd{V:VS}{m:Int}{t1:cp}(hm:m.fmod (12:Nat)=(4:Nat))(J:cj 200 W s)(L:At ae ah ([(A,ck cw tl G KT {C with m:=I m t1} Q sl)]++ak) P f)(Kc:∀n D,At ae ah ([(A,ck cw tl G KT {C with m:=I m t1} Q sl)]++ak) P n->dQ (bZ bY w) s (.call (R 588) ⟨[S (bW #[39,97]) D],[]⟩) (RN V) n):cm (bZ bY w) s (dO (jh (fk (st iB 0))) (cW A)) V aw f:=my RN.rk J L _ 3000 (nd 16 15 0x3030333211000) [cV m 12 4 hm] [0] (λ d p k=> .call (R 588) ⟨[S (bW #[39,97]) (eJ (m6 k.1))],[]⟩) (λ d p k=>[ck cw tl G KT {C with m:=I m t1} Q sl]) ⋯ (λ n d p k X'=>Kc n _ X')
theorem Yc{V:VS}{m:Int}{t1:cp}(hm:m.fmod (12:Nat)=(5:Nat))(J:cj 200 W s)(L:At ae ah ([(A,ck cw tl G KT {C with m:=I m t1} Q sl)]++ak) P f)(Kc:∀n D,At ae ah ([(A,ck cw tl G KT {C with m:=I m t1} Q sl)]++ak) P n->dQ (bZ bY w) s (.call (R 588) ⟨[S (bW #[97,39]) D],[]⟩) (RN V) n):cm (bZ bY w) s (dO (jh (fk (st iB 0))) (cW A)) V aw f:=my RN.rk J L _ 3000 (nd 16 15 0x3030333211000) [cV m 12 5 hm] [0] (λ d p k=> .call (R 588) ⟨[S (bW #[97,39]) (eJ (m6 k.1))],[]⟩) (λ d p k=>[ck cw tl G KT {C with m:=I m t1} Q sl]) ⋯ (λ n d p k X'=>Kc n _ X')
theorem Yb{V:VS}{m:Int}{t1:cp}(hm:m.fmod (12:Nat)=(6:Nat))(J:cj 200 W s)(L:At ae ah ([(A,ck cw tl G KT {C with m:=I m t1} Q sl)]++ak) P f)(Kc:∀n D,At ae ah ([(A,ck cw tl G KT {C with m:=I m t1} Q sl)]++ak) P n->dQ (bZ bY w) s (.call (R 588) ⟨[S (bW #[34,97,34]) D],[]⟩) (RN V) n):cm (bZ bY w) s (dO (jh (fk (st iB 0))) (cW A)) V aw f:=my RN.rk J L _ 3000 (nd 16 15 0x3030333211000) [cV m 12 6 hm] [0] (λ d p k=> .call (R 588) ⟨[S (bW #[34,97,34]) (eJ (m6 k.1))],[]⟩) (λ d p k=>[ck cw tl G KT {C with m:=I m t1} Q sl]) ⋯ (λ n d p k X'=>Kc n _ X')
theorem Ya{V:VS}{m:Int}{t1:cp}(hm:m.fmod (12:Nat)=(7:Nat))(J:cj 200 W s)(L:At ae ah ([(A,ck cw tl G KT {C with m:=I m t1} Q sl)]++ak) P f)(Kc:∀n D,At ae ah ([(A,ck cw tl G KT {C with m:=I m t1} Q sl)]++ak) P n->dQ (bZ bY w) s (.call (R 588) ⟨[S (bW #[117,39,97,39]) D],[]⟩) (RN V) n):cm (bZ bY w) s (dO (jh (fk (st iB 0))) (cW A)) V aw f:=my RN.rk J L _ 3000 (nd 16 15 0x3030333211000) [cV m 12 7 hm] [0] (λ d p k=> .call (R 588) ⟨[S (bW #[117,39,97,39]) (eJ (m6 k.1))],[]⟩) (λ d p k=>[ck cw tl G KT {C with m:=I m t1} Q sl]) ⋯ (λ n d p k X'=>Kc n _ X')
theorem Y9{V:VS}{m:Int}{t1:cp}(hm:m.fmod (12:Nat)=(8:Nat))(J:cj 200 W s)(L:At ae ah ([(A,ck cw tl G KT {C with m:=I m t1} Q sl)]++ak) P f)(Kc:∀n D,At ae ah ([(A,ck cw tl G KT {C with m:=I m t1} Q sl)]++ak) P n->dQ (bZ bY w) s (.call (R 588) ⟨[S (bW #[39,97,98,39]) D],[]⟩) (RN V) n):cm (bZ bY w) s (dO (jh (fk (st iB 0))) (cW A)) V aw f:=my RN.rk J L _ 3000 (nd 16 15 0x3030333211000) [cV m 12 8 hm] [0] (λ d p k=> .call (R 588) ⟨[S (bW #[39,97,98,39]) (eJ (m6 k.1))],[]⟩) (λ d p k=>[ck cw tl G KT {C with m:=I m t1} Q sl]) ⋯ (λ n d p k X'=>Kc n _ X')
theorem Y8{V:VS}{m:Int}{t1:cp}(hm:m.fmod (12:Nat)=(9:Nat))(J:cj 200 W s)(L:At ae ah ([(A,ck cw tl G KT {C with m:=I m t1} Q sl)]++ak) P f)(Kc:∀n D,At ae ah ([(A,ck cw tl G KT {C with m:=I m t1} Q sl)]++ak) P n->dQ (bZ bY w) s (.call (R 588) ⟨[S (bW #[39,39]) D],[]⟩) (RN V) n):cm (bZ bY w) s (dO (jh (fk (st iB 0))) (cW A)) V aw f:=my RN.rk J L _ 3000 (nd 16 15 0x3030333211000) [cV m 12 9 hm] [0] (λ d p k=> .call (R 588) ⟨[S (bW #[39,39]) (eJ (m6 k.1))],[]⟩) (λ d p k=>[ck cw tl G KT {C with m:=I m t1} Q sl]) ⋯ (λ n d p k X'=>Kc n _ X')
theorem VC{V:VS}{m:Int}{t1:cp}(hm:m.fmod (12:Nat)=(10:Nat))(J:cj 200 W s)(L:At ae ah ([(A,ck cw tl G KT {C with m:=I m t1} Q sl)]++ak) P f)(Kc:∀n D,At ae ah ([(A,ck cw tl G KT {C with m:=I m t1} Q sl)]++ak) P n->dQ (bZ bY w) s (.call (R 588) ⟨[S (bW #[39]) D],[]⟩) (RN V) n):cm (bZ bY w) s (dO (jh (fk (st iB 0))) (cW A)) V aw f:=my RN.rk J L _ 3000 (nd 16 15 0x3030333211000) [cV m 12 10 hm] [0] (λ d p k=> .call (R 588) ⟨[S (bW #[39]) (eJ (m6 k.1))],[]⟩) (λ d p k=>[ck cw tl G KT {C with m:=I m t1} Q sl]) ⋯ (λ n d p k X'=>Kc n _ X')
theorem VB{V:VS}{m:Int}{t1:cp}(hm:m.fmod (12:Nat)=(11:Nat))(J:cj 200 W s)(L:At ae ah ([(A,ck cw tl G KT {C with m:=I m t1} Q sl)]++ak) P f)(Kc:∀n D,At ae ah ([(A,ck cw tl G KT {C with m:=I m t1} Q sl)]++ak) P n->dQ (bZ bY w) s (.call (R 588) ⟨[S (bW #[108,39,97,39]) D],[]⟩) (RN V) n):cm (bZ bY w) s (dO (jh (fk (st iB 0))) (cW A)) V aw f:=my RN.rk J L _ 3000 (nd 16 15 0x3030333211000) [cV m 12 11 hm] [0] (λ d p k=> .call (R 588) ⟨[S (bW #[108,39,97,39]) (eJ (m6 k.1))],[]⟩) (λ d p k=>[ck cw tl G KT {C with m:=I m t1} Q sl]) ⋯ (λ n d p k X'=>Kc n _ X')
theorem VJ(hL:tl∈gk)(aq:∀{x:FA}(q:Rc),q.c= .call (R 581) ⟨[I (i:Nat) (cG 0 q.c),I m (cG 1 q.c)],[]⟩->q.sm=eS c l->cy x q)(J:cj 130 W s)(L:At ae ah ([(A,ck cw tl G KT {C with ki:=I (i:Nat) t2,m:=I m t1} Q sl)]++ak) P f)(Kc:∀n(K':HK)(u:cp)(tv:cp),At ae ah ([(A,ck cw (nh tl) G K' {C with ki:=I (i:Nat) t2,m:=I m t1} {Q with cn:=S c u,v:=I (l:Nat) tv} sl)]++ak) P n->V .next n):cm (bZ bY w) s (fZ ((fD).take 1) (cW A)) V aw f:=jT (l1:=λ tl=>[(A,ck cw tl G KT {C with ki:=I (i:Nat) t2,m:=I m t1} Q sl)]) hL J L _ 3000 (nd 16 44 0x11115332330303332330303332330303302022220110) [qW (λ q=> .call (R 581) ⟨[I (i:Nat) (cG 0 q.c),I m (cG 1 q.c)],[]⟩) (eS c l) λ j=>aq] [0] (λ d p k=> .next) (λ tl d p k=>[ck cw (nh tl) G (ni k.2.T 10 (nh tl)) {C with ki:=I (i:Nat) t2,m:=I m t1} {Q with cn:=S c (jk k.2.T (10+posOf 13 (nh tl))),v:=I (l:Nat) (jk k.2.T (10+posOf 12 (nh tl)))} sl]) ⋯ (λ n d p k X'=>Kc n _ _ _ X')
theorem VK(hL:tl∈gk)(aq:∀{x:FA}(q:Rc),q.c= .call (R 581) ⟨[I (i:Nat) (cG 0 q.c),I m (cG 1 q.c)],[]⟩->q.sm=pT c->cy x q)(J:cj 130 W s)(L:At ae ah ([(A,ck cw tl G KT {C with ki:=I (i:Nat) t2,m:=I m t1} Q sl)]++ak) P f)(Kc:∀n(K':HK)(u:cp),At ae ah ([(A,ck cw (nh tl) G K' {C with ki:=I (i:Nat) t2,m:=I m t1} {Q with cn:=S c u,v:= .none} sl)]++ak) P n->V .next n):cm (bZ bY w) s (fZ ((fD).take 1) (cW A)) V aw f:=jT (l1:=λ tl=>[(A,ck cw tl G KT {C with ki:=I (i:Nat) t2,m:=I m t1} Q sl)]) hL J L _ 3000 (nd 16 44 0x11115332330303332330303332330303302022220110) [qW (λ q=> .call (R 581) ⟨[I (i:Nat) (cG 0 q.c),I m (cG 1 q.c)],[]⟩) (pT c) λ j=>aq] [0] (λ d p k=> .next) (λ tl d p k=>[ck cw (nh tl) G (ni k.2.T 10 (nh tl)) {C with ki:=I (i:Nat) t2,m:=I m t1} {Q with cn:=S c (jk k.2.T (10+posOf 13 (nh tl))),v:= .none} sl]) ⋯ (λ n d p k X'=>Kc n _ _ X')
theorem Yj(hL:tl∈gk)(hy:wi++bW #[39]=t)(b:t.length<=iR)(hz:t++c=j)(i:j.length<=iR)(hu:j++bW #[39]=o)(m:o.length<=iR)(J:cj 100 W s)(L:At ae ah ([(A,ck cw (nh tl) G KT {C with wi:=S wi t2} {Q with cn:=S c t1} sl)]++ak) P f)(Kc:∀n(K':HK)(a:cp),At ae ah ([(A,ck cw (iv tl) G K' {C with wi:=S wi t2} {Q with te:=S o a,cn:=S c t1} sl)]++ak) P n->V .next n):cm (bZ bY w) s (fZ (((fD).drop 1).take 1) (cW A)) V aw f:=jT (l1:=λ tl=>[(A,ck cw (nh tl) G KT {C with wi:=S wi t2} {Q with cn:=S c t1} sl)]) hL J L _ 3000 (nd 16 7 0x1122121) [ri wi (bW #[39]) t hy b,ri t c j hz i,ri j (bW #[39]) o hu m] [0] (λ d p k=> .next) (λ tl d p k=>[ck cw (iv tl) G (ni k.2.T 10 (iv tl)) {C with wi:=S wi t2} {Q with te:=S o (jk k.2.T (10+posOf 10 (iv tl))),cn:=S c t1} sl]) ⋯ (λ n d p k X'=>Kc n _ _ X')
theorem Si(hL:tl∈gk)(hw:c=bW #[39,g,39]\/c=bW #[76,39,g,39])(J:cj 200 W s)(L:At ae ah ([(A,ck cw (iv tl) G KT C {Q with te:=S c t1} sl)]++ak) P f)(Kc:∀n(n0:bU)(n1:bU)(tc:cp)(tv:cp),At ae ah ([(A,ck cw (iv tl) G KT C {Q with te:=S c t1} sl),(n0,lst [S gm tc] 0),(n1,dk [I (g:Nat) tv,R n0])]++ak) P n->V (R n1) n):cm (bZ bY w) s (dO (jh (fk (st fD 2))) (cW A)) V aw f:=jT (l1:=λ tl=>[(A,ck cw (iv tl) G KT C {Q with te:=S c t1} sl)]) hL J L _ 3000 (nd 16 4 0x2010) [Bj c g hw] [0,1,2] (λ d p k=>(R (d 1))) (λ tl d p k=>[ck cw (iv tl) G KT C {Q with te:=S c t1} sl,lst [S gm (f5 (k.2.T.get 1) 0)] 0,dk [I (g:Nat) (f5 (k.2.T.get 2) 0),R (d 0)]]) ⋯ (λ n d p k X'=>Kc n _ _ _ _ X')
theorem Sh(hL:tl∈gk)(hy:t.length=1)(J:cj 100 W s)(L:At ae ah ([(A,ck cw (iv tl) G KT C {Q with cn:=S t t1,v:=I (g:Nat) t2} sl)]++ak) P f)(Kc:∀n(n0:bU)(n1:bU)(tc:cp)(tv:cp),At ae ah ([(A,ck cw (iv tl) G KT C {Q with cn:=S t t1,v:=I (g:Nat) t2} sl),(n0,lst [S gm tc] 0),(n1,dk [I (g:Nat) tv,R n0])]++ak) P n->V (R n1) n):cm (bZ bY w) s (dO (kX (fk (st fD 2))) (cW A)) V aw f:=jT (l1:=λ tl=>[(A,ck cw (iv tl) G KT C {Q with cn:=S t t1,v:=I (g:Nat) t2} sl)]) hL J L _ 3000 (nd 16 7 0x1002100) [yl t 1 hy ⋯] [0,1,2] (λ d p k=>(R (d 1))) (λ tl d p k=>[ck cw (iv tl) G KT C {Q with cn:=S t t1,v:=I (g:Nat) t2} sl,lst [S gm (f5 (k.2.T.get 1) 0)] 0,dk [I (g:Nat) (f5 (k.2.T.get 2) 0),R (d 0)]]) ⋯ (λ n d p k X'=>Kc n _ _ _ _ X')
theorem Sj(hL:tl∈gk)(hy:t.length=H)(hf:H<2^62)(hn:decide (H=1)=X)(J:cj 100 W s)(L:At ae ah ([(A,ck cw (iv tl) G KT C {Q with cn:=S t t1} sl)]++ak) P f)(Kc:∀n,At ae ah ([(A,ck cw (iv tl) G KT C {Q with cn:=S t t1} sl)]++ak) P n->V .none n):cm (bZ bY w) s (dO (kX (fk (st fD 2))) (cW A)) V aw f:=jT (l1:=λ tl=>[(A,ck cw (iv tl) G KT C {Q with cn:=S t t1} sl)]) hL J L _ 3000 (nd 16 5 0x22100) [yl t H hy hf,uw H 1 X hn] [0] (λ d p k=> .none) (λ tl d p k=>[ck cw (iv tl) G KT C {Q with cn:=S t t1} sl]) ⋯ (λ n d p k X'=>Kc n X')
theorem VI(hL:tl∈gk)(J:cj 200 W s)(L:At ae ah ([(A,ck cw (iv tl) G KT C {Q with te:=S c t1,cn:=S t t2} sl)]++ak) P f)(Kc:∀n D,At ae ah ([(A,ck cw (iv tl) G KT C {Q with te:=S c t1,cn:=S t t2} sl)]++ak) P n->dQ (bZ bY w) s (.call (R 588) ⟨[S c D],[]⟩) (RN V) n):cm (bZ bY w) s (dO (jh (fk (st fD 2))) (cW A)) V aw f:=Fz (l1:=λ tl=>[(A,ck cw (iv tl) G KT C {Q with te:=S c t1,cn:=S t t2} sl)]) hL RN.rk J L _ 3000 (nd 16 3 0x10) [] [0] (λ d p k=> .call (R 588) ⟨[S c (eJ (m6 k.1))],[]⟩) (λ tl d p k=>[ck cw (iv tl) G KT C {Q with te:=S c t1,cn:=S t t2} sl]) ⋯ (λ n d p k X'=>Kc n _ X')
theorem VH{V:hZ}{m v q:Int}{t1 t2:cp}(hL:tl∈gk)(hq:m.fdiv (2:Nat)=q)(M:(q+v).fmod (2:Nat)=(0:Nat))(J:cj 100 W s)(L:At ae ah ([(A,ck cw (iv tl) G KT {C with m:=I m t1,pl:=I v t2} Q sl)]++ak) P f)(Kc:∀n(K':HK)(tg:cp),At ae ah ([(A,ck cw (hJ tl) G K' {C with m:=I m t1,pl:=I v t2} {Q with ga:=S (bW #[]) tg} sl)]++ak) P n->V .next n):cm (bZ bY w) s (fZ (((fD).drop 3).take 1) (cW A)) V aw f:=jT (l1:=λ tl=>[(A,ck cw (iv tl) G KT {C with m:=I m t1,pl:=I v t2} Q sl)]) hL J L _ 3000 (nd 16 10 0x1100200121) [eP m 2 q hq Jf,cV (q+v) 2 0 M] [0] (λ d p k=> .next) (λ tl d p k=>[ck cw (hJ tl) G (ni k.2.T 10 (hJ tl)) {C with m:=I m t1,pl:=I v t2} {Q with ga:=S (bW #[]) (jk k.2.T (10+posOf 14 (hJ tl)))} sl]) ⋯ (λ n d p k X'=>Kc n _ _ X')
theorem VG{V:hZ}{m v q:Int}{t1 t2:cp}(hL:tl∈gk)(hq:m.fdiv (2:Nat)=q)(M:(q+v).fmod (2:Nat)=(1:Nat))(J:cj 100 W s)(L:At ae ah ([(A,ck cw (iv tl) G KT {C with m:=I m t1,pl:=I v t2} Q sl)]++ak) P f)(Kc:∀n(K':HK)(tg:cp),At ae ah ([(A,ck cw (hJ tl) G K' {C with m:=I m t1,pl:=I v t2} {Q with ga:=S (bW #[32]) tg} sl)]++ak) P n->V .next n):cm (bZ bY w) s (fZ (((fD).drop 3).take 1) (cW A)) V aw f:=jT (l1:=λ tl=>[(A,ck cw (iv tl) G KT {C with m:=I m t1,pl:=I v t2} Q sl)]) hL J L _ 3000 (nd 16 10 0x1100200121) [eP m 2 q hq Jf,cV (q+v) 2 1 M] [0] (λ d p k=> .next) (λ tl d p k=>[ck cw (hJ tl) G (ni k.2.T 10 (hJ tl)) {C with m:=I m t1,pl:=I v t2} {Q with ga:=S (bW #[32]) (jk k.2.T (10+posOf 14 (hJ tl)))} sl]) ⋯ (λ n d p k X'=>Kc n _ _ X')
theorem VF(hL:tl∈v_)(hz:O++c=j)(i:j.length<=iR)(hu:t++j=o)(m:o.length<=iR)(ha:O.length=g)(r:g<2^62)(M:c.length=l)(q:l<2^62)(u:xs.length<=1048576)(J:cj 100 W s)(L:At ae ah ([(A,ck cw tl G KT {C with wr:=S t t3,co:=I B b,du:=R y} {Q with te:=S c t1,ga:=S O t2} sl),(y,lst xs e)]++ak) P f)(Kc:∀n(n0:bU)(a:cp)(tc:cp)(ta:cp)(tb:cp),At ae ah ([(A,ck cw tl G KT {C with wr:=S o a,co:=I (B+g+l) tc,du:=R y} {Q with te:=S c t1,ga:=S O t2} sl),(y,lst (xs++[R n0]) (e+1)),(n0,dk [S fy ta,S c t1,S O t2,I (B+g) tb])]++ak) P n->V .next n):cm (bZ bY w) s (fZ (((fD).drop 4).take 4) (cW A)) V aw f:=jT (l1:=λ tl=>[(A,ck cw tl G KT {C with wr:=S t t3,co:=I B b,du:=R y} {Q with te:=S c t1,ga:=S O t2} sl),(y,lst xs e)]) hL J L _ 3000 (nd 16 34 0x1100210012111222211100210011122111) [ri O c j hz i,ri t j o hu m,yl O g ha r,pV 1 xs (λ x=>(R (x 2))) e u,yl c l M q] [0,1,2] (λ d p k=> .next) (λ tl d p k=>[ck cw tl G KT {C with wr:=S o (jk k.2.T 1),co:=I (B+g+l) (jk k.2.T 4),du:=R y} {Q with te:=S c t1,ga:=S O t2} sl,lst (xs++[R (d 0)]) (e+1),dk [S fy (f5 (k.2.T.get 2) 0),S c t1,S O t2,I (B+g) (f5 (k.2.T.get 2) 3)]]) ⋯ (λ n d p k X'=>Kc n _ _ _ _ _ X')
theorem VD(hL:tl∈v_)(u:xs.length<=1048576)(J:cj 100 W s)(L:At ae ah ([(A,ck cw tl G KT {C with wo:=R F} {Q with v:=I (g:Nat) t1} sl),(F,lst xs e)]++ak) P f)(Kc:∀n(n0:bU)(n1:bU)(ta:cp),At ae ah ([(A,ck cw tl G KT {C with wo:=R F} {Q with v:=I (g:Nat) t1} sl),(F,lst (xs++[R n1]) (e+1)),(n0,lst [S gm ta] 0),(n1,dk [I (g:Nat) t1,R n0])]++ak) P n->V .next n):cm (bZ bY w) s (fZ (((fD).drop 8).take 1) (cW A)) V aw f:=jT (l1:=λ tl=>[(A,ck cw tl G KT {C with wo:=R F} {Q with v:=I (g:Nat) t1} sl),(F,lst xs e)]) hL J L _ 3000 (nd 16 8 0x21122221) [pV 1 xs (λ x=>(R (x 3))) e u] [0,1,2,3] (λ d p k=> .next) (λ tl d p k=>[ck cw tl G KT {C with wo:=R F} {Q with v:=I (g:Nat) t1} sl,lst (xs++[R (d 1)]) (e+1),lst [S gm (f5 (k.2.T.get 2) 0)] 0,dk [I (g:Nat) t1,R (d 0)]]) ⋯ (λ n d p k X'=>Kc n _ _ _ X')
theorem VE(hL:tl∈v_)(u:xs.length<=1048576)(J:cj 100 W s)(L:At ae ah ([(A,ck cw tl G KT {C with wo:=R F} {Q with v:= .none} sl),(F,lst xs e)]++ak) P f)(Kc:∀n,At ae ah ([(A,ck cw tl G KT {C with wo:=R F} {Q with v:= .none} sl),(F,lst (xs++[.none]) (e+1))]++ak) P n->V .next n):cm (bZ bY w) s (fZ (((fD).drop 8).take 1) (cW A)) V aw f:=jT (l1:=λ tl=>[(A,ck cw tl G KT {C with wo:=R F} {Q with v:= .none} sl),(F,lst xs e)]) hL J L _ 3000 (nd 16 7 0x2122221) [pV 1 xs (λ x=> .none) e u] [0,1] (λ d p k=> .next) (λ tl d p k=>[ck cw tl G KT {C with wo:=R F} {Q with v:= .none} sl,lst (xs++[jt]) (e+1)]) ⋯ (λ n d p k X'=>Kc n X')
end
theorem At.Pa(L:At ae ah ([(A,k)]++ak) P f)(ho:gW aQ=[A])(aV:After f gZ aQ n)(hg:n.gens=f.gens):∃sl,At ae ah ([(A,{k with slots:=sl})]++ak) P n:=by
 (refine cK L.own λ az z c=>?_;obtain⟨E,h3,fS,h4,h5,h6⟩:=c);have hF:az A:=(h4 A).mpr (.inl (.head _));refine eE (aV.fr A (by rw[ho];exact .head _) k (E (A,k) (.head _))) λ sl hs=>?_;have nd:=gI.mp h3;have b:∀l u,f.heap.get? l=Y u->l≠A->n.heap.get? l=Y u:=λ l u M ay=>aV.keep l u M (λ a=>a) (by rw[ho];exact λ hm=>ay (pw.mp hm));refine⟨sl,aV.base,cI az (λ l M=>(cZ (z l M).1 (fm (z l M).2.1 aV.size) (z l M).2.2)) ⟨?_,h3,fS,h4,h5,?_⟩,λ l u q1 q2=>b l u (L.keep l u q1 q2) ?_,dZ L.size aV.size,aV.d.trans L.drawn,aV.os.trans L.os⟩;·intro q hq;cases hq with|head=>exact hs|tail _ hq=>exact b q.1 q.2 (E q (.tail _ hq)) λ e=>nd.1 (by rw[<-e];show q.1∈_;exact jd (f:=λ u:bU×bV=>u.1) (a:=q) hq)
 ·exact h6.sub (λ l u M hp=>b l u hp λ e=>h5 A (.head _) (e▸M)) hg
 ·rintro rfl;rcases(z _ hF).1 with q|q;·exact q2 q
  ·exact absurd (fc q1) (iA.mpr q)
theorem At.Pg(L:At ae ah ([(A,k)]++ak) dy f)(ho:gW aQ=[A]):∃fp:AP,(∀l,fp l->l<f.heap.objs.size/\dp.get l=W)/\dD fp dy f/\¬fp A/\dp.get A=W/\f.heap.get? A=Y k/\∀n,After f fp aQ n->TabAt f fp n->∃sl,At ae ah ([(A,{k with slots:=sl})]++ak) dy n:=by
 (refine cK L.own λ az z a=>?_;obtain⟨E,h3,fS,h4,h5,h6⟩:=a);have hF:az A:=(h4 A).mpr (.inl (.head _));have nd:=gI.mp h3;have hS:∀l,fS l->az l:=λ l M=>(h4 l).mpr (.inr M);refine(Ff fS (λ l M=>(z l (hS l M)).2) h6 (h5 A (.head _)) (z A hF).2.2 (E (A,k) (.head _)) (λ n aV P=>?_));refine eE (aV.fr A (by rw[ho];exact .head _) k (E (A,k) (.head _))) λ sl hs=>?_;obtain⟨fT,g1,O⟩:=P;have b:∀l u,f.heap.get? l=Y u->l≠A->¬fS l->n.heap.get? l=Y u:=λ l u M ay hf=>aV.keep l u M hf (by rw[ho];exact λ hm=>ay (pw.mp hm));have c:∀l∈cz ([(A,k)]++ak),l<f.heap.objs.size:=λ l M=>(z l ((h4 l).mpr (.inl M))).2.1;refine⟨sl,aV.base,cI (λ l=>l∈cz ([(A,k)]++ak)\/fT l) (λ l M=>?_) ⟨?_,h3,fT,λ l=>ua,λ l M hf=>?_,O⟩,λ l u q1 q2=>b l u (L.keep l u q1 q2) ?_ ?_,dZ L.size aV.size,aV.d.trans L.drawn,aV.os.trans L.os⟩;·
  rcases M with M|M;·have:=z l ((h4 l).mpr (.inl M));exact cZ this.1 (fm this.2.1 aV.size) this.2.2
  ·refine⟨?_,(g1 l M).2⟩;rcases(g1 l M).1 with q|q;·exact(z l (hS l q)).1
   ·exact .inr (dZ L.size q)
 ·intro q hq;cases hq with|head=>exact hs|tail _ hq=>have hm:q.1∈cz ([(A,k)]++ak):=jd (f:=λ u:bU×bV=>u.1) (List.mem_cons_of_mem _ hq);exact b q.1 q.2 (E q (.tail _ hq)) (λ e=>nd.1 (by rw[<-e];show q.1∈_;exact jd (f:=λ u:bU×bV=>u.1) (a:=q) hq)) (h5 q.1 hm)
 ·rcases(g1 l hf).1 with q|q;·exact h5 l M q
  ·exact absurd (c l M) (iA.mpr q)
 ·rintro rfl;rcases(z _ hF).1 with q|q;·exact q2 q
  ·exact absurd (fc q1) (iA.mpr q)
 ·intro hf;rcases(z l (hS l hf)).1 with q|q;·exact q2 q
  ·exact absurd (fc q1) (iA.mpr q)
theorem Gk{ai tl:List Nat}{G KT:HK}{C:LV}{Q:TV}{sl:Array (Option bX)}:∀vs,(ck ai tl G KT C Q sl).data≠ .fields vs:=λ vs a=>nomatch a
theorem ř(g:bU):(cW g).frame=Y g:=⋯
theorem Gl(g:bU):(cW g).scope.kind≠ .module:=by
 have:(cW g).scope.kind= .function:=⋯
 rw[this];exact λ a=>nomatch a
theorem T1(g:bU):(lD ik (cW g)).envs=[cW g]:=⋯
theorem Fd(g:bU):gW [cW g]=[g]:=by show List.filterMap _ [cW g]=_;rw[tF,ř];rfl
structure jI(A:bU)(s:cR):Prop where
 ok:cj 680 W s
 fr:s.frames=Y [cW A]
theorem jI.less(a:jI A s)(af:Nat)(hd:af<=680):cj af W s:=cj.less a.ok hd
section
variable{ae f:cc}{ah:AP}{ak:List (bU×bV)}{A:bU}{ai tl:List Nat}{G KT:HK}{C:LV}{Q:TV}{sl:Array (Option bX)}{s:cR}{V:VS}
theorem ċ(J:jI A s)(hx:gP c ie)(L:At ae ah ([(A,ck ai tl G KT C Q sl)]++ak) P f)(K':∀n aX,At ae ah ([(A,ck ai tl G KT C Q aX)]++ak) P n->V .none n):dQ (bZ bY w) s (.call (R 588) ⟨[S c D],[]⟩) (RN V) f:=by
 have hF:kE f gZ [cW A]:=λ aq he=>by obtain rfl:=pw.mp he;(refine cK L.own λ az z b=>?_;obtain⟨E,h3,fS,h4,h5,h6⟩:=b);exact s8 (Gl _) A _ (ř _) (E (A,_) (.head _)) Gk (λ a=>a) (z A ((h4 A).mpr (.inl (.head _)))).2.2
 refine LQ hx (J.less 130 ⋯) J.fr hF L.base λ n aV hg=>?_;refine eE (L.Pa (Fd _) aV hg) λ aX X'=>?_;exact K' n aX X'
theorem ML(J:jI A s)(hn:fF c)(h9:c.cps.contains 9=X)(hx:c.cps.size<=1000000)(h0:0<c.cps.size)(hB:i5 c i)(L:At ae ah ([(A,ck ai tl G KT C Q sl)]++ak) dy f)(K':∀n aX o,At ae ah ([(A,ck ai tl G KT C Q aX)]++ak) dy n->V (I (vJ i) o) n):dQ (bZ bY w) s (.call (R 595) ⟨[S c D],[]⟩) (RI V) f:=by
 refine Fp (L.Pg (Fd A)) λ fp g1 O g3 g4 g5 m=>?_;have hF:kE f fp [cW A]:=λ aq he=>by obtain rfl:=pw.mp he;exact s8 (Gl _) A _ (ř _) g5 Gk g3 g4
 refine Ph hn h9 hx h0 hB (J.less 660 ⋯) J.fr hF L.base g1 O λ n t' aV P=>?_;refine eE (m n aV P) λ aX X'=>?_;exact K' n aX t' X'
end
theorem nO(z:pb=U)(E:(c.cps[v]?).isSome=U)(h3:i=Y v):oM c v pb i:= .inl (cZ z (Ki.mp E) h3)
theorem pJ(z:pb=X)(E:v=c.cps.size)(h3:i=W):oM c v pb i:= .inr (cZ z E h3)
theorem RQ:i5 (bW #[39,39]) W:=cI 1 (.inl ⟨⋯,rfl⟩) (.inr (.inl (iC ⋯ ⋯ ⋯ (pJ ⋯ ⋯ rfl))))
theorem OX:fF (bW #[39,39]):=by show _=U;kernel_rfl
theorem RP:i5 (bW #[76,39,39]) W:=cI 2 (.inr (cZ ⋯ ⋯ rfl)) (.inr (.inl (iC ⋯ ⋯ ⋯ (pJ ⋯ ⋯ rfl))))
theorem OW:fF (bW #[76,39,39]):=by show _=U;kernel_rfl
theorem RM:i5 (bW #[39,97,98,39]) (Y 2):=cI 1 (.inl ⟨⋯,rfl⟩) (.inr (.inl (iC ⋯ ⋯ ⋯ (nO ⋯ ⋯ ⋯))))
theorem OR:fF (bW #[39,97,98,39]):=by show _=U;kernel_rfl
theorem RL:i5 (bW #[76,39,97,98,39]) (Y 3):=cI 2 (.inr (cZ ⋯ ⋯ rfl)) (.inr (.inl (iC ⋯ ⋯ ⋯ (nO ⋯ ⋯ ⋯))))
theorem OQ:fF (bW #[76,39,97,98,39]):=by show _=U;kernel_rfl
theorem RJ:i5 (bW #[39,92,56,39]) (Y 2):=cI 1 (.inl ⟨⋯,rfl⟩) (.inr (.inr (.inl (kW ⋯ ⋯ ⋯ ⋯ ⋯ ⋯ (nO ⋯ ⋯ ⋯)))))
theorem OP:fF (bW #[39,92,56,39]):=by show _=U;kernel_rfl
theorem RH:i5 (bW #[76,39,92,56,39]) (Y 3):=cI 2 (.inr (cZ ⋯ ⋯ rfl)) (.inr (.inr (.inl (kW ⋯ ⋯ ⋯ ⋯ ⋯ ⋯ (nO ⋯ ⋯ ⋯)))))
theorem OO:fF (bW #[76,39,92,56,39]):=by show _=U;kernel_rfl
theorem RG:i5 (bW #[39,92,113,39]) (Y 2):=cI 1 (.inl ⟨⋯,rfl⟩) (.inr (.inr (.inl (kW ⋯ ⋯ ⋯ ⋯ ⋯ ⋯ (nO ⋯ ⋯ ⋯)))))
theorem ON:fF (bW #[39,92,113,39]):=by show _=U;kernel_rfl
theorem RF:i5 (bW #[76,39,92,113,39]) (Y 3):=cI 2 (.inr (cZ ⋯ ⋯ rfl)) (.inr (.inr (.inl (kW ⋯ ⋯ ⋯ ⋯ ⋯ ⋯ (nO ⋯ ⋯ ⋯)))))
theorem OM:fF (bW #[76,39,92,113,39]):=by show _=U;kernel_rfl
theorem RE:i5 (bW #[39,92,48,48,48,48,39]) (Y 5):=cI 1 (.inl ⟨⋯,rfl⟩) (.inr (.inr (.inr (nK ⋯ _ _ (.inr (.inl (iC ⋯ ⋯ rfl rfl))) ⋯ (nO ⋯ ⋯ ⋯)))))
theorem OL:fF (bW #[39,92,48,48,48,48,39]):=by show _=U;kernel_rfl
theorem RD:i5 (bW #[76,39,92,48,48,48,48,39]) (Y 6):=cI 2 (.inr (cZ ⋯ ⋯ rfl)) (.inr (.inr (.inr (nK ⋯ _ _ (.inr (.inl (iC ⋯ ⋯ rfl rfl))) ⋯ (nO ⋯ ⋯ ⋯)))))
theorem OK:fF (bW #[76,39,92,48,48,48,48,39]):=by show _=U;kernel_rfl
theorem RC:i5 (bW #[39,92,120,103,39]) (Y 3):=cI 1 (.inl ⟨⋯,rfl⟩) (.inr (.inr (.inr (nK ⋯ _ _ (.inr (.inr (.inl (i6 ⋯ ⋯ ⋯ rfl rfl)))) ⋯ (nO ⋯ ⋯ ⋯)))))
theorem OJ:fF (bW #[39,92,120,103,39]):=by show _=U;kernel_rfl
theorem RB:i5 (bW #[76,39,92,120,103,39]) (Y 4):=cI 2 (.inr (cZ ⋯ ⋯ rfl)) (.inr (.inr (.inr (nK ⋯ _ _ (.inr (.inr (.inl (i6 ⋯ ⋯ ⋯ rfl rfl)))) ⋯ (nO ⋯ ⋯ ⋯)))))
theorem OI:fF (bW #[76,39,92,120,103,39]):=by show _=U;kernel_rfl
theorem RA:i5 (bW #[39,92,117,48,48,48,48,48,39]) (Y 7):=cI 1 (.inl ⟨⋯,rfl⟩) (.inr (.inr (.inr (nK ⋯ _ _ (.inr (.inr (.inr (.inl (jv ⋯ ⋯ ⋯ ⋯ rfl rfl))))) ⋯ (nO ⋯ ⋯ ⋯)))))
theorem OH:fF (bW #[39,92,117,48,48,48,48,48,39]):=by show _=U;kernel_rfl
theorem Rz:i5 (bW #[76,39,92,117,48,48,48,48,48,39]) (Y 8):=cI 2 (.inr (cZ ⋯ ⋯ rfl)) (.inr (.inr (.inr (nK ⋯ _ _ (.inr (.inr (.inr (.inl (jv ⋯ ⋯ ⋯ ⋯ rfl rfl))))) ⋯ (nO ⋯ ⋯ ⋯)))))
theorem OG:fF (bW #[76,39,92,117,48,48,48,48,48,39]):=by show _=U;kernel_rfl
theorem Ry:i5 (bW #[39,92,39]) W:=cI 1 (.inl ⟨⋯,rfl⟩) (.inr (.inr (.inr (nK ⋯ _ _ (.inl (cZ ⋯ rfl rfl)) ⋯ (pJ ⋯ ⋯ rfl)))))
theorem OF:fF (bW #[39,92,39]):=by show _=U;kernel_rfl
theorem Rx:i5 (bW #[76,39,92,39]) W:=cI 2 (.inr (cZ ⋯ ⋯ rfl)) (.inr (.inr (.inr (nK ⋯ _ _ (.inl (cZ ⋯ rfl rfl)) ⋯ (pJ ⋯ ⋯ rfl)))))
theorem OE:fF (bW #[76,39,92,39]):=by show _=U;kernel_rfl
theorem Rw:i5 (bW #[39,97]) W:=cI 1 (.inl ⟨⋯,rfl⟩) (.inr (.inl (iC ⋯ ⋯ ⋯ (pJ ⋯ ⋯ rfl))))
theorem OD:fF (bW #[39,97]):=by show _=U;kernel_rfl
theorem Rv:i5 (bW #[76,39,97]) W:=cI 2 (.inr (cZ ⋯ ⋯ rfl)) (.inr (.inl (iC ⋯ ⋯ ⋯ (pJ ⋯ ⋯ rfl))))
theorem OC:fF (bW #[76,39,97]):=by show _=U;kernel_rfl
theorem Ru:i5 (bW #[39]) W:=cI 1 (.inl ⟨⋯,rfl⟩) (.inl (cZ ⋯ ⋯ rfl))
theorem OB:fF (bW #[39]):=by show _=U;kernel_rfl
theorem Rt:i5 (bW #[76,39]) W:=cI 2 (.inr (cZ ⋯ ⋯ rfl)) (.inl (cZ ⋯ ⋯ rfl))
theorem OA:fF (bW #[76,39]):=by show _=U;kernel_rfl
theorem OV:i5 (bW #[39,92,110]) W:=cI 1 (.inl ⟨⋯,rfl⟩) (.inr (.inr (.inr (nK ⋯ _ _ (.inl (cZ ⋯ rfl rfl)) ⋯ (pJ ⋯ ⋯ rfl)))))
theorem MP:fF (bW #[39,92,110]):=by show _=U;kernel_rfl
theorem OU:i5 (bW #[76,39,92,110]) W:=cI 2 (.inr (cZ ⋯ ⋯ rfl)) (.inr (.inr (.inr (nK ⋯ _ _ (.inl (cZ ⋯ rfl rfl)) ⋯ (pJ ⋯ ⋯ rfl)))))
theorem MO:fF (bW #[76,39,92,110]):=by show _=U;kernel_rfl
theorem OT:i5 (bW #[39,92,120,52]) W:=cI 1 (.inl ⟨⋯,rfl⟩) (.inr (.inr (.inr (nK ⋯ _ _ (.inr (.inr (.inl (i6 ⋯ ⋯ ⋯ rfl rfl)))) ⋯ (pJ ⋯ ⋯ rfl)))))
theorem MN:fF (bW #[39,92,120,52]):=by show _=U;kernel_rfl
theorem OS:i5 (bW #[76,39,92,120,52]) W:=cI 2 (.inr (cZ ⋯ ⋯ rfl)) (.inr (.inr (.inr (nK ⋯ _ _ (.inr (.inr (.inl (i6 ⋯ ⋯ ⋯ rfl rfl)))) ⋯ (pJ ⋯ ⋯ rfl)))))
theorem MM:fF (bW #[76,39,92,120,52]):=by show _=U;kernel_rfl
noncomputable def qm:dd->dK| .If _ _ _ u=>u|_=>default
noncomputable def Ci:dd->dK| .Assign _ _ u=>u|_=>default
noncomputable def J4:Expr->List Expr| .Tuple e _ _=>e|_=>[]
noncomputable def J3:Expr->Nat| .Tuple _ i _=>i|_=>0
noncomputable def J2:Expr->dK| .Tuple _ _ u=>u|_=>default
theorem T2:nu=(nu).take 2++[.If (mJ).1 fK (mJ).2.2 (qm (st nu 2))]:=⋯
theorem PY:(mJ).2.2=[.If (ql).1 mE (ql).2.2 (qm (st (mJ).2.2 0))]:=⋯
theorem PV:(ql).2.2=[.If (uG).1 iB fD (qm (st (ql).2.2 0))]:=⋯
theorem PZ:fK=[.Assign [.Tuple (J4 (m7 (st fK 0))) (J3 (m7 (st fK 0))) (J2 (m7 (st fK 0)))] (kO (st fK 0)) (Ci (st fK 0)), .If (fk (st fK 1)) (pW (st fK 1)).2.1 [] (qm (st fK 1))]:=⋯
theorem PX:m7 (st fK 0)= .Tuple (J4 (m7 (st fK 0))) (J3 (m7 (st fK 0))) (J2 (m7 (st fK 0))):=⋯
theorem PW:mE=(mE).take 1++[.If (fk (st mE 1)) (pW (st mE 1)).2.1 [] (qm (st mE 1))]:=⋯
theorem PU:iB=[.If (fk (st iB 0)) (pW (st iB 0)).2.1 [] (qm (st iB 0))]:=⋯
theorem PT:fD=(fD).take 1++(((fD).drop 1).take 1++([.If (fk (st fD 2)) (pW (st fD 2)).2.1 [] (qm (st fD 2))]++(((fD).drop 3).take 1++(((fD).drop 4).take 4++((fD).drop 8).take 1)))):=⋯
theorem VW:fk (st fK 1)= .Compare (jh (fk (st fK 1))) [.NotEq] [kX (fk (st fK 1))] (w0 (fk (st fK 1))):=⋯
theorem VV:fk (st mE 1)= .Compare (jh (fk (st mE 1))) [.NotEq] [kX (fk (st mE 1))] (w0 (fk (st mE 1))):=⋯
theorem VU:fk (st iB 0)= .Compare (jh (fk (st iB 0))) [.IsNot] [kX (fk (st iB 0))] (w0 (fk (st iB 0))):=⋯
theorem VX:fk (st fD 2)= .Compare (jh (fk (st fD 2))) [.NotEq] [kX (fk (st fD 2))] (w0 (fk (st fD 2))):=⋯
section
variable{ak:uu}{s:cR}{aw:VS}{f:cc}{aq:di}
theorem R_(a:cm ak s (wY D aq (gr D aq)) (λ b n=>cm ak s (if b=U then dj l aq else dj e aq) V aw n) aw f):cm ak s (dj [.If D l e u] aq) V aw f:=by
 rw[qH,arm_exec_If];refine cJ (cJ (pC (cJ (kS a (λ b n hv=>?_) λ j j c=>c))));have:∀{m:cD gK},cm ak s m V aw n->cm ak s m (λ C au=>cm ak s (match C with| .next=>dj [] aq|C=>pure C) V aw au) aw n:=λ{m}hm=>kS hm (λ C au x=>by cases C<;>exact ed x) λ j j c=>c;cases b;·exact this hv
 ·exact this hv
theorem yh(p:D= .Compare r [q] [d] u)(a:cm ak s (gr r aq) (λ g au=>cm ak s (gr d aq) (λ B aJ=>cm ak s (E6 q g B) (λ af aM=>af= .bool X/\V .next aM) aw aJ) aw au) aw f)(hm:behindInMarks q d=X):cm ak s (dj [.If D l [] pp] aq) V aw f:=by subst p;refine R_ (wpAny_isTrue_Compare1 (kS a (λ g au x=>kS x (λ B aJ A=>kS A (λ af aM G=>?_) λ j j c=>c) λ j j c=>c) λ j j c=>c) hm);obtain⟨rfl,hq⟩:=G;refine wpAny_truthy_bool ?_;show cm ak s (dj [] aq) V aw aM;exact ed hq
end
section
variable{ae f:cc}{ah:AP}{ak:List (bU×bV)}{A:bU}{tl:List Nat}{G KT:HK}{Q:TV}{sl:Array (Option bX)}{s:cR}{V:hZ}{aw:VS}{d E du q r pl H p wi:bX}{m:Int}{O tw:cp}
theorem oj{v:Nat}(J:jI A s)(hx:gP c ie)(l:∀{V:VS}{f:cc},At ae ah ([(A,ck cw tl G KT ⟨d,E,du,q,r,pl,H,p,I m O,wi⟩ Q sl)]++ak) P f->(∀n D,At ae ah ([(A,ck cw tl G KT ⟨d,E,du,q,r,pl,H,p,I m O,wi⟩ Q sl)]++ak) P n->dQ (bZ bY w) s (.call (R 588) ⟨[S c D],[]⟩) (RN V) n)->cm (bZ bY w) s (dO (jh (fk (st iB 0))) (cW A)) V aw f)(L:At ae ah ([(A,ck cw tl G KT ⟨d,E,du,q,r,pl,H,p,I m O,wi⟩ Q sl)]++ak) P f)(Kc:∀n aX,At ae ah ([(A,ck cw tl G KT ⟨d,E,du,q,r,pl,H,p,I m O,wi⟩ Q aX)]++ak) P n->V .next n):cm (bZ bY w) s (dj iB (cW A)) V aw f:=by
 rw[PU];refine yh VU ?_ ⋯;rw[fO];refine l L λ au D aU=>ċ J hx aU λ aJ aX aR=>?_;show cm _ _ (dO _ _) _ _ _;rw[<-fO];have:gr (kX (fk (st iB 0))) (cW A)=pure .none:=⋯
 rw[this];refine ed (wpAny_isNot_self (by rfl) ⟨rfl,Kc _ _ aR⟩)
end
theorem ġ(h0:a.get? n0=Y (lst [S gm D] e))(z:a.get? n1=Y (dk [I g t',R n0])):∃p,Reads a (R n1) (.tuple [.int g, .list [.str gm]]) p:=by rw[lst_is]at h0;rw[dk,<-xh]at z;exact⟨_, .tuple z rfl rfl (.cons (.int _ _) (.cons (.list h0 rfl rfl (.cons (.str _ _) .nil)) .nil))⟩
theorem G4(g:Int):Ā (.tuple [.int g, .list [.str gm]])=U:=by
 have:wQ gm=U:=⋯
 simp[Ā,zA,rW,ā,wM,this]
theorem Uj(g:Int):DI (.tuple [.int g, .list [.str gm]]) (.tuple [.int g, .list [.str gm]])=U:=by simp[DI,PyData.eqvAll]
theorem jI.u(a:jI A s):s.units+64<cLine:=by have:=a.ok.u;exact gB this
section
variable{ae f:cc}{ah:AP}{ls:List (bU×bV)}{P:GP}{A:bU}{s:cR}{V:VS}{aw:VS}
theorem Hn(J:jI A s)(L:At ae ah ls P f)(i:(n0,lst [S gm t1] e1)∈ls)(k:(n1,dk [I g t2,R n0])∈ls)(l:(n2,lst [S gm t3] e2)∈ls)(e:(n3,dk [I g b,R n2])∈ls)(a:V (.bool X) f):cm (bZ bY w) s (E6 .NotEq (R n1) (R n3)) V aw f:=by refine eE (ġ (L.has _ i) (L.has _ k)) λ p j=>?_;refine eE (ġ (L.has _ l) (L.has _ e)) λ c d=>?_;exact Ct j d (G4 g) (G4 g) J.u (by rw[Uj];exact a)
end
section
variable{ae f:cc}{ah:AP}{ak:List (bU×bV)}{A:bU}{tl:List Nat}{G KT:HK}{sl:Array (Option bX)}{s:cR}{V:hZ}{aw:VS}{d E du q r pl H p te k b cn ga C:bX}{m:Int}{O tw:cp}{wS:cb}
noncomputable def qu(wS:cb):Prop:=wS=bW #[]\/wS=bW #[76]
theorem b1i{wS:cb}(a:qu wS)(g:Nat):(wS++bW #[39]++bW #[g]++bW #[39]=bW #[39,g,39]\/wS++bW #[39]++bW #[g]++bW #[39]=bW #[76,39,g,39]):=by
 rcases a with rfl|rfl;·exact .inl rfl
 ·exact .inr rfl
theorem qu.len{wS:cb}(a:qu wS):wS.length<=1:=by rcases a with rfl|rfl<;>decide
theorem iz(c t:cb):(c++t).length=c.length+t.length:=by cases c;cases t;show zO (_++_)=_;simp[zN]
theorem br7(J:jI A s)(hw:qu wS)(ha:m.fmod (55000:Nat)=(g:Nat))(hL:tl∈gk)(L:At ae ah ([(A,ck cw tl G KT ⟨d,E,du,q,r,pl,H,p,I m O,S wS tw⟩ ⟨te,k,b,cn,ga,C⟩ sl)]++ak) P f)(Kc:∀n eX x(r2:List (bU×bV)),At ae ah ([(A,ck cw (layB tl) G eX ⟨d,E,du,q,r,pl,H,p,I m O,S wS tw⟩ ⟨te,k,x,cn,ga,C⟩ sl)]++(r2++ak)) P n->V .next n):cm (bZ bY w) s (dj mE (cW A)) V aw f:=by
 have az:g<55000:=by have z:=CC m (show(0:Int)<((55000:Nat):Int)by decide);omega
 rw[PW];refine mU ?_;refine Yk (C:=⟨d,E,du,q,r,pl,H,p,I m O,S wS tw⟩) (Q:=⟨te,k,b,cn,ga,C⟩) hL ha (J.less 100 ⋯) L λ au eX tv aU=>⟨rfl,?_⟩;refine yh VV ?_ ⋯;rw[fO];have l1:(wS++bW #[39]).length<=iR:=by rw[iz];have:=hw.len;exact dZ (wH this _) ⋯
 have l2:(wS++bW #[39]++bW #[g]).length<=iR:=by rw[iz,iz];have:=hw.len;exact dZ (wH (wH this _) _) (by show 1+1+1<=iR;decide)
 have B:(wS++bW #[39]++bW #[g]++bW #[39]).length<=iR:=by rw[iz,iz,iz];have:=hw.len;exact dZ (wH (wH (wH this _) _) _) (by show 1+1+1+1<=iR;decide)
 refine VM (C:=⟨d,E,du,q,r,pl,H,p,I m O,S wS tw⟩) (Q:=⟨te,k,I g tv,cn,ga,C⟩) hL rfl l1 (yF az) rfl l2 rfl B (b1i hw g) (J.less 200 ⋯) aU λ aJ n0 n1 tc a aR=>?_;refine VL (C:=⟨d,E,du,q,r,pl,H,p,I m O,S wS tw⟩) (Q:=⟨te,k,I g tv,cn,ga,C⟩) (ak:=[(n0,lst [S gm tc] 0),(n1,dk [I (g:Nat) a,R n0])]++ak) hL (J.less 100 ⋯) aR λ aM n2 n3 ao ax aY=>?_;refine Hn J aY (.tail _ (.tail _ (.tail _ (.head _)))) (.tail _ (.tail _ (.tail _ (.tail _ (.head _))))) (.tail _ (.head _)) (.tail _ (.tail _ (.head _))) ⟨rfl,?_⟩;exact Kc aM eX (I g tv) [(n2,lst [S gm ao] 0),(n3,dk [I (g:Nat) ax,R n2]),(n0,lst [S gm tc] 0),(n1,dk [I (g:Nat) a,R n0])] aY
theorem iZ(J:jI A s)(hw:qu wS)(hL:tl∈gk)(hB:i5 (wS++c) i)(hn:fF (wS++c))(h9:(wS++c).cps.contains 9=X)(hx:(wS++c).cps.size<=1000000)(h0:0<(wS++c).cps.size)(t:vJ i=if B=0 then 0 else B+wS.length)(l:∀{V:VS}{f:cc},At ae ah ([(A,ck cw tl G KT ⟨d,E,du,q,r,pl,H,p,I m O,S wS tw⟩ ⟨te,k,b,cn,ga,C⟩ sl)]++ak) dy f->(∀n(x:bU)(ta tb:cp),At ae ah ([(A,ck cw tl G KT ⟨d,E,du,q,r,pl,H,p,I m O,S wS tw⟩ ⟨te,k,b,cn,ga,C⟩ sl),(x,dk [S c ta,I B tb])]++ak) dy n->V (R x) n)->cm (bZ bY w) s (dO (kO (st fK 0)) (cW A)) V aw f)(L:At ae ah ([(A,ck cw tl G KT ⟨d,E,du,q,r,pl,H,p,I m O,S wS tw⟩ ⟨te,k,b,cn,ga,C⟩ sl)]++ak) dy f)(Kc:∀n eX P M aX,At ae ah ([(A,ck cw (layA tl) G eX ⟨d,E,du,q,r,pl,H,p,I m O,S wS tw⟩ ⟨P,M,b,cn,ga,C⟩ aX)]++ak) dy n->V .next n):cm (bZ bY w) s (dj fK (cW A)) V aw f:=by
 rw[PZ];have aQ:∀{l1 l2:List dd},cm (bZ bY w) s (dj (l1++l2) (cW A)) V aw f->cm (bZ bY w) s (dj (l1++l2) (cW A)) V aw f:=λ a=>a;show cm _ _ (dj ([_]++[_]) _) _ _ _;refine mU ?_;rw[<-i2,qH];refine cJ (b7w ?_ ⋯ ⋯);rw[fO];refine l L λ au x ta tb aU=>?_;rw[v7,<-PX];refine Y2 (C:=⟨d,E,du,q,r,pl,H,p,I m O,S wS tw⟩) (Q:=⟨te,k,b,cn,ga,C⟩) hL (J.less 100 ⋯) aU λ aJ eX aR=>?_;refine ed ⟨rfl,?_⟩;refine yh VW ?_ ⋯;have l1:(wS++c).length<=iR:=dZ (show(wS++c).length<=1000000 from hx) ⋯;show cm _ _ (gr _ _) _ _ _;rw[fO];refine Yi (C:=⟨d,E,du,q,r,pl,H,p,I m O,S wS tw⟩) (Q:=⟨S c ta,I B tb,b,cn,ga,C⟩) hL rfl l1 (J.less 100 ⋯) aR λ aM D aY=>?_;refine ML J hn h9 hx h0 hB aY λ aK aX o aZ=>?_;have aj:∀(j:Int)(g:cp)(aV:cc),j=(vJ i:Nat)->At ae ah ([(A,ck cw (layA tl) G eX ⟨d,E,du,q,r,pl,H,p,I m O,S wS tw⟩ ⟨S c ta,I B tb,b,cn,ga,C⟩ aX)]++ak) dy aV->cm (bZ bY w) s (E6 .NotEq (I (vJ i:Nat) o) (I j g)) (λ af aM=>af= .bool X/\V .next aM) aw aV:=λ j g aV hz b4=>by subst hz;refine compareOp_gives (op:= .NotEq) (v9 _ _ _) (v9 _ _ _) F.slot_int_ne F.entry_int_ne (F.args_int_ne_2 _ _) (gives_int_ne _ _ _ _) (λ e=>nomatch e) ⟨?_,Kc _ _ _ _ _ b4⟩;rw[bne_self_eq_false]
 by_cases hc:B=0;·refine Sg (C:=⟨d,E,du,q,r,pl,H,p,I m O,S wS tw⟩) (Q:=⟨S c ta,I B tb,b,cn,ga,C⟩) (l:=wS.length) hL (by subst hc;rfl) rfl (rV hw.len ⋯) (J.less 100 ⋯) aZ λ aV g b4=>?_;refine aj 0 g aV ?_ b4;rw[t,if_pos hc];rfl
 ·refine Se (C:=⟨d,E,du,q,r,pl,H,p,I m O,S wS tw⟩) (Q:=⟨S c ta,I B tb,b,cn,ga,C⟩) (l:=wS.length) hL (by simpa using hc) rfl (rV hw.len ⋯) (J.less 100 ⋯) aZ λ aV g b4=>?_;refine aj _ g aV ?_ b4;rw[t,if_neg hc];push_cast;rfl
end
noncomputable def lX:Option Nat->cp->bX|Y l,D=>I (l:Nat) D|W,_=> .none
noncomputable def mD:Option Nat->bU->bU->cp->cp->List (bU×bV)|Y l,n0,n1,tc,D=>[(n0,lst [S gm tc] 0),(n1,dk [I (l:Nat) D,R n0])]|W,_,_,_,_=>[]
noncomputable def nS:Option Nat->bU->bX|Y _,n1=>R n1|W,_=> .none
noncomputable def gq(gb:Nat):cb:=if gb=1 then bW #[32]else bW #[]
section
variable{ae f:cc}{ah:AP}{P:GP}{ak:List (bU×bV)}{A y F:bU}{tl:List Nat}{G KT:HK}{sl:Array (Option bX)}{s:cR}{V:hZ}{aw:VS}{d H p wi te k b cn ga C:bX}{m v q B:Int}{O tp tw ty aa a ai u:cp}{e o c:cb}{gb:Nat}{vv:Option Nat}{aj t:List bX}{eD eW:Nat}
theorem Oy(J:jI A s)(hL:tl∈gk)(hq:m.fdiv (2:Nat)=q)(M:(q+v).fmod (2:Nat)=(gb:Nat))(hl:(e++(gq gb++o)).length<=1000000)(hD:aj.length<=1048576)(hW:t.length<=1048576)(L:At ae ah ([(A,ck cw (iv tl) G KT ⟨d,S e ty,R y,R F,I B aa,I v tp,H,p,I m O,wi⟩ ⟨S o a,k,lX vv ai,S c u,ga,C⟩ sl),(y,lst aj eD),(F,lst t eW)]++ak) P f)(Kc:∀n eX b3 ay ao(af:bU)(ta tb tg:cp)(n0 n1:bU)(tq:cp),At ae ah ([(A,ck cw (hJ tl) G eX ⟨d,S (e++(gq gb++o)) ay,R y,R F,I (B+(gq gb).length+o.length) ao,I v tp,H,p,I m O,wi⟩ ⟨S o a,k,lX vv ai,S c u,b3,C⟩ sl),(y,lst (aj++[R af]) (eD+1)),(F,lst (t++[nS vv n1]) (eW+1)),(af,dk [S fy ta,S o a,S (gq gb) tg,I (B+(gq gb).length) tb])]++(mD vv n0 n1 tq ai++ak)) P n->V .next n):cm (bZ bY w) s (dj (((fD).drop 3).take 1++(((fD).drop 4).take 4++((fD).drop 8).take 1)) (cW A)) V aw f:=by
 have D:gb=0\/gb=1:=by have z:=CC (q+v) (show(0:Int)<((2:Nat):Int)by decide);lia
 have hC:=M7 tl hL;have x:(gq gb++o).length<=(e++(gq gb++o)).length:=by rw[iz e];exact tH _ _
 have r:o.length<=(e++(gq gb++o)).length:=by rw[iz e,iz];simp+arith only
 have i:(gq gb).length<=(e++(gq gb++o)).length:=by rw[iz e,iz];simp+arith only
 have hS:(1000000:Nat)<=iR:=⋯
 have g:∀(tg:cp)(eX:HK)(au:cc),At ae ah ([(A,ck cw (hJ tl) G eX ⟨d,S e ty,R y,R F,I B aa,I v tp,H,p,I m O,wi⟩ ⟨S o a,k,lX vv ai,S c u,S (gq gb) tg,C⟩ sl),(y,lst aj eD),(F,lst t eW)]++ak) P au->cm (bZ bY w) s (dj (((fD).drop 4).take 4++((fD).drop 8).take 1) (cW A)) V aw au:=λ tg eX au aU=>by refine mU ?_;refine VF (C:=⟨d,S e ty,R y,R F,I B aa,I v tp,H,p,I m O,wi⟩) (Q:=⟨S o a,k,lX vv ai,S c u,S (gq gb) tg,C⟩) (ak:=[(F,lst t eW)]++ak) hC rfl (dZ (dZ x hl) hS) rfl (dZ hl hS) rfl (rV (dZ i hl) ⋯) rfl (rV (dZ r hl) ⋯) hD (J.less 100 ⋯) aU λ aJ af ay ao ta tb aR=>⟨rfl,?_⟩;rw[i2];have aY:=aR.perm (ao:=[(A,ck cw (hJ tl) G eX ⟨d,S (e++(gq gb++o)) ay,R y,R F,I (B+(gq gb).length+o.length) ao,I v tp,H,p,I m O,wi⟩ ⟨S o a,k,lX vv ai,S c u,S (gq gb) tg,C⟩ sl),(F,lst t eW)]++([(y,lst (aj++[R af]) (eD+1)),(af,dk [S fy ta,S o a,S (gq gb) tg,I (B+(gq gb).length) tb])]++ak)) (ff λ j=>by simp only[ft,fv,fz];lia);cases vv with|some l=>refine VD (C:=⟨d,S (e++(gq gb++o)) ay,R y,R F,I (B+(gq gb).length+o.length) ao,I v tp,H,p,I m O,wi⟩) (Q:=⟨S o a,k,I (l:Nat) ai,S c u,S (gq gb) tg,C⟩) (g:=l) hC hW (J.less 100 ⋯) aY λ aK n0 n1 tq aZ=>?_;refine Kc aK eX (S (gq gb) tg) ay ao af ta tb tg n0 n1 tq (aZ.perm (ff λ j=>?_));simp only[mD,nS,lX,ft,fv,fz];simp+arith only|none=>refine VE (C:=⟨d,S (e++(gq gb++o)) ay,R y,R F,I (B+(gq gb).length+o.length) ao,I v tp,H,p,I m O,wi⟩) (Q:=⟨S o a,k, .none,S c u,S (gq gb) tg,C⟩) hC hW (J.less 100 ⋯) aY λ aK aZ=>?_;refine Kc aK eX (S (gq gb) tg) ay ao af ta tb tg 0 0 0 (aZ.perm (ff λ j=>?_));simp only[mD,nS,lX,ft,fv,fz];lia
 refine mU ?_;rcases D with rfl|rfl;·exact VH (C:=⟨d,S e ty,R y,R F,I B aa,I v tp,H,p,I m O,wi⟩) (Q:=⟨S o a,k,lX vv ai,S c u,ga,C⟩) (ak:=[(y,lst aj eD),(F,lst t eW)]++ak) hL hq M (J.less 100 ⋯) L λ au eX tg aU=>⟨rfl,g tg eX au aU⟩
 ·exact VG (C:=⟨d,S e ty,R y,R F,I B aa,I v tp,H,p,I m O,wi⟩) (Q:=⟨S o a,k,lX vv ai,S c u,ga,C⟩) (ak:=[(y,lst aj eD),(F,lst t eW)]++ak) hL hq M (J.less 100 ⋯) L λ au eX tg aU=>⟨rfl,g tg eX au aU⟩
noncomputable def I6(c:cb):Option Nat->Sm|Y l=>eS c l|W=>pT c
theorem brC(J:jI A s)(hL:tl∈gk)(hw:qu wS)(aq:∀{x:FA}(q:Rc),q.c= .call (R 581) ⟨[I (i:Nat) (cG 0 q.c),I m (cG 1 q.c)],[]⟩->q.sm=I6 c vv->cy x q)(hu:wS++bW #[39]++c++bW #[39]=o)(aQ:(c.length=1/\∃g,vv=Y g/\(o=bW #[39,g,39]\/o=bW #[76,39,g,39]))\/(c.length≠1/\∃ie,gP o ie))(hq:m.fdiv (2:Nat)=q)(M:(q+v).fmod (2:Nat)=(gb:Nat))(hl:(e++(gq gb++o)).length<=1000000)(hD:aj.length<=1048576)(hW:t.length<=1048576)(L:At ae ah ([(A,ck cw tl G KT ⟨d,S e ty,R y,R F,I B aa,I v tp,H,I (i:Nat) tk,I m O,S wS tw⟩ ⟨te,k,b,cn,ga,C⟩ sl),(y,lst aj eD),(F,lst t eW)]++ak) P f)(Kc:∀n eX T' a ai aX ay ao(af:bU)(ta tb tg:cp)(n0 n1:bU)(tq:cp)(r2:List (bU×bV)),At ae ah ([(A,ck cw (hJ tl) G eX ⟨d,S (e++(gq gb++o)) ay,R y,R F,I (B+(gq gb).length+o.length) ao,I v tp,H,I (i:Nat) tk,I m O,S wS tw⟩ T' aX),(y,lst (aj++[R af]) (eD+1)),(F,lst (t++[nS vv n1]) (eW+1)),(af,dk [S fy ta,S o a,S (gq gb) tg,I (B+(gq gb).length) tb])]++(mD vv n0 n1 tq ai++(r2++ak))) P n->V .next n):cm (bZ bY w) s (dj fD (cW A)) V aw f:=by
 rw[PT];refine mU ?_;have r:o.length<=1000000:=dZ (by rw[iz e,iz];simp+arith only) hl;have hS:(1000000:Nat)<=iR:=⋯
 have Q:∀au(eX:HK)u ai,At ae ah ([(A,ck cw (nh tl) G eX ⟨d,S e ty,R y,R F,I B aa,I v tp,H,I (i:Nat) tk,I m O,S wS tw⟩ ⟨te,k,lX vv ai,S c u,ga,C⟩ sl),(y,lst aj eD),(F,lst t eW)]++ak) P au->cm (bZ bY w) s (dj (((fD).drop 1).take 1++([.If (fk (st fD 2)) (pW (st fD 2)).2.1 [] (qm (st fD 2))]++(((fD).drop 3).take 1++(((fD).drop 4).take 4++((fD).drop 8).take 1)))) (cW A)) V aw au:=λ au eX u ai aU=>by
  refine mU ?_;have lu:o.length=wS.length+1+c.length+1:=by rw[<-hu,iz,iz,iz];rfl
  refine Yj (C:=⟨d,S e ty,R y,R F,I B aa,I v tp,H,I (i:Nat) tk,I m O,S wS tw⟩) (Q:=⟨te,k,lX vv ai,S c u,ga,C⟩) (ak:=[(y,lst aj eD),(F,lst t eW)]++ak) hL rfl (dZ (by rw[iz];show wS.length+1<=1000000;exact hV r (oa lu)) hS) rfl (dZ (by rw[iz,iz];show wS.length+1+c.length<=1000000;exact hV r (oa lu)) hS) hu (dZ r hS) (J.less 100 ⋯) aU λ aJ az a aR=>⟨rfl,?_⟩;refine mU ?_;rw[<-i2];have b5:∀aM aX(r2:List (bU×bV)),At ae ah ([(A,ck cw (iv tl) G az ⟨d,S e ty,R y,R F,I B aa,I v tp,H,I (i:Nat) tk,I m O,S wS tw⟩ ⟨S o a,k,lX vv ai,S c u,ga,C⟩ aX),(y,lst aj eD),(F,lst t eW)]++(r2++ak)) P aM->cm (bZ bY w) s (dj (((fD).drop 3).take 1++(((fD).drop 4).take 4++((fD).drop 8).take 1)) (cW A)) V aw aM:=λ aM aX r2 aY=>Oy (a:=a) (ai:=ai) (vv:=vv) J hL hq M hl hD hW aY λ aK eX b3 ay ao af ta tb tg n0 n1 tq aZ=>Kc aK eX _ a ai aX ay ao af ta tb tg n0 n1 tq r2 aZ;refine yh VX ?_ ⋯;rw[fO];rcases aQ with⟨z,g,rfl,E⟩|⟨z,ie,E⟩;·refine Si (C:=⟨d,S e ty,R y,R F,I B aa,I v tp,H,I (i:Nat) tk,I m O,S wS tw⟩) (Q:=⟨S o a,k,I (g:Nat) ai,S c u,ga,C⟩) (g:=g) (ak:=[(y,lst aj eD),(F,lst t eW)]++ak) hL E (J.less 200 ⋯) aR λ aM n0 n1 tc tv aY=>?_;refine Sh (C:=⟨d,S e ty,R y,R F,I B aa,I v tp,H,I (i:Nat) tk,I m O,S wS tw⟩) (Q:=⟨S o a,k,I (g:Nat) ai,S c u,ga,C⟩) (g:=g) (ak:=[(n0,lst [S gm tc] 0),(n1,dk [I (g:Nat) tv,R n0])]++([(y,lst aj eD),(F,lst t eW)]++ak)) hL z (J.less 100 ⋯) aY λ aK n2 n3 ao ax aZ=>?_;refine Hn J aZ (.tail _ (.tail _ (.tail _ (.head _)))) (.tail _ (.tail _ (.tail _ (.tail _ (.head _))))) (.tail _ (.head _)) (.tail _ (.tail _ (.head _))) (cZ rfl rfl ?_);refine b5 aK sl [(n2,lst [S gm ao] 0),(n3,dk [I (g:Nat) ax,R n2]),(n0,lst [S gm tc] 0),(n1,dk [I (g:Nat) tv,R n0])] (aZ.perm (ff λ j=>?_));simp only[lX,ft,fv,fz];simp+arith only
  ·refine VI (C:=⟨d,S e ty,R y,R F,I B aa,I v tp,H,I (i:Nat) tk,I m O,S wS tw⟩) (Q:=⟨S o a,k,lX vv ai,S c u,ga,C⟩) (ak:=[(y,lst aj eD),(F,lst t eW)]++ak) hL (J.less 200 ⋯) aR λ aM D aY=>?_;refine ċ J E aY λ aK aX aZ=>?_;have b6:c.length<2^62:=rV (show c.length<=1000000 from hV r (oa lu)) ⋯;refine Sj (C:=⟨d,S e ty,R y,R F,I B aa,I v tp,H,I (i:Nat) tk,I m O,S wS tw⟩) (Q:=⟨S o a,k,lX vv ai,S c u,ga,C⟩) (H:=c.length) (ak:=[(y,lst aj eD),(F,lst t eW)]++ak) hL rfl b6 (decide_eq_false z) (J.less 100 ⋯) aZ λ aV b4=>?_;exact Ct M3 M3 ⋯ ⋯ J.u (cZ rfl rfl (b5 aV aX [] b4))
 cases vv with|some l=>exact VJ (C:=⟨d,S e ty,R y,R F,I B aa,I v tp,H,I (i:Nat) tk,I m O,S wS tw⟩) (Q:=⟨te,k,b,cn,ga,C⟩) (ak:=[(y,lst aj eD),(F,lst t eW)]++ak) (l:=l) hL (λ q z E=>aq q z E) (J.less 130 ⋯) L λ au eX u tv aU=>⟨rfl,Q au eX u tv aU⟩|none=>exact VK (C:=⟨d,S e ty,R y,R F,I B aa,I v tp,H,I (i:Nat) tk,I m O,S wS tw⟩) (Q:=⟨te,k,b,cn,ga,C⟩) (ak:=[(y,lst aj eD),(F,lst t eW)]++ak) hL (λ q z E=>aq q z E) (J.less 130 ⋯) L λ au eX u aU=>⟨rfl,Q au eX u 0 aU⟩
end
end Mine
end
section
open PySem PySem.W PySem.W.X PySem.Calls PySem.NumText
namespace Mine
section
variable{x:FA}{d:Rc}
theorem Yz(hp:(#[e].toList==#[92].toList)=X)(hc:d.c= .call (R 28) ⟨[S (bW #[39,e,39]) (eJ d.c)],[]⟩)(ae:d.sm=gc (bW #[39,e,39])):cy x d:=by exact dJ hc ae 4000 (nd 16 190 0x3300100110110013330301333312111001100110110013330301333312111001100110110013330301333312111001100110111100001001111222200222200222200222200222200222200222200222200222200222200222200222200111) [lM (bW #[39]) (bW #[92]) X,lM (bW #[e]) (bW #[92]) X hp,lM (bW #[39]) (bW #[92]) X] [] [63] ⋯
theorem W6(hp:(#[e].toList==#[92].toList)=X)(hc:d.c= .call (R 28) ⟨[S (bW #[76,39,e,39]) (eJ d.c)],[]⟩)(ae:d.sm=gc (bW #[76,39,e,39])):cy x d:=by exact dJ hc ae 4000 (nd 16 220 0x3300100110110013330301333312111001100110110013330301333312111001100110110013330301333312111001100110110013330301333312111001100110111100001001111222200222200222200222200222200222200222200222200222200222200222200222200111) [lM (bW #[76]) (bW #[92]) X,lM (bW #[39]) (bW #[92]) X,lM (bW #[e]) (bW #[92]) X hp,lM (bW #[39]) (bW #[92]) X] [] [69] ⋯
theorem Yy(hk:(e,b)∈kB)(hc:d.c= .call (R 28) ⟨[S (bW #[39,92,e,39]) (eJ d.c)],[]⟩)(ae:d.sm=gc (bW #[39,b,39])):cy x d:=by have k:=Gf hk;have a:=Hq hk;exact dJ hc ae 4000 (nd 16 218 0x33001001101100133303013333121110011001101100133303022221133331222112121110000110010012111001100110110013330301333312111001100110111100001001111222200222200222200222200222200222200222200222200222200222200222200222200111) [lM (bW #[39]) (bW #[92]) X,lM (bW #[92]) (bW #[92]) U,dh d7 e X k,lM (bW #[e]) (bW #[120]) X a,l5 1 e U λ j j=>(Gd hk),Jd 1 e b hk,lM (bW #[39]) (bW #[92]) X] [] [72] ⋯
theorem W5(hk:(e,b)∈kB)(hc:d.c= .call (R 28) ⟨[S (bW #[76,39,92,e,39]) (eJ d.c)],[]⟩)(ae:d.sm=gc (bW #[76,39,b,39])):cy x d:=by have k:=Gf hk;have a:=Hq hk;exact dJ hc ae 4000 (nd 16 248 0x33001001101100133303013333121110011001101100133303022221133331222112121110000110010012111001100110110013330301333312111001100110110013330301333312111001100110111100001001111222200222200222200222200222200222200222200222200222200222200222200222200111) [lM (bW #[76]) (bW #[92]) X,lM (bW #[39]) (bW #[92]) X,lM (bW #[92]) (bW #[92]) U,dh d7 e X k,lM (bW #[e]) (bW #[120]) X a,l5 1 e U λ j j=>(Gd hk),Jd 1 e b hk,lM (bW #[39]) (bW #[92]) X] [] [78] ⋯
theorem W9(k:fx d7 e=U)(hd:fj 8 [e] m)(hv:fh 8 m=b)(hm:b<=0x10FFFF)(hc:d.c= .call (R 28) ⟨[S (bW #[39,92,e,39]) (eJ d.c)],[]⟩)(ae:d.sm=gc (bW #[39,b,39])):cy x d:=by exact dJ hc ae 4000 (nd 16 269 0x33001001101100133303013333100111001100110111333030200200444400100110000333312001100001100110110012001100001100110110012111000011001001001110011001101100133303013333100111001100110111100001001111222200222200222200222200222200222200222200222200222200222200222200222200111) [dh d7 e U k,dh d7 e U k,dh d7 39 X,nU 8 b [e] (.inl rfl) hd hv,lU b hm] [] [88] ⋯
theorem SM(k:fx d7 e=U)(hd:fj 8 [e] m)(hv:fh 8 m=b)(hm:b<=0x10FFFF)(hc:d.c= .call (R 28) ⟨[S (bW #[76,39,92,e,39]) (eJ d.c)],[]⟩)(ae:d.sm=gc (bW #[76,39,b,39])):cy x d:=by exact dJ hc ae 4000 (nd 16 300 0x330010011011001333030133331001110011001101113330302002004444001001100003333120011000011001101100120011000011001101100121110000110010010011100110011011001333030133331001110011001101100133303013333100111001100110111100001001111222200222200222200222200222200222200222200222200222200222200222200222200111) [dh d7 e U k,dh d7 e U k,dh d7 39 X,nU 8 b [e] (.inl rfl) hd hv,lU b hm] [] [94] ⋯
theorem W8(k:fx d7 e=U)(n:fx d7 q=U)(hd:fj 8 [e,q] m)(hv:fh 8 m=b)(hm:b<=0x10FFFF)(hc:d.c= .call (R 28) ⟨[S (bW #[39,92,e,q,39]) (eJ d.c)],[]⟩)(ae:d.sm=gc (bW #[39,b,39])):cy x d:=by exact dJ hc ae 4000 (nd 16 290 0x33001001101100133303013333100111001100110111333030200200444400100110000333312001100001100110110012001100001100110110012001100001100110110012111000011001001001110011001101100133303013333100111001100110111100001001111222200222200222200222200222200222200222200222200222200222200222200222200111) [dh d7 e U k,dh d7 e U k,dh d7 q U n,dh d7 39 X,nU 8 b [e,q] (.inl rfl) hd hv,lU b hm] [] [95] ⋯
theorem SK(k:fx d7 e=U)(n:fx d7 q=U)(hd:fj 8 [e,q] m)(hv:fh 8 m=b)(hm:b<=0x10FFFF)(hc:d.c= .call (R 28) ⟨[S (bW #[76,39,92,e,q,39]) (eJ d.c)],[]⟩)(ae:d.sm=gc (bW #[76,39,b,39])):cy x d:=by exact dJ hc ae 4000 (nd 16 321 0x330010011011001333030133331001110011001101113330302002004444001001100003333120011000011001101100120011000011001101100120011000011001101100121110000110010010011100110011011001333030133331001110011001101100133303013333100111001100110111100001001111222200222200222200222200222200222200222200222200222200222200222200222200111) [dh d7 e U k,dh d7 e U k,dh d7 q U n,dh d7 39 X,nU 8 b [e,q] (.inl rfl) hd hv,lU b hm] [] [101] ⋯
theorem W7(k:fx d7 e=U)(n:fx d7 q=U)(o:fx d7 u=U)(hd:fj 8 [e,q,u] m)(hv:fh 8 m=b)(hm:b<=0x10FFFF)(hc:d.c= .call (R 28) ⟨[S (bW #[39,92,e,q,u,39]) (eJ d.c)],[]⟩)(ae:d.sm=gc (bW #[39,b,39])):cy x d:=by exact dJ hc ae 4000 (nd 16 306 0x330010011011001333030133331001110011001101113330302002004444001001100003333100001100110110012001100001100110110012001100001100110110012001100001100110110012111000011001001001110011001101100133303013333100111001100110111100001001111222200222200222200222200222200222200222200222200222200222200222200222200111) [dh d7 e U k,dh d7 e U k,dh d7 q U n,dh d7 u U o,nU 8 b [e,q,u] (.inl rfl) hd hv,lU b hm] [] [100] ⋯
theorem SJ(k:fx d7 e=U)(n:fx d7 q=U)(o:fx d7 u=U)(hd:fj 8 [e,q,u] m)(hv:fh 8 m=b)(hm:b<=0x10FFFF)(hc:d.c= .call (R 28) ⟨[S (bW #[76,39,92,e,q,u,39]) (eJ d.c)],[]⟩)(ae:d.sm=gc (bW #[76,39,b,39])):cy x d:=by exact dJ hc ae 4000 (nd 16 337 0x3300100110110013330301333310011100110011011133303020020044440010011000033331000011001101100120011000011001101100120011000011001101100120011000011001101100121110000110010010011100110011011001333030133331001110011001101100133303013333100111001100110111100001001111222200222200222200222200222200222200222200222200222200222200222200222200111) [dh d7 e U k,dh d7 e U k,dh d7 q U n,dh d7 u U o,nU 8 b [e,q,u] (.inl rfl) hd hv,lU b hm] [] [106] ⋯
theorem W3(k:fx dT e=U)(hd:fj 16 [e] m)(hv:fh 16 m=b)(hm:b<=0x10FFFF)(hc:d.c= .call (R 28) ⟨[S (bW #[39,92,120,e,39]) (eJ d.c)],[]⟩)(ae:d.sm=gc (bW #[39,b,39])):cy x d:=by exact dJ hc ae 4000 (nd 16 317 0x33001001101100133303013333100111001100110111333030200200666600100110000333311152005500550550052005500550555555101001100000142004400440440042004400440444444101001100012111000011001001001110011001101100133303013333100111001100110111100001001111222200222200222200222200222200222200222200222200222200222200222200222200111) [dh d7 120 X,dh dT e U k,dh dT 39 X,dh dT e U k,dh dT 39 X,nU 16 b [e] (.inr rfl) hd hv,lU b hm] [] [102] ⋯
theorem SI(k:fx dT e=U)(hd:fj 16 [e] m)(hv:fh 16 m=b)(hm:b<=0x10FFFF)(hc:d.c= .call (R 28) ⟨[S (bW #[76,39,92,120,e,39]) (eJ d.c)],[]⟩)(ae:d.sm=gc (bW #[76,39,b,39])):cy x d:=by exact dJ hc ae 4000 (nd 16 348 0x330010011011001333030133331001110011001101113330302002006666001001100003333111520055005505500520055005505555551010011000001420044004404400420044004404444441010011000121110000110010010011100110011011001333030133331001110011001101100133303013333100111001100110111100001001111222200222200222200222200222200222200222200222200222200222200222200222200111) [dh d7 120 X,dh dT e U k,dh dT 39 X,dh dT e U k,dh dT 39 X,nU 16 b [e] (.inr rfl) hd hv,lU b hm] [] [108] ⋯
theorem W2(k:fx dT e=U)(n:fx dT q=U)(hd:fj 16 [e,q] m)(hv:fh 16 m=b)(hm:b<=0x10FFFF)(hc:d.c= .call (R 28) ⟨[S (bW #[39,92,120,e,q,39]) (eJ d.c)],[]⟩)(ae:d.sm=gc (bW #[39,b,39])):cy x d:=by exact dJ hc ae 4000 (nd 16 347 0x33001001101100133303013333100111001100110111333030200200666600100110000333311152005500550550052005500550550052005500550555555101001100000142004400440440042004400440440042004400440444444101001100012111000011001001001110011001101100133303013333100111001100110111100001001111222200222200222200222200222200222200222200222200222200222200222200222200111) [dh d7 120 X,dh dT e U k,dh dT q U n,dh dT 39 X,dh dT e U k,dh dT q U n,dh dT 39 X,nU 16 b [e,q] (.inr rfl) hd hv,lU b hm] [] [112] ⋯
theorem SH(k:fx dT e=U)(n:fx dT q=U)(hd:fj 16 [e,q] m)(hv:fh 16 m=b)(hm:b<=0x10FFFF)(hc:d.c= .call (R 28) ⟨[S (bW #[76,39,92,120,e,q,39]) (eJ d.c)],[]⟩)(ae:d.sm=gc (bW #[76,39,b,39])):cy x d:=by exact dJ hc ae 4000 (nd 16 378 0x330010011011001333030133331001110011001101113330302002006666001001100003333111520055005505500520055005505500520055005505555551010011000001420044004404400420044004404400420044004404444441010011000121110000110010010011100110011011001333030133331001110011001101100133303013333100111001100110111100001001111222200222200222200222200222200222200222200222200222200222200222200222200111) [dh d7 120 X,dh dT e U k,dh dT q U n,dh dT 39 X,dh dT e U k,dh dT q U n,dh dT 39 X,nU 16 b [e,q] (.inr rfl) hd hv,lU b hm] [] [118] ⋯
theorem Yx(k:fx dT e=U)(n:fx dT q=U)(o:fx dT u=U)(p:fx dT A=U)(hd:fj 16 [e,q,u,A] m)(hv:fh 16 m=b)(hm:b<=0x10FFFF)(hc:d.c= .call (R 28) ⟨[S (bW #[39,92,117,e,q,u,A,39]) (eJ d.c)],[]⟩)(ae:d.sm=gc (bW #[39,b,39])):cy x d:=by exact dJ hc ae 4000 (nd 16 332 0x33001001101100133303013333100111001100110110013330302002005555000010011000033331000014200440044044004200440044044004200440044044004200440044044004200440044044444410100110001222110012111000011001001001110011001101100133303013333100111001100110111100001001111222200222200222200222200222200222200222200222200222200222200222200222200111) [dh d7 117 X,l5 1 117 X λ j j=>(lG ⋯),dh dT e U k,dh dT q U n,dh dT u U o,dh dT A U p,dh dT 39 X,nU 16 b [e,q,u,A] (.inr rfl) hd hv,lU b hm] [] [109] ⋯
theorem W4(k:fx dT e=U)(n:fx dT q=U)(o:fx dT u=U)(p:fx dT A=U)(hd:fj 16 [e,q,u,A] m)(hv:fh 16 m=b)(hm:b<=0x10FFFF)(hc:d.c= .call (R 28) ⟨[S (bW #[76,39,92,117,e,q,u,A,39]) (eJ d.c)],[]⟩)(ae:d.sm=gc (bW #[76,39,b,39])):cy x d:=by exact dJ hc ae 4000 (nd 16 363 0x330010011011001333030133331001110011001101100133303020020055550000100110000333310000142004400440440042004400440440042004400440440042004400440440042004400440444444101001100012221100121110000110010010011100110011011001333030133331001110011001101100133303013333100111001100110111100001001111222200222200222200222200222200222200222200222200222200222200222200222200111) [dh d7 117 X,l5 1 117 X λ j j=>(lG ⋯),dh dT e U k,dh dT q U n,dh dT u U o,dh dT A U p,dh dT 39 X,nU 16 b [e,q,u,A] (.inr rfl) hd hv,lU b hm] [] [115] ⋯
theorem Wg(hc:d.c= .call (R 28) ⟨[S (bW #[39,92,120,39]) (eJ d.c)],[]⟩)(ae:d.sm=gc (bW #[39,92,120,39])):cy x d:=by exact dJ hc ae 4000 (nd 16 284 0x33001001101100133303013333100111001100110110013330301333310011100110011011001333030133331001001222110000142004400440444444101001100012111000011001001001110011001101100133303013333100111001100110111100001001111222200222200222200222200222200222200222200222200222200222200222200222200111) [dh d7 120 X,dh dT 39 X,l5 1 120 X λ j j=>(lG ⋯)] [] [88] ⋯
theorem SU(hc:d.c= .call (R 28) ⟨[S (bW #[76,39,92,120,39]) (eJ d.c)],[]⟩)(ae:d.sm=gc (bW #[76,39,92,120,39])):cy x d:=by exact dJ hc ae 4000 (nd 16 315 0x330010011011001333030133331001110011001101100133303013333100111001100110110013330301333310010012221100001420044004404444441010011000121110000110010010011100110011011001333030133331001110011001101100133303013333100111001100110111100001001111222200222200222200222200222200222200222200222200222200222200222200222200111) [dh d7 120 X,dh dT 39 X,l5 1 120 X λ j j=>(lG ⋯)] [] [94] ⋯
theorem Wf(hc:d.c= .call (R 28) ⟨[S (bW #[39,92,117,39]) (eJ d.c)],[]⟩)(ae:d.sm=gc (bW #[39,92,117,39])):cy x d:=by exact dJ hc ae 4000 (nd 16 284 0x33001001101100133303013333100111001100110110013330301333310011100110011011001333030133331001000014200440044044444410100110001222110012111000011001001001110011001101100133303013333100111001100110111100001001111222200222200222200222200222200222200222200222200222200222200222200222200111) [dh d7 117 X,l5 1 117 X λ j j=>(lG ⋯),dh dT 39 X] [] [88] ⋯
theorem SS(hc:d.c= .call (R 28) ⟨[S (bW #[76,39,92,117,39]) (eJ d.c)],[]⟩)(ae:d.sm=gc (bW #[76,39,92,117,39])):cy x d:=by exact dJ hc ae 4000 (nd 16 315 0x330010011011001333030133331001110011001101100133303013333100111001100110110013330301333310010000142004400440444444101001100012221100121110000110010010011100110011011001333030133331001110011001101100133303013333100111001100110111100001001111222200222200222200222200222200222200222200222200222200222200222200222200111) [dh d7 117 X,l5 1 117 X λ j j=>(lG ⋯),dh dT 39 X] [] [94] ⋯
theorem We(hc:d.c= .call (R 28) ⟨[S (bW #[39,92,117,65,39]) (eJ d.c)],[]⟩)(ae:d.sm=gc (bW #[39,92,117,65,39])):cy x d:=by exact dJ hc ae 4000 (nd 16 330 0x330010011011001333030133331001110011001101100133303013333100111001100110110013330301333310011100110011011001333030133331001000014200440044044004200440044044444410100110001222110012111000011001001001110011001101100133303013333100111001100110111100001001111222200222200222200222200222200222200222200222200222200222200222200222200111) [dh d7 117 X,l5 1 117 X λ j j=>(lG ⋯),dh dT 65 U,dh dT 39 X] [] [99] ⋯
theorem SR(hc:d.c= .call (R 28) ⟨[S (bW #[76,39,92,117,65,39]) (eJ d.c)],[]⟩)(ae:d.sm=gc (bW #[76,39,92,117,65,39])):cy x d:=by exact dJ hc ae 4000 (nd 16 361 0x3300100110110013330301333310011100110011011001333030133331001110011001101100133303013333100111001100110110013330301333310010000142004400440440042004400440444444101001100012221100121110000110010010011100110011011001333030133331001110011001101100133303013333100111001100110111100001001111222200222200222200222200222200222200222200222200222200222200222200222200111) [dh d7 117 X,l5 1 117 X λ j j=>(lG ⋯),dh dT 65 U,dh dT 39 X] [] [105] ⋯
theorem Wd(hc:d.c= .call (R 28) ⟨[S (bW #[39,92,117,49,102,39]) (eJ d.c)],[]⟩)(ae:d.sm=gc (bW #[39,92,117,49,102,39])):cy x d:=by exact dJ hc ae 4000 (nd 16 376 0x3300100110110013330301333310011100110011011001333030133331001110011001101100133303013333100111001100110110013330301333310011100110011011001333030133331001000014200440044044004200440044044004200440044044444410100110001222110012111000011001001001110011001101100133303013333100111001100110111100001001111222200222200222200222200222200222200222200222200222200222200222200222200111) [dh d7 117 X,l5 1 117 X λ j j=>(lG ⋯),dh dT 49 U,dh dT 102 U,dh dT 39 X] [] [110] ⋯
theorem SQ(hc:d.c= .call (R 28) ⟨[S (bW #[76,39,92,117,49,102,39]) (eJ d.c)],[]⟩)(ae:d.sm=gc (bW #[76,39,92,117,49,102,39])):cy x d:=by exact dJ hc ae 4000 (nd 16 407 0x33001001101100133303013333100111001100110110013330301333310011100110011011001333030133331001110011001101100133303013333100111001100110110013330301333310010000142004400440440042004400440440042004400440444444101001100012221100121110000110010010011100110011011001333030133331001110011001101100133303013333100111001100110111100001001111222200222200222200222200222200222200222200222200222200222200222200222200111) [dh d7 117 X,l5 1 117 X λ j j=>(lG ⋯),dh dT 49 U,dh dT 102 U,dh dT 39 X] [] [116] ⋯
theorem Wc(hc:d.c= .call (R 28) ⟨[S (bW #[39,92,117,48,48,101,39]) (eJ d.c)],[]⟩)(ae:d.sm=gc (bW #[39,92,117,48,48,101,39])):cy x d:=by exact dJ hc ae 4000 (nd 16 422 0x33001001101100133303013333100111001100110110013330301333310011100110011011001333030133331001110011001101100133303013333100111001100110110013330301333310011100110011011001333030133331001000014200440044044004200440044044004200440044044004200440044044444410100110001222110012111000011001001001110011001101100133303013333100111001100110111100001001111222200222200222200222200222200222200222200222200222200222200222200222200111) [dh d7 117 X,l5 1 117 X λ j j=>(lG ⋯),dh dT 48 U,dh dT 48 U,dh dT 101 U,dh dT 39 X] [] [121] ⋯
theorem SP(hc:d.c= .call (R 28) ⟨[S (bW #[76,39,92,117,48,48,101,39]) (eJ d.c)],[]⟩)(ae:d.sm=gc (bW #[76,39,92,117,48,48,101,39])):cy x d:=by exact dJ hc ae 4000 (nd 16 453 0x330010011011001333030133331001110011001101100133303013333100111001100110110013330301333310011100110011011001333030133331001110011001101100133303013333100111001100110110013330301333310010000142004400440440042004400440440042004400440440042004400440444444101001100012221100121110000110010010011100110011011001333030133331001110011001101100133303013333100111001100110111100001001111222200222200222200222200222200222200222200222200222200222200222200222200111) [dh d7 117 X,l5 1 117 X λ j j=>(lG ⋯),dh dT 48 U,dh dT 48 U,dh dT 101 U,dh dT 39 X] [] [127] ⋯
theorem Wb(hc:d.c= .call (R 28) ⟨[S (bW #[39,92,85,39]) (eJ d.c)],[]⟩)(ae:d.sm=gc (bW #[39,92,85,39])):cy x d:=by exact dJ hc ae 4000 (nd 16 284 0x33001001101100133303013333100111001100110110013330301333310011100110011011001333030133331000014200440044044444410100110001001222110012111000011001001001110011001101100133303013333100111001100110111100001001111222200222200222200222200222200222200222200222200222200222200222200222200111) [dh d7 85 X,l5 1 85 X λ j j=>(lG ⋯),dh dT 39 X] [] [88] ⋯
theorem SO(hc:d.c= .call (R 28) ⟨[S (bW #[76,39,92,85,39]) (eJ d.c)],[]⟩)(ae:d.sm=gc (bW #[76,39,92,85,39])):cy x d:=by exact dJ hc ae 4000 (nd 16 315 0x330010011011001333030133331001110011001101100133303013333100111001100110110013330301333310000142004400440444444101001100010012221100121110000110010010011100110011011001333030133331001110011001101100133303013333100111001100110111100001001111222200222200222200222200222200222200222200222200222200222200222200222200111) [dh d7 85 X,l5 1 85 X λ j j=>(lG ⋯),dh dT 39 X] [] [94] ⋯
theorem Wa(hc:d.c= .call (R 28) ⟨[S (bW #[39,92,85,49,50,39]) (eJ d.c)],[]⟩)(ae:d.sm=gc (bW #[39,92,85,49,50,39])):cy x d:=by exact dJ hc ae 4000 (nd 16 376 0x3300100110110013330301333310011100110011011001333030133331001110011001101100133303013333100111001100110110013330301333310011100110011011001333030133331000014200440044044004200440044044004200440044044444410100110001001222110012111000011001001001110011001101100133303013333100111001100110111100001001111222200222200222200222200222200222200222200222200222200222200222200222200111) [dh d7 85 X,l5 1 85 X λ j j=>(lG ⋯),dh dT 49 U,dh dT 50 U,dh dT 39 X] [] [110] ⋯
theorem SN(hc:d.c= .call (R 28) ⟨[S (bW #[76,39,92,85,49,50,39]) (eJ d.c)],[]⟩)(ae:d.sm=gc (bW #[76,39,92,85,49,50,39])):cy x d:=by exact dJ hc ae 4000 (nd 16 407 0x33001001101100133303013333100111001100110110013330301333310011100110011011001333030133331001110011001101100133303013333100111001100110110013330301333310000142004400440440042004400440440042004400440444444101001100010012221100121110000110010010011100110011011001333030133331001110011001101100133303013333100111001100110111100001001111222200222200222200222200222200222200222200222200222200222200222200222200111) [dh d7 85 X,l5 1 85 X λ j j=>(lG ⋯),dh dT 49 U,dh dT 50 U,dh dT 39 X] [] [116] ⋯
end
theorem Ŀ(b:cb)(B:Nat):fx b B=decide (B∈b.cps.toList):=b7z b B
noncomputable def mO(B:Nat):Prop:=B≠9/\B≠10/\B<1114112
noncomputable def iF(B:Nat):Prop:=48<=B/\B<=55
noncomputable def gT(B:Nat):Prop:=(48<=B/\B<=57)\/(97<=B/\B<=102)\/(65<=B/\B<=70)
theorem Fb:∀B,B<56->48<=B->fx dr B=X/\B∈de.cps.toList:=by decide+kernel
theorem Qt:∀B,B<103->(48<=B/\B<=57)\/(97<=B/\B<=102)\/(65<=B/\B<=70)->B∈cA.cps.toList:=by decide+kernel
theorem vc(a:iF B):fx dr B=X:=(Fb B (CD a.2) a.1).1
theorem iT(a:iF B):fx de B=U:=by rw[Ŀ,decide_eq_true_iff];exact(Fb B (CD a.2) a.1).2
theorem i4(a:gT B):fx cA B=U:=by rw[Ŀ,decide_eq_true_iff];exact Qt B (by rcases a with a|a|a<;>exact rV a.2 ⋯) a
theorem Ho(a:B≠92):fx nr B=X:=by rw[Ŀ,decide_eq_false_iff_not];simp;exact a
theorem En(a:(i,b)∈kB):fx dr i=U:=by simp only[kB,fw,m9,or_false]at a;rcases a with q|q|q|q|q|q|q|q|q|q|q|q<;>cases q<;>kernel_rfl
theorem Hp(a:(i,b)∈kB):mO i:=by simp only[kB,fw,m9,or_false]at a;rcases a with q|q|q|q|q|q|q|q|q|q|q|q<;>cases q<;>exact cZ ⋯ ⋯ ⋯
theorem nJ(a:iF B):mO B:=by unfold iF at a;unfold mO;omega
theorem mx(a:gT B):mO B:=by unfold gT at a;unfold mO;lia
noncomputable def tC(c:cb)(i:Nat)(o:cb):Prop:=∀y B,o.cps[y]?=Y B->c.cps[i+y]?=Y B
theorem tC.acc(a:tC c i o)(hj:o.cps[y]?=Y B)(M:fx b B=l):cu c b (i+y)=l:=by rw[E4 (a y B hj)];exact M
theorem tC.lt(a:tC c i o)(hj:o.cps[y]?=Y B):i+y<c.cps.size:=(iq.mp (a y B hj)).1
structure fL(o:cb)(vv:Option Nat):Prop where
 lit:∀c i,tC c i o->ye c i (i+o.length)
 ok:∀B∈o.cps.toList,mO B
 hd:o.cps[0]?=Y 39\/o.cps[0]?=Y 76
 len:0<o.length/\o.length<=12
 rep:∃t,(∀{x:FA}(d:Rc),d.c= .call (R 28) ⟨[S o (eJ d.c)],[]⟩->d.sm=gc t->cy x d)/\(match vv with|Y g=>t=bW #[39,g,39]\/t=bW #[76,39,g,39]|W=>∃ie,gP t ie)
noncomputable def lL(c:cb)(vv:Option Nat):Prop:=∀wS,qu wS->∃o,wS++bW #[39]++c++bW #[39]=o/\((c.length=1/\∃g,vv=Y g/\(o=bW #[39,g,39]\/o=bW #[76,39,g,39]))\/(c.length≠1/\∃ie,gP o ie))/\fL o vv
noncomputable def HS:List Nat->Prop|[]=>True|B::r=>mO B/\HS r
theorem gM:∀{r:List Nat},HS r->∀B∈r,mO B|_::_,a,_, .head _=>a.1|_::_,a,B, .tail _ q=>gM a.2 B q
theorem cT(a:(!kq B 9&&!kq B 10&&r_ B 1114112)=U):mO B:=by rw[ox,ox]at a;exact cZ (λ e=>by subst e;exact absurd a.1.1 ⋯) (λ e=>by subst e;exact absurd a.1.2 ⋯) (cL a.2)
section
theorem Wq(f:e≠39)(b:e≠92)(M:mO e):fL (bW #[39,e,39]) (Y e)where
 lit:=λ c i a=>by exact cI (i+1) (.inl ⟨a 0 _ rfl,rfl⟩) (.inl (iC (a.acc (y:=1) rfl (Ho b)) (a.lt (y:=1) rfl) (a.acc (y:=2) rfl ⋯) rfl))
 ok:=gM (iC (cT rfl) M (cT rfl) trivial)
 hd:= .inl rfl
 len:=⟨cL rfl,cL rfl⟩
 rep:=(cI _ (λ d z E=>Yz (hp:=by simp;exact b) z E) (.inl rfl))
theorem Gm(f:e≠39)(b:e≠92)(M:mO e):fL (bW #[76,39,e,39]) (Y e)where
 lit:=λ c i a=>by exact cI (i+2) (.inr (cZ (a 0 _ rfl) (a 1 _ rfl) rfl)) (.inl (iC (a.acc (y:=2) rfl (Ho b)) (a.lt (y:=2) rfl) (a.acc (y:=3) rfl ⋯) rfl))
 ok:=gM (i6 (cT rfl) (cT rfl) M (cT rfl) trivial)
 hd:= .inr rfl
 len:=⟨cL rfl,cL rfl⟩
 rep:=(cI _ (λ d z E=>W6 (hp:=by simp;exact b) z E) (.inr rfl))
theorem Xn(f:e≠39)(b:e≠92)(M:mO e):lL (bW #[e]) (Y e):=λ wS hw=>by
 rcases hw with rfl|rfl;·exact gn _ rfl (.inl (B0 rfl e rfl (.inl rfl))) (Wq f b M)
 ·exact gn _ rfl (.inl (B0 rfl e rfl (.inr rfl))) (Gm f b M)
theorem Wp(hk:(e,b)∈kB):fL (bW #[39,92,e,39]) (Y b)where
 lit:=λ c i a=>by have f:cu c dr (i+2)=U:=a.acc (y:=2) rfl (En hk);have Q:cq c dr (i+2)=i+3:=ec f;exact cI (i+1) (.inl ⟨a 0 _ rfl,rfl⟩) (.inr (i3 (a.acc (y:=1) rfl ⋯) (i+3) _ (by simp+arith only) (.inl (cZ f Q.symm rfl)) (a.acc (y:=3) rfl ⋯) rfl))
 ok:=gM (i6 (cT rfl) (cT rfl) (Hp hk) (cT rfl) trivial)
 hd:= .inl rfl
 len:=⟨cL rfl,cL rfl⟩
 rep:=(cI _ (λ d z E=>Yy hk z E) (.inl rfl))
theorem Ta(hk:(e,b)∈kB):fL (bW #[76,39,92,e,39]) (Y b)where
 lit:=λ c i a=>by have f:cu c dr (i+3)=U:=a.acc (y:=3) rfl (En hk);have Q:cq c dr (i+3)=i+4:=ec f;exact cI (i+2) (.inr (cZ (a 0 _ rfl) (a 1 _ rfl) rfl)) (.inr (i3 (a.acc (y:=2) rfl ⋯) (i+4) _ (by simp+arith only) (.inl (cZ f Q.symm rfl)) (a.acc (y:=4) rfl ⋯) rfl))
 ok:=gM (jv (cT rfl) (cT rfl) (cT rfl) (Hp hk) (cT rfl) trivial)
 hd:= .inr rfl
 len:=⟨cL rfl,cL rfl⟩
 rep:=(cI _ (λ d z E=>W5 hk z E) (.inr rfl))
theorem mY(hk:(e,b)∈kB):lL (bW #[92,e]) (Y b):=λ wS hw=>by
 rcases hw with rfl|rfl;·exact gn _ rfl (.inr (fM (by show 2≠1;decide) _ (su 92 e))) (Wp hk)
 ·exact gn _ rfl (.inr (fM (by show 2≠1;decide) _ (sb 92 e))) (Ta hk)
theorem Td(k:iF e)(hd:fj 8 [e] m)(hv:fh 8 m=b)(hm:b<=0x10FFFF):fL (bW #[39,92,e,39]) (Y b)where
 lit:=λ c i a=>by have f:cu c dr (i+2)=X:=a.acc (y:=2) rfl (vc k);have Q:cq c dr (i+2)=i+2:=cU f;have g:cu c de (i+2)=U:=a.acc (y:=2) rfl (iT k);have e1:cq c de (i+2)=i+3:=ec g;have v:cu c de (i+3)=X:=a.acc (y:=3) rfl ⋯;have e2:cq c de (i+3)=i+3:=cU v;have l:cu c de (i+3)=X:=a.acc (y:=3) rfl ⋯;have e3:cq c de (i+3)=i+3:=cU l;exact cI (i+1) (.inl ⟨a 0 _ rfl,rfl⟩) (.inr (i3 (a.acc (y:=1) rfl ⋯) (i+3) _ (by simp+arith only) (.inr (.inl (iC f (by rw[Q];exact g) (by rw[Q,e1,e2,e3]) rfl))) (a.acc (y:=3) rfl ⋯) rfl))
 ok:=gM (i6 (cT rfl) (cT rfl) (nJ k) (cT rfl) trivial)
 hd:= .inl rfl
 len:=⟨cL rfl,cL rfl⟩
 rep:=(cI _ (λ d z E=>W9 (iT k) hd hv hm z E) (.inl rfl))
theorem Q5(k:iF e)(hd:fj 8 [e] m)(hv:fh 8 m=b)(hm:b<=0x10FFFF):fL (bW #[76,39,92,e,39]) (Y b)where
 lit:=λ c i a=>by have f:cu c dr (i+3)=X:=a.acc (y:=3) rfl (vc k);have Q:cq c dr (i+3)=i+3:=cU f;have g:cu c de (i+3)=U:=a.acc (y:=3) rfl (iT k);have e1:cq c de (i+3)=i+4:=ec g;have v:cu c de (i+4)=X:=a.acc (y:=4) rfl ⋯;have e2:cq c de (i+4)=i+4:=cU v;have l:cu c de (i+4)=X:=a.acc (y:=4) rfl ⋯;have e3:cq c de (i+4)=i+4:=cU l;exact cI (i+2) (.inr (cZ (a 0 _ rfl) (a 1 _ rfl) rfl)) (.inr (i3 (a.acc (y:=2) rfl ⋯) (i+4) _ (by simp+arith only) (.inr (.inl (iC f (by rw[Q];exact g) (by rw[Q,e1,e2,e3]) rfl))) (a.acc (y:=4) rfl ⋯) rfl))
 ok:=gM (jv (cT rfl) (cT rfl) (cT rfl) (nJ k) (cT rfl) trivial)
 hd:= .inr rfl
 len:=⟨cL rfl,cL rfl⟩
 rep:=(cI _ (λ d z E=>SM (iT k) hd hv hm z E) (.inr rfl))
theorem GR(k:iF e)(hd:fj 8 [e] m)(hv:fh 8 m=b)(hm:b<=0x10FFFF):lL (bW #[92,e]) (Y b):=λ wS hw=>by
 rcases hw with rfl|rfl;·exact gn _ rfl (.inr (fM (by show 2≠1;decide) _ (su 92 e))) (Td k hd hv hm)
 ·exact gn _ rfl (.inr (fM (by show 2≠1;decide) _ (sb 92 e))) (Q5 k hd hv hm)
theorem Tc(k:iF e)(n:iF q)(hd:fj 8 [e,q] m)(hv:fh 8 m=b)(hm:b<=0x10FFFF):fL (bW #[39,92,e,q,39]) (Y b)where
 lit:=λ c i a=>by have f:cu c dr (i+2)=X:=a.acc (y:=2) rfl (vc k);have Q:cq c dr (i+2)=i+2:=cU f;have g:cu c de (i+2)=U:=a.acc (y:=2) rfl (iT k);have e1:cq c de (i+2)=i+3:=ec g;have v:cu c de (i+3)=U:=a.acc (y:=3) rfl (iT n);have e2:cq c de (i+3)=i+4:=ec v;have l:cu c de (i+4)=X:=a.acc (y:=4) rfl ⋯;have e3:cq c de (i+4)=i+4:=cU l;exact cI (i+1) (.inl ⟨a 0 _ rfl,rfl⟩) (.inr (i3 (a.acc (y:=1) rfl ⋯) (i+4) _ (by simp+arith only) (.inr (.inl (iC f (by rw[Q];exact g) (by rw[Q,e1,e2,e3]) rfl))) (a.acc (y:=4) rfl ⋯) rfl))
 ok:=gM (jv (cT rfl) (cT rfl) (nJ k) (nJ n) (cT rfl) trivial)
 hd:= .inl rfl
 len:=⟨cL rfl,cL rfl⟩
 rep:=(cI _ (λ d z E=>W8 (iT k) (iT n) hd hv hm z E) (.inl rfl))
theorem Q4(k:iF e)(n:iF q)(hd:fj 8 [e,q] m)(hv:fh 8 m=b)(hm:b<=0x10FFFF):fL (bW #[76,39,92,e,q,39]) (Y b)where
 lit:=λ c i a=>by have f:cu c dr (i+3)=X:=a.acc (y:=3) rfl (vc k);have Q:cq c dr (i+3)=i+3:=cU f;have g:cu c de (i+3)=U:=a.acc (y:=3) rfl (iT k);have e1:cq c de (i+3)=i+4:=ec g;have v:cu c de (i+4)=U:=a.acc (y:=4) rfl (iT n);have e2:cq c de (i+4)=i+5:=ec v;have l:cu c de (i+5)=X:=a.acc (y:=5) rfl ⋯;have e3:cq c de (i+5)=i+5:=cU l;exact cI (i+2) (.inr (cZ (a 0 _ rfl) (a 1 _ rfl) rfl)) (.inr (i3 (a.acc (y:=2) rfl ⋯) (i+5) _ (by simp+arith only) (.inr (.inl (iC f (by rw[Q];exact g) (by rw[Q,e1,e2,e3]) rfl))) (a.acc (y:=5) rfl ⋯) rfl))
 ok:=gM (kW (cT rfl) (cT rfl) (cT rfl) (nJ k) (nJ n) (cT rfl) trivial)
 hd:= .inr rfl
 len:=⟨cL rfl,cL rfl⟩
 rep:=(cI _ (λ d z E=>SK (iT k) (iT n) hd hv hm z E) (.inr rfl))
theorem A_(k:iF e)(n:iF q)(hd:fj 8 [e,q] m)(hv:fh 8 m=b)(hm:b<=0x10FFFF):lL (bW #[92,e,q]) (Y b):=λ wS hw=>by
 rcases hw with rfl|rfl;·exact gn _ rfl (.inr (fM (by show 3≠1;decide) _ (K_ 92 e q))) (Tc k n hd hv hm)
 ·exact gn _ rfl (.inr (fM (by show 3≠1;decide) _ (y_ 92 e q))) (Q4 k n hd hv hm)
theorem Tb(k:iF e)(n:iF q)(o:iF u)(hd:fj 8 [e,q,u] m)(hv:fh 8 m=b)(hm:b<=0x10FFFF):fL (bW #[39,92,e,q,u,39]) (Y b)where
 lit:=λ c i a=>by have f:cu c dr (i+2)=X:=a.acc (y:=2) rfl (vc k);have Q:cq c dr (i+2)=i+2:=cU f;have g:cu c de (i+2)=U:=a.acc (y:=2) rfl (iT k);have e1:cq c de (i+2)=i+3:=ec g;have v:cu c de (i+3)=U:=a.acc (y:=3) rfl (iT n);have e2:cq c de (i+3)=i+4:=ec v;have l:cu c de (i+4)=U:=a.acc (y:=4) rfl (iT o);have e3:cq c de (i+4)=i+5:=ec l;exact cI (i+1) (.inl ⟨a 0 _ rfl,rfl⟩) (.inr (i3 (a.acc (y:=1) rfl ⋯) (i+5) _ (by simp+arith only) (.inr (.inl (iC f (by rw[Q];exact g) (by rw[Q,e1,e2,e3]) rfl))) (a.acc (y:=5) rfl ⋯) rfl))
 ok:=gM (kW (cT rfl) (cT rfl) (nJ k) (nJ n) (nJ o) (cT rfl) trivial)
 hd:= .inl rfl
 len:=⟨cL rfl,cL rfl⟩
 rep:=(cI _ (λ d z E=>W7 (iT k) (iT n) (iT o) hd hv hm z E) (.inl rfl))
theorem Q3(k:iF e)(n:iF q)(o:iF u)(hd:fj 8 [e,q,u] m)(hv:fh 8 m=b)(hm:b<=0x10FFFF):fL (bW #[76,39,92,e,q,u,39]) (Y b)where
 lit:=λ c i a=>by have f:cu c dr (i+3)=X:=a.acc (y:=3) rfl (vc k);have Q:cq c dr (i+3)=i+3:=cU f;have g:cu c de (i+3)=U:=a.acc (y:=3) rfl (iT k);have e1:cq c de (i+3)=i+4:=ec g;have v:cu c de (i+4)=U:=a.acc (y:=4) rfl (iT n);have e2:cq c de (i+4)=i+5:=ec v;have l:cu c de (i+5)=U:=a.acc (y:=5) rfl (iT o);have e3:cq c de (i+5)=i+6:=ec l;exact cI (i+2) (.inr (cZ (a 0 _ rfl) (a 1 _ rfl) rfl)) (.inr (i3 (a.acc (y:=2) rfl ⋯) (i+6) _ (by simp+arith only) (.inr (.inl (iC f (by rw[Q];exact g) (by rw[Q,e1,e2,e3]) rfl))) (a.acc (y:=6) rfl ⋯) rfl))
 ok:=gM (vi (cT rfl) (cT rfl) (cT rfl) (nJ k) (nJ n) (nJ o) (cT rfl) trivial)
 hd:= .inr rfl
 len:=⟨cL rfl,cL rfl⟩
 rep:=(cI _ (λ d z E=>SJ (iT k) (iT n) (iT o) hd hv hm z E) (.inr rfl))
theorem vt(k:iF e)(n:iF q)(o:iF u)(hd:fj 8 [e,q,u] m)(hv:fh 8 m=b)(hm:b<=0x10FFFF):lL (bW #[92,e,q,u]) (Y b):=λ wS hw=>by
 rcases hw with rfl|rfl;·exact gn _ rfl (.inr (fM (by show 4≠1;decide) _ (vI 92 e q u))) (Tb k n o hd hv hm)
 ·exact gn _ rfl (.inr (fM (by show 4≠1;decide) _ (vr 92 e q u))) (Q3 k n o hd hv hm)
theorem T8(k:gT e)(hd:fj 16 [e] m)(hv:fh 16 m=b)(hm:b<=0x10FFFF):fL (bW #[39,92,120,e,39]) (Y b)where
 lit:=λ c i a=>by have f:cu c dr (i+2)=X:=a.acc (y:=2) rfl ⋯;have Q:cq c dr (i+2)=i+2:=cU f;have g:cu c de (i+2)=X:=a.acc (y:=2) rfl ⋯;have e1:cq c de (i+2)=i+2:=cU g;have v:cu c vx (i+2)=U:=a.acc (y:=2) rfl ⋯;have e2:cq c vx (i+2)=i+3:=ec v;have l:cu c cA (i+3)=U:=a.acc (y:=3) rfl (i4 k);have e3:cq c cA (i+3)=i+4:=ec l;have r:cu c cA (i+4)=X:=a.acc (y:=4) rfl ⋯;have e4:cq c cA (i+4)=i+4:=cU r;exact cI (i+1) (.inl ⟨a 0 _ rfl,rfl⟩) (.inr (i3 (a.acc (y:=1) rfl ⋯) (i+4) _ (by simp+arith only) (.inr (.inr (.inl (i6 f (by rw[Q];exact g) (by rw[Q,e1];exact v) (by rw[Q,e1,e2,e3,e4]) rfl)))) (a.acc (y:=4) rfl ⋯) rfl))
 ok:=gM (jv (cT rfl) (cT rfl) (cT rfl) (mx k) (cT rfl) trivial)
 hd:= .inl rfl
 len:=⟨cL rfl,cL rfl⟩
 rep:=(cI _ (λ d z E=>W3 (i4 k) hd hv hm z E) (.inl rfl))
theorem Q2(k:gT e)(hd:fj 16 [e] m)(hv:fh 16 m=b)(hm:b<=0x10FFFF):fL (bW #[76,39,92,120,e,39]) (Y b)where
 lit:=λ c i a=>by have f:cu c dr (i+3)=X:=a.acc (y:=3) rfl ⋯;have Q:cq c dr (i+3)=i+3:=cU f;have g:cu c de (i+3)=X:=a.acc (y:=3) rfl ⋯;have e1:cq c de (i+3)=i+3:=cU g;have v:cu c vx (i+3)=U:=a.acc (y:=3) rfl ⋯;have e2:cq c vx (i+3)=i+4:=ec v;have l:cu c cA (i+4)=U:=a.acc (y:=4) rfl (i4 k);have e3:cq c cA (i+4)=i+5:=ec l;have r:cu c cA (i+5)=X:=a.acc (y:=5) rfl ⋯;have e4:cq c cA (i+5)=i+5:=cU r;exact cI (i+2) (.inr (cZ (a 0 _ rfl) (a 1 _ rfl) rfl)) (.inr (i3 (a.acc (y:=2) rfl ⋯) (i+5) _ (by simp+arith only) (.inr (.inr (.inl (i6 f (by rw[Q];exact g) (by rw[Q,e1];exact v) (by rw[Q,e1,e2,e3,e4]) rfl)))) (a.acc (y:=5) rfl ⋯) rfl))
 ok:=gM (kW (cT rfl) (cT rfl) (cT rfl) (cT rfl) (mx k) (cT rfl) trivial)
 hd:= .inr rfl
 len:=⟨cL rfl,cL rfl⟩
 rep:=(cI _ (λ d z E=>SI (i4 k) hd hv hm z E) (.inr rfl))
theorem z_(k:gT e)(hd:fj 16 [e] m)(hv:fh 16 m=b)(hm:b<=0x10FFFF):lL (bW #[92,120,e]) (Y b):=λ wS hw=>by
 rcases hw with rfl|rfl;·exact gn _ rfl (.inr (fM (by show 3≠1;decide) _ (K_ 92 120 e))) (T8 k hd hv hm)
 ·exact gn _ rfl (.inr (fM (by show 3≠1;decide) _ (y_ 92 120 e))) (Q2 k hd hv hm)
theorem T7(k:gT e)(n:gT q)(hd:fj 16 [e,q] m)(hv:fh 16 m=b)(hm:b<=0x10FFFF):fL (bW #[39,92,120,e,q,39]) (Y b)where
 lit:=λ c i a=>by have f:cu c dr (i+2)=X:=a.acc (y:=2) rfl ⋯;have Q:cq c dr (i+2)=i+2:=cU f;have g:cu c de (i+2)=X:=a.acc (y:=2) rfl ⋯;have e1:cq c de (i+2)=i+2:=cU g;have v:cu c vx (i+2)=U:=a.acc (y:=2) rfl ⋯;have e2:cq c vx (i+2)=i+3:=ec v;have l:cu c cA (i+3)=U:=a.acc (y:=3) rfl (i4 k);have e3:cq c cA (i+3)=i+4:=ec l;have r:cu c cA (i+4)=U:=a.acc (y:=4) rfl (i4 n);have e4:cq c cA (i+4)=i+5:=ec r;exact cI (i+1) (.inl ⟨a 0 _ rfl,rfl⟩) (.inr (i3 (a.acc (y:=1) rfl ⋯) (i+5) _ (by simp+arith only) (.inr (.inr (.inl (i6 f (by rw[Q];exact g) (by rw[Q,e1];exact v) (by rw[Q,e1,e2,e3,e4]) rfl)))) (a.acc (y:=5) rfl ⋯) rfl))
 ok:=gM (kW (cT rfl) (cT rfl) (cT rfl) (mx k) (mx n) (cT rfl) trivial)
 hd:= .inl rfl
 len:=⟨cL rfl,cL rfl⟩
 rep:=(cI _ (λ d z E=>W2 (i4 k) (i4 n) hd hv hm z E) (.inl rfl))
theorem Q1(k:gT e)(n:gT q)(hd:fj 16 [e,q] m)(hv:fh 16 m=b)(hm:b<=0x10FFFF):fL (bW #[76,39,92,120,e,q,39]) (Y b)where
 lit:=λ c i a=>by have f:cu c dr (i+3)=X:=a.acc (y:=3) rfl ⋯;have Q:cq c dr (i+3)=i+3:=cU f;have g:cu c de (i+3)=X:=a.acc (y:=3) rfl ⋯;have e1:cq c de (i+3)=i+3:=cU g;have v:cu c vx (i+3)=U:=a.acc (y:=3) rfl ⋯;have e2:cq c vx (i+3)=i+4:=ec v;have l:cu c cA (i+4)=U:=a.acc (y:=4) rfl (i4 k);have e3:cq c cA (i+4)=i+5:=ec l;have r:cu c cA (i+5)=U:=a.acc (y:=5) rfl (i4 n);have e4:cq c cA (i+5)=i+6:=ec r;exact cI (i+2) (.inr (cZ (a 0 _ rfl) (a 1 _ rfl) rfl)) (.inr (i3 (a.acc (y:=2) rfl ⋯) (i+6) _ (by simp+arith only) (.inr (.inr (.inl (i6 f (by rw[Q];exact g) (by rw[Q,e1];exact v) (by rw[Q,e1,e2,e3,e4]) rfl)))) (a.acc (y:=6) rfl ⋯) rfl))
 ok:=gM (vi (cT rfl) (cT rfl) (cT rfl) (cT rfl) (mx k) (mx n) (cT rfl) trivial)
 hd:= .inr rfl
 len:=⟨cL rfl,cL rfl⟩
 rep:=(cI _ (λ d z E=>SH (i4 k) (i4 n) hd hv hm z E) (.inr rfl))
theorem sd(k:gT e)(n:gT q)(hd:fj 16 [e,q] m)(hv:fh 16 m=b)(hm:b<=0x10FFFF):lL (bW #[92,120,e,q]) (Y b):=λ wS hw=>by
 rcases hw with rfl|rfl;·exact gn _ rfl (.inr (fM (by show 4≠1;decide) _ (vI 92 120 e q))) (T7 k n hd hv hm)
 ·exact gn _ rfl (.inr (fM (by show 4≠1;decide) _ (vr 92 120 e q))) (Q1 k n hd hv hm)
theorem Wo(k:gT e)(n:gT q)(o:gT u)(p:gT A)(hd:fj 16 [e,q,u,A] m)(hv:fh 16 m=b)(hm:b<=0x10FFFF):fL (bW #[39,92,117,e,q,u,A,39]) (Y b)where
 lit:=λ c i a=>by have f:cu c dr (i+2)=X:=a.acc (y:=2) rfl ⋯;have Q:cq c dr (i+2)=i+2:=cU f;have g:cu c de (i+2)=X:=a.acc (y:=2) rfl ⋯;have e1:cq c de (i+2)=i+2:=cU g;have v:cu c vx (i+2)=X:=a.acc (y:=2) rfl ⋯;have e2:cq c vx (i+2)=i+2:=cU v;have l:cu c vu (i+2)=U:=a.acc (y:=2) rfl ⋯;have e3:cq c vu (i+2)=i+3:=ec l;have r:cu c cA (i+3)=U:=a.acc (y:=3) rfl (i4 k);have e4:cq c cA (i+3)=i+4:=ec r;have y:cu c cA (i+4)=U:=a.acc (y:=4) rfl (i4 n);have O:cq c cA (i+4)=i+5:=ec y;have j:cu c cA (i+5)=U:=a.acc (y:=5) rfl (i4 o);have M:cq c cA (i+5)=i+6:=ec j;have s:cu c cA (i+6)=U:=a.acc (y:=6) rfl (i4 p);have B:cq c cA (i+6)=i+7:=ec s;exact cI (i+1) (.inl ⟨a 0 _ rfl,rfl⟩) (.inr (i3 (a.acc (y:=1) rfl ⋯) (i+7) _ (by simp+arith only) (.inr (.inr (.inr (.inl (jv f (by rw[Q];exact g) (by rw[Q,e1];exact v) (by rw[Q,e1,e2];exact l) (by rw[Q,e1,e2,e3,e4,O,M,B]) rfl))))) (a.acc (y:=7) rfl ⋯) rfl))
 ok:=gM (ē (cT rfl) (cT rfl) (cT rfl) (mx k) (mx n) (mx o) (mx p) (cT rfl) trivial)
 hd:= .inl rfl
 len:=⟨cL rfl,cL rfl⟩
 rep:=(cI _ (λ d z E=>Yx (i4 k) (i4 n) (i4 o) (i4 p) hd hv hm z E) (.inl rfl))
theorem T9(k:gT e)(n:gT q)(o:gT u)(p:gT A)(hd:fj 16 [e,q,u,A] m)(hv:fh 16 m=b)(hm:b<=0x10FFFF):fL (bW #[76,39,92,117,e,q,u,A,39]) (Y b)where
 lit:=λ c i a=>by have f:cu c dr (i+3)=X:=a.acc (y:=3) rfl ⋯;have Q:cq c dr (i+3)=i+3:=cU f;have g:cu c de (i+3)=X:=a.acc (y:=3) rfl ⋯;have e1:cq c de (i+3)=i+3:=cU g;have v:cu c vx (i+3)=X:=a.acc (y:=3) rfl ⋯;have e2:cq c vx (i+3)=i+3:=cU v;have l:cu c vu (i+3)=U:=a.acc (y:=3) rfl ⋯;have e3:cq c vu (i+3)=i+4:=ec l;have r:cu c cA (i+4)=U:=a.acc (y:=4) rfl (i4 k);have e4:cq c cA (i+4)=i+5:=ec r;have y:cu c cA (i+5)=U:=a.acc (y:=5) rfl (i4 n);have O:cq c cA (i+5)=i+6:=ec y;have j:cu c cA (i+6)=U:=a.acc (y:=6) rfl (i4 o);have M:cq c cA (i+6)=i+7:=ec j;have s:cu c cA (i+7)=U:=a.acc (y:=7) rfl (i4 p);have B:cq c cA (i+7)=i+8:=ec s;exact cI (i+2) (.inr (cZ (a 0 _ rfl) (a 1 _ rfl) rfl)) (.inr (i3 (a.acc (y:=2) rfl ⋯) (i+8) _ (by simp+arith only) (.inr (.inr (.inr (.inl (jv f (by rw[Q];exact g) (by rw[Q,e1];exact v) (by rw[Q,e1,e2];exact l) (by rw[Q,e1,e2,e3,e4,O,M,B]) rfl))))) (a.acc (y:=8) rfl ⋯) rfl))
 ok:=gM (DD (cT rfl) (cT rfl) (cT rfl) (cT rfl) (mx k) (mx n) (mx o) (mx p) (cT rfl) trivial)
 hd:= .inr rfl
 len:=⟨cL rfl,cL rfl⟩
 rep:=(cI _ (λ d z E=>W4 (i4 k) (i4 n) (i4 o) (i4 p) hd hv hm z E) (.inr rfl))
theorem pQ(k:gT e)(n:gT q)(o:gT u)(p:gT A)(hd:fj 16 [e,q,u,A] m)(hv:fh 16 m=b)(hm:b<=0x10FFFF):lL (bW #[92,117,e,q,u,A]) (Y b):=λ wS hw=>by
 rcases hw with rfl|rfl;·exact gn _ rfl (.inr (fM (by show 6≠1;decide) _ (Xa 92 117 e q u A))) (Wo k n o p hd hv hm)
 ·exact gn _ rfl (.inr (fM (by show 6≠1;decide) _ (Uw 92 117 e q u A))) (T9 k n o p hd hv hm)
theorem Tn:fL (bW #[39,92,120,39]) W where
 lit:=λ c i a=>by have f:cu c dr (i+2)=X:=a.acc (y:=2) rfl ⋯;have Q:cq c dr (i+2)=i+2:=cU f;have g:cu c de (i+2)=X:=a.acc (y:=2) rfl ⋯;have e1:cq c de (i+2)=i+2:=cU g;have v:cu c vx (i+2)=U:=a.acc (y:=2) rfl ⋯;have e2:cq c vx (i+2)=i+3:=ec v;have l:cu c cA (i+3)=X:=a.acc (y:=3) rfl ⋯;have e3:cq c cA (i+3)=i+3:=cU l;have r:cu c cA (i+3)=X:=a.acc (y:=3) rfl ⋯;have e4:cq c cA (i+3)=i+3:=cU r;exact cI (i+1) (.inl ⟨a 0 _ rfl,rfl⟩) (.inr (i3 (a.acc (y:=1) rfl ⋯) (i+3) _ (by simp+arith only) (.inr (.inr (.inl (i6 f (by rw[Q];exact g) (by rw[Q,e1];exact v) (by rw[Q,e1,e2,e3,e4]) rfl)))) (a.acc (y:=3) rfl ⋯) rfl))
 ok:=gM (i6 (cT rfl) (cT rfl) (cT rfl) (cT rfl) trivial)
 hd:= .inl rfl
 len:=⟨cL rfl,cL rfl⟩
 rep:=(mF _ (λ d z E=>Wg z E) _ (su 92 120))
theorem Qc:fL (bW #[76,39,92,120,39]) W where
 lit:=λ c i a=>by have f:cu c dr (i+3)=X:=a.acc (y:=3) rfl ⋯;have Q:cq c dr (i+3)=i+3:=cU f;have g:cu c de (i+3)=X:=a.acc (y:=3) rfl ⋯;have e1:cq c de (i+3)=i+3:=cU g;have v:cu c vx (i+3)=U:=a.acc (y:=3) rfl ⋯;have e2:cq c vx (i+3)=i+4:=ec v;have l:cu c cA (i+4)=X:=a.acc (y:=4) rfl ⋯;have e3:cq c cA (i+4)=i+4:=cU l;have r:cu c cA (i+4)=X:=a.acc (y:=4) rfl ⋯;have e4:cq c cA (i+4)=i+4:=cU r;exact cI (i+2) (.inr (cZ (a 0 _ rfl) (a 1 _ rfl) rfl)) (.inr (i3 (a.acc (y:=2) rfl ⋯) (i+4) _ (by simp+arith only) (.inr (.inr (.inl (i6 f (by rw[Q];exact g) (by rw[Q,e1];exact v) (by rw[Q,e1,e2,e3,e4]) rfl)))) (a.acc (y:=4) rfl ⋯) rfl))
 ok:=gM (jv (cT rfl) (cT rfl) (cT rfl) (cT rfl) (cT rfl) trivial)
 hd:= .inr rfl
 len:=⟨cL rfl,cL rfl⟩
 rep:=(mF _ (λ d z E=>SU z E) _ (sb 92 120))
theorem UP:lL (bW #[92,120]) W:=λ wS hw=>by
 rcases hw with rfl|rfl;·exact gn _ rfl (.inr (fM (by show 2≠1;decide) _ (su 92 120))) Tn
 ·exact gn _ rfl (.inr (fM (by show 2≠1;decide) _ (sb 92 120))) Qc
theorem Tj:fL (bW #[39,92,117,39]) W where
 lit:=λ c i a=>by have f:cu c dr (i+2)=X:=a.acc (y:=2) rfl ⋯;have Q:cq c dr (i+2)=i+2:=cU f;have g:cu c de (i+2)=X:=a.acc (y:=2) rfl ⋯;have e1:cq c de (i+2)=i+2:=cU g;have v:cu c vx (i+2)=X:=a.acc (y:=2) rfl ⋯;have e2:cq c vx (i+2)=i+2:=cU v;have l:cu c vu (i+2)=U:=a.acc (y:=2) rfl ⋯;have e3:cq c vu (i+2)=i+3:=ec l;have r:cu c cA (i+3)=X:=a.acc (y:=3) rfl ⋯;have e4:cq c cA (i+3)=i+3:=cU r;have y:cu c cA (i+3)=X:=a.acc (y:=3) rfl ⋯;have O:cq c cA (i+3)=i+3:=cU y;have j:cu c cA (i+3)=X:=a.acc (y:=3) rfl ⋯;have M:cq c cA (i+3)=i+3:=cU j;have s:cu c cA (i+3)=X:=a.acc (y:=3) rfl ⋯;have B:cq c cA (i+3)=i+3:=cU s;exact cI (i+1) (.inl ⟨a 0 _ rfl,rfl⟩) (.inr (i3 (a.acc (y:=1) rfl ⋯) (i+3) _ (by omega) (.inr (.inr (.inr (.inl (jv f (by rw[Q];exact g) (by rw[Q,e1];exact v) (by rw[Q,e1,e2];exact l) (by rw[Q,e1,e2,e3,e4,O,M,B]) rfl))))) (a.acc (y:=3) rfl ⋯) rfl))
 ok:=gM (i6 (cT rfl) (cT rfl) (cT rfl) (cT rfl) trivial)
 hd:= .inl rfl
 len:=⟨cL rfl,cL rfl⟩
 rep:=(mF _ (λ d z E=>Wf z E) _ (su 92 117))
theorem Qb:fL (bW #[76,39,92,117,39]) W where
 lit:=λ c i a=>by have f:cu c dr (i+3)=X:=a.acc (y:=3) rfl ⋯;have Q:cq c dr (i+3)=i+3:=cU f;have g:cu c de (i+3)=X:=a.acc (y:=3) rfl ⋯;have e1:cq c de (i+3)=i+3:=cU g;have v:cu c vx (i+3)=X:=a.acc (y:=3) rfl ⋯;have e2:cq c vx (i+3)=i+3:=cU v;have l:cu c vu (i+3)=U:=a.acc (y:=3) rfl ⋯;have e3:cq c vu (i+3)=i+4:=ec l;have r:cu c cA (i+4)=X:=a.acc (y:=4) rfl ⋯;have e4:cq c cA (i+4)=i+4:=cU r;have y:cu c cA (i+4)=X:=a.acc (y:=4) rfl ⋯;have O:cq c cA (i+4)=i+4:=cU y;have j:cu c cA (i+4)=X:=a.acc (y:=4) rfl ⋯;have M:cq c cA (i+4)=i+4:=cU j;have s:cu c cA (i+4)=X:=a.acc (y:=4) rfl ⋯;have B:cq c cA (i+4)=i+4:=cU s;exact cI (i+2) (.inr (cZ (a 0 _ rfl) (a 1 _ rfl) rfl)) (.inr (i3 (a.acc (y:=2) rfl ⋯) (i+4) _ (by omega) (.inr (.inr (.inr (.inl (jv f (by rw[Q];exact g) (by rw[Q,e1];exact v) (by rw[Q,e1,e2];exact l) (by rw[Q,e1,e2,e3,e4,O,M,B]) rfl))))) (a.acc (y:=4) rfl ⋯) rfl))
 ok:=gM (jv (cT rfl) (cT rfl) (cT rfl) (cT rfl) (cT rfl) trivial)
 hd:= .inr rfl
 len:=⟨cL rfl,cL rfl⟩
 rep:=(mF _ (λ d z E=>SS z E) _ (sb 92 117))
theorem UO:lL (bW #[92,117]) W:=λ wS hw=>by
 rcases hw with rfl|rfl;·exact gn _ rfl (.inr (fM (by show 2≠1;decide) _ (su 92 117))) Tj
 ·exact gn _ rfl (.inr (fM (by show 2≠1;decide) _ (sb 92 117))) Qb
theorem Ti:fL (bW #[39,92,117,65,39]) W where
 lit:=λ c i a=>by have f:cu c dr (i+2)=X:=a.acc (y:=2) rfl ⋯;have Q:cq c dr (i+2)=i+2:=cU f;have g:cu c de (i+2)=X:=a.acc (y:=2) rfl ⋯;have e1:cq c de (i+2)=i+2:=cU g;have v:cu c vx (i+2)=X:=a.acc (y:=2) rfl ⋯;have e2:cq c vx (i+2)=i+2:=cU v;have l:cu c vu (i+2)=U:=a.acc (y:=2) rfl ⋯;have e3:cq c vu (i+2)=i+3:=ec l;have r:cu c cA (i+3)=U:=a.acc (y:=3) rfl ⋯;have e4:cq c cA (i+3)=i+4:=ec r;have y:cu c cA (i+4)=X:=a.acc (y:=4) rfl ⋯;have O:cq c cA (i+4)=i+4:=cU y;have j:cu c cA (i+4)=X:=a.acc (y:=4) rfl ⋯;have M:cq c cA (i+4)=i+4:=cU j;have s:cu c cA (i+4)=X:=a.acc (y:=4) rfl ⋯;have B:cq c cA (i+4)=i+4:=cU s;exact cI (i+1) (.inl ⟨a 0 _ rfl,rfl⟩) (.inr (i3 (a.acc (y:=1) rfl ⋯) (i+4) _ (by simp+arith only) (.inr (.inr (.inr (.inl (jv f (by rw[Q];exact g) (by rw[Q,e1];exact v) (by rw[Q,e1,e2];exact l) (by rw[Q,e1,e2,e3,e4,O,M,B]) rfl))))) (a.acc (y:=4) rfl ⋯) rfl))
 ok:=gM (jv (cT rfl) (cT rfl) (cT rfl) (cT rfl) (cT rfl) trivial)
 hd:= .inl rfl
 len:=⟨cL rfl,cL rfl⟩
 rep:=(mF _ (λ d z E=>We z E) _ (K_ 92 117 65))
theorem Qa:fL (bW #[76,39,92,117,65,39]) W where
 lit:=λ c i a=>by have f:cu c dr (i+3)=X:=a.acc (y:=3) rfl ⋯;have Q:cq c dr (i+3)=i+3:=cU f;have g:cu c de (i+3)=X:=a.acc (y:=3) rfl ⋯;have e1:cq c de (i+3)=i+3:=cU g;have v:cu c vx (i+3)=X:=a.acc (y:=3) rfl ⋯;have e2:cq c vx (i+3)=i+3:=cU v;have l:cu c vu (i+3)=U:=a.acc (y:=3) rfl ⋯;have e3:cq c vu (i+3)=i+4:=ec l;have r:cu c cA (i+4)=U:=a.acc (y:=4) rfl ⋯;have e4:cq c cA (i+4)=i+5:=ec r;have y:cu c cA (i+5)=X:=a.acc (y:=5) rfl ⋯;have O:cq c cA (i+5)=i+5:=cU y;have j:cu c cA (i+5)=X:=a.acc (y:=5) rfl ⋯;have M:cq c cA (i+5)=i+5:=cU j;have s:cu c cA (i+5)=X:=a.acc (y:=5) rfl ⋯;have B:cq c cA (i+5)=i+5:=cU s;exact cI (i+2) (.inr (cZ (a 0 _ rfl) (a 1 _ rfl) rfl)) (.inr (i3 (a.acc (y:=2) rfl ⋯) (i+5) _ (by simp+arith only) (.inr (.inr (.inr (.inl (jv f (by rw[Q];exact g) (by rw[Q,e1];exact v) (by rw[Q,e1,e2];exact l) (by rw[Q,e1,e2,e3,e4,O,M,B]) rfl))))) (a.acc (y:=5) rfl ⋯) rfl))
 ok:=gM (kW (cT rfl) (cT rfl) (cT rfl) (cT rfl) (cT rfl) (cT rfl) trivial)
 hd:= .inr rfl
 len:=⟨cL rfl,cL rfl⟩
 rep:=(mF _ (λ d z E=>SR z E) _ (y_ 92 117 65))
theorem UN:lL (bW #[92,117,65]) W:=λ wS hw=>by
 rcases hw with rfl|rfl;·exact gn _ rfl (.inr (fM (by show 3≠1;decide) _ (K_ 92 117 65))) Ti
 ·exact gn _ rfl (.inr (fM (by show 3≠1;decide) _ (y_ 92 117 65))) Qa
theorem Th:fL (bW #[39,92,117,49,102,39]) W where
 lit:=λ c i a=>by have f:cu c dr (i+2)=X:=a.acc (y:=2) rfl ⋯;have Q:cq c dr (i+2)=i+2:=cU f;have g:cu c de (i+2)=X:=a.acc (y:=2) rfl ⋯;have e1:cq c de (i+2)=i+2:=cU g;have v:cu c vx (i+2)=X:=a.acc (y:=2) rfl ⋯;have e2:cq c vx (i+2)=i+2:=cU v;have l:cu c vu (i+2)=U:=a.acc (y:=2) rfl ⋯;have e3:cq c vu (i+2)=i+3:=ec l;have r:cu c cA (i+3)=U:=a.acc (y:=3) rfl ⋯;have e4:cq c cA (i+3)=i+4:=ec r;have y:cu c cA (i+4)=U:=a.acc (y:=4) rfl ⋯;have O:cq c cA (i+4)=i+5:=ec y;have j:cu c cA (i+5)=X:=a.acc (y:=5) rfl ⋯;have M:cq c cA (i+5)=i+5:=cU j;have s:cu c cA (i+5)=X:=a.acc (y:=5) rfl ⋯;have B:cq c cA (i+5)=i+5:=cU s;exact cI (i+1) (.inl ⟨a 0 _ rfl,rfl⟩) (.inr (i3 (a.acc (y:=1) rfl ⋯) (i+5) _ (by simp+arith only) (.inr (.inr (.inr (.inl (jv f (by rw[Q];exact g) (by rw[Q,e1];exact v) (by rw[Q,e1,e2];exact l) (by rw[Q,e1,e2,e3,e4,O,M,B]) rfl))))) (a.acc (y:=5) rfl ⋯) rfl))
 ok:=gM (kW (cT rfl) (cT rfl) (cT rfl) (cT rfl) (cT rfl) (cT rfl) trivial)
 hd:= .inl rfl
 len:=⟨cL rfl,cL rfl⟩
 rep:=(mF _ (λ d z E=>Wd z E) _ (vI 92 117 49 102))
theorem Q9:fL (bW #[76,39,92,117,49,102,39]) W where
 lit:=λ c i a=>by have f:cu c dr (i+3)=X:=a.acc (y:=3) rfl ⋯;have Q:cq c dr (i+3)=i+3:=cU f;have g:cu c de (i+3)=X:=a.acc (y:=3) rfl ⋯;have e1:cq c de (i+3)=i+3:=cU g;have v:cu c vx (i+3)=X:=a.acc (y:=3) rfl ⋯;have e2:cq c vx (i+3)=i+3:=cU v;have l:cu c vu (i+3)=U:=a.acc (y:=3) rfl ⋯;have e3:cq c vu (i+3)=i+4:=ec l;have r:cu c cA (i+4)=U:=a.acc (y:=4) rfl ⋯;have e4:cq c cA (i+4)=i+5:=ec r;have y:cu c cA (i+5)=U:=a.acc (y:=5) rfl ⋯;have O:cq c cA (i+5)=i+6:=ec y;have j:cu c cA (i+6)=X:=a.acc (y:=6) rfl ⋯;have M:cq c cA (i+6)=i+6:=cU j;have s:cu c cA (i+6)=X:=a.acc (y:=6) rfl ⋯;have B:cq c cA (i+6)=i+6:=cU s;exact cI (i+2) (.inr (cZ (a 0 _ rfl) (a 1 _ rfl) rfl)) (.inr (i3 (a.acc (y:=2) rfl ⋯) (i+6) _ (by simp+arith only) (.inr (.inr (.inr (.inl (jv f (by rw[Q];exact g) (by rw[Q,e1];exact v) (by rw[Q,e1,e2];exact l) (by rw[Q,e1,e2,e3,e4,O,M,B]) rfl))))) (a.acc (y:=6) rfl ⋯) rfl))
 ok:=gM (vi (cT rfl) (cT rfl) (cT rfl) (cT rfl) (cT rfl) (cT rfl) (cT rfl) trivial)
 hd:= .inr rfl
 len:=⟨cL rfl,cL rfl⟩
 rep:=(mF _ (λ d z E=>SQ z E) _ (vr 92 117 49 102))
theorem UM:lL (bW #[92,117,49,102]) W:=λ wS hw=>by
 rcases hw with rfl|rfl;·exact gn _ rfl (.inr (fM (by show 4≠1;decide) _ (vI 92 117 49 102))) Th
 ·exact gn _ rfl (.inr (fM (by show 4≠1;decide) _ (vr 92 117 49 102))) Q9
theorem Tg:fL (bW #[39,92,117,48,48,101,39]) W where
 lit:=λ c i a=>by have f:cu c dr (i+2)=X:=a.acc (y:=2) rfl ⋯;have Q:cq c dr (i+2)=i+2:=cU f;have g:cu c de (i+2)=X:=a.acc (y:=2) rfl ⋯;have e1:cq c de (i+2)=i+2:=cU g;have v:cu c vx (i+2)=X:=a.acc (y:=2) rfl ⋯;have e2:cq c vx (i+2)=i+2:=cU v;have l:cu c vu (i+2)=U:=a.acc (y:=2) rfl ⋯;have e3:cq c vu (i+2)=i+3:=ec l;have r:cu c cA (i+3)=U:=a.acc (y:=3) rfl ⋯;have e4:cq c cA (i+3)=i+4:=ec r;have y:cu c cA (i+4)=U:=a.acc (y:=4) rfl ⋯;have O:cq c cA (i+4)=i+5:=ec y;have j:cu c cA (i+5)=U:=a.acc (y:=5) rfl ⋯;have M:cq c cA (i+5)=i+6:=ec j;have s:cu c cA (i+6)=X:=a.acc (y:=6) rfl ⋯;have B:cq c cA (i+6)=i+6:=cU s;exact cI (i+1) (.inl ⟨a 0 _ rfl,rfl⟩) (.inr (i3 (a.acc (y:=1) rfl ⋯) (i+6) _ (by simp+arith only) (.inr (.inr (.inr (.inl (jv f (by rw[Q];exact g) (by rw[Q,e1];exact v) (by rw[Q,e1,e2];exact l) (by rw[Q,e1,e2,e3,e4,O,M,B]) rfl))))) (a.acc (y:=6) rfl ⋯) rfl))
 ok:=gM (vi (cT rfl) (cT rfl) (cT rfl) (cT rfl) (cT rfl) (cT rfl) (cT rfl) trivial)
 hd:= .inl rfl
 len:=⟨cL rfl,cL rfl⟩
 rep:=(mF _ (λ d z E=>Wc z E) _ (HJ 92 117 48 48 101))
theorem Q8:fL (bW #[76,39,92,117,48,48,101,39]) W where
 lit:=λ c i a=>by have f:cu c dr (i+3)=X:=a.acc (y:=3) rfl ⋯;have Q:cq c dr (i+3)=i+3:=cU f;have g:cu c de (i+3)=X:=a.acc (y:=3) rfl ⋯;have e1:cq c de (i+3)=i+3:=cU g;have v:cu c vx (i+3)=X:=a.acc (y:=3) rfl ⋯;have e2:cq c vx (i+3)=i+3:=cU v;have l:cu c vu (i+3)=U:=a.acc (y:=3) rfl ⋯;have e3:cq c vu (i+3)=i+4:=ec l;have r:cu c cA (i+4)=U:=a.acc (y:=4) rfl ⋯;have e4:cq c cA (i+4)=i+5:=ec r;have y:cu c cA (i+5)=U:=a.acc (y:=5) rfl ⋯;have O:cq c cA (i+5)=i+6:=ec y;have j:cu c cA (i+6)=U:=a.acc (y:=6) rfl ⋯;have M:cq c cA (i+6)=i+7:=ec j;have s:cu c cA (i+7)=X:=a.acc (y:=7) rfl ⋯;have B:cq c cA (i+7)=i+7:=cU s;exact cI (i+2) (.inr (cZ (a 0 _ rfl) (a 1 _ rfl) rfl)) (.inr (i3 (a.acc (y:=2) rfl ⋯) (i+7) _ (by simp+arith only) (.inr (.inr (.inr (.inl (jv f (by rw[Q];exact g) (by rw[Q,e1];exact v) (by rw[Q,e1,e2];exact l) (by rw[Q,e1,e2,e3,e4,O,M,B]) rfl))))) (a.acc (y:=7) rfl ⋯) rfl))
 ok:=gM (ē (cT rfl) (cT rfl) (cT rfl) (cT rfl) (cT rfl) (cT rfl) (cT rfl) (cT rfl) trivial)
 hd:= .inr rfl
 len:=⟨cL rfl,cL rfl⟩
 rep:=(mF _ (λ d z E=>SP z E) _ (GO 92 117 48 48 101))
theorem UL:lL (bW #[92,117,48,48,101]) W:=λ wS hw=>by
 rcases hw with rfl|rfl;·exact gn _ rfl (.inr (fM (by show 5≠1;decide) _ (HJ 92 117 48 48 101))) Tg
 ·exact gn _ rfl (.inr (fM (by show 5≠1;decide) _ (GO 92 117 48 48 101))) Q8
theorem Tf:fL (bW #[39,92,85,39]) W where
 lit:=λ c i a=>by have f:cu c dr (i+2)=X:=a.acc (y:=2) rfl ⋯;have Q:cq c dr (i+2)=i+2:=cU f;have g:cu c de (i+2)=X:=a.acc (y:=2) rfl ⋯;have e1:cq c de (i+2)=i+2:=cU g;have v:cu c vx (i+2)=X:=a.acc (y:=2) rfl ⋯;have e2:cq c vx (i+2)=i+2:=cU v;have l:cu c vu (i+2)=X:=a.acc (y:=2) rfl ⋯;have e3:cq c vu (i+2)=i+2:=cU l;have r:cu c vU (i+2)=U:=a.acc (y:=2) rfl ⋯;have e4:cq c vU (i+2)=i+3:=ec r;have y:cu c cA (i+3)=X:=a.acc (y:=3) rfl ⋯;have O:cq c cA (i+3)=i+3:=cU y;have j:cu c cA (i+3)=X:=a.acc (y:=3) rfl ⋯;have M:cq c cA (i+3)=i+3:=cU j;have s:cu c cA (i+3)=X:=a.acc (y:=3) rfl ⋯;have B:cq c cA (i+3)=i+3:=cU s;have m:cu c cA (i+3)=X:=a.acc (y:=3) rfl ⋯;have e:cq c cA (i+3)=i+3:=cU m;have u:cu c cA (i+3)=X:=a.acc (y:=3) rfl ⋯;have p:cq c cA (i+3)=i+3:=cU u;have b:cu c cA (i+3)=X:=a.acc (y:=3) rfl ⋯;have t:cq c cA (i+3)=i+3:=cU b;have n:cu c cA (i+3)=X:=a.acc (y:=3) rfl ⋯;have q:cq c cA (i+3)=i+3:=cU n;have k:cu c cA (i+3)=X:=a.acc (y:=3) rfl ⋯;have o:cq c cA (i+3)=i+3:=cU k;exact cI (i+1) (.inl ⟨a 0 _ rfl,rfl⟩) (.inr (i3 (a.acc (y:=1) rfl ⋯) (i+3) _ (by omega) (.inr (.inr (.inr (.inr (kW f (by rw[Q];exact g) (by rw[Q,e1];exact v) (by rw[Q,e1,e2];exact l) (by rw[Q,e1,e2,e3];exact r) (by rw[Q,e1,e2,e3,e4,O,M,B,e]) rfl))))) (a.acc (y:=3) rfl ⋯) rfl))
 ok:=gM (i6 (cT rfl) (cT rfl) (cT rfl) (cT rfl) trivial)
 hd:= .inl rfl
 len:=⟨cL rfl,cL rfl⟩
 rep:=(mF _ (λ d z E=>Wb z E) _ (su 92 85))
theorem Q7:fL (bW #[76,39,92,85,39]) W where
 lit:=λ c i a=>by have f:cu c dr (i+3)=X:=a.acc (y:=3) rfl ⋯;have Q:cq c dr (i+3)=i+3:=cU f;have g:cu c de (i+3)=X:=a.acc (y:=3) rfl ⋯;have e1:cq c de (i+3)=i+3:=cU g;have v:cu c vx (i+3)=X:=a.acc (y:=3) rfl ⋯;have e2:cq c vx (i+3)=i+3:=cU v;have l:cu c vu (i+3)=X:=a.acc (y:=3) rfl ⋯;have e3:cq c vu (i+3)=i+3:=cU l;have r:cu c vU (i+3)=U:=a.acc (y:=3) rfl ⋯;have e4:cq c vU (i+3)=i+4:=ec r;have y:cu c cA (i+4)=X:=a.acc (y:=4) rfl ⋯;have O:cq c cA (i+4)=i+4:=cU y;have j:cu c cA (i+4)=X:=a.acc (y:=4) rfl ⋯;have M:cq c cA (i+4)=i+4:=cU j;have s:cu c cA (i+4)=X:=a.acc (y:=4) rfl ⋯;have B:cq c cA (i+4)=i+4:=cU s;have m:cu c cA (i+4)=X:=a.acc (y:=4) rfl ⋯;have e:cq c cA (i+4)=i+4:=cU m;have u:cu c cA (i+4)=X:=a.acc (y:=4) rfl ⋯;have p:cq c cA (i+4)=i+4:=cU u;have b:cu c cA (i+4)=X:=a.acc (y:=4) rfl ⋯;have t:cq c cA (i+4)=i+4:=cU b;have n:cu c cA (i+4)=X:=a.acc (y:=4) rfl ⋯;have q:cq c cA (i+4)=i+4:=cU n;have k:cu c cA (i+4)=X:=a.acc (y:=4) rfl ⋯;have o:cq c cA (i+4)=i+4:=cU k;exact cI (i+2) (.inr (cZ (a 0 _ rfl) (a 1 _ rfl) rfl)) (.inr (i3 (a.acc (y:=2) rfl ⋯) (i+4) _ (by omega) (.inr (.inr (.inr (.inr (kW f (by rw[Q];exact g) (by rw[Q,e1];exact v) (by rw[Q,e1,e2];exact l) (by rw[Q,e1,e2,e3];exact r) (by rw[Q,e1,e2,e3,e4,O,M,B,e]) rfl))))) (a.acc (y:=4) rfl ⋯) rfl))
 ok:=gM (jv (cT rfl) (cT rfl) (cT rfl) (cT rfl) (cT rfl) trivial)
 hd:= .inr rfl
 len:=⟨cL rfl,cL rfl⟩
 rep:=(mF _ (λ d z E=>SO z E) _ (sb 92 85))
theorem UK:lL (bW #[92,85]) W:=λ wS hw=>by
 rcases hw with rfl|rfl;·exact gn _ rfl (.inr (fM (by show 2≠1;decide) _ (su 92 85))) Tf
 ·exact gn _ rfl (.inr (fM (by show 2≠1;decide) _ (sb 92 85))) Q7
theorem Te:fL (bW #[39,92,85,49,50,39]) W where
 lit:=λ c i a=>by have f:cu c dr (i+2)=X:=a.acc (y:=2) rfl ⋯;have Q:cq c dr (i+2)=i+2:=cU f;have g:cu c de (i+2)=X:=a.acc (y:=2) rfl ⋯;have e1:cq c de (i+2)=i+2:=cU g;have v:cu c vx (i+2)=X:=a.acc (y:=2) rfl ⋯;have e2:cq c vx (i+2)=i+2:=cU v;have l:cu c vu (i+2)=X:=a.acc (y:=2) rfl ⋯;have e3:cq c vu (i+2)=i+2:=cU l;have r:cu c vU (i+2)=U:=a.acc (y:=2) rfl ⋯;have e4:cq c vU (i+2)=i+3:=ec r;have y:cu c cA (i+3)=U:=a.acc (y:=3) rfl ⋯;have O:cq c cA (i+3)=i+4:=ec y;have j:cu c cA (i+4)=U:=a.acc (y:=4) rfl ⋯;have M:cq c cA (i+4)=i+5:=ec j;have s:cu c cA (i+5)=X:=a.acc (y:=5) rfl ⋯;have B:cq c cA (i+5)=i+5:=cU s;have m:cu c cA (i+5)=X:=a.acc (y:=5) rfl ⋯;have e:cq c cA (i+5)=i+5:=cU m;have u:cu c cA (i+5)=X:=a.acc (y:=5) rfl ⋯;have p:cq c cA (i+5)=i+5:=cU u;have b:cu c cA (i+5)=X:=a.acc (y:=5) rfl ⋯;have t:cq c cA (i+5)=i+5:=cU b;have n:cu c cA (i+5)=X:=a.acc (y:=5) rfl ⋯;have q:cq c cA (i+5)=i+5:=cU n;have k:cu c cA (i+5)=X:=a.acc (y:=5) rfl ⋯;have o:cq c cA (i+5)=i+5:=cU k;exact cI (i+1) (.inl ⟨a 0 _ rfl,rfl⟩) (.inr (i3 (a.acc (y:=1) rfl ⋯) (i+5) _ (by simp+arith only) (.inr (.inr (.inr (.inr (kW f (by rw[Q];exact g) (by rw[Q,e1];exact v) (by rw[Q,e1,e2];exact l) (by rw[Q,e1,e2,e3];exact r) (by rw[Q,e1,e2,e3,e4,O,M,B,e]) rfl))))) (a.acc (y:=5) rfl ⋯) rfl))
 ok:=gM (kW (cT rfl) (cT rfl) (cT rfl) (cT rfl) (cT rfl) (cT rfl) trivial)
 hd:= .inl rfl
 len:=⟨cL rfl,cL rfl⟩
 rep:=(mF _ (λ d z E=>Wa z E) _ (vI 92 85 49 50))
theorem Q6:fL (bW #[76,39,92,85,49,50,39]) W where
 lit:=λ c i a=>by have f:cu c dr (i+3)=X:=a.acc (y:=3) rfl ⋯;have Q:cq c dr (i+3)=i+3:=cU f;have g:cu c de (i+3)=X:=a.acc (y:=3) rfl ⋯;have e1:cq c de (i+3)=i+3:=cU g;have v:cu c vx (i+3)=X:=a.acc (y:=3) rfl ⋯;have e2:cq c vx (i+3)=i+3:=cU v;have l:cu c vu (i+3)=X:=a.acc (y:=3) rfl ⋯;have e3:cq c vu (i+3)=i+3:=cU l;have r:cu c vU (i+3)=U:=a.acc (y:=3) rfl ⋯;have e4:cq c vU (i+3)=i+4:=ec r;have y:cu c cA (i+4)=U:=a.acc (y:=4) rfl ⋯;have O:cq c cA (i+4)=i+5:=ec y;have j:cu c cA (i+5)=U:=a.acc (y:=5) rfl ⋯;have M:cq c cA (i+5)=i+6:=ec j;have s:cu c cA (i+6)=X:=a.acc (y:=6) rfl ⋯;have B:cq c cA (i+6)=i+6:=cU s;have m:cu c cA (i+6)=X:=a.acc (y:=6) rfl ⋯;have e:cq c cA (i+6)=i+6:=cU m;have u:cu c cA (i+6)=X:=a.acc (y:=6) rfl ⋯;have p:cq c cA (i+6)=i+6:=cU u;have b:cu c cA (i+6)=X:=a.acc (y:=6) rfl ⋯;have t:cq c cA (i+6)=i+6:=cU b;have n:cu c cA (i+6)=X:=a.acc (y:=6) rfl ⋯;have q:cq c cA (i+6)=i+6:=cU n;have k:cu c cA (i+6)=X:=a.acc (y:=6) rfl ⋯;have o:cq c cA (i+6)=i+6:=cU k;exact cI (i+2) (.inr (cZ (a 0 _ rfl) (a 1 _ rfl) rfl)) (.inr (i3 (a.acc (y:=2) rfl ⋯) (i+6) _ (by simp+arith only) (.inr (.inr (.inr (.inr (kW f (by rw[Q];exact g) (by rw[Q,e1];exact v) (by rw[Q,e1,e2];exact l) (by rw[Q,e1,e2,e3];exact r) (by rw[Q,e1,e2,e3,e4,O,M,B,e]) rfl))))) (a.acc (y:=6) rfl ⋯) rfl))
 ok:=gM (vi (cT rfl) (cT rfl) (cT rfl) (cT rfl) (cT rfl) (cT rfl) (cT rfl) trivial)
 hd:= .inr rfl
 len:=⟨cL rfl,cL rfl⟩
 rep:=(mF _ (λ d z E=>SN z E) _ (vr 92 85 49 50))
theorem UJ:lL (bW #[92,85,49,50]) W:=λ wS hw=>by
 rcases hw with rfl|rfl;·exact gn _ rfl (.inr (fM (by show 4≠1;decide) _ (vI 92 85 49 50))) Te
 ·exact gn _ rfl (.inr (fM (by show 4≠1;decide) _ (vr 92 85 49 50))) Q6
end
end Mine
end
section
open PySem PySem.W PySem.W.X PySem.Calls
namespace Mine
section
variable{x:FA}{d:Rc}
theorem UA{m:Int}{t:Nat}(Q:m.fmod (300:Nat)=(t:Nat))(e1:(decide (32+t=39)||decide (32+t=92))=X)(hm:32+t<=0x10FFFF)(hc:d.c= .call (R 581) ⟨[I 0 (cG 0 d.c),I m (cG 1 d.c)],[]⟩)(ae:d.sm=eS (bW #[32+t]) (32+t)):cy x d:=by exact dJ hc ae 4000 (nd 16 25 0x1002100222111002100111111) [cV m 300 t Q,Ig 1 (32+t) X e1,lU (32+t) hm] [2] [11,6] ⋯
theorem Uz{m:Int}{t:Nat}(Q:m.fmod (300:Nat)=(t:Nat))(e1:(decide (32+t=39)||decide (32+t=92))=U)(hm:32+t<=0x10FFFF)(hc:d.c= .call (R 581) ⟨[I 0 (cG 0 d.c),I m (cG 1 d.c)],[]⟩)(ae:d.sm=eS (bW #[92,32+t]) (32+t)):cy x d:=by exact dJ hc ae 4000 (nd 16 25 0x1002100222111002100111111) [cV m 300 t Q,Ig 1 (32+t) U e1,lU (32+t) hm] [2] [12,6] ⋯
theorem Rj{m:Int}(Q:m.fmod (12:Nat)=(0:Nat))(hc:d.c= .call (R 581) ⟨[I 1 (cG 0 d.c),I m (cG 1 d.c)],[]⟩)(ae:d.sm=eS (bW #[92,97]) 7):cy x d:=by exact dJ hc ae 4000 (nd 64 67 0x10000410410524100d04004004104034100100104100d04004004100030030c300f00f00f3cf081040000001000041041041) [cV m 12 0 Q] [18] [33,5] ⋯
theorem Ri{m:Int}(Q:m.fmod (12:Nat)=(1:Nat))(hc:d.c= .call (R 581) ⟨[I 1 (cG 0 d.c),I m (cG 1 d.c)],[]⟩)(ae:d.sm=eS (bW #[92,98]) 8):cy x d:=by exact dJ hc ae 4000 (nd 64 67 0x100004104105241011040040041040441001001041011040040041000400410400f00f00f3cf081040000001000041041041) [cV m 12 1 Q] [18] [33,7] ⋯
theorem Rh{m:Int}(Q:m.fmod (12:Nat)=(2:Nat))(hc:d.c= .call (R 581) ⟨[I 1 (cG 0 d.c),I m (cG 1 d.c)],[]⟩)(ae:d.sm=eS (bW #[92,102]) 12):cy x d:=by exact dJ hc ae 4000 (nd 64 67 0x100004104105241015040040041040541001001041015040040041000500514500f00f00f3cf081040000001000041041041) [cV m 12 2 Q] [18] [33,9] ⋯
theorem Rg{m:Int}(Q:m.fmod (12:Nat)=(3:Nat))(hc:d.c= .call (R 581) ⟨[I 1 (cG 0 d.c),I m (cG 1 d.c)],[]⟩)(ae:d.sm=eS (bW #[92,110]) 10):cy x d:=by exact dJ hc ae 4000 (nd 64 67 0x100004104105241019040040041040641001001041019040040041000600618600f00f00f3cf081040000001000041041041) [cV m 12 3 Q] [18] [33,11] ⋯
theorem Rf{m:Int}(Q:m.fmod (12:Nat)=(4:Nat))(hc:d.c= .call (R 581) ⟨[I 1 (cG 0 d.c),I m (cG 1 d.c)],[]⟩)(ae:d.sm=eS (bW #[92,114]) 13):cy x d:=by exact dJ hc ae 4000 (nd 64 67 0x10000410410524101d04004004104074100100104101d04004004100070071c700f00f00f3cf081040000001000041041041) [cV m 12 4 Q] [18] [33,13] ⋯
theorem Rd{m:Int}(Q:m.fmod (12:Nat)=(5:Nat))(hc:d.c= .call (R 581) ⟨[I 1 (cG 0 d.c),I m (cG 1 d.c)],[]⟩)(ae:d.sm=eS (bW #[92,116]) 9):cy x d:=by exact dJ hc ae 4000 (nd 64 67 0x100004104105241021040040041040841001001041021040040041000800820800f00f00f3cf081040000001000041041041) [cV m 12 5 Q] [18] [33,15] ⋯
theorem R9{m:Int}(Q:m.fmod (12:Nat)=(6:Nat))(hc:d.c= .call (R 581) ⟨[I 1 (cG 0 d.c),I m (cG 1 d.c)],[]⟩)(ae:d.sm=eS (bW #[92,118]) 11):cy x d:=by exact dJ hc ae 4000 (nd 64 67 0x100004104105241025040040041040941001001041025040040041000900924900f00f00f3cf081040000001000041041041) [cV m 12 6 Q] [18] [33,17] ⋯
theorem R8{m:Int}(Q:m.fmod (12:Nat)=(7:Nat))(hc:d.c= .call (R 581) ⟨[I 1 (cG 0 d.c),I m (cG 1 d.c)],[]⟩)(ae:d.sm=eS (bW #[92,101]) 27):cy x d:=by exact dJ hc ae 4000 (nd 64 67 0x100004104105241029040040041040a41001001041029040040041000a00a28a00f00f00f3cf081040000001000041041041) [cV m 12 7 Q] [18] [33,19] ⋯
theorem R7{m:Int}(Q:m.fmod (12:Nat)=(8:Nat))(hc:d.c= .call (R 581) ⟨[I 1 (cG 0 d.c),I m (cG 1 d.c)],[]⟩)(ae:d.sm=eS (bW #[92,92]) 92):cy x d:=by exact dJ hc ae 4000 (nd 64 67 0x10000410410524102d040040041040b4100100104102d040040041000b00b2cb00f00f00f3cf081040000001000041041041) [cV m 12 8 Q] [18] [33,21] ⋯
theorem R6{m:Int}(Q:m.fmod (12:Nat)=(9:Nat))(hc:d.c= .call (R 581) ⟨[I 1 (cG 0 d.c),I m (cG 1 d.c)],[]⟩)(ae:d.sm=eS (bW #[92,34]) 34):cy x d:=by exact dJ hc ae 4000 (nd 64 67 0x100004104105241031040040041040c41001001041031040040041000c00c30c00f00f00f3cf081040000001000041041041) [cV m 12 9 Q] [18] [33,23] ⋯
theorem Oj{m:Int}(Q:m.fmod (12:Nat)=(10:Nat))(hc:d.c= .call (R 581) ⟨[I 1 (cG 0 d.c),I m (cG 1 d.c)],[]⟩)(ae:d.sm=eS (bW #[92,39]) 39):cy x d:=by exact dJ hc ae 4000 (nd 64 67 0x100004104105241035040040041040d41001001041035040040041000d00d34d00f00f00f3cf081040000001000041041041) [cV m 12 10 Q] [18] [33,25] ⋯
theorem Oi{m:Int}(Q:m.fmod (12:Nat)=(11:Nat))(hc:d.c= .call (R 581) ⟨[I 1 (cG 0 d.c),I m (cG 1 d.c)],[]⟩)(ae:d.sm=eS (bW #[92,63]) 63):cy x d:=by exact dJ hc ae 4000 (nd 64 67 0x100004104105241039040040041040e41001001041039040040041000e00e38e00f00f00f3cf081040000001000041041041) [cV m 12 11 Q] [18] [33,27] ⋯
theorem Oh{m:Int}{k:Int}{b i v o:Nat}(Q:m.fmod (512:Nat)=(b:Nat))(e1:m.fdiv (512:Nat)=k)(e2:k.fmod (3:Nat)=(0:Nat))(j:decide (0<b)=X)(a:b%8=i)(k0:d7.cps[i]?=Y v)(F:b/8=o)(P:i<2^63)(g1:decide (0<o)=X)(hc:d.c= .call (R 581) ⟨[I 2 (cG 0 d.c),I m (cG 1 d.c)],[]⟩)(ae:d.sm=eS (bW #[92,v]) b):cy x d:=by exact dJ hc ae 4000 (nd 16 82 0x1002002000020022022222220022222200200002002202222222222100022110112100100100111111) [cV m 512 b Q,eP m 512 k e1 iU,cV k 3 0 e2,cY b X j,dG b 8 i a,dF d7 i v P k0,dH b 8 o F ia,cY o X g1] [2] [34,6] ⋯
theorem Og{m:Int}{k:Int}{b i v o:Nat}(Q:m.fmod (512:Nat)=(b:Nat))(e1:m.fdiv (512:Nat)=k)(e2:k.fmod (3:Nat)=(0:Nat))(j:decide (0<b)=U)(a:b%8=i)(k0:d7.cps[i]?=Y v)(F:b/8=o)(P:i<2^63)(g1:decide (0<o)=X)(hc:d.c= .call (R 581) ⟨[I 2 (cG 0 d.c),I m (cG 1 d.c)],[]⟩)(ae:d.sm=eS (bW #[92,v]) b):cy x d:=by exact dJ hc ae 4000 (nd 16 72 0x100200200002002202222222002222222202222222222100022110112100100100111111) [cV m 512 b Q,eP m 512 k e1 iU,cV k 3 0 e2,cY b U j,dG b 8 i a,dF d7 i v P k0,dH b 8 o F ia,cY o X g1] [2] [32,6] ⋯
theorem Of{m:Int}{k:Int}{b i v o r e p:Nat}(Q:m.fmod (512:Nat)=(b:Nat))(e1:m.fdiv (512:Nat)=k)(e2:k.fmod (3:Nat)=(0:Nat))(j:decide (0<b)=U)(a:b%8=i)(k0:d7.cps[i]?=Y v)(F:b/8=o)(P:i<2^63)(g1:decide (0<o)=U)(c:o%8=r)(k1:d7.cps[r]?=Y e)(q1:o/8=p)(l1:r<2^63)(O:decide (0<p)=X)(hc:d.c= .call (R 581) ⟨[I 2 (cG 0 d.c),I m (cG 1 d.c)],[]⟩)(ae:d.sm=eS (bW #[92,e,v]) b):cy x d:=by exact dJ hc ae 4000 (nd 16 90 0x100200200002002202222222002222222202222222002222222202222222222100022110112100100100111111) [cV m 512 b Q,eP m 512 k e1 iU,cV k 3 0 e2,cY b U j,dG b 8 i a,dF d7 i v P k0,dH b 8 o F ia,cY o U g1,dG o 8 r c,dF d7 r e l1 k1,dH o 8 p q1 ia,cY p X O] [2] [39,6] ⋯
theorem Oe{m:Int}{k:Int}{b i v o r e p t q y:Nat}(Q:m.fmod (512:Nat)=(b:Nat))(e1:m.fdiv (512:Nat)=k)(e2:k.fmod (3:Nat)=(0:Nat))(j:decide (0<b)=U)(a:b%8=i)(k0:d7.cps[i]?=Y v)(F:b/8=o)(P:i<2^63)(g1:decide (0<o)=U)(c:o%8=r)(k1:d7.cps[r]?=Y e)(q1:o/8=p)(l1:r<2^63)(O:decide (0<p)=U)(f:p%8=t)(k2:d7.cps[t]?=Y q)(q2:p/8=y)(l2:t<2^63)(g3:decide (0<y)=X)(hc:d.c= .call (R 581) ⟨[I 2 (cG 0 d.c),I m (cG 1 d.c)],[]⟩)(ae:d.sm=eS (bW #[92,q,e,v]) b):cy x d:=by exact dJ hc ae 4000 (nd 16 108 0x100200200002002202222222002222222202222222002222222202222222002222222202222222222100022110112100100100111111) [cV m 512 b Q,eP m 512 k e1 iU,cV k 3 0 e2,cY b U j,dG b 8 i a,dF d7 i v P k0,dH b 8 o F ia,cY o U g1,dG o 8 r c,dF d7 r e l1 k1,dH o 8 p q1 ia,cY p U O,dG p 8 t f,dF d7 t q l2 k2,dH p 8 y q2 ia,cY y X g3] [2] [46,6] ⋯
theorem Od{m:Int}{k:Int}{b i v o r e p:Nat}(Q:m.fmod (512:Nat)=(b:Nat))(e1:m.fdiv (512:Nat)=k)(e2:k.fmod (3:Nat)=(1:Nat))(j:decide (0<b)=X)(a:b%8=i)(k0:d7.cps[i]?=Y v)(F:b/8=o)(P:i<2^63)(g1:decide (0<o)=X)(c:o%8=r)(k1:d7.cps[r]?=Y e)(q1:o/8=p)(l1:r<2^63)(O:decide (0<p)=X)(hc:d.c= .call (R 581) ⟨[I 2 (cG 0 d.c),I m (cG 1 d.c)],[]⟩)(ae:d.sm=eS (bW #[92,e,v]) b):cy x d:=by exact dJ hc ae 4000 (nd 16 110 0x10020020000200220222222200222222002000020022022222220022222200200002002202222222222100022110112100100100111111) [cV m 512 b Q,eP m 512 k e1 iU,cV k 3 1 e2,cY b X j,dG b 8 i a,dF d7 i v P k0,dH b 8 o F ia,cY o X g1,dG o 8 r c,dF d7 r e l1 k1,dH o 8 p q1 ia,cY p X O] [2] [43,6] ⋯
theorem Oc{m:Int}{k:Int}{b i v o r e p:Nat}(Q:m.fmod (512:Nat)=(b:Nat))(e1:m.fdiv (512:Nat)=k)(e2:k.fmod (3:Nat)=(1:Nat))(j:decide (0<b)=U)(a:b%8=i)(k0:d7.cps[i]?=Y v)(F:b/8=o)(P:i<2^63)(g1:decide (0<o)=X)(c:o%8=r)(k1:d7.cps[r]?=Y e)(q1:o/8=p)(l1:r<2^63)(O:decide (0<p)=X)(hc:d.c= .call (R 581) ⟨[I 2 (cG 0 d.c),I m (cG 1 d.c)],[]⟩)(ae:d.sm=eS (bW #[92,e,v]) b):cy x d:=by exact dJ hc ae 4000 (nd 16 100 0x1002002000020022022222220022222200200002002202222222002222222202222222222100022110112100100100111111) [cV m 512 b Q,eP m 512 k e1 iU,cV k 3 1 e2,cY b U j,dG b 8 i a,dF d7 i v P k0,dH b 8 o F ia,cY o X g1,dG o 8 r c,dF d7 r e l1 k1,dH o 8 p q1 ia,cY p X O] [2] [41,6] ⋯
theorem Ob{m:Int}{k:Int}{b i v o r e p:Nat}(Q:m.fmod (512:Nat)=(b:Nat))(e1:m.fdiv (512:Nat)=k)(e2:k.fmod (3:Nat)=(1:Nat))(j:decide (0<b)=U)(a:b%8=i)(k0:d7.cps[i]?=Y v)(F:b/8=o)(P:i<2^63)(g1:decide (0<o)=U)(c:o%8=r)(k1:d7.cps[r]?=Y e)(q1:o/8=p)(l1:r<2^63)(O:decide (0<p)=X)(hc:d.c= .call (R 581) ⟨[I 2 (cG 0 d.c),I m (cG 1 d.c)],[]⟩)(ae:d.sm=eS (bW #[92,e,v]) b):cy x d:=by exact dJ hc ae 4000 (nd 16 90 0x100200200002002202222222002222222202222222002222222202222222222100022110112100100100111111) [cV m 512 b Q,eP m 512 k e1 iU,cV k 3 1 e2,cY b U j,dG b 8 i a,dF d7 i v P k0,dH b 8 o F ia,cY o U g1,dG o 8 r c,dF d7 r e l1 k1,dH o 8 p q1 ia,cY p X O] [2] [39,6] ⋯
theorem Oa{m:Int}{k:Int}{b i v o r e p t q y:Nat}(Q:m.fmod (512:Nat)=(b:Nat))(e1:m.fdiv (512:Nat)=k)(e2:k.fmod (3:Nat)=(1:Nat))(j:decide (0<b)=U)(a:b%8=i)(k0:d7.cps[i]?=Y v)(F:b/8=o)(P:i<2^63)(g1:decide (0<o)=U)(c:o%8=r)(k1:d7.cps[r]?=Y e)(q1:o/8=p)(l1:r<2^63)(O:decide (0<p)=U)(f:p%8=t)(k2:d7.cps[t]?=Y q)(q2:p/8=y)(l2:t<2^63)(g3:decide (0<y)=X)(hc:d.c= .call (R 581) ⟨[I 2 (cG 0 d.c),I m (cG 1 d.c)],[]⟩)(ae:d.sm=eS (bW #[92,q,e,v]) b):cy x d:=by exact dJ hc ae 4000 (nd 16 108 0x100200200002002202222222002222222202222222002222222202222222002222222202222222222100022110112100100100111111) [cV m 512 b Q,eP m 512 k e1 iU,cV k 3 1 e2,cY b U j,dG b 8 i a,dF d7 i v P k0,dH b 8 o F ia,cY o U g1,dG o 8 r c,dF d7 r e l1 k1,dH o 8 p q1 ia,cY p U O,dG p 8 t f,dF d7 t q l2 k2,dH p 8 y q2 ia,cY y X g3] [2] [46,6] ⋯
theorem O9{m:Int}{k:Int}{b i v o r e p t q y:Nat}(Q:m.fmod (512:Nat)=(b:Nat))(e1:m.fdiv (512:Nat)=k)(e2:k.fmod (3:Nat)=(2:Nat))(j:decide (0<b)=X)(a:b%8=i)(k0:d7.cps[i]?=Y v)(F:b/8=o)(P:i<2^63)(g1:decide (0<o)=X)(c:o%8=r)(k1:d7.cps[r]?=Y e)(q1:o/8=p)(l1:r<2^63)(O:decide (0<p)=X)(f:p%8=t)(k2:d7.cps[t]?=Y q)(q2:p/8=y)(l2:t<2^63)(g3:decide (0<y)=X)(hc:d.c= .call (R 581) ⟨[I 2 (cG 0 d.c),I m (cG 1 d.c)],[]⟩)(ae:d.sm=eS (bW #[92,q,e,v]) b):cy x d:=by exact dJ hc ae 4000 (nd 16 138 0x100200200002002202222222002222220020000200220222222200222222002000020022022222220022222200200002002202222222222100022110112100100100111111) [cV m 512 b Q,eP m 512 k e1 iU,cV k 3 2 e2,cY b X j,dG b 8 i a,dF d7 i v P k0,dH b 8 o F ia,cY o X g1,dG o 8 r c,dF d7 r e l1 k1,dH o 8 p q1 ia,cY p X O,dG p 8 t f,dF d7 t q l2 k2,dH p 8 y q2 ia,cY y X g3] [2] [52,6] ⋯
theorem O8{m:Int}{k:Int}{b i v o r e p t q y:Nat}(Q:m.fmod (512:Nat)=(b:Nat))(e1:m.fdiv (512:Nat)=k)(e2:k.fmod (3:Nat)=(2:Nat))(j:decide (0<b)=U)(a:b%8=i)(k0:d7.cps[i]?=Y v)(F:b/8=o)(P:i<2^63)(g1:decide (0<o)=X)(c:o%8=r)(k1:d7.cps[r]?=Y e)(q1:o/8=p)(l1:r<2^63)(O:decide (0<p)=X)(f:p%8=t)(k2:d7.cps[t]?=Y q)(q2:p/8=y)(l2:t<2^63)(g3:decide (0<y)=X)(hc:d.c= .call (R 581) ⟨[I 2 (cG 0 d.c),I m (cG 1 d.c)],[]⟩)(ae:d.sm=eS (bW #[92,q,e,v]) b):cy x d:=by exact dJ hc ae 4000 (nd 16 128 0x10020020000200220222222200222222002000020022022222220022222200200002002202222222002222222202222222222100022110112100100100111111) [cV m 512 b Q,eP m 512 k e1 iU,cV k 3 2 e2,cY b U j,dG b 8 i a,dF d7 i v P k0,dH b 8 o F ia,cY o X g1,dG o 8 r c,dF d7 r e l1 k1,dH o 8 p q1 ia,cY p X O,dG p 8 t f,dF d7 t q l2 k2,dH p 8 y q2 ia,cY y X g3] [2] [50,6] ⋯
theorem O7{m:Int}{k:Int}{b i v o r e p t q y:Nat}(Q:m.fmod (512:Nat)=(b:Nat))(e1:m.fdiv (512:Nat)=k)(e2:k.fmod (3:Nat)=(2:Nat))(j:decide (0<b)=U)(a:b%8=i)(k0:d7.cps[i]?=Y v)(F:b/8=o)(P:i<2^63)(g1:decide (0<o)=U)(c:o%8=r)(k1:d7.cps[r]?=Y e)(q1:o/8=p)(l1:r<2^63)(O:decide (0<p)=X)(f:p%8=t)(k2:d7.cps[t]?=Y q)(q2:p/8=y)(l2:t<2^63)(g3:decide (0<y)=X)(hc:d.c= .call (R 581) ⟨[I 2 (cG 0 d.c),I m (cG 1 d.c)],[]⟩)(ae:d.sm=eS (bW #[92,q,e,v]) b):cy x d:=by exact dJ hc ae 4000 (nd 16 118 0x1002002000020022022222220022222200200002002202222222002222222202222222002222222202222222222100022110112100100100111111) [cV m 512 b Q,eP m 512 k e1 iU,cV k 3 2 e2,cY b U j,dG b 8 i a,dF d7 i v P k0,dH b 8 o F ia,cY o U g1,dG o 8 r c,dF d7 r e l1 k1,dH o 8 p q1 ia,cY p X O,dG p 8 t f,dF d7 t q l2 k2,dH p 8 y q2 ia,cY y X g3] [2] [48,6] ⋯
theorem O6{m:Int}{k:Int}{b i v o r e p t q y:Nat}(Q:m.fmod (512:Nat)=(b:Nat))(e1:m.fdiv (512:Nat)=k)(e2:k.fmod (3:Nat)=(2:Nat))(j:decide (0<b)=U)(a:b%8=i)(k0:d7.cps[i]?=Y v)(F:b/8=o)(P:i<2^63)(g1:decide (0<o)=U)(c:o%8=r)(k1:d7.cps[r]?=Y e)(q1:o/8=p)(l1:r<2^63)(O:decide (0<p)=U)(f:p%8=t)(k2:d7.cps[t]?=Y q)(q2:p/8=y)(l2:t<2^63)(g3:decide (0<y)=X)(hc:d.c= .call (R 581) ⟨[I 2 (cG 0 d.c),I m (cG 1 d.c)],[]⟩)(ae:d.sm=eS (bW #[92,q,e,v]) b):cy x d:=by exact dJ hc ae 4000 (nd 16 108 0x100200200002002202222222002222222202222222002222222202222222002222222202222222222100022110112100100100111111) [cV m 512 b Q,eP m 512 k e1 iU,cV k 3 2 e2,cY b U j,dG b 8 i a,dF d7 i v P k0,dH b 8 o F ia,cY o U g1,dG o 8 r c,dF d7 r e l1 k1,dH o 8 p q1 ia,cY p U O,dG p 8 t f,dF d7 t q l2 k2,dH p 8 y q2 ia,cY y X g3] [2] [46,6] ⋯
theorem MG{m:Int}{k l:Int}{b i v o:Nat}(Q:m.fmod (256:Nat)=(b:Nat))(e1:m.fdiv (512:Nat)=k)(e2:k.fmod (2:Nat)=(0:Nat))(e3:m.fdiv (256:Nat)=l)(e4:l.fmod (2:Nat)=(0:Nat))(j:decide (0<b)=X)(a:b%16=i)(k0:ek.cps[i]?=Y v)(F:b/16=o)(P:i<2^63)(g1:decide (0<o)=X)(hc:d.c= .call (R 581) ⟨[I 3 (cG 0 d.c),I m (cG 1 d.c)],[]⟩)(ae:d.sm=eS (bW #[92,120,v]) b):cy x d:=by exact dJ hc ae 4000 (nd 16 99 0x100400400004002404424444004224440040000400240444444444410030303332211000022110112100100100100111111) [cV m 256 b Q,eP m 512 k e1 iU,cV k 2 0 e2,eP m 256 l e3 nN,cV l 2 0 e4,cY b X j,dG b 16 i a,dF ek i v P k0,dH b 16 o F ew,cY o X g1] [4] [40,7] ⋯
theorem MF{m:Int}{k l:Int}{b i v o:Nat}(Q:m.fmod (256:Nat)=(b:Nat))(e1:m.fdiv (512:Nat)=k)(e2:k.fmod (2:Nat)=(0:Nat))(e3:m.fdiv (256:Nat)=l)(e4:l.fmod (2:Nat)=(0:Nat))(j:decide (0<b)=U)(a:b%16=i)(k0:ek.cps[i]?=Y v)(F:b/16=o)(P:i<2^63)(g1:decide (0<o)=X)(hc:d.c= .call (R 581) ⟨[I 3 (cG 0 d.c),I m (cG 1 d.c)],[]⟩)(ae:d.sm=eS (bW #[92,120,v]) b):cy x d:=by exact dJ hc ae 4000 (nd 16 89 0x10040040000400240442444400422444240444444444410030303332211000022110112100100100100111111) [cV m 256 b Q,eP m 512 k e1 iU,cV k 2 0 e2,eP m 256 l e3 nN,cV l 2 0 e4,cY b U j,dG b 16 i a,dF ek i v P k0,dH b 16 o F ew,cY o X g1] [4] [38,7] ⋯
theorem ME{m:Int}{k l:Int}{b i v o r e p:Nat}(Q:m.fmod (256:Nat)=(b:Nat))(e1:m.fdiv (512:Nat)=k)(e2:k.fmod (2:Nat)=(0:Nat))(e3:m.fdiv (256:Nat)=l)(e4:l.fmod (2:Nat)=(0:Nat))(j:decide (0<b)=U)(a:b%16=i)(k0:ek.cps[i]?=Y v)(F:b/16=o)(P:i<2^63)(g1:decide (0<o)=U)(c:o%16=r)(k1:ek.cps[r]?=Y e)(q1:o/16=p)(l1:r<2^63)(O:decide (0<p)=X)(hc:d.c= .call (R 581) ⟨[I 3 (cG 0 d.c),I m (cG 1 d.c)],[]⟩)(ae:d.sm=eS (bW #[92,120,e,v]) b):cy x d:=by exact dJ hc ae 4000 (nd 16 107 0x10040040000400240442444400422444240442444400422444240444444444410030303332211000022110112100100100100111111) [cV m 256 b Q,eP m 512 k e1 iU,cV k 2 0 e2,eP m 256 l e3 nN,cV l 2 0 e4,cY b U j,dG b 16 i a,dF ek i v P k0,dH b 16 o F ew,cY o U g1,dG o 16 r c,dF ek r e l1 k1,dH o 16 p q1 ew,cY p X O] [4] [45,7] ⋯
theorem MD{m:Int}{k l:Int}{b i v o:Nat}(Q:m.fmod (256:Nat)=(b:Nat))(e1:m.fdiv (512:Nat)=k)(e2:k.fmod (2:Nat)=(0:Nat))(e3:m.fdiv (256:Nat)=l)(e4:l.fmod (2:Nat)=(1:Nat))(j:decide (0<b)=X)(a:b%16=i)(k0:el.cps[i]?=Y v)(F:b/16=o)(P:i<2^63)(g1:decide (0<o)=X)(hc:d.c= .call (R 581) ⟨[I 3 (cG 0 d.c),I m (cG 1 d.c)],[]⟩)(ae:d.sm=eS (bW #[92,120,v]) b):cy x d:=by exact dJ hc ae 4000 (nd 16 99 0x100400400004002404424444004224440040000400240444444444410030303332211000022110112100100100100111111) [cV m 256 b Q,eP m 512 k e1 iU,cV k 2 0 e2,eP m 256 l e3 nN,cV l 2 1 e4,cY b X j,dG b 16 i a,dF el i v P k0,dH b 16 o F ew,cY o X g1] [4] [40,7] ⋯
theorem MC{m:Int}{k l:Int}{b i v o:Nat}(Q:m.fmod (256:Nat)=(b:Nat))(e1:m.fdiv (512:Nat)=k)(e2:k.fmod (2:Nat)=(0:Nat))(e3:m.fdiv (256:Nat)=l)(e4:l.fmod (2:Nat)=(1:Nat))(j:decide (0<b)=U)(a:b%16=i)(k0:el.cps[i]?=Y v)(F:b/16=o)(P:i<2^63)(g1:decide (0<o)=X)(hc:d.c= .call (R 581) ⟨[I 3 (cG 0 d.c),I m (cG 1 d.c)],[]⟩)(ae:d.sm=eS (bW #[92,120,v]) b):cy x d:=by exact dJ hc ae 4000 (nd 16 89 0x10040040000400240442444400422444240444444444410030303332211000022110112100100100100111111) [cV m 256 b Q,eP m 512 k e1 iU,cV k 2 0 e2,eP m 256 l e3 nN,cV l 2 1 e4,cY b U j,dG b 16 i a,dF el i v P k0,dH b 16 o F ew,cY o X g1] [4] [38,7] ⋯
theorem MB{m:Int}{k l:Int}{b i v o r e p:Nat}(Q:m.fmod (256:Nat)=(b:Nat))(e1:m.fdiv (512:Nat)=k)(e2:k.fmod (2:Nat)=(0:Nat))(e3:m.fdiv (256:Nat)=l)(e4:l.fmod (2:Nat)=(1:Nat))(j:decide (0<b)=U)(a:b%16=i)(k0:el.cps[i]?=Y v)(F:b/16=o)(P:i<2^63)(g1:decide (0<o)=U)(c:o%16=r)(k1:el.cps[r]?=Y e)(q1:o/16=p)(l1:r<2^63)(O:decide (0<p)=X)(hc:d.c= .call (R 581) ⟨[I 3 (cG 0 d.c),I m (cG 1 d.c)],[]⟩)(ae:d.sm=eS (bW #[92,120,e,v]) b):cy x d:=by exact dJ hc ae 4000 (nd 16 107 0x10040040000400240442444400422444240442444400422444240444444444410030303332211000022110112100100100100111111) [cV m 256 b Q,eP m 512 k e1 iU,cV k 2 0 e2,eP m 256 l e3 nN,cV l 2 1 e4,cY b U j,dG b 16 i a,dF el i v P k0,dH b 16 o F ew,cY o U g1,dG o 16 r c,dF el r e l1 k1,dH o 16 p q1 ew,cY p X O] [4] [45,7] ⋯
theorem MA{m:Int}{k l:Int}{b i v o r e p:Nat}(Q:m.fmod (256:Nat)=(b:Nat))(e1:m.fdiv (512:Nat)=k)(e2:k.fmod (2:Nat)=(1:Nat))(e3:m.fdiv (256:Nat)=l)(e4:l.fmod (2:Nat)=(0:Nat))(j:decide (0<b)=X)(a:b%16=i)(k0:ek.cps[i]?=Y v)(F:b/16=o)(P:i<2^63)(g1:decide (0<o)=X)(c:o%16=r)(k1:ek.cps[r]?=Y e)(q1:o/16=p)(l1:r<2^63)(O:decide (0<p)=X)(hc:d.c= .call (R 581) ⟨[I 3 (cG 0 d.c),I m (cG 1 d.c)],[]⟩)(ae:d.sm=eS (bW #[92,120,e,v]) b):cy x d:=by exact dJ hc ae 4000 (nd 16 127 0x1004004000040024044244440042244400400004002404424444004224440040000400240444444444410030303332211000022110112100100100100111111) [cV m 256 b Q,eP m 512 k e1 iU,cV k 2 1 e2,eP m 256 l e3 nN,cV l 2 0 e4,cY b X j,dG b 16 i a,dF ek i v P k0,dH b 16 o F ew,cY o X g1,dG o 16 r c,dF ek r e l1 k1,dH o 16 p q1 ew,cY p X O] [4] [49,7] ⋯
theorem Mz{m:Int}{k l:Int}{b i v o r e p:Nat}(Q:m.fmod (256:Nat)=(b:Nat))(e1:m.fdiv (512:Nat)=k)(e2:k.fmod (2:Nat)=(1:Nat))(e3:m.fdiv (256:Nat)=l)(e4:l.fmod (2:Nat)=(0:Nat))(j:decide (0<b)=U)(a:b%16=i)(k0:ek.cps[i]?=Y v)(F:b/16=o)(P:i<2^63)(g1:decide (0<o)=X)(c:o%16=r)(k1:ek.cps[r]?=Y e)(q1:o/16=p)(l1:r<2^63)(O:decide (0<p)=X)(hc:d.c= .call (R 581) ⟨[I 3 (cG 0 d.c),I m (cG 1 d.c)],[]⟩)(ae:d.sm=eS (bW #[92,120,e,v]) b):cy x d:=by exact dJ hc ae 4000 (nd 16 117 0x100400400004002404424444004224440040000400240442444400422444240444444444410030303332211000022110112100100100100111111) [cV m 256 b Q,eP m 512 k e1 iU,cV k 2 1 e2,eP m 256 l e3 nN,cV l 2 0 e4,cY b U j,dG b 16 i a,dF ek i v P k0,dH b 16 o F ew,cY o X g1,dG o 16 r c,dF ek r e l1 k1,dH o 16 p q1 ew,cY p X O] [4] [47,7] ⋯
theorem My{m:Int}{k l:Int}{b i v o r e p:Nat}(Q:m.fmod (256:Nat)=(b:Nat))(e1:m.fdiv (512:Nat)=k)(e2:k.fmod (2:Nat)=(1:Nat))(e3:m.fdiv (256:Nat)=l)(e4:l.fmod (2:Nat)=(0:Nat))(j:decide (0<b)=U)(a:b%16=i)(k0:ek.cps[i]?=Y v)(F:b/16=o)(P:i<2^63)(g1:decide (0<o)=U)(c:o%16=r)(k1:ek.cps[r]?=Y e)(q1:o/16=p)(l1:r<2^63)(O:decide (0<p)=X)(hc:d.c= .call (R 581) ⟨[I 3 (cG 0 d.c),I m (cG 1 d.c)],[]⟩)(ae:d.sm=eS (bW #[92,120,e,v]) b):cy x d:=by exact dJ hc ae 4000 (nd 16 107 0x10040040000400240442444400422444240442444400422444240444444444410030303332211000022110112100100100100111111) [cV m 256 b Q,eP m 512 k e1 iU,cV k 2 1 e2,eP m 256 l e3 nN,cV l 2 0 e4,cY b U j,dG b 16 i a,dF ek i v P k0,dH b 16 o F ew,cY o U g1,dG o 16 r c,dF ek r e l1 k1,dH o 16 p q1 ew,cY p X O] [4] [45,7] ⋯
theorem Mx{m:Int}{k l:Int}{b i v o r e p:Nat}(Q:m.fmod (256:Nat)=(b:Nat))(e1:m.fdiv (512:Nat)=k)(e2:k.fmod (2:Nat)=(1:Nat))(e3:m.fdiv (256:Nat)=l)(e4:l.fmod (2:Nat)=(1:Nat))(j:decide (0<b)=X)(a:b%16=i)(k0:el.cps[i]?=Y v)(F:b/16=o)(P:i<2^63)(g1:decide (0<o)=X)(c:o%16=r)(k1:el.cps[r]?=Y e)(q1:o/16=p)(l1:r<2^63)(O:decide (0<p)=X)(hc:d.c= .call (R 581) ⟨[I 3 (cG 0 d.c),I m (cG 1 d.c)],[]⟩)(ae:d.sm=eS (bW #[92,120,e,v]) b):cy x d:=by exact dJ hc ae 4000 (nd 16 127 0x1004004000040024044244440042244400400004002404424444004224440040000400240444444444410030303332211000022110112100100100100111111) [cV m 256 b Q,eP m 512 k e1 iU,cV k 2 1 e2,eP m 256 l e3 nN,cV l 2 1 e4,cY b X j,dG b 16 i a,dF el i v P k0,dH b 16 o F ew,cY o X g1,dG o 16 r c,dF el r e l1 k1,dH o 16 p q1 ew,cY p X O] [4] [49,7] ⋯
theorem Mw{m:Int}{k l:Int}{b i v o r e p:Nat}(Q:m.fmod (256:Nat)=(b:Nat))(e1:m.fdiv (512:Nat)=k)(e2:k.fmod (2:Nat)=(1:Nat))(e3:m.fdiv (256:Nat)=l)(e4:l.fmod (2:Nat)=(1:Nat))(j:decide (0<b)=U)(a:b%16=i)(k0:el.cps[i]?=Y v)(F:b/16=o)(P:i<2^63)(g1:decide (0<o)=X)(c:o%16=r)(k1:el.cps[r]?=Y e)(q1:o/16=p)(l1:r<2^63)(O:decide (0<p)=X)(hc:d.c= .call (R 581) ⟨[I 3 (cG 0 d.c),I m (cG 1 d.c)],[]⟩)(ae:d.sm=eS (bW #[92,120,e,v]) b):cy x d:=by exact dJ hc ae 4000 (nd 16 117 0x100400400004002404424444004224440040000400240442444400422444240444444444410030303332211000022110112100100100100111111) [cV m 256 b Q,eP m 512 k e1 iU,cV k 2 1 e2,eP m 256 l e3 nN,cV l 2 1 e4,cY b U j,dG b 16 i a,dF el i v P k0,dH b 16 o F ew,cY o X g1,dG o 16 r c,dF el r e l1 k1,dH o 16 p q1 ew,cY p X O] [4] [47,7] ⋯
theorem Mv{m:Int}{k l:Int}{b i v o r e p:Nat}(Q:m.fmod (256:Nat)=(b:Nat))(e1:m.fdiv (512:Nat)=k)(e2:k.fmod (2:Nat)=(1:Nat))(e3:m.fdiv (256:Nat)=l)(e4:l.fmod (2:Nat)=(1:Nat))(j:decide (0<b)=U)(a:b%16=i)(k0:el.cps[i]?=Y v)(F:b/16=o)(P:i<2^63)(g1:decide (0<o)=U)(c:o%16=r)(k1:el.cps[r]?=Y e)(q1:o/16=p)(l1:r<2^63)(O:decide (0<p)=X)(hc:d.c= .call (R 581) ⟨[I 3 (cG 0 d.c),I m (cG 1 d.c)],[]⟩)(ae:d.sm=eS (bW #[92,120,e,v]) b):cy x d:=by exact dJ hc ae 4000 (nd 16 107 0x10040040000400240442444400422444240442444400422444240444444444410030303332211000022110112100100100100111111) [cV m 256 b Q,eP m 512 k e1 iU,cV k 2 1 e2,eP m 256 l e3 nN,cV l 2 1 e4,cY b U j,dG b 16 i a,dF el i v P k0,dH b 16 o F ew,cY o U g1,dG o 16 r c,dF el r e l1 k1,dH o 16 p q1 ew,cY p X O] [4] [45,7] ⋯
theorem O5{m:Int}{l:Int}{b i v o r e p t q y k u n:Nat}(Q:m.fmod (53248:Nat)=(b:Nat))(e3:m.fdiv (53248:Nat)=l)(e4:l.fmod (2:Nat)=(0:Nat))(j:decide (0<b)=X)(a:b%16=i)(k0:ek.cps[i]?=Y v)(F:b/16=o)(P:i<2^63)(g1:decide (0<o)=X)(c:o%16=r)(k1:ek.cps[r]?=Y e)(q1:o/16=p)(l1:r<2^63)(O:decide (0<p)=X)(f:p%16=t)(k2:ek.cps[t]?=Y q)(q2:p/16=y)(l2:t<2^63)(g3:decide (0<y)=X)(g:y%16=k)(k3:ek.cps[k]?=Y u)(q3:y/16=n)(B:k<2^63)(g4:decide (0<n)=X)(hc:d.c= .call (R 581) ⟨[I 4 (cG 0 d.c),I m (cG 1 d.c)],[]⟩)(ae:d.sm=eS (bW #[92,117,u,q,e,v]) b):cy x d:=by exact dJ hc ae 4000 (nd 16 181 0x1004004000040024044244440042244400400004002404424444004224440040000400240442444400422444004000040024044244440042244400400004002404444444444100303033322110010112100100100100100111111) [cV m 53248 b Q,eP m 53248 l e3 pG,cV l 2 0 e4,cY b X j,dG b 16 i a,dF ek i v P k0,dH b 16 o F ew,cY o X g1,dG o 16 r c,dF ek r e l1 k1,dH o 16 p q1 ew,cY p X O,dG p 16 t f,dF ek t q l2 k2,dH p 16 y q2 ew,cY y X g3,dG y 16 k g,dF ek k u B k3,dH y 16 n q3 ew,cY n X g4] [4] [63,8] ⋯
theorem O4{m:Int}{l:Int}{b i v o r e p t q y k u n:Nat}(Q:m.fmod (53248:Nat)=(b:Nat))(e3:m.fdiv (53248:Nat)=l)(e4:l.fmod (2:Nat)=(0:Nat))(j:decide (0<b)=U)(a:b%16=i)(k0:ek.cps[i]?=Y v)(F:b/16=o)(P:i<2^63)(g1:decide (0<o)=X)(c:o%16=r)(k1:ek.cps[r]?=Y e)(q1:o/16=p)(l1:r<2^63)(O:decide (0<p)=X)(f:p%16=t)(k2:ek.cps[t]?=Y q)(q2:p/16=y)(l2:t<2^63)(g3:decide (0<y)=X)(g:y%16=k)(k3:ek.cps[k]?=Y u)(q3:y/16=n)(B:k<2^63)(g4:decide (0<n)=X)(hc:d.c= .call (R 581) ⟨[I 4 (cG 0 d.c),I m (cG 1 d.c)],[]⟩)(ae:d.sm=eS (bW #[92,117,u,q,e,v]) b):cy x d:=by exact dJ hc ae 4000 (nd 16 171 0x100400400004002404424444004224440040000400240442444400422444004000040024044244440042244400400004002404424444004224442404444444444100303033322110010112100100100100100111111) [cV m 53248 b Q,eP m 53248 l e3 pG,cV l 2 0 e4,cY b U j,dG b 16 i a,dF ek i v P k0,dH b 16 o F ew,cY o X g1,dG o 16 r c,dF ek r e l1 k1,dH o 16 p q1 ew,cY p X O,dG p 16 t f,dF ek t q l2 k2,dH p 16 y q2 ew,cY y X g3,dG y 16 k g,dF ek k u B k3,dH y 16 n q3 ew,cY n X g4] [4] [61,8] ⋯
theorem O3{m:Int}{l:Int}{b i v o r e p t q y k u n:Nat}(Q:m.fmod (53248:Nat)=(b:Nat))(e3:m.fdiv (53248:Nat)=l)(e4:l.fmod (2:Nat)=(0:Nat))(j:decide (0<b)=U)(a:b%16=i)(k0:ek.cps[i]?=Y v)(F:b/16=o)(P:i<2^63)(g1:decide (0<o)=U)(c:o%16=r)(k1:ek.cps[r]?=Y e)(q1:o/16=p)(l1:r<2^63)(O:decide (0<p)=X)(f:p%16=t)(k2:ek.cps[t]?=Y q)(q2:p/16=y)(l2:t<2^63)(g3:decide (0<y)=X)(g:y%16=k)(k3:ek.cps[k]?=Y u)(q3:y/16=n)(B:k<2^63)(g4:decide (0<n)=X)(hc:d.c= .call (R 581) ⟨[I 4 (cG 0 d.c),I m (cG 1 d.c)],[]⟩)(ae:d.sm=eS (bW #[92,117,u,q,e,v]) b):cy x d:=by exact dJ hc ae 4000 (nd 16 161 0x10040040000400240442444400422444004000040024044244440042244400400004002404424444004224442404424444004224442404444444444100303033322110010112100100100100100111111) [cV m 53248 b Q,eP m 53248 l e3 pG,cV l 2 0 e4,cY b U j,dG b 16 i a,dF ek i v P k0,dH b 16 o F ew,cY o U g1,dG o 16 r c,dF ek r e l1 k1,dH o 16 p q1 ew,cY p X O,dG p 16 t f,dF ek t q l2 k2,dH p 16 y q2 ew,cY y X g3,dG y 16 k g,dF ek k u B k3,dH y 16 n q3 ew,cY n X g4] [4] [59,8] ⋯
theorem O2{m:Int}{l:Int}{b i v o r e p t q y k u n:Nat}(Q:m.fmod (53248:Nat)=(b:Nat))(e3:m.fdiv (53248:Nat)=l)(e4:l.fmod (2:Nat)=(0:Nat))(j:decide (0<b)=U)(a:b%16=i)(k0:ek.cps[i]?=Y v)(F:b/16=o)(P:i<2^63)(g1:decide (0<o)=U)(c:o%16=r)(k1:ek.cps[r]?=Y e)(q1:o/16=p)(l1:r<2^63)(O:decide (0<p)=U)(f:p%16=t)(k2:ek.cps[t]?=Y q)(q2:p/16=y)(l2:t<2^63)(g3:decide (0<y)=X)(g:y%16=k)(k3:ek.cps[k]?=Y u)(q3:y/16=n)(B:k<2^63)(g4:decide (0<n)=X)(hc:d.c= .call (R 581) ⟨[I 4 (cG 0 d.c),I m (cG 1 d.c)],[]⟩)(ae:d.sm=eS (bW #[92,117,u,q,e,v]) b):cy x d:=by exact dJ hc ae 4000 (nd 16 151 0x1004004000040024044244440042244400400004002404424444004224442404424444004224442404424444004224442404444444444100303033322110010112100100100100100111111) [cV m 53248 b Q,eP m 53248 l e3 pG,cV l 2 0 e4,cY b U j,dG b 16 i a,dF ek i v P k0,dH b 16 o F ew,cY o U g1,dG o 16 r c,dF ek r e l1 k1,dH o 16 p q1 ew,cY p U O,dG p 16 t f,dF ek t q l2 k2,dH p 16 y q2 ew,cY y X g3,dG y 16 k g,dF ek k u B k3,dH y 16 n q3 ew,cY n X g4] [4] [57,8] ⋯
theorem O1{m:Int}{l:Int}{b i v o r e p t q y k u n:Nat}(Q:m.fmod (53248:Nat)=(b:Nat))(e3:m.fdiv (53248:Nat)=l)(e4:l.fmod (2:Nat)=(0:Nat))(j:decide (0<b)=U)(a:b%16=i)(k0:ek.cps[i]?=Y v)(F:b/16=o)(P:i<2^63)(g1:decide (0<o)=U)(c:o%16=r)(k1:ek.cps[r]?=Y e)(q1:o/16=p)(l1:r<2^63)(O:decide (0<p)=U)(f:p%16=t)(k2:ek.cps[t]?=Y q)(q2:p/16=y)(l2:t<2^63)(g3:decide (0<y)=U)(g:y%16=k)(k3:ek.cps[k]?=Y u)(q3:y/16=n)(B:k<2^63)(g4:decide (0<n)=X)(hc:d.c= .call (R 581) ⟨[I 4 (cG 0 d.c),I m (cG 1 d.c)],[]⟩)(ae:d.sm=eS (bW #[92,117,u,q,e,v]) b):cy x d:=by exact dJ hc ae 4000 (nd 16 141 0x100400400004002404424444004224442404424444004224442404424444004224442404424444004224442404444444444100303033322110010112100100100100100111111) [cV m 53248 b Q,eP m 53248 l e3 pG,cV l 2 0 e4,cY b U j,dG b 16 i a,dF ek i v P k0,dH b 16 o F ew,cY o U g1,dG o 16 r c,dF ek r e l1 k1,dH o 16 p q1 ew,cY p U O,dG p 16 t f,dF ek t q l2 k2,dH p 16 y q2 ew,cY y U g3,dG y 16 k g,dF ek k u B k3,dH y 16 n q3 ew,cY n X g4] [4] [55,8] ⋯
theorem O0{m:Int}{l:Int}{b i v o r e p t q y k u n:Nat}(Q:m.fmod (53248:Nat)=(b:Nat))(e3:m.fdiv (53248:Nat)=l)(e4:l.fmod (2:Nat)=(1:Nat))(j:decide (0<b)=X)(a:b%16=i)(k0:el.cps[i]?=Y v)(F:b/16=o)(P:i<2^63)(g1:decide (0<o)=X)(c:o%16=r)(k1:el.cps[r]?=Y e)(q1:o/16=p)(l1:r<2^63)(O:decide (0<p)=X)(f:p%16=t)(k2:el.cps[t]?=Y q)(q2:p/16=y)(l2:t<2^63)(g3:decide (0<y)=X)(g:y%16=k)(k3:el.cps[k]?=Y u)(q3:y/16=n)(B:k<2^63)(g4:decide (0<n)=X)(hc:d.c= .call (R 581) ⟨[I 4 (cG 0 d.c),I m (cG 1 d.c)],[]⟩)(ae:d.sm=eS (bW #[92,117,u,q,e,v]) b):cy x d:=by exact dJ hc ae 4000 (nd 16 181 0x1004004000040024044244440042244400400004002404424444004224440040000400240442444400422444004000040024044244440042244400400004002404444444444100303033322110010112100100100100100111111) [cV m 53248 b Q,eP m 53248 l e3 pG,cV l 2 1 e4,cY b X j,dG b 16 i a,dF el i v P k0,dH b 16 o F ew,cY o X g1,dG o 16 r c,dF el r e l1 k1,dH o 16 p q1 ew,cY p X O,dG p 16 t f,dF el t q l2 k2,dH p 16 y q2 ew,cY y X g3,dG y 16 k g,dF el k u B k3,dH y 16 n q3 ew,cY n X g4] [4] [63,8] ⋯
theorem NZ{m:Int}{l:Int}{b i v o r e p t q y k u n:Nat}(Q:m.fmod (53248:Nat)=(b:Nat))(e3:m.fdiv (53248:Nat)=l)(e4:l.fmod (2:Nat)=(1:Nat))(j:decide (0<b)=U)(a:b%16=i)(k0:el.cps[i]?=Y v)(F:b/16=o)(P:i<2^63)(g1:decide (0<o)=X)(c:o%16=r)(k1:el.cps[r]?=Y e)(q1:o/16=p)(l1:r<2^63)(O:decide (0<p)=X)(f:p%16=t)(k2:el.cps[t]?=Y q)(q2:p/16=y)(l2:t<2^63)(g3:decide (0<y)=X)(g:y%16=k)(k3:el.cps[k]?=Y u)(q3:y/16=n)(B:k<2^63)(g4:decide (0<n)=X)(hc:d.c= .call (R 581) ⟨[I 4 (cG 0 d.c),I m (cG 1 d.c)],[]⟩)(ae:d.sm=eS (bW #[92,117,u,q,e,v]) b):cy x d:=by exact dJ hc ae 4000 (nd 16 171 0x100400400004002404424444004224440040000400240442444400422444004000040024044244440042244400400004002404424444004224442404444444444100303033322110010112100100100100100111111) [cV m 53248 b Q,eP m 53248 l e3 pG,cV l 2 1 e4,cY b U j,dG b 16 i a,dF el i v P k0,dH b 16 o F ew,cY o X g1,dG o 16 r c,dF el r e l1 k1,dH o 16 p q1 ew,cY p X O,dG p 16 t f,dF el t q l2 k2,dH p 16 y q2 ew,cY y X g3,dG y 16 k g,dF el k u B k3,dH y 16 n q3 ew,cY n X g4] [4] [61,8] ⋯
theorem NY{m:Int}{l:Int}{b i v o r e p t q y k u n:Nat}(Q:m.fmod (53248:Nat)=(b:Nat))(e3:m.fdiv (53248:Nat)=l)(e4:l.fmod (2:Nat)=(1:Nat))(j:decide (0<b)=U)(a:b%16=i)(k0:el.cps[i]?=Y v)(F:b/16=o)(P:i<2^63)(g1:decide (0<o)=U)(c:o%16=r)(k1:el.cps[r]?=Y e)(q1:o/16=p)(l1:r<2^63)(O:decide (0<p)=X)(f:p%16=t)(k2:el.cps[t]?=Y q)(q2:p/16=y)(l2:t<2^63)(g3:decide (0<y)=X)(g:y%16=k)(k3:el.cps[k]?=Y u)(q3:y/16=n)(B:k<2^63)(g4:decide (0<n)=X)(hc:d.c= .call (R 581) ⟨[I 4 (cG 0 d.c),I m (cG 1 d.c)],[]⟩)(ae:d.sm=eS (bW #[92,117,u,q,e,v]) b):cy x d:=by exact dJ hc ae 4000 (nd 16 161 0x10040040000400240442444400422444004000040024044244440042244400400004002404424444004224442404424444004224442404444444444100303033322110010112100100100100100111111) [cV m 53248 b Q,eP m 53248 l e3 pG,cV l 2 1 e4,cY b U j,dG b 16 i a,dF el i v P k0,dH b 16 o F ew,cY o U g1,dG o 16 r c,dF el r e l1 k1,dH o 16 p q1 ew,cY p X O,dG p 16 t f,dF el t q l2 k2,dH p 16 y q2 ew,cY y X g3,dG y 16 k g,dF el k u B k3,dH y 16 n q3 ew,cY n X g4] [4] [59,8] ⋯
theorem NX{m:Int}{l:Int}{b i v o r e p t q y k u n:Nat}(Q:m.fmod (53248:Nat)=(b:Nat))(e3:m.fdiv (53248:Nat)=l)(e4:l.fmod (2:Nat)=(1:Nat))(j:decide (0<b)=U)(a:b%16=i)(k0:el.cps[i]?=Y v)(F:b/16=o)(P:i<2^63)(g1:decide (0<o)=U)(c:o%16=r)(k1:el.cps[r]?=Y e)(q1:o/16=p)(l1:r<2^63)(O:decide (0<p)=U)(f:p%16=t)(k2:el.cps[t]?=Y q)(q2:p/16=y)(l2:t<2^63)(g3:decide (0<y)=X)(g:y%16=k)(k3:el.cps[k]?=Y u)(q3:y/16=n)(B:k<2^63)(g4:decide (0<n)=X)(hc:d.c= .call (R 581) ⟨[I 4 (cG 0 d.c),I m (cG 1 d.c)],[]⟩)(ae:d.sm=eS (bW #[92,117,u,q,e,v]) b):cy x d:=by exact dJ hc ae 4000 (nd 16 151 0x1004004000040024044244440042244400400004002404424444004224442404424444004224442404424444004224442404444444444100303033322110010112100100100100100111111) [cV m 53248 b Q,eP m 53248 l e3 pG,cV l 2 1 e4,cY b U j,dG b 16 i a,dF el i v P k0,dH b 16 o F ew,cY o U g1,dG o 16 r c,dF el r e l1 k1,dH o 16 p q1 ew,cY p U O,dG p 16 t f,dF el t q l2 k2,dH p 16 y q2 ew,cY y X g3,dG y 16 k g,dF el k u B k3,dH y 16 n q3 ew,cY n X g4] [4] [57,8] ⋯
theorem NW{m:Int}{l:Int}{b i v o r e p t q y k u n:Nat}(Q:m.fmod (53248:Nat)=(b:Nat))(e3:m.fdiv (53248:Nat)=l)(e4:l.fmod (2:Nat)=(1:Nat))(j:decide (0<b)=U)(a:b%16=i)(k0:el.cps[i]?=Y v)(F:b/16=o)(P:i<2^63)(g1:decide (0<o)=U)(c:o%16=r)(k1:el.cps[r]?=Y e)(q1:o/16=p)(l1:r<2^63)(O:decide (0<p)=U)(f:p%16=t)(k2:el.cps[t]?=Y q)(q2:p/16=y)(l2:t<2^63)(g3:decide (0<y)=U)(g:y%16=k)(k3:el.cps[k]?=Y u)(q3:y/16=n)(B:k<2^63)(g4:decide (0<n)=X)(hc:d.c= .call (R 581) ⟨[I 4 (cG 0 d.c),I m (cG 1 d.c)],[]⟩)(ae:d.sm=eS (bW #[92,117,u,q,e,v]) b):cy x d:=by exact dJ hc ae 4000 (nd 16 141 0x100400400004002404424444004224442404424444004224442404424444004224442404424444004224442404444444444100303033322110010112100100100100100111111) [cV m 53248 b Q,eP m 53248 l e3 pG,cV l 2 1 e4,cY b U j,dG b 16 i a,dF el i v P k0,dH b 16 o F ew,cY o U g1,dG o 16 r c,dF el r e l1 k1,dH o 16 p q1 ew,cY p U O,dG p 16 t f,dF el t q l2 k2,dH p 16 y q2 ew,cY y U g3,dG y 16 k g,dF el k u B k3,dH y 16 n q3 ew,cY n X g4] [4] [55,8] ⋯
theorem R5{m:Int}(Q:m.fmod (7:Nat)=(0:Nat))(hc:d.c= .call (R 581) ⟨[I 6 (cG 0 d.c),I m (cG 1 d.c)],[]⟩)(ae:d.sm=pT (bW #[92,120])):cy x d:=by exact dJ hc ae 4000 (nd 16 33 0x30303332110000100100100100111111) [cV m 7 0 Q] [3] [7] ⋯
theorem R4{m:Int}(Q:m.fmod (7:Nat)=(1:Nat))(hc:d.c= .call (R 581) ⟨[I 6 (cG 0 d.c),I m (cG 1 d.c)],[]⟩)(ae:d.sm=pT (bW #[92,117])):cy x d:=by exact dJ hc ae 4000 (nd 16 33 0x30303332110000100100100100111111) [cV m 7 1 Q] [3] [8] ⋯
theorem R3{m:Int}(Q:m.fmod (7:Nat)=(2:Nat))(hc:d.c= .call (R 581) ⟨[I 6 (cG 0 d.c),I m (cG 1 d.c)],[]⟩)(ae:d.sm=pT (bW #[92,117,65])):cy x d:=by exact dJ hc ae 4000 (nd 16 33 0x30303332110000100100100100111111) [cV m 7 2 Q] [3] [9] ⋯
theorem R2{m:Int}(Q:m.fmod (7:Nat)=(3:Nat))(hc:d.c= .call (R 581) ⟨[I 6 (cG 0 d.c),I m (cG 1 d.c)],[]⟩)(ae:d.sm=pT (bW #[92,117,49,102])):cy x d:=by exact dJ hc ae 4000 (nd 16 33 0x30303332110000100100100100111111) [cV m 7 3 Q] [3] [10] ⋯
theorem R1{m:Int}(Q:m.fmod (7:Nat)=(4:Nat))(hc:d.c= .call (R 581) ⟨[I 6 (cG 0 d.c),I m (cG 1 d.c)],[]⟩)(ae:d.sm=pT (bW #[92,117,48,48,101])):cy x d:=by exact dJ hc ae 4000 (nd 16 33 0x30303332110000100100100100111111) [cV m 7 4 Q] [3] [11] ⋯
theorem R0{m:Int}(Q:m.fmod (7:Nat)=(5:Nat))(hc:d.c= .call (R 581) ⟨[I 6 (cG 0 d.c),I m (cG 1 d.c)],[]⟩)(ae:d.sm=pT (bW #[92,85])):cy x d:=by exact dJ hc ae 4000 (nd 16 33 0x30303332110000100100100100111111) [cV m 7 5 Q] [3] [12] ⋯
theorem QZ{m:Int}(Q:m.fmod (7:Nat)=(6:Nat))(hc:d.c= .call (R 581) ⟨[I 6 (cG 0 d.c),I m (cG 1 d.c)],[]⟩)(ae:d.sm=pT (bW #[92,85,49,50])):cy x d:=by exact dJ hc ae 4000 (nd 16 33 0x30303332110000100100100100111111) [cV m 7 6 Q] [3] [13] ⋯
end
end Mine
end
section
open PySem PySem.W PySem.W.X PySem.Calls PySem.NumText
namespace Mine
noncomputable def vW(af:Nat):Nat:=if af<10 then 48+af else 87+af
noncomputable def wb(af:Nat):Nat:=if af<10 then 48+af else 55+af
noncomputable def ru(l af B:Nat):Prop:=48<=B/\B<=102/\B≠95/\Ť B=Y af/\af<l
theorem WY:∀af:Fin 8,d7.cps[af.1]?=Y (48+af.1)/\iF (48+af.1)/\ru 8 af.1 (48+af.1):=by unfold iF ru;decide
theorem WZ:∀af:Fin 16,ek.cps[af.1]?=Y (vW af.1)/\gT (vW af.1)/\ru 16 af.1 (vW af.1):=by unfold gT ru;decide
theorem WX:∀af:Fin 16,el.cps[af.1]?=Y (wb af.1)/\gT (wb af.1)/\ru 16 af.1 (wb af.1):=by unfold gT ru;decide
theorem dM(b:Nat):d7.cps[b%8]?=Y (48+b%8)/\iF (48+b%8)/\ru 8 (b%8) (48+b%8):=WY ⟨b%8,Ď _ ⋯⟩
theorem dB(b:Nat):ek.cps[b%16]?=Y (vW (b%16))/\gT (vW (b%16))/\ru 16 (b%16) (vW (b%16)):=WZ ⟨b%16,Ď _ ⋯⟩
theorem dA(b:Nat):el.cps[b%16]?=Y (wb (b%16))/\gT (wb (b%16))/\ru 16 (b%16) (wb (b%16)):=WX ⟨b%16,Ď _ ⋯⟩
theorem dI(a:l<2^63:=by decide)(M:0<l:=by decide):g%l<2^63:=Dg (Ď _ M) a
theorem lE(m:Int)(l:Nat)(M:0<l):∃d:Nat,m.fmod (l:Nat)=(d:Nat)/\d<l:=by have z:0<=m.fmod (l:Nat):=Int.fmod_nonneg_of_pos m (by omega);have E:m.fmod (l:Nat)<(l:Nat):=CC m (by omega);exact cI (m.fmod (l:Nat)).toNat (by omega) (by omega)
noncomputable def D8(H b:Nat):Prop:=decide (0<b)=decide (0<H)/\decide (0<b/8)=decide (1<H)/\decide (0<b/8/8)=decide (2<H)/\decide (0<b/8/8/8)=X/\(H<=1->fh 8 [b%8]=b)/\(H<=2->fh 8 [b/8%8,b%8]=b)/\fh 8 [b/8/8%8,b/8%8,b%8]=b
noncomputable def é(H b:Nat):Prop:=decide (0<b)=decide (0<H)/\decide (0<b/16)=decide (1<H)/\decide (0<b/16/16)=X/\(H<=1->fh 16 [b%16]=b)/\fh 16 [b/16%16,b%16]=b
theorem Cc:∀b:Fin 512,D8 0 b.1\/D8 1 b.1\/D8 2 b.1\/D8 3 b.1:=by unfold D8 fh;decide+kernel
theorem Ä:∀b:Fin 256,é 0 b.1\/é 1 b.1\/é 2 b.1:=by unfold é fh;decide+kernel
noncomputable def DU(H b:Nat):Prop:=decide (0<b)=decide (0<H)/\decide (0<b/16)=decide (1<H)/\decide (0<b/16/16)=decide (2<H)/\decide (0<b/16/16/16)=decide (3<H)/\decide (0<b/16/16/16/16)=X
theorem duS(a:¬g/i=0):0<g:=KL λ e=>a (by rw[e,Nat.zero_div])
theorem du(b:Nat)(hv:b<65536):DU 0 b\/DU 1 b\/DU 2 b\/DU 3 b\/DU 4 b:=by
 have j:∀{g:Nat},g=0->decide (0<g)=X:=λ e=>decide_eq_false (ooZ e);have D:∀{g:Nat},0<g->decide (0<g)=U:=λ e=>decide_eq_true e;have af:∀{g:Nat},g=0->g/16=0:=λ e=>by rw[e]
 have r:b/16/16/16/16=0:=by omega
 by_cases z0:b=0;·exact .inl (i6 (j z0) (j (af z0)) (j (af (af z0))) (j (af (af (af z0)))) (j r))
 by_cases z1:b/16=0;·exact .inr (.inl (i6 (D (qf z0)) (j z1) (j (af z1)) (j (af (af z1))) (j r)))
 by_cases z2:b/16/16=0;·exact .inr (.inr (.inl (i6 (D (qf z0)) (D (qf z1)) (j z2) (j (af z2)) (j r))))
 by_cases z3:b/16/16/16=0;·exact .inr (.inr (.inr (.inl (i6 (D (qf z0)) (D (qf z1)) (D (qf z2)) (j z3) (j r)))))
 ·exact .inr (.inr (.inr (.inr (i6 (D (qf z0)) (D (qf z1)) (D (qf z2)) (D (qf z3)) (j r)))))
theorem wU(b:Nat)(hv:b<65536):fh 16 [b/16/16/16%16,b/16/16%16,b/16%16,b%16]=b:=by simp only[fh,List.foldl];omega
noncomputable def uy(i:Nat)(m:Int):Prop:=∃c vv,(∀{x:FA}(q:Rc),q.c= .call (R 581) ⟨[I (i:Nat) (cG 0 q.c),I m (cG 1 q.c)],[]⟩->q.sm=I6 c vv->cy x q)/\lL c vv/\c.length<=6
section
variable(m:Int)
theorem UI:uy 0 m:=by
 refine cK (lE m 300 ⋯) λ d Q az=>?_;by_cases a:32+d=39\/32+d=92;·
  have hk:(32+d,32+d)∈kB:=by rcases a with a|a<;>rw[a]<;>decide
  exact eC _ (Y (32+d)) (λ q z E=>Uz Q (by rcases a with a|a<;>rw[a]<;>decide) (gB az) z E) (mY hk) (cL rfl)
 ·exact eC _ (Y (32+d)) (λ q z E=>UA Q (by rw[decide_eq_false (by lia),decide_eq_false (by lia)];rfl) (gB az) z E) (Xn (by lia) (by lia) (by unfold mO;omega)) (cL rfl)
theorem UH:uy 1 m:=by refine cK (lE m 12 ⋯) λ v Q az=>?_;match v,Q,az with|0,Q,_=>exact eC _ (Y 7) (λ q z E=>Rj Q z E) (mY (e:=97) (b:=7) ⋯) (cL rfl)|1,Q,_=>exact eC _ (Y 8) (λ q z E=>Ri Q z E) (mY (e:=98) (b:=8) ⋯) (cL rfl)|2,Q,_=>exact eC _ (Y 12) (λ q z E=>Rh Q z E) (mY (e:=102) (b:=12) ⋯) (cL rfl)|3,Q,_=>exact eC _ (Y 10) (λ q z E=>Rg Q z E) (mY (e:=110) (b:=10) ⋯) (cL rfl)|4,Q,_=>exact eC _ (Y 13) (λ q z E=>Rf Q z E) (mY (e:=114) (b:=13) ⋯) (cL rfl)|5,Q,_=>exact eC _ (Y 9) (λ q z E=>Rd Q z E) (mY (e:=116) (b:=9) ⋯) (cL rfl)|6,Q,_=>exact eC _ (Y 11) (λ q z E=>R9 Q z E) (mY (e:=118) (b:=11) ⋯) (cL rfl)|7,Q,_=>exact eC _ (Y 27) (λ q z E=>R8 Q z E) (mY (e:=101) (b:=27) ⋯) (cL rfl)|8,Q,_=>exact eC _ (Y 92) (λ q z E=>R7 Q z E) (mY (e:=92) (b:=92) ⋯) (cL rfl)|9,Q,_=>exact eC _ (Y 34) (λ q z E=>R6 Q z E) (mY (e:=34) (b:=34) ⋯) (cL rfl)|10,Q,_=>exact eC _ (Y 39) (λ q z E=>Oj Q z E) (mY (e:=39) (b:=39) ⋯) (cL rfl)|11,Q,_=>exact eC _ (Y 63) (λ q z E=>Oi Q z E) (mY (e:=63) (b:=63) ⋯) (cL rfl)|y+12,_,a=>exact absurd a uC
theorem UC:uy 6 m:=by refine cK (lE m 7 ⋯) λ v Q az=>?_;match v,Q,az with|0,Q,_=>exact eC _ W (λ q z E=>R5 Q z E) UP (cL rfl)|1,Q,_=>exact eC _ W (λ q z E=>R4 Q z E) UO (cL rfl)|2,Q,_=>exact eC _ W (λ q z E=>R3 Q z E) UN (cL rfl)|3,Q,_=>exact eC _ W (λ q z E=>R2 Q z E) UM (cL rfl)|4,Q,_=>exact eC _ W (λ q z E=>R1 Q z E) UL (cL rfl)|5,Q,_=>exact eC _ W (λ q z E=>R0 Q z E) UK (cL rfl)|6,Q,_=>exact eC _ W (λ q z E=>QZ Q z E) UJ (cL rfl)|y+7,_,a=>exact absurd a uC
theorem UG:uy 2 m:=by
 refine cK (lE m 512 ⋯) λ b Q hv=>?_;have hm:b<=0x10FFFF:=yF hv;refine cK (lE (m.fdiv (512:Nat)) 3 ⋯) λ v e2 hi=>?_;match v,e2,hi with
  |0,e2,_=>
   rcases Cc ⟨b,hv⟩with⟨j,g1,O,g3,s,o,C⟩|⟨j,g1,O,g3,s,o,C⟩|⟨j,g1,O,g3,s,o,C⟩|⟨j,g1,O,g3,s,o,C⟩;·exact eC _ (Y b) (λ q z E=>Oh Q rfl e2 j rfl (dM b).1 rfl dI g1 z E) (GR (m:=[b%8]) (dM b).2.1 ⟨(dM b).2.2,trivial⟩ (s ⋯) hm) (cL rfl)
   ·exact eC _ (Y b) (λ q z E=>Og Q rfl e2 j rfl (dM b).1 rfl dI g1 z E) (GR (m:=[b%8]) (dM b).2.1 ⟨(dM b).2.2,trivial⟩ (s ⋯) hm) (cL rfl)
   ·exact eC _ (Y b) (λ q z E=>Of Q rfl e2 j rfl (dM b).1 rfl dI g1 rfl (dM (b/8)).1 rfl dI O z E) (A_ (m:=[b/8%8,b%8]) (dM (b/8)).2.1 (dM b).2.1 ⟨(dM (b/8)).2.2,⟨(dM b).2.2,trivial⟩⟩ (o ⋯) hm) (cL rfl)
   ·exact eC _ (Y b) (λ q z E=>Oe Q rfl e2 j rfl (dM b).1 rfl dI g1 rfl (dM (b/8)).1 rfl dI O rfl (dM (b/8/8)).1 rfl dI g3 z E) (vt (m:=[b/8/8%8,b/8%8,b%8]) (dM (b/8/8)).2.1 (dM (b/8)).2.1 (dM b).2.1 ⟨(dM (b/8/8)).2.2,⟨(dM (b/8)).2.2,⟨(dM b).2.2,trivial⟩⟩⟩ C hm) (cL rfl)
  |1,e2,_=>
   rcases Cc ⟨b,hv⟩with⟨j,g1,O,g3,s,o,C⟩|⟨j,g1,O,g3,s,o,C⟩|⟨j,g1,O,g3,s,o,C⟩|⟨j,g1,O,g3,s,o,C⟩;·exact eC _ (Y b) (λ q z E=>Od Q rfl e2 j rfl (dM b).1 rfl dI g1 rfl (dM (b/8)).1 rfl dI O z E) (A_ (m:=[b/8%8,b%8]) (dM (b/8)).2.1 (dM b).2.1 ⟨(dM (b/8)).2.2,⟨(dM b).2.2,trivial⟩⟩ (o ⋯) hm) (cL rfl)
   ·exact eC _ (Y b) (λ q z E=>Oc Q rfl e2 j rfl (dM b).1 rfl dI g1 rfl (dM (b/8)).1 rfl dI O z E) (A_ (m:=[b/8%8,b%8]) (dM (b/8)).2.1 (dM b).2.1 ⟨(dM (b/8)).2.2,⟨(dM b).2.2,trivial⟩⟩ (o ⋯) hm) (cL rfl)
   ·exact eC _ (Y b) (λ q z E=>Ob Q rfl e2 j rfl (dM b).1 rfl dI g1 rfl (dM (b/8)).1 rfl dI O z E) (A_ (m:=[b/8%8,b%8]) (dM (b/8)).2.1 (dM b).2.1 ⟨(dM (b/8)).2.2,⟨(dM b).2.2,trivial⟩⟩ (o ⋯) hm) (cL rfl)
   ·exact eC _ (Y b) (λ q z E=>Oa Q rfl e2 j rfl (dM b).1 rfl dI g1 rfl (dM (b/8)).1 rfl dI O rfl (dM (b/8/8)).1 rfl dI g3 z E) (vt (m:=[b/8/8%8,b/8%8,b%8]) (dM (b/8/8)).2.1 (dM (b/8)).2.1 (dM b).2.1 ⟨(dM (b/8/8)).2.2,⟨(dM (b/8)).2.2,⟨(dM b).2.2,trivial⟩⟩⟩ C hm) (cL rfl)
  |2,e2,_=>
   rcases Cc ⟨b,hv⟩with⟨j,g1,O,g3,s,o,C⟩|⟨j,g1,O,g3,s,o,C⟩|⟨j,g1,O,g3,s,o,C⟩|⟨j,g1,O,g3,s,o,C⟩;·exact eC _ (Y b) (λ q z E=>O9 Q rfl e2 j rfl (dM b).1 rfl dI g1 rfl (dM (b/8)).1 rfl dI O rfl (dM (b/8/8)).1 rfl dI g3 z E) (vt (m:=[b/8/8%8,b/8%8,b%8]) (dM (b/8/8)).2.1 (dM (b/8)).2.1 (dM b).2.1 ⟨(dM (b/8/8)).2.2,⟨(dM (b/8)).2.2,⟨(dM b).2.2,trivial⟩⟩⟩ C hm) (cL rfl)
   ·exact eC _ (Y b) (λ q z E=>O8 Q rfl e2 j rfl (dM b).1 rfl dI g1 rfl (dM (b/8)).1 rfl dI O rfl (dM (b/8/8)).1 rfl dI g3 z E) (vt (m:=[b/8/8%8,b/8%8,b%8]) (dM (b/8/8)).2.1 (dM (b/8)).2.1 (dM b).2.1 ⟨(dM (b/8/8)).2.2,⟨(dM (b/8)).2.2,⟨(dM b).2.2,trivial⟩⟩⟩ C hm) (cL rfl)
   ·exact eC _ (Y b) (λ q z E=>O7 Q rfl e2 j rfl (dM b).1 rfl dI g1 rfl (dM (b/8)).1 rfl dI O rfl (dM (b/8/8)).1 rfl dI g3 z E) (vt (m:=[b/8/8%8,b/8%8,b%8]) (dM (b/8/8)).2.1 (dM (b/8)).2.1 (dM b).2.1 ⟨(dM (b/8/8)).2.2,⟨(dM (b/8)).2.2,⟨(dM b).2.2,trivial⟩⟩⟩ C hm) (cL rfl)
   ·exact eC _ (Y b) (λ q z E=>O6 Q rfl e2 j rfl (dM b).1 rfl dI g1 rfl (dM (b/8)).1 rfl dI O rfl (dM (b/8/8)).1 rfl dI g3 z E) (vt (m:=[b/8/8%8,b/8%8,b%8]) (dM (b/8/8)).2.1 (dM (b/8)).2.1 (dM b).2.1 ⟨(dM (b/8/8)).2.2,⟨(dM (b/8)).2.2,⟨(dM b).2.2,trivial⟩⟩⟩ C hm) (cL rfl)
  |y+3,_,a=>exact absurd a uC
theorem UE:uy 3 m:=by
 refine cK (lE m 256 ⋯) λ b Q hv=>?_;have hm:b<=0x10FFFF:=yF hv;refine cK (lE (m.fdiv (512:Nat)) 2 ⋯) λ v e2 hi=>?_;refine cK (lE (m.fdiv (256:Nat)) 2 ⋯) λ y e4 hj=>?_;match v,e2,hi,y,e4,hj with
  |0,e2,_,0,e4,_=>
   rcases Ä ⟨b,hv⟩with⟨j,g1,O,s,o⟩|⟨j,g1,O,s,o⟩|⟨j,g1,O,s,o⟩;·exact eC _ (Y b) (λ q z E=>MG Q rfl e2 rfl e4 j rfl (dB b).1 rfl dI g1 z E) (z_ (m:=[b%16]) (dB b).2.1 ⟨(dB b).2.2,trivial⟩ (s ⋯) hm) (cL rfl)
   ·exact eC _ (Y b) (λ q z E=>MF Q rfl e2 rfl e4 j rfl (dB b).1 rfl dI g1 z E) (z_ (m:=[b%16]) (dB b).2.1 ⟨(dB b).2.2,trivial⟩ (s ⋯) hm) (cL rfl)
   ·exact eC _ (Y b) (λ q z E=>ME Q rfl e2 rfl e4 j rfl (dB b).1 rfl dI g1 rfl (dB (b/16)).1 rfl dI O z E) (sd (m:=[b/16%16,b%16]) (dB (b/16)).2.1 (dB b).2.1 ⟨(dB (b/16)).2.2,⟨(dB b).2.2,trivial⟩⟩ o hm) (cL rfl)
  |0,e2,_,1,e4,_=>
   rcases Ä ⟨b,hv⟩with⟨j,g1,O,s,o⟩|⟨j,g1,O,s,o⟩|⟨j,g1,O,s,o⟩;·exact eC _ (Y b) (λ q z E=>MD Q rfl e2 rfl e4 j rfl (dA b).1 rfl dI g1 z E) (z_ (m:=[b%16]) (dA b).2.1 ⟨(dA b).2.2,trivial⟩ (s ⋯) hm) (cL rfl)
   ·exact eC _ (Y b) (λ q z E=>MC Q rfl e2 rfl e4 j rfl (dA b).1 rfl dI g1 z E) (z_ (m:=[b%16]) (dA b).2.1 ⟨(dA b).2.2,trivial⟩ (s ⋯) hm) (cL rfl)
   ·exact eC _ (Y b) (λ q z E=>MB Q rfl e2 rfl e4 j rfl (dA b).1 rfl dI g1 rfl (dA (b/16)).1 rfl dI O z E) (sd (m:=[b/16%16,b%16]) (dA (b/16)).2.1 (dA b).2.1 ⟨(dA (b/16)).2.2,⟨(dA b).2.2,trivial⟩⟩ o hm) (cL rfl)
  |1,e2,_,0,e4,_=>
   rcases Ä ⟨b,hv⟩with⟨j,g1,O,s,o⟩|⟨j,g1,O,s,o⟩|⟨j,g1,O,s,o⟩;·exact eC _ (Y b) (λ q z E=>MA Q rfl e2 rfl e4 j rfl (dB b).1 rfl dI g1 rfl (dB (b/16)).1 rfl dI O z E) (sd (m:=[b/16%16,b%16]) (dB (b/16)).2.1 (dB b).2.1 ⟨(dB (b/16)).2.2,⟨(dB b).2.2,trivial⟩⟩ o hm) (cL rfl)
   ·exact eC _ (Y b) (λ q z E=>Mz Q rfl e2 rfl e4 j rfl (dB b).1 rfl dI g1 rfl (dB (b/16)).1 rfl dI O z E) (sd (m:=[b/16%16,b%16]) (dB (b/16)).2.1 (dB b).2.1 ⟨(dB (b/16)).2.2,⟨(dB b).2.2,trivial⟩⟩ o hm) (cL rfl)
   ·exact eC _ (Y b) (λ q z E=>My Q rfl e2 rfl e4 j rfl (dB b).1 rfl dI g1 rfl (dB (b/16)).1 rfl dI O z E) (sd (m:=[b/16%16,b%16]) (dB (b/16)).2.1 (dB b).2.1 ⟨(dB (b/16)).2.2,⟨(dB b).2.2,trivial⟩⟩ o hm) (cL rfl)
  |1,e2,_,1,e4,_=>
   rcases Ä ⟨b,hv⟩with⟨j,g1,O,s,o⟩|⟨j,g1,O,s,o⟩|⟨j,g1,O,s,o⟩;·exact eC _ (Y b) (λ q z E=>Mx Q rfl e2 rfl e4 j rfl (dA b).1 rfl dI g1 rfl (dA (b/16)).1 rfl dI O z E) (sd (m:=[b/16%16,b%16]) (dA (b/16)).2.1 (dA b).2.1 ⟨(dA (b/16)).2.2,⟨(dA b).2.2,trivial⟩⟩ o hm) (cL rfl)
   ·exact eC _ (Y b) (λ q z E=>Mw Q rfl e2 rfl e4 j rfl (dA b).1 rfl dI g1 rfl (dA (b/16)).1 rfl dI O z E) (sd (m:=[b/16%16,b%16]) (dA (b/16)).2.1 (dA b).2.1 ⟨(dA (b/16)).2.2,⟨(dA b).2.2,trivial⟩⟩ o hm) (cL rfl)
   ·exact eC _ (Y b) (λ q z E=>Mv Q rfl e2 rfl e4 j rfl (dA b).1 rfl dI g1 rfl (dA (b/16)).1 rfl dI O z E) (sd (m:=[b/16%16,b%16]) (dA (b/16)).2.1 (dA b).2.1 ⟨(dA (b/16)).2.2,⟨(dA b).2.2,trivial⟩⟩ o hm) (cL rfl)
  |v+2,_,a,_,_,_=>exact absurd a uC
  |_,_,_,y+2,_,a=>exact absurd a uC
theorem UD:uy 4 m:=by
 refine cK (lE m 53248 ⋯) λ b Q hv=>?_;have hm:b<=0x10FFFF:=yF hv;refine cK (lE (m.fdiv (53248:Nat)) 2 ⋯) λ y e4 hj=>?_;match y,e4,hj with
  |0,e4,_=>
   rcases du b (fm hv ⋯)with⟨j,g1,O,g3,g4⟩|⟨j,g1,O,g3,g4⟩|⟨j,g1,O,g3,g4⟩|⟨j,g1,O,g3,g4⟩|⟨j,g1,O,g3,g4⟩;·exact eC _ (Y b) (λ q z E=>O5 Q rfl e4 j rfl (dB b).1 rfl dI g1 rfl (dB (b/16)).1 rfl dI O rfl (dB (b/16/16)).1 rfl dI g3 rfl (dB (b/16/16/16)).1 rfl dI g4 z E) (pQ (m:=[b/16/16/16%16,b/16/16%16,b/16%16,b%16]) (dB (b/16/16/16)).2.1 (dB (b/16/16)).2.1 (dB (b/16)).2.1 (dB b).2.1 ⟨(dB (b/16/16/16)).2.2,⟨(dB (b/16/16)).2.2,⟨(dB (b/16)).2.2,⟨(dB b).2.2,trivial⟩⟩⟩⟩ (wU b (fm hv ⋯)) hm) (cL rfl)
   ·exact eC _ (Y b) (λ q z E=>O4 Q rfl e4 j rfl (dB b).1 rfl dI g1 rfl (dB (b/16)).1 rfl dI O rfl (dB (b/16/16)).1 rfl dI g3 rfl (dB (b/16/16/16)).1 rfl dI g4 z E) (pQ (m:=[b/16/16/16%16,b/16/16%16,b/16%16,b%16]) (dB (b/16/16/16)).2.1 (dB (b/16/16)).2.1 (dB (b/16)).2.1 (dB b).2.1 ⟨(dB (b/16/16/16)).2.2,⟨(dB (b/16/16)).2.2,⟨(dB (b/16)).2.2,⟨(dB b).2.2,trivial⟩⟩⟩⟩ (wU b (fm hv ⋯)) hm) (cL rfl)
   ·exact eC _ (Y b) (λ q z E=>O3 Q rfl e4 j rfl (dB b).1 rfl dI g1 rfl (dB (b/16)).1 rfl dI O rfl (dB (b/16/16)).1 rfl dI g3 rfl (dB (b/16/16/16)).1 rfl dI g4 z E) (pQ (m:=[b/16/16/16%16,b/16/16%16,b/16%16,b%16]) (dB (b/16/16/16)).2.1 (dB (b/16/16)).2.1 (dB (b/16)).2.1 (dB b).2.1 ⟨(dB (b/16/16/16)).2.2,⟨(dB (b/16/16)).2.2,⟨(dB (b/16)).2.2,⟨(dB b).2.2,trivial⟩⟩⟩⟩ (wU b (fm hv ⋯)) hm) (cL rfl)
   ·exact eC _ (Y b) (λ q z E=>O2 Q rfl e4 j rfl (dB b).1 rfl dI g1 rfl (dB (b/16)).1 rfl dI O rfl (dB (b/16/16)).1 rfl dI g3 rfl (dB (b/16/16/16)).1 rfl dI g4 z E) (pQ (m:=[b/16/16/16%16,b/16/16%16,b/16%16,b%16]) (dB (b/16/16/16)).2.1 (dB (b/16/16)).2.1 (dB (b/16)).2.1 (dB b).2.1 ⟨(dB (b/16/16/16)).2.2,⟨(dB (b/16/16)).2.2,⟨(dB (b/16)).2.2,⟨(dB b).2.2,trivial⟩⟩⟩⟩ (wU b (fm hv ⋯)) hm) (cL rfl)
   ·exact eC _ (Y b) (λ q z E=>O1 Q rfl e4 j rfl (dB b).1 rfl dI g1 rfl (dB (b/16)).1 rfl dI O rfl (dB (b/16/16)).1 rfl dI g3 rfl (dB (b/16/16/16)).1 rfl dI g4 z E) (pQ (m:=[b/16/16/16%16,b/16/16%16,b/16%16,b%16]) (dB (b/16/16/16)).2.1 (dB (b/16/16)).2.1 (dB (b/16)).2.1 (dB b).2.1 ⟨(dB (b/16/16/16)).2.2,⟨(dB (b/16/16)).2.2,⟨(dB (b/16)).2.2,⟨(dB b).2.2,trivial⟩⟩⟩⟩ (wU b (fm hv ⋯)) hm) (cL rfl)
  |1,e4,_=>
   rcases du b (fm hv ⋯)with⟨j,g1,O,g3,g4⟩|⟨j,g1,O,g3,g4⟩|⟨j,g1,O,g3,g4⟩|⟨j,g1,O,g3,g4⟩|⟨j,g1,O,g3,g4⟩;·exact eC _ (Y b) (λ q z E=>O0 Q rfl e4 j rfl (dA b).1 rfl dI g1 rfl (dA (b/16)).1 rfl dI O rfl (dA (b/16/16)).1 rfl dI g3 rfl (dA (b/16/16/16)).1 rfl dI g4 z E) (pQ (m:=[b/16/16/16%16,b/16/16%16,b/16%16,b%16]) (dA (b/16/16/16)).2.1 (dA (b/16/16)).2.1 (dA (b/16)).2.1 (dA b).2.1 ⟨(dA (b/16/16/16)).2.2,⟨(dA (b/16/16)).2.2,⟨(dA (b/16)).2.2,⟨(dA b).2.2,trivial⟩⟩⟩⟩ (wU b (fm hv ⋯)) hm) (cL rfl)
   ·exact eC _ (Y b) (λ q z E=>NZ Q rfl e4 j rfl (dA b).1 rfl dI g1 rfl (dA (b/16)).1 rfl dI O rfl (dA (b/16/16)).1 rfl dI g3 rfl (dA (b/16/16/16)).1 rfl dI g4 z E) (pQ (m:=[b/16/16/16%16,b/16/16%16,b/16%16,b%16]) (dA (b/16/16/16)).2.1 (dA (b/16/16)).2.1 (dA (b/16)).2.1 (dA b).2.1 ⟨(dA (b/16/16/16)).2.2,⟨(dA (b/16/16)).2.2,⟨(dA (b/16)).2.2,⟨(dA b).2.2,trivial⟩⟩⟩⟩ (wU b (fm hv ⋯)) hm) (cL rfl)
   ·exact eC _ (Y b) (λ q z E=>NY Q rfl e4 j rfl (dA b).1 rfl dI g1 rfl (dA (b/16)).1 rfl dI O rfl (dA (b/16/16)).1 rfl dI g3 rfl (dA (b/16/16/16)).1 rfl dI g4 z E) (pQ (m:=[b/16/16/16%16,b/16/16%16,b/16%16,b%16]) (dA (b/16/16/16)).2.1 (dA (b/16/16)).2.1 (dA (b/16)).2.1 (dA b).2.1 ⟨(dA (b/16/16/16)).2.2,⟨(dA (b/16/16)).2.2,⟨(dA (b/16)).2.2,⟨(dA b).2.2,trivial⟩⟩⟩⟩ (wU b (fm hv ⋯)) hm) (cL rfl)
   ·exact eC _ (Y b) (λ q z E=>NX Q rfl e4 j rfl (dA b).1 rfl dI g1 rfl (dA (b/16)).1 rfl dI O rfl (dA (b/16/16)).1 rfl dI g3 rfl (dA (b/16/16/16)).1 rfl dI g4 z E) (pQ (m:=[b/16/16/16%16,b/16/16%16,b/16%16,b%16]) (dA (b/16/16/16)).2.1 (dA (b/16/16)).2.1 (dA (b/16)).2.1 (dA b).2.1 ⟨(dA (b/16/16/16)).2.2,⟨(dA (b/16/16)).2.2,⟨(dA (b/16)).2.2,⟨(dA b).2.2,trivial⟩⟩⟩⟩ (wU b (fm hv ⋯)) hm) (cL rfl)
   ·exact eC _ (Y b) (λ q z E=>NW Q rfl e4 j rfl (dA b).1 rfl dI g1 rfl (dA (b/16)).1 rfl dI O rfl (dA (b/16/16)).1 rfl dI g3 rfl (dA (b/16/16/16)).1 rfl dI g4 z E) (pQ (m:=[b/16/16/16%16,b/16/16%16,b/16%16,b%16]) (dA (b/16/16/16)).2.1 (dA (b/16/16)).2.1 (dA (b/16)).2.1 (dA b).2.1 ⟨(dA (b/16/16/16)).2.2,⟨(dA (b/16/16)).2.2,⟨(dA (b/16)).2.2,⟨(dA b).2.2,trivial⟩⟩⟩⟩ (wU b (fm hv ⋯)) hm) (cL rfl)
  |y+2,_,a=>exact absurd a uC
end
end Mine
end
section
open PySem PySem.W PySem.W.X PySem.Calls
namespace Mine
section
variable{ae f:cc}{ah:AP}{ak:List (bU×bV)}{A:bU}{tl:List Nat}{G KT:HK}{sl:Array (Option bX)}{s:cR}{V:hZ}{aw:VS}{d E du q r pl H p te k b cn ga C wi:bX}{m:Int}{O tw:cp}{wS:cb}
theorem b1n(J:jI A s)(L:At ae ah ([(A,ck cw tl G KT ⟨d,E,du,q,r,pl,H,p,I m O,wi⟩ ⟨te,k,b,cn,ga,C⟩ sl)]++ak) P f)(Kc:∀n aX,At ae ah ([(A,ck cw tl G KT ⟨d,E,du,q,r,pl,H,p,I m O,wi⟩ ⟨te,k,b,cn,ga,C⟩ aX)]++ak) P n->V .next n):cm (bZ bY w) s (dj iB (cW A)) V aw f:=by refine cK (lE m 12 ⋯) λ y hj az=>?_;match y,hj,az with|0,hj,_=>exact oj (v:=0) (c:=(bW #[])) (ie:=U) J Xk (λ X' K'=>Yh (C:=⟨d,E,du,q,r,pl,H,p,I m O,wi⟩) (Q:=⟨te,k,b,cn,ga,C⟩) hj (J.less 200 ⋯) X' K') L Kc|1,hj,_=>exact oj (v:=1) (c:=(bW #[76])) (ie:=U) J Xj (λ X' K'=>Yg (C:=⟨d,E,du,q,r,pl,H,p,I m O,wi⟩) (Q:=⟨te,k,b,cn,ga,C⟩) hj (J.less 200 ⋯) X' K') L Kc|2,hj,_=>exact oj (v:=2) (c:=(bW #[76,76,39,97,39])) (ie:=X) J Xi (λ X' K'=>Yf (C:=⟨d,E,du,q,r,pl,H,p,I m O,wi⟩) (Q:=⟨te,k,b,cn,ga,C⟩) hj (J.less 200 ⋯) X' K') L Kc|3,hj,_=>exact oj (v:=3) (c:=(bW #[97])) (ie:=X) J Xh (λ X' K'=>Ye (C:=⟨d,E,du,q,r,pl,H,p,I m O,wi⟩) (Q:=⟨te,k,b,cn,ga,C⟩) hj (J.less 200 ⋯) X' K') L Kc|4,hj,_=>exact oj (v:=4) (c:=(bW #[39,97])) (ie:=X) J Xg (λ X' K'=>Yd (C:=⟨d,E,du,q,r,pl,H,p,I m O,wi⟩) (Q:=⟨te,k,b,cn,ga,C⟩) hj (J.less 200 ⋯) X' K') L Kc|5,hj,_=>exact oj (v:=5) (c:=(bW #[97,39])) (ie:=X) J Xf (λ X' K'=>Yc (C:=⟨d,E,du,q,r,pl,H,p,I m O,wi⟩) (Q:=⟨te,k,b,cn,ga,C⟩) hj (J.less 200 ⋯) X' K') L Kc|6,hj,_=>exact oj (v:=6) (c:=(bW #[34,97,34])) (ie:=X) J Xe (λ X' K'=>Yb (C:=⟨d,E,du,q,r,pl,H,p,I m O,wi⟩) (Q:=⟨te,k,b,cn,ga,C⟩) hj (J.less 200 ⋯) X' K') L Kc|7,hj,_=>exact oj (v:=7) (c:=(bW #[117,39,97,39])) (ie:=X) J Xd (λ X' K'=>Ya (C:=⟨d,E,du,q,r,pl,H,p,I m O,wi⟩) (Q:=⟨te,k,b,cn,ga,C⟩) hj (J.less 200 ⋯) X' K') L Kc|8,hj,_=>exact oj (v:=8) (c:=(bW #[39,97,98,39])) (ie:=X) J Xc (λ X' K'=>Y9 (C:=⟨d,E,du,q,r,pl,H,p,I m O,wi⟩) (Q:=⟨te,k,b,cn,ga,C⟩) hj (J.less 200 ⋯) X' K') L Kc|9,hj,_=>exact oj (v:=9) (c:=(bW #[39,39])) (ie:=X) J Xb (λ X' K'=>Y8 (C:=⟨d,E,du,q,r,pl,H,p,I m O,wi⟩) (Q:=⟨te,k,b,cn,ga,C⟩) hj (J.less 200 ⋯) X' K') L Kc|10,hj,_=>exact oj (v:=10) (c:=(bW #[39])) (ie:=X) J Uy (λ X' K'=>VC (C:=⟨d,E,du,q,r,pl,H,p,I m O,wi⟩) (Q:=⟨te,k,b,cn,ga,C⟩) hj (J.less 200 ⋯) X' K') L Kc|11,hj,_=>exact oj (v:=11) (c:=(bW #[108,39,97,39])) (ie:=X) J Ux (λ X' K'=>VB (C:=⟨d,E,du,q,r,pl,H,p,I m O,wi⟩) (Q:=⟨te,k,b,cn,ga,C⟩) hj (J.less 200 ⋯) X' K') L Kc|y+12,_,a=>exact absurd a (by lia)
theorem b1o(J:jI A s)(hw:qu wS)(hL:tl∈gk)(L:At ae ah ([(A,ck cw tl G KT ⟨d,E,du,q,r,pl,H,p,I m O,S wS tw⟩ ⟨te,k,b,cn,ga,C⟩ sl)]++ak) dy f)(Kc:∀n eX P M aX,At ae ah ([(A,ck cw (layA tl) G eX ⟨d,E,du,q,r,pl,H,p,I m O,S wS tw⟩ ⟨P,M,b,cn,ga,C⟩ aX)]++ak) dy n->V .next n):cm (bZ bY w) s (dj fK (cW A)) V aw f:=by
 refine cK (lE m 12 ⋯) λ y hj az=>?_;match y,hj,az with
  |0,hj,_=>
   rcases hw with rfl|rfl;·exact iZ (c:=(bW #[39,39])) (B:=0) (i:=W) (wS:=bW #[]) J (.inl rfl) hL RQ OX ⋯ ⋯ ⋯ rfl (λ X' K'=>FY (C:=⟨d,E,du,q,r,pl,H,p,I m O,S (bW #[]) tw⟩) (Q:=⟨te,k,b,cn,ga,C⟩) hj (J.less 100 ⋯) X' K') L Kc
   ·exact iZ (c:=(bW #[39,39])) (B:=0) (i:=W) (wS:=bW #[76]) J (.inr rfl) hL RP OW ⋯ ⋯ ⋯ rfl (λ X' K'=>FY (C:=⟨d,E,du,q,r,pl,H,p,I m O,S (bW #[76]) tw⟩) (Q:=⟨te,k,b,cn,ga,C⟩) hj (J.less 100 ⋯) X' K') L Kc
  |1,hj,_=>
   rcases hw with rfl|rfl;·exact iZ (c:=(bW #[39,97,98,39])) (B:=3) (i:=(Y 2)) (wS:=bW #[]) J (.inl rfl) hL RM OR ⋯ ⋯ ⋯ rfl (λ X' K'=>FX (C:=⟨d,E,du,q,r,pl,H,p,I m O,S (bW #[]) tw⟩) (Q:=⟨te,k,b,cn,ga,C⟩) hj (J.less 100 ⋯) X' K') L Kc
   ·exact iZ (c:=(bW #[39,97,98,39])) (B:=3) (i:=(Y 3)) (wS:=bW #[76]) J (.inr rfl) hL RL OQ ⋯ ⋯ ⋯ rfl (λ X' K'=>FX (C:=⟨d,E,du,q,r,pl,H,p,I m O,S (bW #[76]) tw⟩) (Q:=⟨te,k,b,cn,ga,C⟩) hj (J.less 100 ⋯) X' K') L Kc
  |2,hj,_=>
   rcases hw with rfl|rfl;·exact iZ (c:=(bW #[39,92,56,39])) (B:=3) (i:=(Y 2)) (wS:=bW #[]) J (.inl rfl) hL RJ OP ⋯ ⋯ ⋯ rfl (λ X' K'=>FW (C:=⟨d,E,du,q,r,pl,H,p,I m O,S (bW #[]) tw⟩) (Q:=⟨te,k,b,cn,ga,C⟩) hj (J.less 100 ⋯) X' K') L Kc
   ·exact iZ (c:=(bW #[39,92,56,39])) (B:=3) (i:=(Y 3)) (wS:=bW #[76]) J (.inr rfl) hL RH OO ⋯ ⋯ ⋯ rfl (λ X' K'=>FW (C:=⟨d,E,du,q,r,pl,H,p,I m O,S (bW #[76]) tw⟩) (Q:=⟨te,k,b,cn,ga,C⟩) hj (J.less 100 ⋯) X' K') L Kc
  |3,hj,_=>
   rcases hw with rfl|rfl;·exact iZ (c:=(bW #[39,92,113,39])) (B:=3) (i:=(Y 2)) (wS:=bW #[]) J (.inl rfl) hL RG ON ⋯ ⋯ ⋯ rfl (λ X' K'=>FV (C:=⟨d,E,du,q,r,pl,H,p,I m O,S (bW #[]) tw⟩) (Q:=⟨te,k,b,cn,ga,C⟩) hj (J.less 100 ⋯) X' K') L Kc
   ·exact iZ (c:=(bW #[39,92,113,39])) (B:=3) (i:=(Y 3)) (wS:=bW #[76]) J (.inr rfl) hL RF OM ⋯ ⋯ ⋯ rfl (λ X' K'=>FV (C:=⟨d,E,du,q,r,pl,H,p,I m O,S (bW #[76]) tw⟩) (Q:=⟨te,k,b,cn,ga,C⟩) hj (J.less 100 ⋯) X' K') L Kc
  |4,hj,_=>
   rcases hw with rfl|rfl;·exact iZ (c:=(bW #[39,92,48,48,48,48,39])) (B:=6) (i:=(Y 5)) (wS:=bW #[]) J (.inl rfl) hL RE OL ⋯ ⋯ ⋯ rfl (λ X' K'=>FU (C:=⟨d,E,du,q,r,pl,H,p,I m O,S (bW #[]) tw⟩) (Q:=⟨te,k,b,cn,ga,C⟩) hj (J.less 100 ⋯) X' K') L Kc
   ·exact iZ (c:=(bW #[39,92,48,48,48,48,39])) (B:=6) (i:=(Y 6)) (wS:=bW #[76]) J (.inr rfl) hL RD OK ⋯ ⋯ ⋯ rfl (λ X' K'=>FU (C:=⟨d,E,du,q,r,pl,H,p,I m O,S (bW #[76]) tw⟩) (Q:=⟨te,k,b,cn,ga,C⟩) hj (J.less 100 ⋯) X' K') L Kc
  |5,hj,_=>
   rcases hw with rfl|rfl;·exact iZ (c:=(bW #[39,92,120,103,39])) (B:=4) (i:=(Y 3)) (wS:=bW #[]) J (.inl rfl) hL RC OJ ⋯ ⋯ ⋯ rfl (λ X' K'=>FT (C:=⟨d,E,du,q,r,pl,H,p,I m O,S (bW #[]) tw⟩) (Q:=⟨te,k,b,cn,ga,C⟩) hj (J.less 100 ⋯) X' K') L Kc
   ·exact iZ (c:=(bW #[39,92,120,103,39])) (B:=4) (i:=(Y 4)) (wS:=bW #[76]) J (.inr rfl) hL RB OI ⋯ ⋯ ⋯ rfl (λ X' K'=>FT (C:=⟨d,E,du,q,r,pl,H,p,I m O,S (bW #[76]) tw⟩) (Q:=⟨te,k,b,cn,ga,C⟩) hj (J.less 100 ⋯) X' K') L Kc
  |6,hj,_=>
   rcases hw with rfl|rfl;·exact iZ (c:=(bW #[39,92,117,48,48,48,48,48,39])) (B:=8) (i:=(Y 7)) (wS:=bW #[]) J (.inl rfl) hL RA OH ⋯ ⋯ ⋯ rfl (λ X' K'=>FR (C:=⟨d,E,du,q,r,pl,H,p,I m O,S (bW #[]) tw⟩) (Q:=⟨te,k,b,cn,ga,C⟩) hj (J.less 100 ⋯) X' K') L Kc
   ·exact iZ (c:=(bW #[39,92,117,48,48,48,48,48,39])) (B:=8) (i:=(Y 8)) (wS:=bW #[76]) J (.inr rfl) hL Rz OG ⋯ ⋯ ⋯ rfl (λ X' K'=>FR (C:=⟨d,E,du,q,r,pl,H,p,I m O,S (bW #[76]) tw⟩) (Q:=⟨te,k,b,cn,ga,C⟩) hj (J.less 100 ⋯) X' K') L Kc
  |7,hj,_=>
   rcases hw with rfl|rfl;·exact iZ (c:=(bW #[39,92,39])) (B:=0) (i:=W) (wS:=bW #[]) J (.inl rfl) hL Ry OF ⋯ ⋯ ⋯ rfl (λ X' K'=>FQ (C:=⟨d,E,du,q,r,pl,H,p,I m O,S (bW #[]) tw⟩) (Q:=⟨te,k,b,cn,ga,C⟩) hj (J.less 100 ⋯) X' K') L Kc
   ·exact iZ (c:=(bW #[39,92,39])) (B:=0) (i:=W) (wS:=bW #[76]) J (.inr rfl) hL Rx OE ⋯ ⋯ ⋯ rfl (λ X' K'=>FQ (C:=⟨d,E,du,q,r,pl,H,p,I m O,S (bW #[76]) tw⟩) (Q:=⟨te,k,b,cn,ga,C⟩) hj (J.less 100 ⋯) X' K') L Kc
  |8,hj,_=>
   rcases hw with rfl|rfl;·exact iZ (c:=(bW #[39,97])) (B:=0) (i:=W) (wS:=bW #[]) J (.inl rfl) hL Rw OD ⋯ ⋯ ⋯ rfl (λ X' K'=>FP (C:=⟨d,E,du,q,r,pl,H,p,I m O,S (bW #[]) tw⟩) (Q:=⟨te,k,b,cn,ga,C⟩) hj (J.less 100 ⋯) X' K') L Kc
   ·exact iZ (c:=(bW #[39,97])) (B:=0) (i:=W) (wS:=bW #[76]) J (.inr rfl) hL Rv OC ⋯ ⋯ ⋯ rfl (λ X' K'=>FP (C:=⟨d,E,du,q,r,pl,H,p,I m O,S (bW #[76]) tw⟩) (Q:=⟨te,k,b,cn,ga,C⟩) hj (J.less 100 ⋯) X' K') L Kc
  |9,hj,_=>
   rcases hw with rfl|rfl;·exact iZ (c:=(bW #[39])) (B:=0) (i:=W) (wS:=bW #[]) J (.inl rfl) hL Ru OB ⋯ ⋯ ⋯ rfl (λ X' K'=>FO (C:=⟨d,E,du,q,r,pl,H,p,I m O,S (bW #[]) tw⟩) (Q:=⟨te,k,b,cn,ga,C⟩) hj (J.less 100 ⋯) X' K') L Kc
   ·exact iZ (c:=(bW #[39])) (B:=0) (i:=W) (wS:=bW #[76]) J (.inr rfl) hL Rt OA ⋯ ⋯ ⋯ rfl (λ X' K'=>FO (C:=⟨d,E,du,q,r,pl,H,p,I m O,S (bW #[76]) tw⟩) (Q:=⟨te,k,b,cn,ga,C⟩) hj (J.less 100 ⋯) X' K') L Kc
  |10,hj,_=>
   rcases hw with rfl|rfl;·exact iZ (c:=(bW #[39,92,110])) (B:=0) (i:=W) (wS:=bW #[]) J (.inl rfl) hL OV MP ⋯ ⋯ ⋯ rfl (λ X' K'=>EL (C:=⟨d,E,du,q,r,pl,H,p,I m O,S (bW #[]) tw⟩) (Q:=⟨te,k,b,cn,ga,C⟩) hj (J.less 100 ⋯) X' K') L Kc
   ·exact iZ (c:=(bW #[39,92,110])) (B:=0) (i:=W) (wS:=bW #[76]) J (.inr rfl) hL OU MO ⋯ ⋯ ⋯ rfl (λ X' K'=>EL (C:=⟨d,E,du,q,r,pl,H,p,I m O,S (bW #[76]) tw⟩) (Q:=⟨te,k,b,cn,ga,C⟩) hj (J.less 100 ⋯) X' K') L Kc
  |11,hj,_=>
   rcases hw with rfl|rfl;·exact iZ (c:=(bW #[39,92,120,52])) (B:=0) (i:=W) (wS:=bW #[]) J (.inl rfl) hL OT MN ⋯ ⋯ ⋯ rfl (λ X' K'=>EK (C:=⟨d,E,du,q,r,pl,H,p,I m O,S (bW #[]) tw⟩) (Q:=⟨te,k,b,cn,ga,C⟩) hj (J.less 100 ⋯) X' K') L Kc
   ·exact iZ (c:=(bW #[39,92,120,52])) (B:=0) (i:=W) (wS:=bW #[76]) J (.inr rfl) hL OS MM ⋯ ⋯ ⋯ rfl (λ X' K'=>EK (C:=⟨d,E,du,q,r,pl,H,p,I m O,S (bW #[76]) tw⟩) (Q:=⟨te,k,b,cn,ga,C⟩) hj (J.less 100 ⋯) X' K') L Kc
  |y+12,_,a=>exact absurd a (by lia)
end
structure LI where
 g:cb
 u:cb
 vv:Option Nat
 d:bU
 ta:cp
 tu:cp
 tg:cp
 tb:cp
 n0:bU
 n1:bU
 tq:cp
 J1:cp
noncomputable def nW(B:Int)(r:LI):bU×bV:=(r.d,dk [S fy r.ta,S r.u r.tu,S r.g r.tg,I (B+r.g.length) r.tb])
noncomputable def wO(r:LI):List (bU×bV):=mD r.vv r.n0 r.n1 r.tq r.J1
noncomputable def pR(O:cb):Prop:=O=bW #[]\/O=bW #[32]
theorem pR.len(a:pR O):O.length<=1:=by rcases a with rfl|rfl<;>decide
theorem Gw(a:gb<2):pR (gq gb):=by
 unfold gq;by_cases q:gb=1;·rw[if_pos q];exact .inr rfl
 ·rw[if_neg q];exact .inl rfl
section
variable{ae f:cc}{ah:AP}{ak:List (bU×bV)}{A y F:bU}{tl:List Nat}{G KT:HK}{sl:Array (Option bX)}{s:cR}{V:hZ}{aw:VS}{d:bX}{Q:TV}{m v B nn:Int}{O tp tw ty aa tn tk:cp}{e wS:cb}{i:Nat}{aj t:List bX}{eD eW:Nat}
theorem PO(J:jI A s)(hw:qu wS)(hL:tl∈gk)(hk:i<9)(hy:e.length<=900000)(hD:aj.length<=1048576)(hW:t.length<=1048576)(L:At ae ah ([(A,ck cw tl G KT ⟨d,S e ty,R y,R F,I B aa,I v tp,I nn tn,I (i:Nat) tk,I m O,S wS tw⟩ Q sl),(y,lst aj eD),(F,lst t eW)]++ak) dy f)(q:∀n l eX T' aX(r2:List (bU×bV)),l∈gk->At ae ah ([(A,ck cw l G eX ⟨d,S e ty,R y,R F,I B aa,I v tp,I nn tn,I (i:Nat) tk,I m O,S wS tw⟩ T' aX),(y,lst aj eD),(F,lst t eW)]++(r2++ak)) dy n->V .next n)(b3:∀n l eX T' aX ay ao(r:LI)(r2:List (bU×bV)),l∈gk->fL r.u r.vv->pR r.g->At ae ah ([(A,ck cw l G eX ⟨d,S (e++(r.g++r.u)) ay,R y,R F,I (B+r.g.length+r.u.length) ao,I v tp,I nn tn,I (i:Nat) tk,I m O,S wS tw⟩ T' aX),(y,lst (aj++[R r.d]) (eD+1)),(F,lst (t++[nS r.vv r.n1]) (eW+1))]++(nW B r::(wO r++(r2++ak)))) dy n->V .next n):cm (bZ bY w) s (dj [.If (mJ).1 fK (mJ).2.2 u] (cW A)) V aw f:=by
 obtain⟨te,k,b,cn,ga,C⟩:=Q;have ax:=LR tl hL;refine R_ ?_;rw[tM,fO];by_cases h5:i=5;·refine Vt (C:=⟨d,S e ty,R y,R F,I B aa,I v tp,I nn tn,I (i:Nat) tk,I m O,S wS tw⟩) (Q:=⟨te,k,b,cn,ga,C⟩) (i:=i) (ak:=[(y,lst aj eD),(F,lst t eW)]++ak) (decide_eq_true h5) (J.less 100 ⋯) L λ au aU=>?_;rw[if_pos rfl];exact b1o J hw hL aU λ aJ eX P M aX aR=>q aJ (layA tl) eX _ aX [] ax.1 aR
 refine Vu (C:=⟨d,S e ty,R y,R F,I B aa,I v tp,I nn tn,I (i:Nat) tk,I m O,S wS tw⟩) (Q:=⟨te,k,b,cn,ga,C⟩) (i:=i) (ak:=[(y,lst aj eD),(F,lst t eW)]++ak) (decide_eq_false h5) (J.less 100 ⋯) L λ au aU=>?_;rw[if_neg ⋯,PY];refine R_ ?_;rw[tM,fO];by_cases h7:i=7;·refine Vr (C:=⟨d,S e ty,R y,R F,I B aa,I v tp,I nn tn,I (i:Nat) tk,I m O,S wS tw⟩) (Q:=⟨te,k,b,cn,ga,C⟩) (i:=i) (ak:=[(y,lst aj eD),(F,lst t eW)]++ak) (decide_eq_true h7) (J.less 100 ⋯) aU λ aJ aR=>?_;rw[if_pos rfl];refine cK (lE m 55000 ⋯) λ g ha _=>?_;refine br7 J hw ha hL aR λ aM eX x r2 aY=>q aM (layB tl) eX ⟨te,k,x,cn,ga,C⟩ sl r2 ax.2.1 (aY.perm (ff λ j=>?_));simp only[ft,fv,fz];simp+arith only
 refine Vs (C:=⟨d,S e ty,R y,R F,I B aa,I v tp,I nn tn,I (i:Nat) tk,I m O,S wS tw⟩) (Q:=⟨te,k,b,cn,ga,C⟩) (i:=i) (ak:=[(y,lst aj eD),(F,lst t eW)]++ak) (decide_eq_false h7) (J.less 100 ⋯) aU λ aJ aR=>?_;rw[if_neg ⋯,PV];refine R_ ?_;rw[tM,fO];by_cases h8:i=8;·refine Vp (C:=⟨d,S e ty,R y,R F,I B aa,I v tp,I nn tn,I (i:Nat) tk,I m O,S wS tw⟩) (Q:=⟨te,k,b,cn,ga,C⟩) (i:=i) (ak:=[(y,lst aj eD),(F,lst t eW)]++ak) (decide_eq_true h8) (J.less 100 ⋯) aR λ aM aY=>?_;rw[if_pos rfl];exact b1n J aY λ aK aX aZ=>q aK tl KT _ aX [] hL aZ
 refine Vq (C:=⟨d,S e ty,R y,R F,I B aa,I v tp,I nn tn,I (i:Nat) tk,I m O,S wS tw⟩) (Q:=⟨te,k,b,cn,ga,C⟩) (i:=i) (ak:=[(y,lst aj eD),(F,lst t eW)]++ak) (decide_eq_false h8) (J.less 100 ⋯) aR λ aM aY=>?_;rw[if_neg ⋯];have hc:uy i m:=by
  have:i=0\/i=1\/i=2\/i=3\/i=4\/i=6:=by lia
  rcases this with rfl|rfl|rfl|rfl|rfl|rfl;·exact UI m
  ·exact UH m
  ·exact UG m
  ·exact UE m
  ·exact UD m
  ·exact UC m
 refine HE hc λ c vv aq az H=>?_;refine sJ (az wS hw) λ o hu aQ p=>?_;refine cK (lE (m.fdiv (2:Nat)+v) 2 ⋯) λ gb aV D=>?_;have hl:(e++(gq gb++o)).length<=1000000:=by rw[iz,iz];have z:=(Gw D).len;have E:=p.len.2;exact uD hy z E
 refine brC (vv:=vv) (c:=c) (o:=o) (gb:=gb) J hL hw aq hu aQ rfl aV hl hD hW aY λ aK eX T' a ai aX ay ao af ta tb tg n0 n1 tq r2 aZ=>?_;refine b3 aK (hJ tl) eX T' aX ay ao ⟨gq gb,o,vv,af,ta,a,tg,tb,n0,n1,tq,ai⟩ r2 ax.2.2 p (Gw D) (aZ.perm (ff λ j=>?_));simp only[nW,wO,ft,fv,fz];simp+arith only
theorem PR{u:dK}(hf:(ai=rm/\tl=[]/\KT=λ j=>⟨0,0⟩)\/ai=cw)(J:jI A s){E du q r p H wi:bX}(L:At ae ah ([(A,ck ai tl G KT ⟨d,E,du,q,r,I v t1,I nn t2,p,H,wi⟩ Q sl)]++ak) dy f)(hl:ai=rm\/tl∈gk)(Kc:∀n K'(i:Nat)m(wS:cb)tk O tw,i<9->qu wS->At ae ah ([(A,ck cw tl K' KT ⟨d,E,du,q,r,I v t1,I nn t2,I (i:Nat) tk,I m O,S wS tw⟩ Q sl)]++ak) dy n->cm (bZ bY w) s (dj [.If (mJ).1 fK (mJ).2.2 (qm (st nu 2))] (cW A)) V aw n):cm (bZ bY w) s (dj nu (cW A)) V aw f:=by
 refine cK (lE nn 9 ⋯) λ i hk g=>?_;refine cK (lE (nn.fdiv (9:Nat)+v) 2 ⋯) λ l M b=>?_;rw[T2];refine mU ?_;rcases hf with⟨rfl,rfl,rfl⟩|rfl;·match l,M,b with|0,M,_=>exact Vz (C:=⟨d,E,du,q,r,I v t1,I nn t2,p,H,wi⟩) (Q:=Q) hk rfl M (J.less 100 ⋯) L λ au K' tk O tw aU=>⟨rfl,Kc au K' i _ (bW #[]) tk O tw g (.inl rfl) aU⟩|1,M,_=>exact Vy (C:=⟨d,E,du,q,r,I v t1,I nn t2,p,H,wi⟩) (Q:=Q) hk rfl M (J.less 100 ⋯) L λ au K' tk O tw aU=>⟨rfl,Kc au K' i _ (bW #[76]) tk O tw g (.inr rfl) aU⟩|l+2,_,a=>exact absurd a (by lia)
 ·match l,M,b with|0,M,_=>exact Vx (C:=⟨d,E,du,q,r,I v t1,I nn t2,p,H,wi⟩) (Q:=Q) hk rfl M (J.less 100 ⋯) L λ au tk O tw aU=>⟨rfl,Kc au G i _ (bW #[]) tk O tw g (.inl rfl) aU⟩|1,M,_=>exact Vv (C:=⟨d,E,du,q,r,I v t1,I nn t2,p,H,wi⟩) (Q:=Q) hk rfl M (J.less 100 ⋯) L λ au tk O tw aU=>⟨rfl,Kc au G i _ (bW #[76]) tk O tw g (.inr rfl) aU⟩|l+2,_,a=>exact absurd a (by lia)
end
noncomputable def l4:List LI->Nat|[]=>0|r::d=>r.g.length+r.u.length+l4 d
noncomputable def rq(c:cb)(k:List LI):cb:=k.foldl (λ c r=>c++(r.g++r.u)) c
noncomputable def hU(k:List LI):cb:=rq (bW #[]) k
noncomputable def jy:Int->List LI->List (bU×bV)|_,[]=>[]|B,r::d=>nW B r::jy (B+r.g.length+r.u.length) d
noncomputable def wP(k:List LI):List (bU×bV):=k.flatMap wO
noncomputable def jg(k:List LI):List bX:=k.map λ r=>R r.d
noncomputable def wR(k:List LI):List bX:=k.map λ r=>nS r.vv r.n1
noncomputable def jK(k:List LI):Int:=1+(l4 k:Nat)
theorem Ea(r:LI):∀k,l4 (k++[r])=l4 k+r.g.length+r.u.length|[]=>by simp[l4]|c::d=>by simp only[CK,l4,Ea r d];simp+arith only
theorem MK(k:List LI)(r:LI):hU (k++[r])=hU k++(r.g++r.u):=by unfold hU rq;rw[List.foldl_append];rfl
theorem EA:∀(k:List LI)(c:cb),(rq c k).length=c.length+l4 k|[],c=>rfl|r::d,c=>by show(rq (c++(r.g++r.u)) d).length=_;rw[EA d,iz,iz];simp only[l4];simp+arith only
theorem Ez(k:List LI):(hU k).length=l4 k:=by unfold hU;rw[EA];show 0+_=_;exact lj _
theorem DY(r:LI):∀(k:List LI)(B:Int),jy B (k++[r])=jy B k++[nW (B+(l4 k:Nat)) r]
 |[],B=>by show[nW B r]=[nW (B+(0:Nat)) r];rw[show B+((0:Nat):Int)=B from by simp]
 |c::d,B=>by
  show nW B c::jy _ (d++[r])=_;rw[DY r d];show _=nW B c::(jy _ d++[nW (B+((c.g.length+c.u.length+l4 d:Nat):Int)) r]);have:B+(c.g.length:Int)+(c.u.length:Int)+(l4 d:Nat)=B+((c.g.length+c.u.length+l4 d:Nat):Int):=by push_cast;simp+arith only
  rw[this]
theorem Pc(k:List LI)(r:LI):wP (k++[r])=wP k++wO r:=by unfold wP;simp
theorem MI(k:List LI)(r:LI):jK k+r.g.length+r.u.length=jK (k++[r]):=by unfold jK;rw[Ea];push_cast;simp+arith only
structure N_(k:List LI):Prop where
 lit:∀r∈k,fL r.u r.vv/\pR r.g
 first:∃r d,k=r::d/\r.g=bW #[]
theorem Ō:∀{k:List LI},(∀r∈k,fL r.u r.vv/\pR r.g)->l4 k<=13*k.length|[],_=>gz _|r::d,a=>by have z:=(a r (.head _)).1.len.2;have E:=(a r (.head _)).2.len;have h3:=Ō (k:=d) λ c hx=>a c (.tail _ hx);simp only[l4,ma];exact uD z E h3
inductive yv:List Nat->List Nat->HK->Prop|start:yv gQ [] (λ j=>⟨0,0⟩)|on{tl:List Nat}{KT:HK}:tl∈gk->yv cw tl KT
noncomputable def Z_(A y F aE o aC:bU)(ai tl:List Nat)(G KT:HK)(C:LV)(Q:TV)(sl:Array (Option bX))(k:List LI)(eD eW v:Nat)(aj:bX)(xs:List bX)(af:List (bU×bV)):List (bU×bV):=[(A,ck ai tl G KT C Q sl),(y,lst (jg k) eD),(F,lst (wR k) eW)]++([(aE,fI o (v:Nat) aj),(o,eU (R aC) v),(aC,lst xs 0)]++(jy 1 k++(wP k++af)))
theorem QH:(mV).1= .Tuple (D' (mV).1) (tupK (mV).1) (tupP (mV).1):=⋯
section
variable{ae f:cc}{ah:AP}{A y F aE o aC:bU}{s:cR}{ax:RS}{xs:List bX}
inductive æ(ae:cc)(ah:AP)(A y F aE o aC:bU)(xs:List bX)(i:Nat)(f:cc):Prop|mk(v:Nat)(k:List LI)(ai tl:List Nat)(G KT:HK)(d pl H p m wi:bX)(ty aa:cp)(Q:TV)(sl:Array (Option bX))(eD eW:Nat)(aj:bX)(af:List (bU×bV))(q:i+v=xs.length)(z:k.length<=v+1)(j:N_ k)(z3:yv ai tl KT)(g:At ae ah (Z_ A y F aE o aC ai tl G KT ⟨d,S (hU k) ty,R y,R F,I (jK k) aa,pl,H,p,m,wi⟩ Q sl k eD eW v aj xs af) dy f):æ ae ah A y F aE o aC xs i f
theorem PQ(J:jI A s)(u:∀b∈xs,∃H D,b=I H D)(aq:xs.length<=14)(B:æ ae ah A y F aE o aC xs xs.length f)(Kc:∀n ai tl G KT d pl H p m wi ty aa Q sl k eD eW af,k.length<=15->N_ k->yv ai tl KT->At ae ah ([(A,ck ai tl G KT ⟨d,S (hU k) ty,R y,R F,I (jK k) aa,pl,H,p,m,wi⟩ Q sl),(y,lst (jg k) eD),(F,lst (wR k) eW)]++(jy 1 k++(wP k++af))) dy n->ax (.ok .next) n):dQ (bZ bY w) s (.forLoop (mV).1 (R aE) nu [] (cW A)) ax f:=by
 refine codeAny_forLoop_any (æ ae ah A y F aE o aC xs) (λ i au hk=>?_) xs.length B;obtain⟨v,k,ai,tl,G,KT,d,pl,H,p,m,wi,ty,aa,Q,sl,eD,eW,aj,af,b9,a,M,hf,L⟩:=hk;rw[mw];have X1:=L.perm (ao:=[(aE,fI o (v:Nat) aj),(o,eU (R aC) v),(aC,lst xs 0)]++([(A,ck ai tl G KT ⟨d,S (hU k) ty,R y,R F,I (jK k) aa,pl,H,p,m,wi⟩ Q sl),(y,lst (jg k) eD),(F,lst (wR k) eW)]++(jy 1 k++(wP k++af)))) (ff λ j=>by simp only[Z_,ft,fv,fz];simp+arith only);by_cases hi:v<xs.length;·
  have aK:xs[v]?=Y xs[v]:=gv hi;refine zb (u xs[v] (zv hi)) λ nn t2 hx=>?_;rw[hx]at aK;refine Y4 aK (J.less 100 ⋯) X1 λ aJ n0 tn aR=>?_;show cm _ _ (qz (mV).1 (R aE) (R n0)) _ _ aJ;refine đ QH λ ak kk pp=>?_;have hE:aJ.heap.get? aE=Y (pK n0 o (v+1) (I nn t2)):=aR.has _ (.head _);have he:E8 aJ.heap aE o (((v+1:Nat)):Int) (I nn t2) n0:=by show aJ.heap.get? aE=_;rw[hE];unfold pK;rw[<-qI];rfl
  refine Cp he λ E ba aw=>?_;have aY:At ae ah ((aE,fI o (v+1:Nat) (I nn t2))::([(o,eU (R aC) (v+1)),(aC,lst xs 0),(n0,dk [I (v:Nat) tn,I nn t2])]++([(A,ck ai tl G KT ⟨d,S (hU k) ty,R y,R F,I (jK k) aa,pl,H,p,m,wi⟩ Q sl),(y,lst (jg k) eD),(F,lst (wR k) eW)]++(jy 1 k++(wP k++af))))) dy {aJ with heap:=E}:=At.upd aR aw (by show E.get? aE=_;rw[show E.get? aE=_ from ba];unfold fI;rw[<-qI];rfl) rfl rfl rfl;have aZ:=aY.perm (ao:=[(A,ck ai tl G KT ⟨d,S (hU k) ty,R y,R F,I (jK k) aa,pl,H,p,m,wi⟩ Q sl),(n0,dk [I (v:Nat) tn,I nn t2])]++([(y,lst (jg k) eD),(F,lst (wR k) eW)]++([(aE,fI o (v+1:Nat) (I nn t2)),(o,eU (R aC) (v+1)),(aC,lst xs 0)]++(jy 1 k++(wP k++af))))) (ff λ j=>by simp only[ft,fv,fz];simp+arith only);have be:=Ō M.lit;have hy:(hU k).length<=900000:=by rw[Ez];lia
  have hD:(jg k).length<=1048576:=by unfold jg;rw[gi];exact uD aq a hi
  have hW:(wR k).length<=1048576:=by unfold wR;rw[gi];exact uD aq a hi
  have t:∀(Lf x:List Nat)(V az:HK)(aV:cc),((Lf=rm/\x=[]/\az=λ q=>⟨0,0⟩)\/Lf=cw)->x∈gk->At ae ah ([(A,ck Lf x V az ⟨d,S (hU k) ty,R y,R F,I (jK k) aa,I (v:Nat) tn,I nn t2,p,m,wi⟩ Q sl)]++([(y,lst (jg k) eD),(F,lst (wR k) eW)]++([(aE,fI o (v+1:Nat) (I nn t2)),(o,eU (R aC) (v+1)),(aC,lst xs 0)]++(jy 1 k++(wP k++af))))) dy aV->cm (bZ bY w) s (dj nu (cW A)) (λ C aM=>match C with| .next| .cont=>∃m,m<i/\æ ae ah A y F aE o aC xs m aM| .brk=>ax (.ok .next) aM| .ret b=>ax (.ok (.ret b)) aM) (xt (bZ bY w) s (cW A) λ e n=>ax (.error e) n) aV:=λ Lf x V az aV bc z b4=>by
   refine PR (v:=(v:Nat)) (nn:=nn) (u:=default) bc J b4 (.inr z) λ b3 K' bb mm wS tk O tw g hw b7=>?_;refine PO J hw z g hy hD hW b7 (λ b6 l eX T' aX r2 aU b5=>?_) λ b6 l eX T' aX ay ao r r2 aU b8 aQ b5=>?_;·refine(cI (i-1) (by omega) ⟨v+1,k,cw,l,K',eX,d,I (v:Nat) tn,I nn t2,I (bb:Nat) tk,I mm O,S wS tw,ty,aa,T',aX,eD,eW,I nn t2,r2++af,by lia,gB a,M, .on aU,b5.perm (ff λ j=>?_)⟩);simp only[Z_,ft,fv,fz];simp+arith only
   ·refine(cI (i-1) (by omega) ⟨v+1,k++[r],cw,l,K',eX,d,I (v:Nat) tn,I nn t2,I (bb:Nat) tk,I mm O,S wS tw,ay,ao,T',aX,eD+1,eW+1,I nn t2,r2++af,by lia,by rw[qy];show k.length+1<=_;exact gB a,⟨λ c hx=>?_,?_⟩, .on aU,?_⟩);·
     rcases fJ.mp hx with hx|hx;·exact M.lit c hx
     ·obtain rfl:=pw.mp hx;exact⟨b8,aQ⟩
    ·refine yr M.first λ P r0 e1 e2=>?_;exact vY P (r0++[r]) (by rw[e1];rfl) e2
    ·have e1:jg (k++[r])=jg k++[R r.d]:=by unfold jg;rw[mc];rfl
     have e2:wR (k++[r])=wR k++[nS r.vv r.n1]:=by unfold wR;rw[mc];rfl
     rw[MI,<-MK]at b5;refine b5.perm (ff λ j=>?_);rw[Z_,e1,e2,DY,Pc];have e3:nW (jK k) r=nW (1+(l4 k:Nat)) r:=rfl;rw[e3];simp only[ft,fv,fz];simp+arith only
  rw[v7];cases hf with|start=>refine Y1 (C:=⟨d,S (hU k) ty,R y,R F,I (jK k) aa,pl,H,p,m,wi⟩) (Q:=Q) (v:=(v:Nat)) (H:=nn) (J.less 100 ⋯) aZ λ aV K' b4=>?_;exact t rm [] K' (λ q=>⟨0,0⟩) aV (.inl (cZ rfl rfl rfl)) ⋯ b4|on z=>refine Y0 (C:=⟨d,S (hU k) ty,R y,R F,I (jK k) aa,pl,H,p,m,wi⟩) (Q:=Q) (v:=(v:Nat)) (H:=nn) (J.less 100 ⋯) aZ λ aV b4=>?_;exact t cw tl G KT aV (.inr rfl) z b4
 ·have aK:xs[v]?=W:=uP (gB (wc hi));refine Y6 aK (J.less 100 ⋯) X1 λ aJ aR=>?_;show cm _ _ (dj [] _) _ _ aJ;refine ed ?_;refine Kc aJ ai tl G KT d pl H p m wi ty aa Q sl k eD eW ((aC,lst xs 0)::af) (uD aq (rx b9) a) M hf (aR.perm (ff λ j=>?_));simp only[ft,fv,fz];simp+arith only
end
noncomputable def ő(ak:List (bU×bV))(r:List fY):Sm:=⟨635,1,1,λ g j=> .ok (.ret (R (g 0))),λ j j=>[],λ j af=>[lst (mC (af 0).b) (r.length+2)],Y λ j af=>Fr ak (nX r (af 0).b)⟩
noncomputable def Cj:cN->bU| .call _ ⟨[_,R g],_⟩=>g|_=>0
theorem Mb(hn:fF c)(h9:c.cps.contains 9=X)(hx:c.cps.size<=1000000)(h0:0<c.cps.size)(hC:oP c 0 U (u::r))(hk:u.k=0)(hl:r.length<=90)(hc:d.c= .call (R 349) ⟨[S c (cG 0 d.c),R (Cj d.c)],[]⟩)(hg:d.gh=Fr ak dy)(ae:d.sm=ő ak (u::r)):cy x d:=by obtain⟨H,P,rn,rg,rs⟩:=d;simp only at hc hg ae;generalize cG 0 H=D at hc;generalize Cj H=m at hc;cases hc;cases hg;cases ae;exact cy.xy (N8 hn h9 hx h0 hC hk hl rfl rfl rfl)
noncomputable def Ja{c:cb}{u:fY}{r:List fY}{ak:List (bU×bV)}(hn:fF c)(h9:c.cps.contains 9=X)(hx:c.cps.size<=1000000)(h0:0<c.cps.size)(hC:oP c 0 U (u::r))(hk:u.k=0)(hl:r.length<=90):Qi:=⟨[],λ j j q=>(.call (R 349) ⟨[S c (cG 0 q.c),R (Cj q.c)],[]⟩,Fr ak dy,ő ak (u::r),[]),λ j j=>ő ak (u::r),λ j j j e=>Mb hn h9 hx h0 hC hk hl (kJ e) (nt e) (kI e)⟩
noncomputable def HM:List Nat:=nd 16 322 0x20555500505055c2033000300003ccccc102300003000300034555500505055b2033000300003bbbbb102300003000300034555500505055a2033000300003aaaaaaaa10230000300030003455550050505592033000300003999991023000030003000342220300030300300003422203000303003000034222030003030030000342220300030300300003444100003030000000000000000000000000000010
theorem Vo{s:cR}{V:VS}{aw:VS}{ae f:cc}{ah:AP}{ak:List (bU×bV)}{A:bU}{G:HK}{C:LV}{Q:TV}{sl:Array (Option bX)}{c:cb}{D:cp}{u:fY}{r:List fY}(hn:fF c)(h9:c.cps.contains 9=X)(hx:c.cps.size<=1000000)(h0:0<c.cps.size)(hC:oP c 0 U (u::r))(hk:u.k=0)(hl:r.length<=90)(J:cj 640 W s)(L:At ae ah ([(A,ck gQ [] G (λ j=>⟨0,0⟩) {C with wr:=S c D} Q sl)]++ak) dy f)(Kc:∀n(x:bU)l,At ae ah ([(A,ck gQ [] G (λ j=>⟨0,0⟩) {C with wr:=S c D} Q sl),(x,lst (mC l) ((u::r).length+2))]++ak) (nX (u::r) l) n->V (R x) n):cm (bZ bY w) s (dO (kO (st ik 2)) (cW A)) V aw f:=by exact vz J (At.push L) _ 3000 HM [Ja (ak:=ak) hn h9 hx h0 hC hk hl] [0,12] (λ j p=>Fr ak (nX (u::r) (p 31).b)) (λ d j j=>R (d 11)) (λ j p j=>[ck gQ [] G (λ j=>⟨0,0⟩) {C with wr:=S c D} Q sl,lst (mC (p 31).b) ((u::r).length+2)]) (λ j j j=>()) (λ j j j=>()) ⋯ λ n d p k j X'=>Kc _ _ _ (At.pull X')
theorem Vn{s:cR}{V:VS}{aw:VS}{ae f:cc}{ah:AP}{ak:List (bU×bV)}{A:bU}{G KT:HK}{C:LV}{Q:TV}{sl:Array (Option bX)}{tl:List Nat}{c:cb}{D:cp}{u:fY}{r:List fY}(hn:fF c)(h9:c.cps.contains 9=X)(hx:c.cps.size<=1000000)(h0:0<c.cps.size)(hC:oP c 0 U (u::r))(hk:u.k=0)(hl:r.length<=90)(J:cj 640 W s)(L:At ae ah ([(A,ck cw tl G KT {C with wr:=S c D} Q sl)]++ak) dy f)(Kc:∀n(x:bU)l,At ae ah ([(A,ck cw tl G KT {C with wr:=S c D} Q sl),(x,lst (mC l) ((u::r).length+2))]++ak) (nX (u::r) l) n->V (R x) n):cm (bZ bY w) s (dO (kO (st ik 2)) (cW A)) V aw f:=by exact vz J (At.push L) _ 3000 HM [Ja (ak:=ak) hn h9 hx h0 hC hk hl] [0,12] (λ j p=>Fr ak (nX (u::r) (p 31).b)) (λ d j j=>R (d 11)) (λ j p j=>[ck cw tl G KT {C with wr:=S c D} Q sl,lst (mC (p 31).b) ((u::r).length+2)]) (λ j j j=>()) (λ j j j=>()) ⋯ λ n d p k j X'=>Kc _ _ _ (At.pull X')
section
noncomputable def jU:Nat->Bool->List LI->List fY|_,_,[]=>[]|H,A,r::d=>⟨H+r.g.length,r.u,r.g,A⟩::jU (H+r.g.length+r.u.length) X d
theorem Fy(c t:cb)(y B:Nat)(a:c.cps[y]?=Y B):(c++t).cps[y]?=Y B:=by cases c;cases t;show(_++_:Array Nat)[y]?=_;have hj:=(iq.mp a).1;rw[Array.getElem?_append_left hj];exact a
theorem Ī(c t:cb)(y B:Nat)(a:t.cps[y]?=Y B):(c++t).cps[c.length+y]?=Y B:=by cases c;cases t;show(_++_:Array Nat)[_]?=_;rw[Array.getElem?_append_right (by simp[zN])];simpa[zN]using a
theorem Ħ:∀(k:List LI)(c:cb)(y B:Nat),c.cps[y]?=Y B->(rq c k).cps[y]?=Y B|[],_,_,_,a=>a|r::d,c,y,B,a=>Ħ d (c++(r.g++r.u)) y B (Fy _ _ _ _ a)
theorem sub_eq(a:tC c i o):ib c i (i+o.length)=o:=by
 unfold ib;cases o with
  |mk g=>
   congr 1;apply Array.ext_getElem?;intro y;have Q:i+(⟨g⟩:cb).length-i=g.size:=by show i+g.size-i=g.size;omega
   rw[Q];rw[List.getElem?_toArray,iJ];by_cases hj:y<g.size;·have z:g[y]?=Y g[y]:=wG hj;have E:=a y g[y] z;rw[zo hj,z];show Y (c.cps.getD (i+y) 0)=_;rw[Co,E];rfl
   ·rw[Cv (wc hj),uP (by simp;exact wc hj)];rfl
theorem Ey:∀(k:List LI)(pre:cb)(A:Bool),(∀r∈k,fL r.u r.vv/\pR r.g)->oP (rq pre k) pre.length A (jU pre.length A k)
 |[],pre,A,_=>rfl
 |r::d,pre,A,a=>by
  refine eA (a r (.head _)) λ hl hg=>?_;have ih:=Ey d (pre++(r.g++r.u)) X λ c hx=>a c (.tail _ hx);have aq:(pre++(r.g++r.u)).length=pre.length+r.g.length+r.u.length:=by rw[iz,iz];simp+arith only
  rw[aq]at ih;show oP (rq (pre++(r.g++r.u)) d) _ _ (_::_);generalize hx:rq (pre++(r.g++r.u)) d=c at ih;have b:tC c (pre.length+r.g.length) r.u:=λ y B hj=>by rw[<-hx];refine Ħ d _ _ _ ?_;rw[D7];exact Ī _ _ _ _ (Ī _ _ _ _ hj)
  have f:tC c pre.length r.g:=λ y B hj=>by rw[<-hx];refine Ħ d _ _ _ ?_;exact Ī _ _ _ _ (Fy _ _ _ _ hj)
  refine(Gr (pre.length+r.g.length+r.u.length) ?_ (sub_eq b).symm (sub_eq f).symm rfl ih);have e:=hl.lit c _ b;rcases hg with hg|hg;·left;rw[hg]at e⊢;exact⟨rfl,e⟩
  ·right;rw[hg]at e f b⊢;have az:pre.length+1<c.cps.size:=by
    rcases hl.hd with q|q;·exact b.lt (y:=0) q
    ·exact b.lt (y:=0) q
   refine(i6 rfl (f 0 32 rfl) ?_ az e);rcases hl.hd with q|q;·exact b.acc (y:=0) (b:=wa) q ⋯
   ·exact b.acc (y:=0) (b:=wa) q ⋯
noncomputable def rt(c:cb):Prop:=∀B∈c.cps.toList,mO B
theorem rt.app(hx:rt c)(hy:rt t):rt (c++t):=by
 intro B hc;cases c;cases t;have:B∈(_++_:Array Nat).toList:=hc;rw[Array.toList_append]at this;rcases fJ.mp this with q|q;·exact hx B q
 ·exact hy B q
theorem Fv:∀(k:List LI)(c:cb),rt c->(∀r∈k,fL r.u r.vv/\pR r.g)->rt (rq c k)
 |[],_,hx,_=>hx
 |r::d,c,hx,a=>by
  refine eA (a r (.head _)) λ hl hg=>?_;refine Fv d _ (hx.app (rt.app ?_ hl.ok)) λ t hy=>a t (.tail _ hy);rcases hg with hg|hg;·rw[hg];intro B hc;cases hc
  ·rw[hg];intro B hc;rcases pw.mp hc with rfl;exact cZ ⋯ ⋯ ⋯
open PySem.Builtin PySem.Builtin.Str PySem.StrLaws in theorem Wj(a:rt c):fF c:=by
 show(occurrences c ⟨#[10]⟩ 0 c.length (c.length+1)).isEmpty=U;rw[occ_eq];have aQ:∀(r:List Nat)(b:Nat),(forIn r ((#[]:Array Nat),b) (occBody c ⟨#[10]⟩ c.length (c.length+1))).run.fst=#[]:=by
  intro r;induction r with
   |nil=>intro b;simp
   |cons g r ih=>
    intro b;rw[List.forIn_cons];unfold occBody;have hc:¬(g+(⟨#[10]⟩:cb).length<=c.length/\subAt c ⟨#[10]⟩ g=U):=λ hq=>by have:=(subAt_one c 10 g).mp hq;exact(a 10 (pv this)).2.1 rfl
    rw[if_neg (λ hq=>hc ⟨hq.1.2,hq.2⟩)];exact ih b
 rw[aQ];rfl
theorem SV(a:rt c):c.cps.contains 9=X:=by cases q:c.cps.contains 9 with|false=>rfl|true=>have:=Array.contains_iff_mem.mp q;exact absurd rfl (a 9 (by simpa using this)).1
theorem ĳ:∀(k:List LI)(H:Nat)(A:Bool),(jU H A k).length=k.length|[],_,_=>rfl|_::d,H,A=>by simp only[jU,ma,ĳ d]
end
noncomputable def pe:Expr->Expr| .ListComp e _ _ _=>e|_=>default
noncomputable def gV:Expr->Ly| .ListComp _ (O::_) _ _=>O|_=>⟨default,default,[],0⟩
noncomputable def iW:Expr->Scope| .ListComp _ _ f _=>f|_=>default
noncomputable def wk:Expr->dK| .ListComp _ _ _ u=>u|_=>default
noncomputable def exR:dd->Expr| .Return (Y e) _=>e|_=>default
noncomputable def rtP:dd->dK| .Return _ u=>u|_=>default
noncomputable def qc:Expr:=fk (st ik 3)
noncomputable def qe:Expr:=exR (st ik 4)
noncomputable def eQ:Expr:=jh qc
noncomputable def eK:Expr:=jh qe
theorem SY:ik=(ik).take 1++([.For (mV).1 (mV).2.1 nu [] (match st ik 1 with| .For _ _ _ _ u=>u|_=>default)]++([.Assign [m7 (st ik 2)] (kO (st ik 2)) (Ci (st ik 2))]++([.If qc (pW (st ik 3)).2.1 [] (qm (st ik 3))]++[.Return (Y qe) (rtP (st ik 4))]))):=⋯
theorem Sk:qc= .Compare eQ [.NotEq] [kX qc] (w0 qc):=⋯
theorem SG:qe= .Compare eK [.Eq] [kX qe] (w0 qe):=⋯
theorem TG:eQ= .ListComp (pe eQ) [⟨(gV eQ).target,(gV eQ).iter,[],0⟩] (iW eQ) (wk eQ):=⋯
theorem Tz:eK= .ListComp (pe eK) [⟨(gV eK).target,(gV eK).iter,[],0⟩] (iW eK) (wk eK):=⋯
theorem Mp:(iW eQ).names=[(bW #[46,48], .local),(bW #[116], .local)]:=⋯
noncomputable def iy(e:Expr)(A aX:bU):di:=compEnv (iW e) aX (cW A)
noncomputable def cO(i:Ht)(b:bX):bV:=df [⟨i.h,S (bW #[116]) i.t,b⟩] 1
noncomputable def Ð(e:Expr)(A:bU):cD di:=CW (iW e) (cW A).globals [] [] (cW A).qual W .none (Y (cW A))
section
variable{s:cR}{aw:VS}{ae f:cc}{ah:AP}{P:GP}{ak:List (bU×bV)}{A:bU}{G KT:HK}{C:LV}{Q:TV}{sl:Array (Option bX)}{tl:List Nat}
theorem VO{A x:bU}{G:HK}{C:LV}{Q:TV}{sl:Array (Option bX)}(J:cj 100 W s)(L:At ae ah ([(A,ck gQ [] G (λ j=>⟨0,0⟩) C Q sl)]++ak) P f)(Kc:∀n(K':HK),At ae ah ([(A,ck gQ [15] G K' C {Q with to:=R x} sl)]++ak) P n->V () n):cm (bZ bY w) s (nF (m7 (st ik 2)) (cW A) (R x)) V aw f:=eZ J L _ 3000 (nd 16 2 0x11) [] [0] (λ d p k=>()) (λ d p k=>[ck gQ [15] G (ni k.2.T 5 [15]) C {Q with to:=R x} sl]) ⋯ (λ n d p k X'=>Kc n _ X')
theorem VN(hL:tl∈gk)(J:cj 100 W s)(L:At ae ah ([(A,ck cw tl G KT C Q sl)]++ak) P f)(Kc:∀n(K':HK),At ae ah ([(A,ck cw (tl++[15]) G K' C {Q with to:=R x} sl)]++ak) P n->V () n):cm (bZ bY w) s (nF (m7 (st ik 2)) (cW A) (R x)) V aw f:=jT (l1:=λ tl=>[(A,ck cw tl G KT C Q sl)]) hL J L _ 3000 (nd 16 2 0x11) [] [0] (λ d p k=>()) (λ tl d p k=>[ck cw (tl++[15]) G (ni k.2.T 10 (tl++[15])) C {Q with to:=R x} sl]) ⋯ (λ n d p k X'=>Kc n _ X')
theorem S6{A x:bU}{G KT:HK}{C:LV}{Q:TV}{sl:Array (Option bX)}(J:cj 100 W s)(L:At ae ah ([(A,ck gQ [15] G KT C {Q with to:=R x} sl)]++ak) P f)(Kc:∀n,At ae ah ([(A,ck gQ [15] G KT C {Q with to:=R x} sl)]++ak) P n->V (R x) n):cm (bZ bY w) s (dO (gV eQ).iter (cW A)) V aw f:=eZ J L _ 3000 (nd 16 1 0x1) [] [0] (λ d p k=>(R x)) (λ d p k=>[ck gQ [15] G KT C {Q with to:=R x} sl]) ⋯ (λ n d p k X'=>Kc n X')
theorem RZ(hL:tl∈gk)(J:cj 100 W s)(L:At ae ah ([(A,ck cw (tl++[15]) G KT C {Q with to:=R x} sl)]++ak) P f)(Kc:∀n,At ae ah ([(A,ck cw (tl++[15]) G KT C {Q with to:=R x} sl)]++ak) P n->V (R x) n):cm (bZ bY w) s (dO (gV eQ).iter (cW A)) V aw f:=jT (l1:=λ tl=>[(A,ck cw (tl++[15]) G KT C {Q with to:=R x} sl)]) hL J L _ 3000 (nd 16 1 0x1) [] [0] (λ d p k=>(R x)) (λ tl d p k=>[ck cw (tl++[15]) G KT C {Q with to:=R x} sl]) ⋯ (λ n d p k X'=>Kc n X')
theorem Vi{V:di->cc->Prop}{A:bU}(J:cj 100 W s)(L:At ae ah ([]++ak) P f)(Kc:∀n(n0:bU),At ae ah ([(n0,df [] 0)]++ak) P n->V (iy eQ A n0) n):cm (bZ bY w) s (Ð eQ A) V aw f:=eZ J L _ 3000 [] [] [0] (λ d p k=>(iy eQ A (d 0))) (λ d p k=>[df [] 0]) ⋯ (λ n d p k X'=>Kc n _ X')
theorem Sd{A aC b:bU}(J:cj 100 W s)(L:At ae ah ([(aC,df [] 0)]++ak) P f)(Kc:∀n(a:Ht),At ae ah ([(aC,cO a (R b))]++ak) P n->V () n):cm (bZ bY w) s (nF (gV eQ).target (iy eQ A aC) (R b)) V aw f:=eZ J L _ 3000 (nd 16 2 0x11) [] [0] (λ d p k=>()) (λ d p k=>[cO ⟨(d5 k.2.T 0 0).h,(d5 k.2.T 0 0).t⟩ (R b)]) ⋯ (λ n d p k X'=>Kc n _ X')
theorem Sb{A aC b i:bU}(J:cj 100 W s)(L:At ae ah ([(aC,cO kk (R i))]++ak) P f)(Kc:∀n,At ae ah ([(aC,cO kk (R b))]++ak) P n->V () n):cm (bZ bY w) s (nF (gV eQ).target (iy eQ A aC) (R b)) V aw f:=eZ J L _ 3000 (nd 16 2 0x11) [] [0] (λ d p k=>()) (λ d p k=>[cO kk (R b)]) ⋯ (λ n d p k X'=>Kc n X')
theorem Vm(J:cj 100 W s)(L:At ae ah ([(A,ck gQ tl G KT {C with du:=R y} Q sl)]++ak) P f)(Kc:∀n,At ae ah ([(A,ck gQ tl G KT {C with du:=R y} Q sl)]++ak) P n->V (R y) n):cm (bZ bY w) s (dO (kX qc) (cW A)) V aw f:=eZ J L _ 3000 (nd 16 1 0x1) [] [0] (λ d p k=>(R y)) (λ d p k=>[ck gQ tl G KT {C with du:=R y} Q sl]) ⋯ (λ n d p k X'=>Kc n X')
theorem Vk(J:cj 100 W s)(L:At ae ah ([(A,ck cw tl G KT {C with du:=R y} Q sl)]++ak) P f)(Kc:∀n,At ae ah ([(A,ck cw tl G KT {C with du:=R y} Q sl)]++ak) P n->V (R y) n):cm (bZ bY w) s (dO (kX qc) (cW A)) V aw f:=eZ J L _ 3000 (nd 16 1 0x1) [] [0] (λ d p k=>(R y)) (λ d p k=>[ck cw tl G KT {C with du:=R y} Q sl]) ⋯ (λ n d p k X'=>Kc n X')
theorem RY{A x:bU}{G KT:HK}{C:LV}{Q:TV}{sl:Array (Option bX)}(J:cj 100 W s)(L:At ae ah ([(A,ck gQ [15] G KT C {Q with to:=R x} sl)]++ak) P f)(Kc:∀n,At ae ah ([(A,ck gQ [15] G KT C {Q with to:=R x} sl)]++ak) P n->V (R x) n):cm (bZ bY w) s (dO (gV eK).iter (cW A)) V aw f:=eZ J L _ 3000 (nd 16 1 0x1) [] [0] (λ d p k=>(R x)) (λ d p k=>[ck gQ [15] G KT C {Q with to:=R x} sl]) ⋯ (λ n d p k X'=>Kc n X')
theorem RX(hL:tl∈gk)(J:cj 100 W s)(L:At ae ah ([(A,ck cw (tl++[15]) G KT C {Q with to:=R x} sl)]++ak) P f)(Kc:∀n,At ae ah ([(A,ck cw (tl++[15]) G KT C {Q with to:=R x} sl)]++ak) P n->V (R x) n):cm (bZ bY w) s (dO (gV eK).iter (cW A)) V aw f:=jT (l1:=λ tl=>[(A,ck cw (tl++[15]) G KT C {Q with to:=R x} sl)]) hL J L _ 3000 (nd 16 1 0x1) [] [0] (λ d p k=>(R x)) (λ tl d p k=>[ck cw (tl++[15]) G KT C {Q with to:=R x} sl]) ⋯ (λ n d p k X'=>Kc n X')
theorem Vh{V:di->cc->Prop}{A:bU}(J:cj 100 W s)(L:At ae ah ([]++ak) P f)(Kc:∀n(n0:bU),At ae ah ([(n0,df [] 0)]++ak) P n->V (iy eK A n0) n):cm (bZ bY w) s (Ð eK A) V aw f:=eZ J L _ 3000 [] [] [0] (λ d p k=>(iy eK A (d 0))) (λ d p k=>[df [] 0]) ⋯ (λ n d p k X'=>Kc n _ X')
theorem Sa{A aC b:bU}(J:cj 100 W s)(L:At ae ah ([(aC,df [] 0)]++ak) P f)(Kc:∀n(a:Ht),At ae ah ([(aC,cO a (R b))]++ak) P n->V () n):cm (bZ bY w) s (nF (gV eK).target (iy eK A aC) (R b)) V aw f:=eZ J L _ 3000 (nd 16 2 0x11) [] [0] (λ d p k=>()) (λ d p k=>[cO ⟨(d5 k.2.T 0 0).h,(d5 k.2.T 0 0).t⟩ (R b)]) ⋯ (λ n d p k X'=>Kc n _ X')
theorem S7{A aC b i:bU}(J:cj 100 W s)(L:At ae ah ([(aC,cO kk (R i))]++ak) P f)(Kc:∀n,At ae ah ([(aC,cO kk (R b))]++ak) P n->V () n):cm (bZ bY w) s (nF (gV eK).target (iy eK A aC) (R b)) V aw f:=eZ J L _ 3000 (nd 16 2 0x11) [] [0] (λ d p k=>()) (λ d p k=>[cO kk (R b)]) ⋯ (λ n d p k X'=>Kc n X')
theorem Vl(J:cj 100 W s)(L:At ae ah ([(A,ck gQ tl G KT {C with wo:=R y} Q sl)]++ak) P f)(Kc:∀n,At ae ah ([(A,ck gQ tl G KT {C with wo:=R y} Q sl)]++ak) P n->V (R y) n):cm (bZ bY w) s (dO (kX qe) (cW A)) V aw f:=eZ J L _ 3000 (nd 16 1 0x1) [] [0] (λ d p k=>(R y)) (λ d p k=>[ck gQ tl G KT {C with wo:=R y} Q sl]) ⋯ (λ n d p k X'=>Kc n X')
theorem Vj(J:cj 100 W s)(L:At ae ah ([(A,ck cw tl G KT {C with wo:=R y} Q sl)]++ak) P f)(Kc:∀n,At ae ah ([(A,ck cw tl G KT {C with wo:=R y} Q sl)]++ak) P n->V (R y) n):cm (bZ bY w) s (dO (kX qe) (cW A)) V aw f:=eZ J L _ 3000 (nd 16 1 0x1) [] [0] (λ d p k=>(R y)) (λ d p k=>[ck cw tl G KT {C with wo:=R y} Q sl]) ⋯ (λ n d p k X'=>Kc n X')
theorem HY(J:cj 100 W s)(L:At ae ah ([(x,lst xs e)]++ak) P f)(Kc:∀n(n0:bU),At ae ah ([(x,lst xs e),(n0,eU (R x) 0)]++ak) P n->V (R n0) n):cm (bZ bY w) s (Cm (R x)) V aw f:=eZ J L _ 3000 (nd 16 6 0x201011) [] [0,1] (λ d p k=>(R (d 0))) (λ d p k=>[lst xs e,eU (R x) 0]) ⋯ (λ n d p k X'=>Kc n _ X')
theorem HV(J:cj 100 W s)(L:At ae ah ([]++ak) P f)(Kc:∀n(n0:bU),At ae ah ([(n0,lst [] 0)]++ak) P n->V (R n0) n):cm (bZ bY w) s (p_ []) V aw f:=eZ J L _ 3000 [] [] [0] (λ d p k=>(R (d 0))) (λ d p k=>[lst [] 0]) ⋯ (λ n d p k X'=>Kc n _ X')
theorem HW{V:(Option bX)->cc->Prop}(hv:xs[v]?=Y b)(J:cj 100 W s)(L:At ae ah ([(o,eU (R c) v),(c,lst xs e)]++ak) P f)(Kc:∀n,At ae ah ([(o,eU (R c) (v+1)),(c,lst xs e)]++ak) P n->V (Y b) n):cm (bZ bY w) s (yD (R o)) V aw f:=eZ J L _ 3000 (nd 16 2 0x21) [Jb 0 1 v xs e b hv] [0,1] (λ d p k=>(Y b)) (λ d p k=>[eU (R c) (v+1),lst xs e]) ⋯ (λ n d p k X'=>Kc n X')
theorem HX{V:(Option bX)->cc->Prop}(hv:xs[v]?=W)(J:cj 100 W s)(L:At ae ah ([(o,eU (R c) v),(c,lst xs e)]++ak) P f)(Kc:∀n,At ae ah ([(c,lst xs e)]++ak) P n->V W n):cm (bZ bY w) s (yD (R o)) V aw f:=eZ J L _ 3000 (nd 16 3 0x421) [Ih 0 1 v xs e hv] [1] (λ d p k=>W) (λ d p k=>[lst xs e]) ⋯ (λ n d p k X'=>Kc n X')
theorem HZ(u:xs.length<=1048576)(J:cj 100 W s)(L:At ae ah ([(t,lst xs e)]++ak) P f)(Kc:∀n,At ae ah ([(t,lst (xs++[b]) (e+1))]++ak) P n->V .none n):cm (bZ bY w) s (uo (.builtin "list.append") [R t,b] []) V aw f:=eZ J L _ 3000 (nd 16 1 0x2) [pV 0 xs (λ j=>b) e u] [0] (λ d p k=> .none) (λ d p k=>[lst (xs++[b]) (e+1)]) ⋯ (λ n d p k X'=>Kc n X')
theorem w_f1{V:VS}{A aC:bU}{kk:Ht}{u:fY}{t:jb}(J:cj 100 W s)(L:At ae ah ([(aC,cO kk (R t.tk)),(t.dl,df [] 0),(t.loc,eB t.dl (u.k+1) t.tn t.t1 t.t2),(t.td,lb t.k1 t.k2 u.sv t.st u.fi),(t.tk,iX t.td (jZ (S fy t.tt) (S u.v t.tv) t.loc))]++ak) P f)(Kc:∀n(n0:bU),At ae ah ([(aC,cO kk (R t.tk)),(t.dl,df [] 0),(t.loc,eB t.dl (u.k+1) t.tn t.t1 t.t2),(t.td,lb t.k1 t.k2 u.sv t.st u.fi),(t.tk,iX t.td (jZ (S fy t.tt) (S u.v t.tv) t.loc)),(n0,dk [S fy t.tt,S u.v t.tv,S u.sv t.st,I ((u.k+1:Nat):Int) t.tn])]++ak) P n->V (R n0) n):cm (bZ bY w) s (dO (pe eQ) (iy eQ A aC)) V aw f:=eZ J L _ 3000 (nd 16 156 0x30300000030000000000000300003505000000500000000000000000500000051405500000500000051505000000500000000000000000500000051505000000500000000000000000500000051) [] [0,1,2,3,4,5] (λ d p k=>(R (d 0))) (λ d p k=>[cO kk (R t.tk),df [] 0,eB t.dl (u.k+1) t.tn t.t1 t.t2,lb t.k1 t.k2 u.sv t.st u.fi,iX t.td (jZ (S fy t.tt) (S u.v t.tv) t.loc),dk [S fy t.tt,S u.v t.tv,S u.sv t.st,I ((u.k+1:Nat):Int) t.tn]]) ⋯ (λ n d p k X'=>Kc n _ X')
theorem w_f2{V:VS}{A aC:bU}{kk:Ht}{u:fY}{t:jb}{j:cb}{g:Nat}(b:∀{x:FA}(q:Rc),q.c= .call (R 28) ⟨[S u.v (eJ q.c)],[]⟩->q.sm=gc j->cy x q)(hw:j=bW #[39,g,39]\/j=bW #[76,39,g,39])(J:cj 200 W s)(L:At ae ah ([(aC,cO kk (R t.tk)),(t.dl,df [] 0),(t.loc,eB t.dl (u.k+1) t.tn t.t1 t.t2),(t.td,lb t.k1 t.k2 u.sv t.st u.fi),(t.tk,iX t.td (jZ (S fy t.tt) (S u.v t.tv) t.loc))]++ak) P f)(Kc:∀n(n0:bU)(n1:bU)(tc:cp)(tv:cp),At ae ah ([(aC,cO kk (R t.tk)),(t.dl,df [] 0),(t.loc,eB t.dl (u.k+1) t.tn t.t1 t.t2),(t.td,lb t.k1 t.k2 u.sv t.st u.fi),(t.tk,iX t.td (jZ (S fy t.tt) (S u.v t.tv) t.loc)),(n0,lst [S gm tc] 0),(n1,dk [I (g:Nat) tv,R n0])]++ak) P n->V (R n1) n):cm (bZ bY w) s (dO (pe eK) (iy eK A aC)) V aw f:=eZ J L _ 3000 (nd 16 42 0x202050500000050000000000000000050000005100) [qW (λ q=> .call (R 28) ⟨[S u.v (eJ q.c)],[]⟩) (gc j) λ o=>b,Bj j g hw] [0,1,2,3,4,5,6] (λ d p k=>(R (d 1))) (λ d p k=>[cO kk (R t.tk),df [] 0,eB t.dl (u.k+1) t.tn t.t1 t.t2,lb t.k1 t.k2 u.sv t.st u.fi,iX t.td (jZ (S fy t.tt) (S u.v t.tv) t.loc),lst [S gm (f5 (k.2.T.get 5) 0)] 0,dk [I (g:Nat) (f5 (k.2.T.get 6) 0),R (d 0)]]) ⋯ (λ n d p k X'=>Kc n _ _ _ _ X')
theorem VA{V:VS}{A aC:bU}{kk:Ht}{u:fY}{t:jb}{j:cb}(b:∀{x:FA}(q:Rc),q.c= .call (R 28) ⟨[S u.v (eJ q.c)],[]⟩->q.sm=gc j->cy x q)(J:cj 200 W s)(L:At ae ah ([(aC,cO kk (R t.tk)),(t.dl,df [] 0),(t.loc,eB t.dl (u.k+1) t.tn t.t1 t.t2),(t.td,lb t.k1 t.k2 u.sv t.st u.fi),(t.tk,iX t.td (jZ (S fy t.tt) (S u.v t.tv) t.loc))]++ak) P f)(Kc:∀n D,At ae ah ([(aC,cO kk (R t.tk)),(t.dl,df [] 0),(t.loc,eB t.dl (u.k+1) t.tn t.t1 t.t2),(t.td,lb t.k1 t.k2 u.sv t.st u.fi),(t.tk,iX t.td (jZ (S fy t.tt) (S u.v t.tv) t.loc))]++ak) P n->dQ (bZ bY w) s (.call (R 588) ⟨[S j D],[]⟩) (RN V) n):cm (bZ bY w) s (dO (pe eK) (iy eK A aC)) V aw f:=my RN.rk J L _ 3000 (nd 16 41 0x2050500000050000000000000000050000005100) [qW (λ q=> .call (R 28) ⟨[S u.v (eJ q.c)],[]⟩) (gc j) λ o=>b] [0,1,2,3,4] (λ d p k=> .call (R 588) ⟨[S j (eJ (m6 k.1))],[]⟩) (λ d p k=>[cO kk (R t.tk),df [] 0,eB t.dl (u.k+1) t.tn t.t1 t.t2,lb t.k1 t.k2 u.sv t.st u.fi,iX t.td (jZ (S fy t.tt) (S u.v t.tv) t.loc)]) ⋯ (λ n d p k X'=>Kc n _ X')
end
section
theorem At.Hu(L:At ae ah ((g,k)::ls) P f)(o:wV g f.heap h'):At ae ah ls P {f with heap:=h'}:=by
 (refine cK L.own λ az z a=>?_;obtain⟨E,h3,fS,h4,h5,h6⟩:=a);have hF:az g:=(h4 g).mpr (.inl (.head _));have b:∀l k,f.heap.get? l=Y k->l≠g->h'.get? l=Y k:=λ l k M ay=>(o.2 l ay).trans M;have H:=gI.mp h3;refine⟨λ l k M=>b l k (L.base l k M) λ e=>?_,cI (λ l=>az l/\l≠g) (λ l M=>(cZ (z l M.1).1 (by show l<h'.objs.size;rw[o.1];exact(z l M.1).2.1) (z l M.1).2.2)) ⟨?_,H.2,fS,λ l=>?_,λ l M=>h5 l (.tail _ M),?_⟩,λ l k q1 q2=>b l k (L.keep l k q1 q2) ?_,by show _<=h'.objs.size;rw[o.1];exact L.size,L.drawn,L.os⟩;·rw[e,(z g hF).2.2]at M;cases M
 ·intro q hq;exact b q.1 q.2 (E q (.tail _ hq)) λ e=>H.1 (by rw[<-e];show q.1∈_;exact jd (f:=λ u:bU×bV=>u.1) hq)
 ·constructor;·
   rintro⟨q,ay⟩;rcases(h4 l).mp q with j|j;·
    rcases fw.mp j with j|j;·exact absurd j ay
    ·exact .inl j
   ·exact .inr j
  ·rintro(q|q);·exact⟨(h4 l).mpr (.inl (.tail _ q)),λ e=>H.1 (by rw[<-e];exact q)⟩
   ·exact⟨(h4 l).mpr (.inr q),λ e=>h5 g (.head _) (e▸q)⟩
 ·exact h6.sub (λ l k M ho=>b l k ho λ e=>h5 g (.head _) (e▸M)) rfl
 ·rintro rfl;rcases(z _ hF).1 with q|q;·exact q2 q
  ·exact absurd (fc q1) (iA.mpr q)
theorem ō:∀(v:Nat)(r:List fY)(ys:List jb)(u:fY)(t:jb),r[v]?=Y u->ys[v]?=Y t->(eN r ys).Perm (lK u t++(eN (r.take v) (ys.take v)++eN (r.drop (v+1)) (ys.drop (v+1))))
 |0,p'::r,a::ys,u,t,z,E=>by
  obtain rfl:p'=u:=by simpa using z
  obtain rfl:a=t:=by simpa using E
  exact CZ _
 |v+1,p'::r,a::ys,u,t,z,E=>by have ih:=ō v r ys u t (by simpa using z) (by simpa using E);show(lK p' a++eN r ys).Perm (lK u t++((lK p' a++eN (r.take v) (ys.take v))++eN (r.drop (v+1)) (ys.drop (v+1))));refine(b84 _ ih).trans (ff λ j=>?_);simp only[ft];simp+arith only
open Classical in theorem xF{A:Type}{r b:List A}(a:r.Perm b):∀g,ď g r=ď g b:=KG.mp a
noncomputable def jW:List fY->List jb->List bU->List (bU×bV)|u::r,t::ys,g::p=>(g,dk [S fy t.tt,S u.v t.tv,S u.sv t.st,I ((u.k+1:Nat):Int) t.tn])::jW r ys p|_,_,_=>[]
theorem DW:∀(p:List bU)(r:List fY)(ys:List jb)(u:fY)(t:jb)(g:bU),r[p.length]?=Y u->ys[p.length]?=Y t->jW r ys (p++[g])=jW r ys p++[(g,dk [S fy t.tt,S u.v t.tv,S u.sv t.st,I ((u.k+1:Nat):Int) t.tn])]
 |[],p'::r,a::ys,u,t,g,z,E=>by
  obtain rfl:p'=u:=by simpa using z
  obtain rfl:a=t:=by simpa using E
  cases r<;>cases ys<;>rfl
 |l::p,p'::r,a::ys,u,t,g,z,E=>by have ih:=DW p r ys u t g (by simpa using z) (by simpa using E);show _::jW r ys (p++[g])=_::(jW r ys p++_);rw[ih]
theorem G0{ys:List jb}{v:Nat}{t:jb}(a:ys[v]?=Y t):(f3 ys)[v]?=Y (R t.tk):=by unfold f3;rw[iJ,a];rfl
theorem EM(a:ys.length<=v):(f3 ys)[v]?=W:=by unfold f3;rw[iJ,uP a];rfl
noncomputable def tB(k:bV):Prop:=k=df [] 0\/∃i b,k=cO i (R b)
theorem tB.ns{a:eV}{g:bU}{k:bV}(hi:tB k)(ho:a.get? g=Y k):∃m,a.Ns g m:=by
 rcases hi with rfl|⟨i,b,rfl⟩;·exact d_ _ _ _ _ ho rfl (λ e he=>by simp at he) (λ j=>rfl)
 ·refine(d_ _ _ _ _ ho rfl (λ e he=>?_) (λ j=>rfl));have:e∈[(⟨i.h,S (bW #[116]) i.t,R b⟩:pF)]:=by simpa using he
  obtain rfl:=pw.mp this;exact rI _ _ rfl
theorem TA:(∀c∈(iW eQ).names,c.2≠ .free)/\(iW eQ).kind= .function/\∀c∈(iW eQ).names,c.2= .local->(iW eQ).names.lookup c.1=Y .local:=by rw[Mp];exact cZ ⋯ ⋯ ⋯
theorem Ql(A H:bU):({iy eQ A H with scope:=iW eQ}:di)=iy eQ A H:=⋯
theorem TC(A:bU):∀c,px (gV eQ).iter (cW A) c=pure c:=λ j=>⋯
theorem TB(v:bX):∀b,qz (gV eQ).target v b=pure ():=λ j=>⋯
end
section
variable{ae f:cc}{ah:AP}{P:GP}{ak:List (bU×bV)}{A x:bU}{g:bV}{s:cR}{V:VS}{aw:VS}{r:List fY}{ys:List jb}{e:Nat}
theorem Mo(a:cm (bZ bY w) s (dO (gV eQ).iter (cW A)) (λ c au=>cm (bZ bY w) s (sG c) (λ v aJ=>cm (bZ bY w) s (p_ []) (λ b aM=>cm (bZ bY w) s (Ð eQ A) (λ i aK=>dQ (bZ bY w) s (.compStart (.ListComp (pe eQ) [⟨(gV eQ).target,(gV eQ).iter,[],0⟩] (iW eQ) (wk eQ)) 0 v b {i with scope:=iW eQ}) (λ d n=>∃m,n.heap.Ns i.locals m/\∀h',wV i.locals n.heap h'->match d with| .ok _=>V b {n with heap:=h'}| .error c=>cm (bZ bY w) s (passOn "comprehension.variables-let-go" c {i with scope:=iW eQ}) V aw {n with heap:=h'}) aK) aw aM) aw aJ) aw au) aw f):cm (bZ bY w) s (dO eQ (cW A)) V aw f:=by refine mM TA λ k1 k2 k3=>?_;rw[<-fO,<-qJ]at a;rw[<-fO,TG];exact Ln k1 k2 k3 a (TC _)
inductive Ê(ae:cc)(ah:AP)(P:GP)(ak:List (bU×bV))(A x aC o a:bU)(g:bV)(r:List fY)(ys:List jb)(e H:Nat)(f:cc):Prop|mk(p:List bU)(oC:bV)(q:p.length+H=r.length)(z:tB oC)(j:At ae ah ([(aC,oC),(o,eU (R x) p.length),(x,lst (f3 ys) e),(a,lst (p.map .ref) p.length)]++(jW r ys p++((A,g)::(eN r ys++ak)))) P f):Ê ae ah P ak A x aC o a g r ys e H f
theorem TF(J:cj 300 W s)(z:ys.length=r.length)(aq:r.length<=1000000)(af:∀{ak:List (bU×bV)}{f:cc}{V:VS}{aw:VS},At ae ah ([(A,g)]++ak) P f->(∀n,At ae ah ([(A,g)]++ak) P n->V (R x) n)->cm (bZ bY w) s (dO (gV eQ).iter (cW A)) V aw f)(L:At ae ah ([(A,g),(x,lst (f3 ys) e)]++(eN r ys++ak)) P f)(Kc:∀n a(p:List bU),p.length=r.length->At ae ah ([(A,g),(x,lst (f3 ys) e),(a,lst (p.map .ref) p.length)]++(jW r ys p++(eN r ys++ak))) P n->V (R a) n):cm (bZ bY w) s (dO eQ (cW A)) V aw f:=by
 refine Mo ?_;refine af (ak:=[(x,lst (f3 ys) e)]++(eN r ys++ak)) (L.perm (CZ _)) λ au aU=>?_;have aQ:At ae ah ([(x,lst (f3 ys) e)]++((A,g)::(eN r ys++ak))) P au:=aU.perm (ff λ j=>by simp only[ft,fv,fz];simp+arith only);refine HY (J.less ⋯) aQ λ aJ o aR=>?_;refine HV (J.less ⋯) (ak:=[(x,lst (f3 ys) e),(o,eU (R x) 0)]++((A,g)::(eN r ys++ak))) aR λ aM a aY=>?_;refine Vi (J.less ⋯) (ak:=[(a,lst [] 0)]++([(x,lst (f3 ys) e),(o,eU (R x) 0)]++((A,g)::(eN r ys++ak)))) aY λ aK aC aZ=>?_;rw[Ql];have E:(iy eQ A aC).locals=aC:=rfl;rw[E];have F:Ê ae ah P ak A x aC o a g r ys e r.length aK:=by
  refine⟨[],df [] 0,by show 0+_=_;exact lj _, .inl rfl,aZ.perm (ff λ j=>?_)⟩;have:jW r ys []=[]:=by cases r<;>cases ys<;>rfl
  rw[this];simp only[Dh,CR,ft,fv,fz];simp+arith only
 have y:∀ax:RS,(∀n(oC:bV)(p:List bU),p.length=r.length->tB oC->At ae ah ([(aC,oC),(A,g),(x,lst (f3 ys) e),(a,lst (p.map .ref) p.length)]++(jW r ys p++(eN r ys++ak))) P n->ax (.ok .next) n)->dQ (bZ bY w) s (.compLoop (.ListComp (pe eQ) [⟨(gV eQ).target,(gV eQ).iter,[],0⟩] (iW eQ) (wk eQ)) 0 (R o) (R a) (iy eQ A aC)) ax aK:=λ ax hR=>by
  refine Kr (Ê ae ah P ak A x aC o a g r ys e) (λ H n B=>?_) r.length F (TB _);obtain⟨p,oC,hn,hC,L⟩:=B;have M:=L.perm (ao:=[(o,eU (R x) p.length),(x,lst (f3 ys) e)]++([(aC,oC),(a,lst (p.map .ref) p.length)]++(jW r ys p++((A,g)::(eN r ys++ak))))) (ff λ j=>by simp only[ft,fv,fz];simp+arith only);rw[mw];by_cases hi:p.length<r.length;·
   have hp:r[p.length]?=Y r[p.length]:=gv hi;have hy:ys[p.length]?=Y (ys[p.length]'(hV (oa z) hi)):=gv (hV (oa z) hi);generalize r[p.length]=u at hp;generalize ys[p.length]'(by omega)=t at hy;refine HW (G0 hy) (J.less ⋯) M λ b3 b7=>?_;show cm _ _ (xK _ _ _) _ _ _;have d:=ō _ _ _ _ _ hp hy;have k:∀(kk:Ht)(b6:cc),At ae ah ([(aC,cO kk (R t.tk))]++([(o,eU (R x) (p.length+1)),(x,lst (f3 ys) e),(a,lst (p.map .ref) p.length)]++(jW r ys p++((A,g)::(eN r ys++ak))))) P b6->cm (bZ bY w) s (gr (pe eQ) (iy eQ A aC)) (λ c aM=>cm (bZ bY w) s (tO (.builtin "list.append") [R a,c]) (λ q aK=>∃m,m<H/\Ê ae ah P ak A x aC o a g r ys e m aK) (xt (bZ bY w) s (iy eQ A aC) λ e n=>ax (.error e) n) aM) (xt (bZ bY w) s (iy eQ A aC) λ e n=>ax (.error e) n) b6:=λ kk b6 b5=>by rw[fO,ħ];have az:=b5.perm (ao:=[(aC,cO kk (R t.tk)),(t.dl,df [] 0),(t.loc,eB t.dl (u.k+1) t.tn t.t1 t.t2),(t.td,lb t.k1 t.k2 u.sv t.st u.fi),(t.tk,iX t.td (jZ (S fy t.tt) (S u.v t.tv) t.loc))]++([(o,eU (R x) (p.length+1)),(x,lst (f3 ys) e),(a,lst (p.map .ref) p.length)]++(jW r ys p++((A,g)::((eN (r.take p.length) (ys.take p.length)++eN (r.drop (p.length+1)) (ys.drop (p.length+1)))++ak))))) (ff λ j=>by have:=xF d j;simp only[lK,rM,ft,fv,fz]at this⊢;lia);refine w_f1 (J.less ⋯) az λ aa aN ao=>?_;have ay:=ao.perm (ao:=[(a,lst (p.map .ref) p.length)]++([(aC,cO kk (R t.tk)),(o,eU (R x) (p.length+1)),(x,lst (f3 ys) e)]++(jW r ys (p++[aN])++((A,g)::(eN r ys++ak))))) (ff λ j=>by have:=xF d j;rw[DW _ _ _ _ _ aN hp hy];simp only[lK,rM,ft,fv,fz]at this⊢;lia);refine HZ (by rw[gi];exact hV aq hi) (J.less ⋯) ay λ b4 l=>?_;refine(cI (H-1) (by omega) ⟨p++[aN],cO kk (R t.tk),by rw[qy];show p.length+1+_=_;omega, .inr (rI _ _ rfl),l.perm (ff λ j=>?_)⟩);rw[mc,qy,ò];simp only[ir,Dh,ft,fv,fz];simp+arith only
   rw[v7];rcases hC with rfl|⟨k0,i,rfl⟩;·refine Sd (J.less ⋯) (ak:=[(o,eU (R x) (p.length+1)),(x,lst (f3 ys) e),(a,lst (p.map .ref) p.length)]++(jW r ys p++((A,g)::(eN r ys++ak)))) (b7.perm (ff λ j=>by simp only[ft,fv,fz];simp+arith only)) λ b6 kk b5=>?_;exact k kk b6 b5
   ·refine Sb (kk:=k0) (i:=i) (J.less ⋯) (ak:=[(o,eU (R x) (p.length+1)),(x,lst (f3 ys) e),(a,lst (p.map .ref) p.length)]++(jW r ys p++((A,g)::(eN r ys++ak)))) (b7.perm (ff λ j=>by simp only[ft,fv,fz];simp+arith only)) λ b6 b5=>?_;exact k k0 b6 b5
  ·refine HX (EM (hV (rx z) (wc hi))) (J.less ⋯) M λ b3 b7=>?_;refine hR b3 oC p (by lia) hC (b7.perm (ff λ j=>?_));simp only[ft,fv,fz];simp+arith only
 have O:aK.heap.IsListIter o x 0:=(gn _ (aZ.has _ (.tail _ (.tail _ (.tail _ (.head _))))) (by rw[oJ]) (by rw[oJ]));have aj:∀n(oC:bV)(p:List bU),p.length=r.length->tB oC->At ae ah ([(aC,oC),(A,g),(x,lst (f3 ys) e),(a,lst (p.map .ref) p.length)]++(jW r ys p++(eN r ys++ak))) P n->∃m,n.heap.Ns aC m/\∀h',wV aC n.heap h'->V (R a) {n with heap:=h'}:=λ n oC p hl hC L=>by refine eE (hC.ns (L.has _ (.head _))) λ m hm=>?_;exact cI m hm (λ h' hs=>Kc _ a p hl (L.Hu hs))
 exact Km (y _ aj) (Kq O (y _ aj))
end
noncomputable def Rep(o:cb)(vv:Option Nat):Prop:=∃t,(∀{x:FA}(d:Rc),d.c= .call (R 28) ⟨[S o (eJ d.c)],[]⟩->d.sm=gc t->cy x d)/\(match vv with|Y g=>t=bW #[39,g,39]\/t=bW #[76,39,g,39]|W=>∃ie,gP t ie)
structure WI where
 n0:bU
 n1:bU
 tq:cp
 tv:cp
noncomputable def jE:List (Option Nat)->List WI->List (bU×bV)|b::vs,c::xs=>mD b c.n0 c.n1 c.tq c.tv++jE vs xs|_,_=>[]
noncomputable def jB:List (Option Nat)->List WI->List bX|b::vs,c::xs=>nS b c.n1::jB vs xs|_,_=>[]
theorem Fk(vs:List (Option Nat)):jE vs []=[]:=by cases vs<;>rfl
theorem ŀ(vs:List (Option Nat)):jB vs []=[]:=by cases vs<;>rfl
theorem Et:∀(xs:List WI)(vs:List (Option Nat))(b:Option Nat)(c:WI),vs[xs.length]?=Y b->jE vs (xs++[c])=jE vs xs++mD b c.n0 c.n1 c.tq c.tv
 |[],x::vs,b,c,a=>by
  obtain rfl:x=b:=by simpa using a
  show mD x c.n0 c.n1 c.tq c.tv++jE vs []=[]++_;rw[Fk,md,Lj]
 |j::xs,x::vs,b,c,a=>by have ih:=Et xs vs b c (by simpa using a);show _++jE vs (xs++[c])=(_++jE vs xs)++_;rw[ih,CI]
theorem Es:∀(xs:List WI)(vs:List (Option Nat))(b:Option Nat)(c:WI),vs[xs.length]?=Y b->jB vs (xs++[c])=jB vs xs++[nS b c.n1]
 |[],x::vs,b,c,a=>by
  obtain rfl:x=b:=by simpa using a
  show nS x c.n1::jB vs []=_;rw[ŀ,ŀ,Lj]
 |j::xs,x::vs,b,c,a=>by have ih:=Es xs vs b c (by simpa using a);show _::jB vs (xs++[c])=_::(jB vs xs++_);rw[ih]
theorem Fj:∀(vs:List (Option Nat))(xs:List WI),(jB vs xs).length<=xs.length|[],_=>oz _|_::_,[]=>oz _|_::vs,_::xs=>L5 (Fj vs xs)
theorem Mn:(iW eK).names=[(bW #[46,48], .local),(bW #[116], .local),(bW #[95,108,97,119,95,119,111,114,116,104], .globalImplicit),(bW #[114,101,112,108,97,99,101,95,101,115,99,97,112,101,95,99,111,100,101,115], .globalImplicit)]:=⋯
theorem Tu:(∀c∈(iW eK).names,c.2≠ .free)/\(iW eK).kind= .function/\∀c∈(iW eK).names,c.2= .local->(iW eK).names.lookup c.1=Y .local:=by rw[Mn];exact cZ ⋯ ⋯ ⋯
theorem Qk(A H:bU):({iy eK A H with scope:=iW eK}:di)=iy eK A H:=⋯
theorem Tw(A:bU):∀c,px (gV eK).iter (cW A) c=pure c:=λ j=>⋯
theorem Tv(v:bX):∀b,qz (gV eK).target v b=pure ():=λ j=>⋯
section
variable{ae f:cc}{ah:AP}{P:GP}{ak:List (bU×bV)}{A x:bU}{ai tl:List Nat}{G KT:HK}{C:LV}{Q:TV}{sl:Array (Option bX)}{s:cR}{V:VS}{aw:VS}{r:List fY}{ys:List jb}{vs:List (Option Nat)}{e:Nat}
theorem Mm(a:cm (bZ bY w) s (dO (gV eK).iter (cW A)) (λ c au=>cm (bZ bY w) s (sG c) (λ v aJ=>cm (bZ bY w) s (p_ []) (λ b aM=>cm (bZ bY w) s (Ð eK A) (λ i aK=>dQ (bZ bY w) s (.compStart (.ListComp (pe eK) [⟨(gV eK).target,(gV eK).iter,[],0⟩] (iW eK) (wk eK)) 0 v b {i with scope:=iW eK}) (λ d n=>∃m,n.heap.Ns i.locals m/\∀h',wV i.locals n.heap h'->match d with| .ok _=>V b {n with heap:=h'}| .error c=>cm (bZ bY w) s (passOn "comprehension.variables-let-go" c {i with scope:=iW eK}) V aw {n with heap:=h'}) aK) aw aM) aw aJ) aw au) aw f):cm (bZ bY w) s (dO eK (cW A)) V aw f:=by refine mM Tu λ k1 k2 k3=>?_;rw[<-fO,<-qJ]at a;rw[<-fO,Tz];exact Ln k1 k2 k3 a (Tw _)
inductive yu(ae:cc)(ah:AP)(P:GP)(ak:List (bU×bV))(A x aC o a:bU)(ai tl:List Nat)(G KT:HK)(C:LV)(Q:TV)(r:List fY)(ys:List jb)(vs:List (Option Nat))(e H:Nat)(f:cc):Prop|mk(xs:List WI)(oC:bV)(sl:Array (Option bX))(q:xs.length+H=r.length)(z:tB oC)(j:At ae ah ([(aC,oC),(o,eU (R x) xs.length),(x,lst (f3 ys) e),(a,lst (jB vs xs) xs.length)]++(jE vs xs++((A,ck ai tl G KT C Q sl)::(eN r ys++ak)))) P f):yu ae ah P ak A x aC o a ai tl G KT C Q r ys vs e H f
theorem Tx(J:jI A s)(z:ys.length=r.length)(aV:vs.length=r.length)(aq:r.length<=1000000)(b8:∀(v:Nat)(u:fY)(vv:Option Nat),r[v]?=Y u->vs[v]?=Y vv->Rep u.v vv)(af:∀{ak:List (bU×bV)}{f:cc}{V:VS}{aw:VS},At ae ah ([(A,ck ai tl G KT C Q sl)]++ak) P f->(∀n,At ae ah ([(A,ck ai tl G KT C Q sl)]++ak) P n->V (R x) n)->cm (bZ bY w) s (dO (gV eK).iter (cW A)) V aw f)(L:At ae ah ([(A,ck ai tl G KT C Q sl),(x,lst (f3 ys) e)]++(eN r ys++ak)) P f)(Kc:∀n a(xs:List WI)(aX:Array (Option bX)),xs.length=r.length->At ae ah ([(A,ck ai tl G KT C Q aX),(x,lst (f3 ys) e),(a,lst (jB vs xs) xs.length)]++(jE vs xs++(eN r ys++ak))) P n->V (R a) n):cm (bZ bY w) s (dO eK (cW A)) V aw f:=by
 refine Mm ?_;refine af (ak:=[(x,lst (f3 ys) e)]++(eN r ys++ak)) (L.perm (CZ _)) λ au aU=>?_;have aQ:At ae ah ([(x,lst (f3 ys) e)]++((A,ck ai tl G KT C Q sl)::(eN r ys++ak))) P au:=aU.perm (ff λ j=>by simp only[ft,fv,fz];simp+arith only);refine HY (J.less 100 ⋯) aQ λ aJ o aR=>?_;refine HV (J.less 100 ⋯) (ak:=[(x,lst (f3 ys) e),(o,eU (R x) 0)]++((A,ck ai tl G KT C Q sl)::(eN r ys++ak))) aR λ aM a aY=>?_;refine Vh (J.less 100 ⋯) (ak:=[(a,lst [] 0)]++([(x,lst (f3 ys) e),(o,eU (R x) 0)]++((A,ck ai tl G KT C Q sl)::(eN r ys++ak)))) aY λ aK aC aZ=>?_;rw[Qk];have E:(iy eK A aC).locals=aC:=rfl;rw[E];have F:yu ae ah P ak A x aC o a ai tl G KT C Q r ys vs e r.length aK:=by refine⟨[],df [] 0,sl,by show 0+_=_;exact lj _, .inl rfl,aZ.perm (ff λ j=>?_)⟩;rw[Fk,ŀ];simp only[CR,ft,fv,fz];simp+arith only
 have y:∀ax:RS,(∀n(oC:bV)(xs:List WI)(aX:Array (Option bX)),xs.length=r.length->tB oC->At ae ah ([(aC,oC),(A,ck ai tl G KT C Q aX),(x,lst (f3 ys) e),(a,lst (jB vs xs) xs.length)]++(jE vs xs++(eN r ys++ak))) P n->ax (.ok .next) n)->dQ (bZ bY w) s (.compLoop (.ListComp (pe eK) [⟨(gV eK).target,(gV eK).iter,[],0⟩] (iW eK) (wk eK)) 0 (R o) (R a) (iy eK A aC)) ax aK:=λ ax hR=>by
  refine Kr (yu ae ah P ak A x aC o a ai tl G KT C Q r ys vs e) (λ H n B=>?_) r.length F (Tv _);obtain⟨xs,oC,sl,hn,hC,L⟩:=B;have M:=L.perm (ao:=[(o,eU (R x) xs.length),(x,lst (f3 ys) e)]++([(aC,oC),(a,lst (jB vs xs) xs.length)]++(jE vs xs++((A,ck ai tl G KT C Q sl)::(eN r ys++ak))))) (ff λ j=>by simp only[ft,fv,fz];simp+arith only);rw[mw];by_cases hi:xs.length<r.length;·
   have hp:r[xs.length]?=Y r[xs.length]:=gv hi;have hy:ys[xs.length]?=Y (ys[xs.length]'(by lia)):=gv (by lia);have hv:vs[xs.length]?=Y (vs[xs.length]'(hV (oa aV) hi)):=gv (hV (oa aV) hi);generalize r[xs.length]=u at hp;generalize ys[xs.length]'(by lia)=t at hy;generalize vs[xs.length]'(by omega)=vv at hv;refine HW (G0 hy) (J.less 100 ⋯) M λ b3 b7=>?_;show cm _ _ (xK _ _ _) _ _ _;have d:=ō _ _ _ _ _ hp hy;refine cK (b8 _ _ _ hp hv) λ j b hz=>?_;have k:∀(kk:Ht)(b6:cc),At ae ah ([(aC,cO kk (R t.tk))]++([(o,eU (R x) (xs.length+1)),(x,lst (f3 ys) e),(a,lst (jB vs xs) xs.length)]++(jE vs xs++((A,ck ai tl G KT C Q sl)::(eN r ys++ak))))) P b6->cm (bZ bY w) s (gr (pe eK) (iy eK A aC)) (λ c aM=>cm (bZ bY w) s (tO (.builtin "list.append") [R a,c]) (λ q aK=>∃m,m<H/\yu ae ah P ak A x aC o a ai tl G KT C Q r ys vs e m aK) (xt (bZ bY w) s (iy eK A aC) λ e n=>ax (.error e) n) aM) (xt (bZ bY w) s (iy eK A aC) λ e n=>ax (.error e) n) b6:=λ kk b6 b5=>by
    rw[fO,ħ];have az:=b5.perm (ao:=[(aC,cO kk (R t.tk)),(t.dl,df [] 0),(t.loc,eB t.dl (u.k+1) t.tn t.t1 t.t2),(t.td,lb t.k1 t.k2 u.sv t.st u.fi),(t.tk,iX t.td (jZ (S fy t.tt) (S u.v t.tv) t.loc))]++([(o,eU (R x) (xs.length+1)),(x,lst (f3 ys) e),(a,lst (jB vs xs) xs.length)]++(jE vs xs++((A,ck ai tl G KT C Q sl)::((eN (r.take xs.length) (ys.take xs.length)++eN (r.drop (xs.length+1)) (ys.drop (xs.length+1)))++ak))))) (ff λ j=>by have:=xF d j;simp only[lK,rM,ft,fv,fz]at this⊢;lia);have p:∀(c:WI)(aX:Array (Option bX))(aa:cc),At ae ah ([(a,lst (jB vs xs) xs.length)]++([(aC,cO kk (R t.tk)),(o,eU (R x) (xs.length+1)),(x,lst (f3 ys) e)]++((jE vs xs++mD vv c.n0 c.n1 c.tq c.tv)++((A,ck ai tl G KT C Q aX)::(eN r ys++ak))))) P aa->cm (bZ bY w) s (uo (.builtin "list.append") [R a,nS vv c.n1] []) (λ q aK=>∃m,m<H/\yu ae ah P ak A x aC o a ai tl G KT C Q r ys vs e m aK) (xt (bZ bY w) s (iy eK A aC) λ e n=>ax (.error e) n) aa:=λ c aX aa ao=>by have hg:=Fj vs xs;refine HZ (by lia) (J.less 100 ⋯) ao λ b4 l=>?_;refine(cI (H-1) (by omega) ⟨xs++[c],cO kk (R t.tk),aX,by rw[qy];show xs.length+1+_=_;omega, .inr (rI _ _ rfl),l.perm (ff λ j=>?_)⟩);rw[Es _ _ _ _ hv,Et _ _ _ _ hv,qy,ò];simp only[ft,fv,fz];simp+arith only
    cases vv with|some g=>refine w_f2 b hz (J.less 200 ⋯) az λ aa n0 n1 tc tv ao=>?_;refine p ⟨n0,n1,tc,tv⟩ sl aa (ao.perm (ff λ j=>?_));have:=xF d j;simp only[mD,lK,rM,ft,fv,fz]at this⊢;lia|none=>refine eE hz λ ie b9=>?_;refine VA b (J.less 200 ⋯) az λ aa D ao=>?_;have ay:=ao.perm (ao:=[(A,ck ai tl G KT C Q sl)]++([(aC,cO kk (R t.tk)),(o,eU (R x) (xs.length+1)),(x,lst (f3 ys) e),(a,lst (jB vs xs) xs.length)]++(jE vs xs++(eN r ys++ak)))) (ff λ j=>by have:=xF d j;simp only[lK,rM,ft,fv,fz]at this⊢;lia);refine ċ J b9 ay λ b4 aX l=>?_;refine p ⟨0,0,0,0⟩ aX b4 (l.perm (ff λ j=>?_));simp only[mD,ft,fv,fz];simp+arith only
   rw[v7];rcases hC with rfl|⟨k0,i,rfl⟩;·refine Sa (J.less 100 ⋯) (ak:=[(o,eU (R x) (xs.length+1)),(x,lst (f3 ys) e),(a,lst (jB vs xs) xs.length)]++(jE vs xs++((A,ck ai tl G KT C Q sl)::(eN r ys++ak)))) (b7.perm (ff λ j=>by simp only[ft,fv,fz];simp+arith only)) λ b6 kk b5=>?_;exact k kk b6 b5
   ·refine S7 (kk:=k0) (i:=i) (J.less 100 ⋯) (ak:=[(o,eU (R x) (xs.length+1)),(x,lst (f3 ys) e),(a,lst (jB vs xs) xs.length)]++(jE vs xs++((A,ck ai tl G KT C Q sl)::(eN r ys++ak)))) (b7.perm (ff λ j=>by simp only[ft,fv,fz];simp+arith only)) λ b6 b5=>?_;exact k k0 b6 b5
  ·refine HX (EM (by lia)) (J.less 100 ⋯) M λ b3 b7=>?_;refine hR b3 oC xs sl (by lia) hC (b7.perm (ff λ j=>?_));simp only[ft,fv,fz];simp+arith only
 have O:aK.heap.IsListIter o x 0:=(gn _ (aZ.has _ (.tail _ (.tail _ (.tail _ (.head _))))) (by rw[oJ]) (by rw[oJ]));have aj:∀n(oC:bV)(xs:List WI)(aX:Array (Option bX)),xs.length=r.length->tB oC->At ae ah ([(aC,oC),(A,ck ai tl G KT C Q aX),(x,lst (f3 ys) e),(a,lst (jB vs xs) xs.length)]++(jE vs xs++(eN r ys++ak))) P n->∃m,n.heap.Ns aC m/\∀h',wV aC n.heap h'->V (R a) {n with heap:=h'}:=λ n oC xs aX hl hC L=>by refine eE (hC.ns (L.has _ (.head _))) λ m hm=>?_;exact cI m hm (λ h' hs=>Kc _ a xs aX hl (L.Hu hs))
 exact Km (y _ aj) (Kq O (y _ aj))
end
theorem gy.app(aa:gy a (g++l)):gy a g/\gy a l:=⟨λ u hp=>aa u (fJ.mpr (.inl hp)),λ u hp=>aa u (fJ.mpr (.inr hp))⟩
noncomputable def sr:Int->List LI->List C'|_,[]=>[]|B,r::d=> .tuple [.str fy, .str r.u, .str r.g, .int (B+r.g.length)]::sr (B+r.g.length+r.u.length) d
theorem G9(z:a.get? g=Y (dk [S fy t1,S o t2,S O t3,I H b]))(e:H=c):Reads a (R g) (.tuple [.str fy, .str o, .str O, .int c]) []:=by subst e;rw[dk,<-xh]at z;exact .tuple z rfl rfl (.cons (.str _ _) (.cons (.str _ _) (.cons (.str _ _) (.cons (.int _ _) .nil))))
theorem DN:∀(k:List LI)(B:Int),gy a (jy B k)->j_ a (jg k) (sr B k) []|[],_,_=> .nil|r::d,B,aa=> .cons (as:=[]) (G9 (aa (nW B r) (.head _)) rfl) (DN d _ λ u hp=>aa u (.tail _ hp))
theorem reads_got:∀(k:List LI)(H:Nat)(A:Bool)(ys:List jb)(p:List bU)(B:Int),ys.length=k.length->p.length=k.length->B=(H:Int)+1->gy a (jW (jU H A k) ys p)->j_ a (p.map .ref) (sr B k) []
 |[],_,_,_,[],_,_,_,_,_=> .nil
 |r::d,H,A,t::ys,g::p,B,z,E,hc,aa=>by
  refine .cons (as:=[]) (G9 (aa _ (.head _)) ?_) (reads_got d (H+r.g.length+r.u.length) X ys p _ (by simpa using z) (by simpa using E) ?_ λ u hp=>aa u (.tail _ hp));·subst hc;show((H+r.g.length+1:Nat):Int)=_;push_cast;simp+arith only
  ·subst hc;push_cast;simp+arith only
 |[],_,_,_,_::_,_,_,E,_,_=>by simp at E
 |_::_,_,_,[],_,_,z,_,_,_=>by simp at z
 |_::_,_,_,_::_,[],_,_,E,_,_=>by simp at E
theorem Fw:∀(k:List LI)(B:Int),(∀r∈k,fL r.u r.vv/\pR r.g)->rW (sr B k)=U
 |[],_,_=>by simp[sr,rW]
 |r::d,B,aa=>by
  have ih:=Fw d (B+r.g.length+r.u.length) λ c hx=>aa c (.tail _ hx);refine eA (aa r (.head _)) λ z E=>?_;have e1:wQ fy=U:=⋯
  have e2:wQ r.u=U:=by unfold wQ;rw[Array.all_eq_true_iff_forall_mem];intro B hc;exact decide_eq_true (z.ok B (by simpa using hc)).2.2
  have e3:wQ r.g=U:=by rcases E with q|q<;>rw[q]<;>kernel_rfl
  simp[sr,rW,zA,e1,e2,e3,ih]
theorem ń:∀(k:List LI)(B:Int),wM (sr B k)<=1|[],_=>oz _|r::d,B=>by have ih:=ń d (B+r.g.length+r.u.length);simp only[sr,wM,ā];lia
theorem w'(z:rW m=U)(E:wM m<=8):Ā (.list m)=U:=by unfold Ā;rw[ox];refine⟨by rw[zA];exact z,decide_eq_true ?_⟩;rw[ā];exact gB E
theorem GI(z:rW m=U):DI (.list m) (.list m)=U:=SeqAt.eqv_refl _ (by rw[zA];exact z)
noncomputable def wD:Option Nat->C'|Y g=> .tuple [.int (g:Nat), .list [.str gm]]|W=> .none
theorem L_:∀vs:List (Option Nat),rW (vs.map wD)=U
 |[]=>by simp[rW]
 |b::vs=>by
  have ih:=L_ vs;have e:wQ gm=U:=⋯
  cases b<;>simp[wD,rW,zA,e,ih]
theorem Ż:∀vs:List (Option Nat),wM (vs.map wD)<=8|[]=>oz _|b::vs=>by have ih:=Ż vs;cases b<;>simp only[ir,wD,wM,ā]<;>omega
theorem El(aa:gy a (mD b n0 n1 tq tv)):∃p,Reads a (nS b n1) (wD b) p:=by cases b with|none=>exact⟨_, .none⟩|some g=>exact ġ (aa _ (.head _)) (aa _ (.tail _ (.head _)))
theorem Ek:∀k:List LI,gy a (wP k)->∃p,j_ a (wR k) ((k.map (·.vv)).map wD) p|[],_=>⟨_, .nil⟩|r::d,aa=>by obtain⟨g,r1⟩:=El (b:=r.vv) (gy.app (g:=wO r) (l:=wP d) aa).1;obtain⟨v,r2⟩:=Ek d (gy.app (g:=wO r) (l:=wP d) aa).2;exact⟨_, .cons r1 r2⟩
theorem Em:∀(vs:List (Option Nat))(xs:List WI),vs.length=xs.length->gy a (jE vs xs)->∃p,j_ a (jB vs xs) (vs.map wD) p|[],[],_,_=>⟨_, .nil⟩|b::vs,c::xs,e,aa=>by obtain⟨g,r1⟩:=El (b:=b) (gy.app (g:=mD b c.n0 c.n1 c.tq c.tv) (l:=jE vs xs) aa).1;obtain⟨v,r2⟩:=Em vs xs (by simpa using e) (gy.app (g:=mD b c.n0 c.n1 c.tq c.tv) (l:=jE vs xs) aa).2;exact⟨_, .cons r1 r2⟩|[],_::_,e,_=>by simp at e|_::_,[],e,_=>by simp at e
theorem zP(z:a.get? g=Y (lst xs e))(E:j_ a xs m p):Reads a (R g) (.list m) (g::p):=by rw[lst_is]at z;exact .list z rfl rfl E
theorem G8:∀(k:List LI)(H:Nat)(A:Bool),(∀r∈k,fL r.u r.vv/\pR r.g)->∀(v:Nat)(u:fY)(vv:Option Nat),(jU H A k)[v]?=Y u->(k.map (·.vv))[v]?=Y vv->Rep u.v vv
 |[],_,_,_,_,_,_,z,_=>by simp[jU]at z
 |r::d,H,A,aa,0,u,vv,z,E=>by
  have e1:(⟨H+r.g.length,r.u,r.g,A⟩:fY)=u:=by simpa[jU]using z
  have e2:r.vv=vv:=by simpa using E
  subst e1;subst e2;exact(aa r (.head _)).1.rep
 |r::d,H,A,aa,v+1,u,vv,z,E=>G8 d _ _ (λ c hx=>aa c (.tail _ hx)) v u vv (by simpa[jU]using z) (by simpa using E)
theorem T3(A:bU):assignEach [m7 (st ik 2)] (cW A)=[(X,xK (m7 (st ik 2)) (cW A))]:=⋯
section
variable{ae f:cc}{ah:AP}{af:List (bU×bV)}{A x y F:bU}{ai tl:List Nat}{G KT:HK}{C:LV}{Q:TV}{sl:Array (Option bX)}{s:cR}{V:hZ}{aw:VS}{k:List LI}{i eD eW:Nat}
theorem Gj(J:jI A s)(M:N_ k)(aq:k.length<=15)(t1:∀{ak:List (bU×bV)}{P:GP}{f:cc}{V:VS}{aw:VS},At ae ah ([(A,ck ai tl G KT C Q sl)]++ak) P f->(∀n,At ae ah ([(A,ck ai tl G KT C Q sl)]++ak) P n->V (R x) n)->cm (bZ bY w) s (dO (gV eQ).iter (cW A)) V aw f)(t2:∀{ak:List (bU×bV)}{P:GP}{f:cc}{V:VS}{aw:VS},At ae ah ([(A,ck ai tl G KT C Q sl)]++ak) P f->(∀n,At ae ah ([(A,ck ai tl G KT C Q sl)]++ak) P n->V (R x) n)->cm (bZ bY w) s (dO (gV eK).iter (cW A)) V aw f)(r:∀{ak:List (bU×bV)}{P:GP}{f:cc}{V:VS}{aw:VS},At ae ah ([(A,ck ai tl G KT C Q sl)]++ak) P f->(∀n,At ae ah ([(A,ck ai tl G KT C Q sl)]++ak) P n->V (R y) n)->cm (bZ bY w) s (dO (kX qc) (cW A)) V aw f)(t:∀{sl:Array (Option bX)}{ak:List (bU×bV)}{P:GP}{f:cc}{V:VS}{aw:VS},At ae ah ([(A,ck ai tl G KT C Q sl)]++ak) P f->(∀n,At ae ah ([(A,ck ai tl G KT C Q sl)]++ak) P n->V (R F) n)->cm (bZ bY w) s (dO (kX qe) (cW A)) V aw f)(L:At ae ah ([(A,ck ai tl G KT C Q sl),(x,lst (mC l) i)]++([(y,lst (jg k) eD),(F,lst (wR k) eW)]++(jy 1 k++(wP k++af)))) (nX (jU 0 U k) l) f)(Kc:∀n ao,At ae ah ao dy n->V (.ret (.bool U)) n){p1 p2:dK}:cm (bZ bY w) s (dj ([.If qc E [] p1]++[.Return (Y qe) p2]) (cW A)) V aw f:=by refine cK L.vE λ fS h6 q=>?_;obtain⟨ys,e1,e2,e3⟩:=h6.now;have aU:=(q _ e3.eF).pull;rw[e2]at aU;have z:(jU 0 U k).length=k.length:=ĳ k 0 U;have hu:=J.u;have c:=Fw k 1 M.lit;refine mU ?_;rw[<-i2];refine yh Sk ?_ ⋯;rw[fO];refine TF (J.less 300 ⋯) e1 (hV aq (rx z)) t1 (ak:=[(y,lst (jg k) eD),(F,lst (wR k) eW)]++(jy 1 k++(wP k++af))) (e:=i) (aU.perm (ff λ j=>by simp only[ft,fv,fz];simp+arith only)) λ aJ a p aa aR=>?_;have b3:=aR.perm (ao:=[(A,ck ai tl G KT C Q sl)]++([(x,lst (f3 ys) i),(a,lst (p.map .ref) p.length)]++(jW (jU 0 U k) ys p++(eN (jU 0 U k) ys++([(y,lst (jg k) eD),(F,lst (wR k) eW)]++(jy 1 k++(wP k++af))))))) (ff λ j=>by simp only[ft,fv,fz];simp+arith only);refine r b3 λ aM aY=>?_;have B:=λ u hp=>aY.has u hp;have o:=zP (B (y,lst (jg k) eD) (by simp)) (DN k 1 λ u hp=>B u (by simp[hp]));have rg:=zP (B (a,lst (p.map .ref) p.length) (mi 2)) (reads_got k 0 U ys p 1 (e1.trans z) (aa.trans z) (by rfl) λ u hp=>B u (by simp[hp]));refine Ct rg o (w' c (by have:=ń k 1;exact yE this)) (w' c (by have:=ń k 1;exact yE this)) hu ?_;refine(cZ (by rw[GI c];rfl) rfl ?_);refine ŧ ?_;rw[SG];refine wpAny_Compare1 ?_ ⋯;rw[fO];refine Tx J e1 (by rw[gi,z]) (hV aq (rx z)) (G8 k 0 U M.lit) t2 (ak:=[(a,lst (p.map .ref) p.length)]++(jW (jU 0 U k) ys p++([(y,lst (jg k) eD),(F,lst (wR k) eW)]++(jy 1 k++(wP k++af))))) (e:=i) (aY.perm (ff λ j=>by simp only[ft,fv,fz];simp+arith only)) λ aK m xs aX H aZ=>?_;have e:=aZ.perm (ao:=[(A,ck ai tl G KT C Q aX)]++([(x,lst (f3 ys) i),(m,lst (jB (k.map (·.vv)) xs) xs.length)]++(jE (k.map (·.vv)) xs++(eN (jU 0 U k) ys++([(a,lst (p.map .ref) p.length)]++(jW (jU 0 U k) ys p++([(y,lst (jg k) eD),(F,lst (wR k) eW)]++(jy 1 k++(wP k++af))))))))) (ff λ j=>by simp only[ft,fv,fz];simp+arith only);refine t e λ aV b4=>?_;have b:=λ u hp=>b4.has u hp;refine eE (Ek (a:=aV.heap) k λ u hp=>b u (by simp[hp])) λ g r1=>?_;refine eE (Em (a:=aV.heap) (k.map (·.vv)) xs (by rw[gi];lia) λ u hp=>b u (by simp[hp])) λ v r2=>?_;have D:=zP (b (F,lst (wR k) eW) (by simp)) r1;have d:=zP (b (m,lst (jB (k.map (·.vv)) xs) xs.length) (mi 2)) r2;refine SeqAt.compareEq_shaped d D (w' (L_ _) (Ż _)) (w' (L_ _) (Ż _)) hu ?_;rw[GI (L_ _)];exact Kc _ _ b4
end
theorem Nw(A:bU):∀c,px (mV).2.1 (cW A) c=pure c:=λ j=>⋯
section
variable{ae f:cc}{ah:AP}{af ak:List (bU×bV)}{A x y F c:bU}{ai tl:List Nat}{G KT:HK}{C:LV}{Q:TV}{sl:Array (Option bX)}{s:cR}{V:hZ}{aw:VS}{k:List LI}{i eD eW:Nat}{d pl H p m wi:bX}{ty aa:cp}
theorem PN(J:jI A s)(hf:yv ai tl KT)(M:N_ k)(aq:k.length<=15)(L:At ae ah ([(A,ck ai tl G KT ⟨d,S (hU k) ty,R y,R F,I (jK k) aa,pl,H,p,m,wi⟩ Q sl),(y,lst (jg k) eD),(F,lst (wR k) eW)]++(jy 1 k++(wP k++af))) dy f)(Kc:∀n ao,At ae ah ao dy n->V (.ret (.bool U)) n){p1 p2:dK}:cm (bZ bY w) s (dj ([.Assign [m7 (st ik 2)] (kO (st ik 2)) (Ci (st ik 2))]++([.If qc E [] p1]++[.Return (Y qe) p2])) (cW A)) V aw f:=by
 refine yr M.first λ P r0 e1 e2=>?_;have ba:=Fv k (bW #[]) (λ B hc=>by cases hc) M.lit;have hn:fF (hU k):=Wj ba;have h9:(hU k).cps.contains 9=X:=SV ba;have hC:oP (hU k) 0 U (jU 0 U k):=Ey k (bW #[]) U M.lit;have e:=Ō M.lit;have aj:(hU k).cps.size=l4 k:=Ez k;have hx:(hU k).cps.size<=1000000:=by rw[aj];lia
 have h0:0<(hU k).cps.size:=by rw[aj,e1];have:=(M.lit P (by rw[e1];exact .head _)).1.len.1;simp only[l4];exact gB this
 obtain⟨u,r,o,a,D⟩:∃u r,jU 0 U k=u::r/\u.k=0/\r.length<=90:=by refine(eC _ _ (by rw[e1];rfl) (by show 0+P.g.length=0;rw[e2];rfl) ?_);rw[ĳ];have:=aq;rw[e1]at this;simp only[ma]at this;exact yF this
 rw[o]at hC;refine mU ?_;rw[<-i2,qH];refine cJ (wpAny_Assign_stores ?_ ⋯ ⋯);rw[fO,T3];show cm _ _ (dO (kO (st ik 2)) (cW A)) (λ b au=>cm _ _ (xK (m7 (st ik 2)) (cW A) b) _ aw au) aw f;rw[v7];cases hf with
  |start=>
   refine Vo (C:=⟨d,S (hU k) ty,R y,R F,I (jK k) aa,pl,H,p,m,wi⟩) (Q:=Q) (ak:=[(y,lst (jg k) eD),(F,lst (wR k) eW)]++(jy 1 k++(wP k++af))) hn h9 hx h0 hC a D (J.less 640 ⋯) L λ au x l aU=>?_;rw[<-o]at aU;refine VO (C:=⟨d,S (hU k) ty,R y,R F,I (jK k) aa,pl,H,p,m,wi⟩) (Q:=Q) (ak:=[(x,lst (mC l) ((jU 0 U k).length+2))]++([(y,lst (jg k) eD),(F,lst (wR k) eW)]++(jy 1 k++(wP k++af)))) (J.less 100 ⋯) aU λ aJ K' aR=>?_;refine ed ⟨rfl,?_⟩;refine Gj J M aq ?_ ?_ ?_ ?_ aR Kc;·exact λ L G=>S6 (J.less 100 ⋯) L G
   ·exact λ L G=>RY (J.less 100 ⋯) L G
   ·exact λ L G=>Vm (C:=⟨d,S (hU k) ty,R y,R F,I (jK k) aa,pl,H,p,m,wi⟩) (J.less 100 ⋯) L G
   ·exact λ L G=>Vl (C:=⟨d,S (hU k) ty,R y,R F,I (jK k) aa,pl,H,p,m,wi⟩) (J.less 100 ⋯) L G
  |on hL=>
   refine Vn (C:=⟨d,S (hU k) ty,R y,R F,I (jK k) aa,pl,H,p,m,wi⟩) (Q:=Q) (ak:=[(y,lst (jg k) eD),(F,lst (wR k) eW)]++(jy 1 k++(wP k++af))) hn h9 hx h0 hC a D (J.less 640 ⋯) L λ au x l aU=>?_;rw[<-o]at aU;refine VN (C:=⟨d,S (hU k) ty,R y,R F,I (jK k) aa,pl,H,p,m,wi⟩) (Q:=Q) (ak:=[(x,lst (mC l) ((jU 0 U k).length+2))]++([(y,lst (jg k) eD),(F,lst (wR k) eW)]++(jy 1 k++(wP k++af)))) hL (J.less 100 ⋯) aU λ aJ K' aR=>?_;refine ed ⟨rfl,?_⟩;refine Gj J M aq ?_ ?_ ?_ ?_ aR Kc;·exact λ L G=>RZ hL (J.less 100 ⋯) L G
   ·exact λ L G=>RX hL (J.less 100 ⋯) L G
   ·exact λ L G=>Vk (C:=⟨d,S (hU k) ty,R y,R F,I (jK k) aa,pl,H,p,m,wi⟩) (J.less 100 ⋯) L G
   ·exact λ L G=>Vj (C:=⟨d,S (hU k) ty,R y,R F,I (jK k) aa,pl,H,p,m,wi⟩) (J.less 100 ⋯) L G
theorem PS(a:aj=ik)(J:jI A s)(u:∀b∈xs,∃H D,b=I H D)(aq:xs.length<=1048576)(L:At ae ah ([(A,ck [0] [] G (λ q=>⟨0,0⟩) {C with sQ:=R c} Q sl),(c,lst xs e)]++ak) dy f)(Kc:∀n ao,At ae ah ao dy n->n.heap.get? c=Y (lst xs e)->V (.ret (.bool U)) n):cm (bZ bY w) s (dj aj (cW A)) V aw f:=by
 rw[a,SY];clear a;refine mU ?_;refine Y3 (C:=C) (Q:=Q) (ak:=(c,lst xs e)::ak) (J.less 100 ⋯) L λ au n0 y n2 n3 F K' tw tc ta t1 t2 tb tq tv aU=>?_;refine⟨rfl,?_⟩;refine mU ?_;rw[<-i2,qH];refine cJ (wpAny_For ?_ (Nw _));rw[fO,qJ];obtain⟨aQ,ax,aX,B,ay,pl,H,p,m,wi⟩:=C;have aR:=aU.perm (ao:=[(A,ck gQ [] K' (λ q=>⟨0,0⟩) ⟨R c,S (bW #[76,39,65,39]) tw,R y,R F,I 5 tc,pl,H,p,m,wi⟩ Q sl),(c,lst xs e)]++([(n0,dk [S fy ta,S (bW #[76,39,65,39]) t1,S (bW #[]) t2,I 1 tb]),(y,lst [R n0] 0),(n2,lst [S gm tq] 0),(n3,dk [I 65 tv,R n2]),(F,lst [R n3] 0)]++ak)) (ff λ j=>by simp only[ft,fv,fz];simp+arith only);refine Y7 aq (C:=⟨R c,S (bW #[76,39,65,39]) tw,R y,R F,I 5 tc,pl,H,p,m,wi⟩) (Q:=Q) (J.less 100 ⋯) aR λ aJ aC o aE aY=>?_;have aZ:=aY.perm (ao:=[(aE,fI o 0 .none)]++([(A,ck gQ [] K' (λ q=>⟨0,0⟩) ⟨R c,S (bW #[76,39,65,39]) tw,R y,R F,I 5 tc,pl,H,p,m,wi⟩ Q sl),(c,lst xs e),(aC,lst (cut xs) 0),(o,eU (R aC) 0)]++([(n0,dk [S fy ta,S (bW #[76,39,65,39]) t1,S (bW #[]) t2,I 1 tb]),(y,lst [R n0] 0),(n2,lst [S gm tq] 0),(n3,dk [I 65 tv,R n2]),(F,lst [R n3] 0)]++ak))) (ff λ j=>by simp only[ft,fv,fz];simp+arith only);refine Y5 (J.less 100 ⋯) aZ λ aM b4=>?_;have v:fL (bW #[76,39,65,39]) (Y 65):=Gm ⋯ ⋯ (cZ ⋯ ⋯ ⋯);have b7:=b4.perm (ao:=[(c,lst xs e)]++([(A,ck gQ [] K' (λ q=>⟨0,0⟩) ⟨R c,S (bW #[76,39,65,39]) tw,R y,R F,I 5 tc,pl,H,p,m,wi⟩ Q sl),(y,lst [R n0] 0),(F,lst [R n3] 0)]++([(aE,fI o 0 .none),(o,eU (R aC) 0),(aC,lst (cut xs) 0)]++([(n0,dk [S fy ta,S (bW #[76,39,65,39]) t1,S (bW #[]) t2,I 1 tb])]++([(n2,lst [S gm tq] 0),(n3,dk [I 65 tv,R n2])]++ak))))) (ff λ j=>by simp only[ft,fv,fz];simp+arith only);refine cK b7.own λ az z E=>?_;obtain⟨q1,q2,fS,q3,q4,q5⟩:=E.push;have g:aM.heap.get? c=Y (lst xs e):=q1 (c,lst xs e) (.head _);have t:∀l,fS l->az l:=λ l M=>(q3 l).mpr (.inr M);have aV:=At.start b7.base (λ l M=>(z l (t l M)).2) q5.now;refine PQ J (xs:=cut xs) (y:=y) (F:=F) (o:=o) (aC:=aC) (ah:=fS) (ae:=aM) (λ b hv=>u b (QX hv)) (QY xs) ?_ λ aK ai tl G KT d pl H p m wi ty aa Q sl k eD eW af g1 O g3 b5=>?_;·
  refine⟨0,[⟨bW #[],bW #[76,39,65,39],Y 65,n0,ta,t1,t2,tb,n2,n3,tq,tv⟩],gQ,[],K',λ q=>⟨0,0⟩,R c,pl,H,p,m,wi,tw,tc,Q,sl,0,0, .none,ak,by rfl,by show 1<=0+1;exact gz _,⟨λ r hl=>?_,_,_,rfl,rfl⟩, .start,?_⟩;·obtain rfl:=pw.mp hl;exact⟨v, .inl rfl⟩
  ·exact aV
 ·refine ed ⟨rfl,?_⟩;refine PN J g3 O g1 b5 λ n ao P=>?_;exact Kc n ao (b7.trans z t P) (P.keep _ _ g (q4 c (.head _)))
end
noncomputable def IH(c:bU)(kk:HK):bV:=ck [0] [] kk (λ j=>⟨0,0⟩) ⟨R c, .none, .none, .none, .none, .none, .none, .none, .none, .none⟩ ⟨.none, .none, .none, .none, .none, .none⟩ #[]
theorem Wn(c:bU):i7 600 ⟨[R c],[]⟩ 100 [1,1,1] (IH c) []:=by unfold i7;kernel_rfl
section
variable{s:cR}{ax:RS}{f:cc}{fp:AP}{c:bU}{xs:List bX}{e:Nat}
theorem Nz(J:cj 690 W s)(b9:s.frames=Y [])(M:Base f.heap)(ah:∀l,fp l->l<f.heap.objs.size/\dp.get l=W)(hC:dD fp (Fr [(c,lst xs e)] dy) f)(u:∀b∈xs,∃H D,b=I H D)(aq:xs.length<=1048576)(G:∀n ao,At f fp ao dy n->n.heap.get? c=Y (lst xs e)->ax (.ok (.ret (.bool U))) n):dQ (bZ bY w) s (.call (R 600) ⟨[R c],[]⟩) ax f:=by
 obtain⟨aj,hS⟩:∃aj,aj=ik:=⟨_,rfl⟩;refine At.enter (v:=100) (aj:=aj) (i:=cW) (J.less ⋯) (At.zero M ah hC) (Wn c) (hS:=hS) λ A a au j A1 X0=>?_;have X1:At f fp ([(A,IH c a)]++[(c,lst xs e)]) dy au:=At.pull X0;have aa:jI A (s.under (.func aj (cW A))):=by refine⟨cj.func (J.less ⋯),?_⟩;show mS (lD aj (cW A)).envs s.frames=_;subst hS;rw[T1,wX,b9];rfl
 have X2:At f fp ([(A,ck [0] [] a (λ j=>⟨0,0⟩) ⟨R c, .none, .none, .none, .none, .none, .none, .none, .none, .none⟩ ⟨.none, .none, .none, .none, .none, .none⟩ #[]),(c,lst xs e)]++[]) dy au:=X1;refine kQ ?_;exact PS (G:=a) (Q:=⟨.none, .none, .none, .none, .none, .none⟩) (sl:=#[]) (ak:=[]) (C:=⟨R c, .none, .none, .none, .none, .none, .none, .none, .none, .none⟩) hS aa u aq X2 λ n ao P hS=>G n ao P hS
end
end Mine
end
section
open PySem PySem.W PySem.W.X PyProof.Rows PySem.Calls
namespace Mine
theorem Yq:(rE (wx P)).get 246=Y (dm #[]):=⋯
theorem Yp:dp.get 601=W:=⋯
noncomputable def AZ(k:Option bV):Bool:=match k with
 |Y k=>match k.data with
  | .fields (vs:Array bX)=>match vs[11]? with|Y (R c)=>kq c 246&&(match k.cls with|T (H:String)=>decide (H="code")|_=>X)|_=>X
  |_=>X
 |W=>X
set_option tactic.hygienic true in theorem Qs(a:AZ d=U):∃k vs,d=Y k/\k.cls=T "code" /\k.data= .fields vs/\vs[11]?=Y (R 246):=by
 unfold AZ at a;split at a;·
  rename_i k;split at a;·
   rename_i vs hd;split at a;·
    rename_i c hx;refine eA (Cz.mp a) λ z E=>?_;split at E;·rename_i H hc;have:=of_decide_eq_true E;subst this;have e:=tD z;subst e;exact xx k vs rfl hc hd hx
    ·cases E
   ·cases a
  ·cases a
 ·cases a
theorem Xm:AZ (dp.get 250)=U:=⋯
theorem ŝ{b:lJ}{a h':eV}(t:a.objs=(H1 b.params).objs)(i:∀l k,a.get? l=Y k->h'.get? l=Y k){g:bU}{k:bV}(ha:g<601)(e:(rE (wx b.params)).get g=Y k):h'.get? g=Y k:=by
 refine cK (ļ _ _ _ e) λ j z E=>?_;refine i g k ?_;have c:(H1 b.params).get? g=alive j:=abs_get ha z;rw[E]at c;have:a.get? g=(H1 b.params).get? g:=by unfold nD;rw[t]
 rw[this];exact c
theorem Qq:vX 601 dp 1 0=U:=⋯
theorem Rr{a h':eV}(t:a.objs=(H1 w.params).objs)(i:∀l k,a.get? l=Y k->h'.get? l=Y k):Base h':=λ g k e=>by have r:=c_ 601 _ _ _ Qq g k e;rw[Dx,s7]at r;exact ŝ t i r (zU 246 _ 1 0 g k e).1
theorem Oq:cj 690 W FJ:=⟨rfl,⋯,⋯⟩
theorem NA(hF:∀l,ah l->l=c\/l=246)(M:Base au.heap)(d:au.heap.get? 246=Y (dm #[]))(hS:au.heap.get? c=Y b)(P:At au ah ls dy n)(e:n.heap.get? c=Y b):OldK au.heap n.heap/\n.os=au.os/\AllBare n.gens:=by
 have j:=P.bare;refine cK P.vE λ fS h6 _=>?_;obtain⟨ps,_,t1,_⟩:=h6.now;have aX:n.heap.get? 246=Y (dm ps):=t1 (246,dm ps) (.head _);have aQ:∀l k,au.heap.get? l=Y k->asItWas au.heap n.heap l k/\∃o',n.heap.get? l=Y o':=λ l k m=>by
  by_cases e1:l=246;·
   subst e1;rw[d]at m;obtain rfl:=jo m;refine(fM (.inr (.inl (TX ?_ rfl #[] ps rfl ?_))) _ aX);·refine GK (Qs Xm) λ f vs q1 q2 q3 q4=>?_;exact m_ 250 f vs (M _ _ q1) q2 q3 q4
   ·rw[aX,Array.empty_append];rfl
  ·by_cases e2:l=c;·subst e2;rw[hS]at m;obtain rfl:=jo m;exact fM (.inl e) _ e
   ·have:=P.keep l k m λ hf=>(hF l hf).elim e2 e1;exact fM (.inl this) _ this
 exact cZ ⟨λ l k a=>(aQ l k a).1,λ l k a=>(aQ l k a).2⟩ P.os j
theorem NC(a:FN vs c):(∀b∈vs,∃H D,b=I H D)/\vs.length=c.length:=by
 induction a with
  |nil=>exact⟨λ j a=>(nomatch a),rfl⟩
  |cons H D _ ih=>
   refine⟨λ b hv=>?_,by simp[ih.2]⟩;rcases fw.mp hv with rfl|hv;·exact rI _ _ rfl
   ·exact ih.1 b hv
theorem Gy(a:f.heap.get? g=Y k)(hn:¬fS g)(hC:dD fS P f):Fr [(g,k)] P (λ l=>l=g\/fS l) f:=by
 refine⟨λ q hq=>?_,gI.mpr ⟨λ a=>(nomatch a),pB⟩,fS,λ l=>?_,λ l M=>?_,hC⟩;·obtain rfl:=pw.mp hq;exact a
 ·show l=g\/fS l↔l∈[g]\/fS l;rw[pw]
 ·obtain rfl:l=g:=pw.mp M;exact hn
theorem NB:xq w:=by
 intro au vs c V aw i t b hg aj hL B aq K;have M:=Rr t b;have d:au.heap.get? 246=Y (dm #[]):=ŝ t b ⋯ Yq;have eL:({cls:=T "list",data:= .seq vs.toArray}:bV)=lst vs 0:=by unfold lst;rw[<-tS]
 rw[eL]at hL;refine eA (NC B) λ hv hn=>?_;have b6:gw au.gens:=by rw[hg];exact λ j a=>by simp at a
 have hT:dD (λ l=>l=(246:bU)\/False) dy au:=dy.eF ⟨#[], .inl rfl,Gy (fS:=λ j=>False) d id λ aK j e=>by show gw aK.gens;rw[e];exact b6⟩;have hC:dD (λ l=>l=(601:bU)\/(l=246\/False)) (Fr [(601,lst vs 0)] dy) au:=Fr.eF (Gy hL (by rintro(a|a)<;>cases a) hT);refine wpAny_call ?_;refine Nz Oq rfl M (λ l ak=>?_) hC hv (hV aq (rx hn)) λ n ao P hS=>K n (NA (λ j a=>a.imp_right λ q=>q.resolve_right id) M d hL P hS);rcases ak with rfl|rfl|a;·exact⟨by rw[aj];decide,Yp⟩
 ·exact⟨by rw[aj];decide,wz.none (.inr rfl)⟩
 ·exact a.elim
theorem TH{b:lJ}{a h':eV}(t:a.objs=(H1 b.params).objs)(i:∀l k,a.get? l=Y k->h'.get? l=Y k){r:cb->Option bX}(af:h'.Ns Dm r):r ro.name=Y (R 600):=by
 have hn:ro.name=gj "law" :=⋯
 rw[hn];have e3:(rE (wx b.params)).get 3=Y (Bs.o3 b.params):=⋯
 have o3:=ŝ t i ⋯ e3;refine mg_of (K:=[(3,Bs.o3 b.params)]) (λ g k e=>?_) af ⋯;by_cases q:g=3;·subst q;have:Y (Bs.o3 b.params)=Y k:=e;rw[<-this];exact o3
 ·have:([(3,Bs.o3 b.params)]:Frag).lookup g=W:=by simp[q]
  rw[this]at e;cases e
theorem te0068_01_t:nz.Holds:=by
 refine Mine.U8 ?_;intro b ae au r J af t d k f y D E G ho hd m hD i hg o H p ai B v l s g;have hk:=ai.keeps;have A:ae.heap.objs.size=601:=by rw[show ae.heap.objs=_ from t];exact absHeap_size _ _ _
 refine Ground.open af ?_;intro Q z e F C;wrow_args B v l s g;obtain⟨u,aj⟩:=script_at ai;rw[A]at u aj;subst u;have c:=i.symm.trans (Mine.TH t hk Q.g);injection c with c;injection c with c;subst c;rename FN _ _=>hI;rename Heap.IsList _ _ _=>hLs;have x:=script_obj ai hLs;show cm (bZ Mine.bY b) FJ (tO (R 600) [R 601]) _ _ au;refine Mine.XH Mine.NB b au _ _ _ _ _ t hk hg aj x hI (by omega) λ n q=>⟨.inl ⟨_,ofPy (.bool U),[],rfl,λ j=>rfl,readsW_of_reads (.bool U),?_,λ j=>⟨pB,λ j a=>nomatch a⟩⟩,q.1,q.2.1,q.2.2⟩;kernel_rfl
end Mine
end
end
theorem PySem.Challenge.cw_te0068_01_holds : PySem.Challenge.rw_te0068_01.Holds :=
Mine.te0068_01_t
