import PyProof.Rows.All
import PyProof.CodeObj
import PyProof.RaisesAny
import PyProof.AssignAttr
import PyProof.TupleIter
import PyProof.CodeObjX
import PyProof.FString
import PyProof.ForAny
import PyProof.ConsumeWalk
import PyProof.CompFree
import PyProof.DefCall
import PyProof.DefMake
import PyProof.DefStmt
import PyProof.DictRoads
import PyProof.DictStraight
import PyProof.DictTable
import PyProof.ExcClass2
import PyProof.ExcBaseAll.Exception
import PyProof.ExcFactsAll.ValueError
import PyProof.WalksMore
import PyProof.RangeFor
import PyProof.GenObj
import PyProof.GenQ
import PyProof.IsiFacts
import PyProof.RaisesStr
import PyProof.RulesAs
import PyProof.Rows.TupAssign
import PyProof.Rows.RuleN_abs
import PyProof.Rows.RuleN_isinstance
import PyProof.Rows.TupDisplay
import PyProof.Rows.SumAny
import PyProof.Rows.Range3
import Wide.WTab
import OpenK.KGet
import OpenK.KDescr
import OpenK.KCall
import OpenK.KMake
import OpenK.KCls
import OpenK.KWalk
import OpenK.KMeth
import KE.BytesMake
import KE.BytesMulAny
import KE.KIntText
import KE.KSuperObj
import KE.KTryMore
import OpenK.AllK
import Wide.All
import Lean
import PySem.Challenge.RW_iy0012_03
set_option Elab.async false
set_option maxRecDepth 100000
set_option linter.all false
set_option autoImplicit true
set_option backward.eqns.nonrecursive false
set_option backward.match.sparseCases false
open PySem renaming wpAny_bind->az,Value->cz,Shared->ea,wpAny_pure->en,wpAny_mono->fm,Addr->fF,Params->kX,wpAny_holding->n4,Expr->u_,wpAny_standAt->IW,wpAny_call_entry->Nh,Model->SW,builtinLookup_eq_fast->S2,wpAny_field->T9,isSubtype_type->Ut,wpAny_of_eq->Uu,wpAny_newObj_type->Xt,Around->XQ,Heap->ZN,typeLookup_type->ZQ,wpAny_rule->ZR,wpAny_isInstance->ZT,wpAny_setField->ZX,wpAny_Call_ofName->ZY,wpAny_Name->Z6,entryFor_of_tree->Z7,Stmt->aaa,World->aab,wpAny_callSpecial?_slot->aaf,builtinType_eq_fast->aaj,GenState->aas,wpAny_truthy_bool->aat,sizeLine_eq->aau,wpAny_point->aaw,wpAny_loadPart_at->aax,mem_of_lookup->aaA,Builtin->aaH,codeAny_mono->aaM,Result->aaR,wpAny_newFunctionEnv_cells->aaW,FuncData->aba,wpAny_attempt->abe,Program->abf,wpAny_specialOf->abg,call_gives->abm,wpAny_load->abn,Arguments->abr,Scope->abw,NameKind->aby,OsState->abz,wpAny_pyNext_list_end->abH,wpAny_call->abK,wpAny_nsGet->abP,leftWithCleanup_false_of_bare->abR,wpAny_mkInt->abS,wpAny_execs_nil->abV,plainExc_ValueError->ab3,DictEntry->ab9,wpAny_seqItems->ace,slot_dict_contains->aco,wpAny_Assign_Name->acq,wpAny_pyIter_list->acs,slot_dict_getitem->acw,wpAny_items_cons->acA,wpAny_comp_letGo->acH,passOn->acP,ExcBaseFacts->acT,wpAny_items_nil->ac0,wpAny_dropValue->ac1,wpAny_throw->ac8,eval_Subscript->ac9,frameOf->adn,Fin->adC
open Nat renaming lt_of_lt_of_le->bk,le_trans->bU,lt_irrefl->f3,le_of_ble_eq_true->oC,lt_succ_self->rv,le_refl->t_,le_add_right->xm,ne_of_lt->HA,le_of_eq->Kj,le_of_lt->Kt,le_succ_of_le->Qt,le_succ->Tw,add_le_add_left->Xs,lt_add_of_pos_right->Xw,add_le_add_right->X1,lt_trans->ZP,add_assoc->ZV,succ_pos->ZW,lt_succ_of_lt->Z0,zero_le->Z2,add_comm->Z8,add_sub_cancel'->aai,lt_of_le_of_lt->aam,zero_add->aay,sub_le->aaB,sub_lt_sub_left->aaG,add_sub_cancel->aaK,not_succ_le_zero->aaZ,add_le_add->aa0,succ_le_succ->aa2,mul_le_mul_left->aa8,min_eq_left->abk,sub_add_cancel->abl,add_sub_cancel_left->abq,add_sub_add_right->abE,le_of_not_lt->abJ,le_add_left->ab0,not_lt->aca,succ_add_eq_add_succ->acz,not_lt_of_le->acI,min_eq_right->acK,lt_or_ge->adx,sub_zero->ady
open Option.some renaming injEq->e4,inj->gq
open List renaming getElem?_eq_some_iff->gw,length_append->nx,getD_eq_getElem?_getD->ra,length_map->ro,lookup_cons->zd,getElem?_eq_getElem->AL,mem_cons_of_mem->AM,length_cons->CV,map_cons->G0,size_toArray->KG,zip_cons_cons->P8,mem_cons->QX,length_replicate->Q_,getElem?_append_left->R0,getElem?_eq_none_iff->R3,append_assoc->SF,mem_cons_self->T4,getD_cons_succ->Uq,cons_append->Xm,getElem?_map->Xv,append_nil->X5,all_eq_true->Y',take_of_length_le->Zk,drop_eq_getElem_cons->ZH,range->ZK,length->ZL,mem_range->ZO,drop_eq_nil_iff->ZU,nodup_append->ZZ,of_mem_zip->Z3,nil_append->Z4,length_nil->Z5,range'->aac,getElem?_cons_succ->aae,toArray->aak,mem_singleton->aan,mem_append->aar,getElem?_append->aav,mem_of_getElem?->aaz,filterMap_cons->aaF,drop_of_length_le->aaN,map_append->aaP,idxOf_lt_length_of_mem->aaU,replicate->aaV,drop_zero->aaX,getElem?_append_right->aaY,getElem_mem->aa4,filter_cons->aa7,length_set->abh,forIn_cons->abi,foldl_cons->abj,getElem?_replicate->abt,any_eq_false->abx,head?_eq_getElem?->abC,isEmpty_iff->abL,mem_of_mem_drop->abT,nodup_cons->abW,take_succ_cons->ab2,map_congr_left->ab4,mem_map->ab6,map_nil->ab8,lookup_append->acd,reverse_cons->acr,getElem?_cons_zero->acE,lookup_eq_none_iff->acF,range'_succ->acJ,length_drop->acM,dropWhile_sublist->acZ,mem_filter->ac2,head?_drop->ac3,singleton_append->ac5,length_filter_le->ac6,eq_nil_or_concat->ac7,forIn_nil->ada,mem_of_mem_take->adb,drop_drop->adh,length_pos_iff->adm,all_cons->ado,sum_cons->adt,getD->adE
open Or renaming elim->g'
open PySem.Heap renaming get?_push_of_some->ml,size_push->rW,get?_push_size->w',lt_size->ye,get?_update_self->JP,SameBut->NC,get?_update_other->Vp,size_after_update->aaL,ExtBut->adG
open PySem.Str renaming ofString->oK
open Option renaming map_eq_some_iff->r0,bind_eq_some_iff->z0,bind_some->Mr,isSome_iff_exists->WE,map_some->aaq,or_none->aa1,getD_some->aa3,map->abp,getD_none->abM,elim_some->abN,elim_none->acL,map_eq_none_iff->acW,isSome_none->adv
open Bool renaming and_eq_true->v3,false_ne_true->BA,false_eq_true->F3,and_eq_true_iff->aad,and_false->aap,true_and->aaE,false_and->aaI,not_eq_true'->aaT,and_eq_false_iff->abF,noConfusion->acN,or_eq_true->ac4,or_eq_false_iff->adi,or_false->adp,not_not->adB
open PySem.Builtin.Bytes renaming window->A5,between->Z_,tooLong->Z',occurrences->aag,literal->aal,bytesLike->aaO,joined->abB,occurrencesFromRight->ach,literalAsked->acj,find?->acv,takeBufferQuiet?->acV
open PySem.Obj renaming mapFields->OE,data_mapFields->X2,isFreed_of_fields->ZM,putNameByArray->ZS,putName_eq->aao,mapSeq->acn,cls_mapFields->acp,putName->adg
open PySem.Builtin.Range renaming rangeSize->OR,small->Ud
open Array renaming getElem?_eq_some_iff->P9,size_setIfInBounds->aaD,mem_or_eq_of_mem_setIfInBounds->aa9,getElem?_setIfInBounds_ne->abD,getD_eq_getD_getElem?->ab7,size_extract->aci,mem_push->ade
open PySem.Value renaming none->Tg,ref->V9,bool->abo,bytes->adf
open PySem.W.FB renaming plainAttrs_bytes->ZI,slot_bytes_contains->abA,slot_bytes_getitem->abG,args_bytes_contains_2->acx,slot_bytes_startswith->acy,args_bytes_getitem_2->acD,entry_bytes_contains->acG,entry_bytes_getitem->acQ,slot_bytes_endswith->acU
open PySem.Heap.SameBut renaming update->ZJ
open PySem.F renaming slot_range_iterator_next->Z1,args_range_iterator_next_1->abX,entry_range_iterator_next->ab5,slot_range_iterator_iter->acf,slot_NoneType_eq_refl->acB,slot_NoneType_ne_refl->acC,called_int->acX
open Nat.succ renaming inj->Z9
open PySem.Sem renaming bind_eq_wrap'->aah,wrap_wrap->aaC,wp_mono->aaJ,bind_eq_wrap->aa5,wrap_congr->ack
open PySem.NameKind renaming free->aaQ
open Ne renaming symm->aaS
open PySem.Frame renaming where_->aa6,guarded->adq
open PySem.EqNone renaming wpAny_richCompare_eq_decline->abb,wpAny_richCompare_ne_decline->abc
open PySem.W renaming Frag->abd,boot_heap->abv,SharedT->acu,boot_drawn->acS,fnIn->acY,boot_toks->adj,same->adA
open PySem.Calls renaming callWith_function->abu,Name_function_global->acb,callWith_builtin->acR
open PySem.Stmt.FunctionDef renaming elim->abI
open PySem.W.KBy renaming buffer_eq->abO
open PySem.Around renaming frames_deeper->abQ
open Eq renaming trans->abU
open PySem.Builtin renaming divisionGoesByPylong->abY
open PySem.W.WShape renaming hasItems->abZ,hasAll->ads,has->adw
open PySem.Builtin.Int renaming intBits->ab1
open PyProof.Rows renaming callWith_type->acg,AllBare->acO
open PySem.End renaming susp->acm
open PySem.EntryCells renaming newEntry->adk
open PySem.SeqAt renaming notIn_tupleAt->adl,notIn_listAt->adu
open PySem.Keeper renaming boundFrame->adz
open PySem.DictEntry renaming refKey->adD
open PySem.Heap.Ns renaming eq_nsMap->adF
namespace Mine.Internal
noncomputable section
set_option bootstrap.genMatcherCode false
set_option compiler.extract_closed false
set_option tactic.hygienic false
set_option genSizeOf false
set_option genInjectivity false
open PySem PyProof.Rows Builtin PySem.W
variable {s s' af:ea} {A:XQ} {cur:Str->Option cz} {q b:Bool} {M F' M':fF->Prop} {E:cz->ea->Prop} {α β γ:Type} {G P0 P1 P2 P4:Prop} {pos np apos cB:Pos} {h h':ZN} {vs:List cz} {name:Str} {body orelse:List aaa} {i rk k n:Nat} {value target:u_} {fd:aba} {o:Obj} {env:Env} {it:fF} {ks names:List Str} {scope:abw} {prog:abf} {outer:List Env} {A0 A1 A2 A3:Sort _}
@[elab_as_elim] theorem ag{α:Sort _}{P:α->Prop}{a b:α}(h:a=b)(p:P b):P a:=Eq.mpr (congrArg P h) p
@[elab_as_elim] theorem fP{α:Sort _}{P:α->Prop}{a b:α}(h:a=b)(p:P a):P b:=Eq.mp (congrArg P h) p
theorem aX(h:P0/\P1)(k:P0->P1->G):G:=k h.1 h.2
theorem fQ(h:P0/\P1/\P2)(k:P0->P1->P2->G):G:=k h.1 h.2.1 h.2.2
theorem jJ(h:P0/\P1/\P2/\P3)(k:P0->P1->P2->P3->G):G:=k h.1 h.2.1 h.2.2.1 h.2.2.2
theorem MK(h:P0/\P1/\P2/\P3/\P4)(k:P0->P1->P2->P3->P4->G):G:=k h.1 h.2.1 h.2.2.1 h.2.2.2.1 h.2.2.2.2
theorem ML(h:P0/\P1/\P2/\P3/\P4/\P5)(k:P0->P1->P2->P3->P4->P5->G):G:=k h.1 h.2.1 h.2.2.1 h.2.2.2.1 h.2.2.2.2.1 h.2.2.2.2.2
theorem sQ(h:P0/\P1/\P2/\P3/\P4/\P5/\P6)(k:P0->P1->P2->P3->P4->P5->P6->G):G:=k h.1 h.2.1 h.2.2.1 h.2.2.2.1 h.2.2.2.2.1 h.2.2.2.2.2.1 h.2.2.2.2.2.2
section
variable {A0:Sort _} {P0 P1 P2 P3 P4 P5 P6 P7:A0->Prop} {G:Prop}
theorem au(h:∃x0,P0 x0)(k:∀x0,P0 x0->G):G:=h.elim λx0 z=>k x0 z
theorem ax(h:∃x0,P0 x0/\P1 x0)(k:∀x0,P0 x0->P1 x0->G):G:=h.elim λx0 z=>k x0 z.1 z.2
theorem iQ(h:∃x0,P0 x0/\P1 x0/\P2 x0)(k:∀x0,P0 x0->P1 x0->P2 x0->G):G:=h.elim λx0 z=>k x0 z.1 z.2.1 z.2.2
theorem R6(h:∃x0,P0 x0/\P1 x0/\P2 x0/\P3 x0/\P4 x0/\P5 x0)(k:∀x0,P0 x0->P1 x0->P2 x0->P3 x0->P4 x0->P5 x0->G):G:=h.elim λx0 z=>k x0 z.1 z.2.1 z.2.2.1 z.2.2.2.1 z.2.2.2.2.1 z.2.2.2.2.2
end
section
variable {A0 A1:Sort _} {P0 P1 P2 P3 P4 P5 P6 P7:A0->A1->Prop} {G:Prop}
theorem jY(h:∃x0 z,P0 x0 z)(k:∀x0 z,P0 x0 z->G):G:=h.elim λx0 I=>I.elim λz h1=>k x0 z h1
theorem e7(h:∃x0 z,P0 x0 z/\P1 x0 z)(k:∀x0 z,P0 x0 z->P1 x0 z->G):G:=h.elim λx0 I=>I.elim λz h1=>k x0 z h1.1 h1.2
theorem bV(h:∃x0 z,P0 x0 z/\P1 x0 z/\P2 x0 z)(k:∀x0 z,P0 x0 z->P1 x0 z->P2 x0 z->G):G:=h.elim λx0 I=>I.elim λz h1=>k x0 z h1.1 h1.2.1 h1.2.2
theorem bF(h:∃x0 z,P0 x0 z/\P1 x0 z/\P2 x0 z/\P3 x0 z)(k:∀x0 z,P0 x0 z->P1 x0 z->P2 x0 z->P3 x0 z->G):G:=h.elim λx0 I=>I.elim λz h1=>k x0 z h1.1 h1.2.1 h1.2.2.1 h1.2.2.2
theorem zY(h:∃x0 z,P0 x0 z/\P1 x0 z/\P2 x0 z/\P3 x0 z/\P4 x0 z)(k:∀x0 z,P0 x0 z->P1 x0 z->P2 x0 z->P3 x0 z->P4 x0 z->G):G:=h.elim λx0 I=>I.elim λz h1=>k x0 z h1.1 h1.2.1 h1.2.2.1 h1.2.2.2.1 h1.2.2.2.2
theorem R7(h:∃x0 z,P0 x0 z/\P1 x0 z/\P2 x0 z/\P3 x0 z/\P4 x0 z/\P5 x0 z)(k:∀x0 z,P0 x0 z->P1 x0 z->P2 x0 z->P3 x0 z->P4 x0 z->P5 x0 z->G):G:=h.elim λx0 I=>I.elim λz h1=>k x0 z h1.1 h1.2.1 h1.2.2.1 h1.2.2.2.1 h1.2.2.2.2.1 h1.2.2.2.2.2
theorem R8(h:∃x0 z,P0 x0 z/\P1 x0 z/\P2 x0 z/\P3 x0 z/\P4 x0 z/\P5 x0 z/\P6 x0 z/\P7 x0 z)(k:∀x0 z,P0 x0 z->P1 x0 z->P2 x0 z->P3 x0 z->P4 x0 z->P5 x0 z->P6 x0 z->P7 x0 z->G):G:=h.elim λx0 I=>I.elim λz h1=>k x0 z h1.1 h1.2.1 h1.2.2.1 h1.2.2.2.1 h1.2.2.2.2.1 h1.2.2.2.2.2.1 h1.2.2.2.2.2.2.1 h1.2.2.2.2.2.2.2
end
section
variable {A0 A1 A2:Sort _} {P0 P1 P2 P3 P4 P5 P6 P7:A0->A1->A2->Prop} {G:Prop}
theorem zZ(h:∃x0 z I,P0 x0 z I)(k:∀x0 z I,P0 x0 z I->G):G:=h.elim λx0 U=>U.elim λz h1=>h1.elim λI h2=>k x0 z I h2
theorem ft(h:∃x0 z I,P0 x0 z I/\P1 x0 z I)(k:∀x0 z I,P0 x0 z I->P1 x0 z I->G):G:=h.elim λx0 U=>U.elim λz h1=>h1.elim λI h2=>k x0 z I h2.1 h2.2
theorem dh(h:∃x0 z I,P0 x0 z I/\P1 x0 z I/\P2 x0 z I)(k:∀x0 z I,P0 x0 z I->P1 x0 z I->P2 x0 z I->G):G:=h.elim λx0 U=>U.elim λz h1=>h1.elim λI h2=>k x0 z I h2.1 h2.2.1 h2.2.2
theorem Ex(h:∃x0 z I,P0 x0 z I/\P1 x0 z I/\P2 x0 z I/\P3 x0 z I)(k:∀x0 z I,P0 x0 z I->P1 x0 z I->P2 x0 z I->P3 x0 z I->G):G:=h.elim λx0 U=>U.elim λz h1=>h1.elim λI h2=>k x0 z I h2.1 h2.2.1 h2.2.2.1 h2.2.2.2
theorem yn(h:∃x0 z I,P0 x0 z I/\P1 x0 z I/\P2 x0 z I/\P3 x0 z I/\P4 x0 z I)(k:∀x0 z I,P0 x0 z I->P1 x0 z I->P2 x0 z I->P3 x0 z I->P4 x0 z I->G):G:=h.elim λx0 U=>U.elim λz h1=>h1.elim λI h2=>k x0 z I h2.1 h2.2.1 h2.2.2.1 h2.2.2.2.1 h2.2.2.2.2
theorem hJ(h:∃x0 z I,P0 x0 z I/\P1 x0 z I/\P2 x0 z I/\P3 x0 z I/\P4 x0 z I/\P5 x0 z I)(k:∀x0 z I,P0 x0 z I->P1 x0 z I->P2 x0 z I->P3 x0 z I->P4 x0 z I->P5 x0 z I->G):G:=h.elim λx0 U=>U.elim λz h1=>h1.elim λI h2=>k x0 z I h2.1 h2.2.1 h2.2.2.1 h2.2.2.2.1 h2.2.2.2.2.1 h2.2.2.2.2.2
theorem R9(h:∃x0 z I,P0 x0 z I/\P1 x0 z I/\P2 x0 z I/\P3 x0 z I/\P4 x0 z I/\P5 x0 z I/\P6 x0 z I/\P7 x0 z I)(k:∀x0 z I,P0 x0 z I->P1 x0 z I->P2 x0 z I->P3 x0 z I->P4 x0 z I->P5 x0 z I->P6 x0 z I->P7 x0 z I->G):G:=h.elim λx0 U=>U.elim λz h1=>h1.elim λI h2=>k x0 z I h2.1 h2.2.1 h2.2.2.1 h2.2.2.2.1 h2.2.2.2.2.1 h2.2.2.2.2.2.1 h2.2.2.2.2.2.2.1 h2.2.2.2.2.2.2.2
end
section
variable {A0 A1 A2 A3:Sort _} {P0 P1 P2 P3 P4 P5 P6 P7:A0->A1->A2->A3->Prop} {G:Prop}
theorem R_(h:∃x0 z I U,P0 x0 z I U/\P1 x0 z I U/\P2 x0 z I U)(k:∀x0 z I U,P0 x0 z I U->P1 x0 z I U->P2 x0 z I U->G):G:=h.elim λx0 V=>V.elim λz h1=>h1.elim λI h2=>h2.elim λU h3=>k x0 z I U h3.1 h3.2.1 h3.2.2
theorem z6(h:∃x0 z I U,P0 x0 z I U/\P1 x0 z I U/\P2 x0 z I U/\P3 x0 z I U)(k:∀x0 z I U,P0 x0 z I U->P1 x0 z I U->P2 x0 z I U->P3 x0 z I U->G):G:=h.elim λx0 V=>V.elim λz h1=>h1.elim λI h2=>h2.elim λU h3=>k x0 z I U h3.1 h3.2.1 h3.2.2.1 h3.2.2.2
theorem Sa(h:∃x0 z I U,P0 x0 z I U/\P1 x0 z I U/\P2 x0 z I U/\P3 x0 z I U/\P4 x0 z I U)(k:∀x0 z I U,P0 x0 z I U->P1 x0 z I U->P2 x0 z I U->P3 x0 z I U->P4 x0 z I U->G):G:=h.elim λx0 V=>V.elim λz h1=>h1.elim λI h2=>h2.elim λU h3=>k x0 z I U h3.1 h3.2.1 h3.2.2.1 h3.2.2.2.1 h3.2.2.2.2
theorem q8(h:∃x0 z I U,P0 x0 z I U/\P1 x0 z I U/\P2 x0 z I U/\P3 x0 z I U/\P4 x0 z I U/\P5 x0 z I U)(k:∀x0 z I U,P0 x0 z I U->P1 x0 z I U->P2 x0 z I U->P3 x0 z I U->P4 x0 z I U->P5 x0 z I U->G):G:=h.elim λx0 V=>V.elim λz h1=>h1.elim λI h2=>h2.elim λU h3=>k x0 z I U h3.1 h3.2.1 h3.2.2.1 h3.2.2.2.1 h3.2.2.2.2.1 h3.2.2.2.2.2
theorem Sb(h:∃x0 z I U,P0 x0 z I U/\P1 x0 z I U/\P2 x0 z I U/\P3 x0 z I U/\P4 x0 z I U/\P5 x0 z I U/\P6 x0 z I U)(k:∀x0 z I U,P0 x0 z I U->P1 x0 z I U->P2 x0 z I U->P3 x0 z I U->P4 x0 z I U->P5 x0 z I U->P6 x0 z I U->G):G:=h.elim λx0 V=>V.elim λz h1=>h1.elim λI h2=>h2.elim λU h3=>k x0 z I U h3.1 h3.2.1 h3.2.2.1 h3.2.2.2.1 h3.2.2.2.2.1 h3.2.2.2.2.2.1 h3.2.2.2.2.2.2
theorem Sd(h:∃x0 z I U,P0 x0 z I U/\P1 x0 z I U/\P2 x0 z I U/\P3 x0 z I U/\P4 x0 z I U/\P5 x0 z I U/\P6 x0 z I U/\P7 x0 z I U)(k:∀x0 z I U,P0 x0 z I U->P1 x0 z I U->P2 x0 z I U->P3 x0 z I U->P4 x0 z I U->P5 x0 z I U->P6 x0 z I U->P7 x0 z I U->G):G:=h.elim λx0 V=>V.elim λz h1=>h1.elim λI h2=>h2.elim λU h3=>k x0 z I U h3.1 h3.2.1 h3.2.2.1 h3.2.2.2.1 h3.2.2.2.2.1 h3.2.2.2.2.2.1 h3.2.2.2.2.2.2.1 h3.2.2.2.2.2.2.2
end
section
variable {A0 A1 A2 A3 A4:Sort _} {P0 P1 P2 P3 P4 P5 P6 P7:A0->A1->A2->A3->A4->Prop} {G:Prop}
theorem uR(h:∃x0 z I U V,P0 x0 z I U V)(k:∀x0 z I U V,P0 x0 z I U V->G):G:=h.elim λx0 Y=>Y.elim λz h1=>h1.elim λI h2=>h2.elim λU h3=>h3.elim λV h4=>k x0 z I U V h4
theorem Se(h:∃x0 z I U V,P0 x0 z I U V/\P1 x0 z I U V)(k:∀x0 z I U V,P0 x0 z I U V->P1 x0 z I U V->G):G:=h.elim λx0 Y=>Y.elim λz h1=>h1.elim λI h2=>h2.elim λU h3=>h3.elim λV h4=>k x0 z I U V h4.1 h4.2
theorem Sf(h:∃x0 z I U V,P0 x0 z I U V/\P1 x0 z I U V/\P2 x0 z I U V)(k:∀x0 z I U V,P0 x0 z I U V->P1 x0 z I U V->P2 x0 z I U V->G):G:=h.elim λx0 Y=>Y.elim λz h1=>h1.elim λI h2=>h2.elim λU h3=>h3.elim λV h4=>k x0 z I U V h4.1 h4.2.1 h4.2.2
theorem nG(h:∃x0 z I U V,P0 x0 z I U V/\P1 x0 z I U V/\P2 x0 z I U V/\P3 x0 z I U V/\P4 x0 z I U V)(k:∀x0 z I U V,P0 x0 z I U V->P1 x0 z I U V->P2 x0 z I U V->P3 x0 z I U V->P4 x0 z I U V->G):G:=h.elim λx0 Y=>Y.elim λz h1=>h1.elim λI h2=>h2.elim λU h3=>h3.elim λV h4=>k x0 z I U V h4.1 h4.2.1 h4.2.2.1 h4.2.2.2.1 h4.2.2.2.2
theorem Ey(h:∃x0 z I U V,P0 x0 z I U V/\P1 x0 z I U V/\P2 x0 z I U V/\P3 x0 z I U V/\P4 x0 z I U V/\P5 x0 z I U V/\P6 x0 z I U V/\P7 x0 z I U V)(k:∀x0 z I U V,P0 x0 z I U V->P1 x0 z I U V->P2 x0 z I U V->P3 x0 z I U V->P4 x0 z I U V->P5 x0 z I U V->P6 x0 z I U V->P7 x0 z I U V->G):G:=h.elim λx0 Y=>Y.elim λz h1=>h1.elim λI h2=>h2.elim λU h3=>h3.elim λV h4=>k x0 z I U V h4.1 h4.2.1 h4.2.2.1 h4.2.2.2.1 h4.2.2.2.2.1 h4.2.2.2.2.2.1 h4.2.2.2.2.2.2.1 h4.2.2.2.2.2.2.2
end
theorem MM{P0:A0->Prop}{P1 P2 P3:A1->A2->A3->Prop}{P5:Prop}(h:(∃x0,P0 x0)/\(∃x1 x2 x3,P1 x1 x2 x3/\P2 x1 x2 x3/\P3 x1 x2 x3)/\P4/\P5)(k:∀x0,P0 x0->∀x1 x2 x3,P1 x1 x2 x3->P2 x1 x2 x3->P3 x1 x2 x3->P4->P5->G):G:=h.1.elim λI U=>h.2.1.elim λV Y=>Y.elim λZ g2=>g2.elim λz3 z=>k I U V Z z3 z.1 z.2.1 z.2.2 h.2.2.1 h.2.2.2
theorem WS{P0 P1:A0->A1->A2->A3->Prop}{P2:A0->Prop}(h:∃x0,(∃x1 x2 x3,P0 x0 x1 x2 x3/\P1 x0 x1 x2 x3)/\P2 x0)(k:∀x0 x1 x2 x3,P0 x0 x1 x2 x3->P1 x0 x1 x2 x3->P2 x0->G):G:=h.elim λU z=>z.1.elim λV Y=>Y.elim λZ g2=>g2.elim λz3 I=>k U V Z z3 I.1 I.2 z.2
theorem WT{P1 P2 P3 P4:A0->A1->Prop}{P5:Prop}(h:P0/\(∃x0 x1,P1 x0 x1/\P2 x0 x1/\P3 x0 x1/\P4 x0 x1)/\P5)(k:P0->∀x0 x1,P1 x0 x1->P2 x0 x1->P3 x0 x1->P4 x0 x1->P5->G):G:=h.2.1.elim λI U=>U.elim λV z=>k h.1 I V z.1 z.2.1 z.2.2.1 z.2.2.2 h.2.2
theorem L9{P1 P2:A0->Prop}(h:P0/\(∃x0,P1 x0/\P2 x0))(k:P0->∀x0,P1 x0->P2 x0->G):G:=h.2.elim λI z=>k h.1 I z.1 z.2
theorem WU{P0 P1:A0->Prop}{P2:A0->A1->Prop}{P3:A0->Prop}(h:∃x0,P0 x0/\P1 x0/\(∃x1,P2 x0 x1)/\P3 x0)(k:∀x0,P0 x0->P1 x0->∀x1,P2 x0 x1->P3 x0->G):G:=h.elim λI z=>z.2.2.1.elim λU V=>k I z.1 z.2.1 U V z.2.2.2
theorem Sh(h:(P0/\P1)/\P2/\P3)(k:P0->P1->P2->P3->G):G:=k h.1.1 h.1.2 h.2.1 h.2.2
theorem MN{P0 P1:A0->Prop}{P2:A0->A1->Prop}(h:∃x0,P0 x0/\P1 x0/\(∃x1,P2 x0 x1))(k:∀x0,P0 x0->P1 x0->∀x1,P2 x0 x1->G):G:=h.elim λI z=>z.2.2.elim λU V=>k I z.1 z.2.1 U V
theorem MO{P1 P2 P3 P4 P5 P6:A0->A1->A2->Prop}(h:P0/\(∃x0 x1 x2,P1 x0 x1 x2/\P2 x0 x1 x2/\P3 x0 x1 x2/\P4 x0 x1 x2/\P5 x0 x1 x2/\P6 x0 x1 x2))(k:P0->∀x0 x1 x2,P1 x0 x1 x2->P2 x0 x1 x2->P3 x0 x1 x2->P4 x0 x1 x2->P5 x0 x1 x2->P6 x0 x1 x2->G):G:=h.2.elim λI U=>U.elim λV Y=>Y.elim λZ z=>k h.1 I V Z z.1 z.2.1 z.2.2.1 z.2.2.2.1 z.2.2.2.2.1 z.2.2.2.2.2
theorem Si{P1 P2 P3 P4 P5:A0->A1->A2->Prop}(h:P0/\(∃x0 x1 x2,P1 x0 x1 x2/\P2 x0 x1 x2/\P3 x0 x1 x2/\P4 x0 x1 x2/\P5 x0 x1 x2))(k:P0->∀x0 x1 x2,P1 x0 x1 x2->P2 x0 x1 x2->P3 x0 x1 x2->P4 x0 x1 x2->P5 x0 x1 x2->G):G:=h.2.elim λI U=>U.elim λV Y=>Y.elim λZ z=>k h.1 I V Z z.1 z.2.1 z.2.2.1 z.2.2.2.1 z.2.2.2.2
theorem Ez(h:(P0/\P1)/\P2)(k:P0->P1->P2->G):G:=k h.1.1 h.1.2 h.2
theorem MP{P1 P2 P3:A0->A1->A2->Prop}(h:P0/\(∃x0 x1 x2,P1 x0 x1 x2/\P2 x0 x1 x2/\P3 x0 x1 x2)/\P4)(k:P0->∀x0 x1 x2,P1 x0 x1 x2->P2 x0 x1 x2->P3 x0 x1 x2->P4->G):G:=h.2.1.elim λI U=>U.elim λV Y=>Y.elim λZ z=>k h.1 I V Z z.1 z.2.1 z.2.2 h.2.2
theorem EA{P0 P1 P2:A0->A1->A2->A3->Prop}{P3:A0->Prop}(h:∃x0,(∃x1 x2 x3,P0 x0 x1 x2 x3/\P1 x0 x1 x2 x3/\P2 x0 x1 x2 x3)/\P3 x0)(k:∀x0 x1 x2 x3,P0 x0 x1 x2 x3->P1 x0 x1 x2 x3->P2 x0 x1 x2 x3->P3 x0->G):G:=h.elim λU I=>I.1.elim λV Y=>Y.elim λZ g2=>g2.elim λz3 z=>k U V Z z3 z.1 z.2.1 z.2.2 I.2
theorem EB(h:((P0/\P1)/\P2)/\P3)(k:P0->P1->P2->P3->G):G:=k h.1.1.1 h.1.1.2 h.1.2 h.2
theorem I6{P0:A0->Prop}{P1 P2 P3:A1->A2->A3->Prop}(h:(∃x0,P0 x0)/\(∃x1 x2 x3,P1 x1 x2 x3/\P2 x1 x2 x3/\P3 x1 x2 x3)/\P4)(k:∀x0,P0 x0->∀x1 x2 x3,P1 x1 x2 x3->P2 x1 x2 x3->P3 x1 x2 x3->P4->G):G:=h.1.elim λI U=>h.2.1.elim λV Y=>Y.elim λZ g2=>g2.elim λz3 z=>k I U V Z z3 z.1 z.2.1 z.2.2 h.2.2
theorem MQ(h:(((((P0/\P1)/\P2)/\P3)/\P4)/\P5)/\P6)(k:P0->P1->P2->P3->P4->P5->P6->G):G:=k h.1.1.1.1.1.1 h.1.1.1.1.1.2 h.1.1.1.1.2 h.1.1.1.2 h.1.1.2 h.1.2 h.2
theorem z7{P0:A0->Prop}(h:(∃x0,P0 x0)/\P1)(k:∀x0,P0 x0->P1->G):G:=h.1.elim λz I=>k z I h.2
theorem Sj{P1:A0->Prop}(h:P0/\(∃x0,P1 x0)/\P2)(k:P0->∀x0,P1 x0->P2->G):G:=h.2.1.elim λz I=>k h.1 z I h.2.2
theorem z8{P1 P2:A0->A1->Prop}(h:P0/\(∃x0 x1,P1 x0 x1/\P2 x0 x1))(k:P0->∀x0 x1,P1 x0 x1->P2 x0 x1->G):G:=h.2.elim λI U=>U.elim λV z=>k h.1 I V z.1 z.2
theorem Sk{P3:A0->Prop}(h:P0/\P1/\P2/\(∃x0,P3 x0))(k:P0->P1->P2->∀x0,P3 x0->G):G:=h.2.2.2.elim λz I=>k h.1 h.2.1 h.2.2.1 z I
theorem I7(h:(P0)\/(P1/\P2))(k:P0->G)(l:P1->P2->G):G:=h.elim (k) (λh=>l h.1 h.2)
theorem WV{A4 I:Sort _}{P1 P2:A0->A1->A2->A3->A4->I->Prop}(h:(P0)\/(∃x0 x1 x2 x3 x4,(∃x5,P1 x0 x1 x2 x3 x4 x5/\P2 x0 x1 x2 x3 x4 x5)))(k:P0->G)(l:∀x0 x1 x2 x3 x4 x5,P1 x0 x1 x2 x3 x4 x5->P2 x0 x1 x2 x3 x4 x5->G):G:=h.elim (k) (λh=>h.elim λU V=>V.elim λY Z=>Z.elim λz2 g2=>g2.elim λz3 g3=>g3.elim λz4 g4=>g4.elim λz5 z=>l U Y z2 z3 z4 z5 z.1 z.2)
theorem WW(h:(P0/\P1)\/(P2))(k:P0->P1->G)(l:P2->G):G:=h.elim (λh=>k h.1 h.2) (l)
theorem Vo(h:(P0)\/(P1/\P2/\P3))(k:P0->G)(l:P1->P2->P3->G):G:=h.elim (k) (λh=>l h.1 h.2.1 h.2.2)
theorem MR{P0 P1:A0->Prop}{P3:Prop}(h:(∃x0,P0 x0/\P1 x0)\/(P2/\P3))(k:∀x0,P0 x0->P1 x0->G)(l:P2->P3->G):G:=h.elim (λh=>h.elim λI z=>k I z.1 z.2) (λh=>l h.1 h.2)
theorem QQ{P1:A0->Prop}(h:(P0)\/(∃x0,P1 x0))(k:P0->G)(l:∀x0,P1 x0->G):G:=h.elim (k) (λh=>h.elim λz I=>l z I)
theorem pG{P0 P1:A0->Prop}{P2 P3:A1->Prop}(h:(∃x0,P0 x0/\P1 x0)\/(∃x1,P2 x1/\P3 x1))(k:∀x0,P0 x0->P1 x0->G)(l:∀x1,P2 x1->P3 x1->G):G:=h.elim (λh=>h.elim λI z=>k I z.1 z.2) (λh=>h.elim λI z=>l I z.1 z.2)
theorem WX{P0 P1 P2 P3 P4 P5:A0->Prop}{P6 P7 V Y Z Vq:A1->A2->A3->Prop}(h:(∃x0,P0 x0/\P1 x0/\P2 x0/\P3 x0/\P4 x0/\P5 x0)\/(∃x1 x2 x3,P6 x1 x2 x3/\P7 x1 x2 x3/\V x1 x2 x3/\Y x1 x2 x3/\Z x1 x2 x3/\Vq x1 x2 x3))(k:∀x0,P0 x0->P1 x0->P2 x0->P3 x0->P4 x0->P5 x0->G)(l:∀x1 x2 x3,P6 x1 x2 x3->P7 x1 x2 x3->V x1 x2 x3->Y x1 x2 x3->Z x1 x2 x3->Vq x1 x2 x3->G):G:=h.elim (λh=>h.elim λU z=>k U z.1 z.2.1 z.2.2.1 z.2.2.2.1 z.2.2.2.2.1 z.2.2.2.2.2) (λh=>h.elim λU z=>z.elim λz1 g1=>g1.elim λz2 I=>l U z1 z2 I.1 I.2.1 I.2.2.1 I.2.2.2.1 I.2.2.2.2.1 I.2.2.2.2.2)
theorem QR{P2 P3 P4:A0->A1->Prop}(h:(P0/\P1)\/(∃x0 x1,P2 x0 x1/\P3 x0 x1/\P4 x0 x1))(k:P0->P1->G)(l:∀x0 x1,P2 x0 x1->P3 x0 x1->P4 x0 x1->G):G:=h.elim (λh=>k h.1 h.2) (λh=>h.elim λI U=>U.elim λV z=>l I V z.1 z.2.1 z.2.2)
theorem Vr{P1:A0->A1->Prop}(h:(P0)\/(∃x0 x1,P1 x0 x1))(k:P0->G)(l:∀x0 x1,P1 x0 x1->G):G:=h.elim (k) (λh=>h.elim λz I=>I.elim λU V=>l z U V)
theorem MS{P1 P2:A0->A1->Prop}(h:(P0)\/(∃x0 x1,P1 x0 x1/\P2 x0 x1))(k:P0->G)(l:∀x0 x1,P1 x0 x1->P2 x0 x1->G):G:=h.elim (k) (λh=>h.elim λI U=>U.elim λV z=>l I V z.1 z.2)
theorem Sl(h:(P0/\P1)\/(P2/\P3))(k:P0->P1->G)(l:P2->P3->G):G:=h.elim (λh=>k h.1 h.2) (λh=>l h.1 h.2)
theorem I8{P3 P4:A0->A1->Prop}(h:(P0/\P1/\P2)\/(∃x0 x1,P3 x0 x1/\P4 x0 x1))(k:P0->P1->P2->G)(l:∀x0 x1,P3 x0 x1->P4 x0 x1->G):G:=h.elim (λh=>k h.1 h.2.1 h.2.2) (λh=>h.elim λI U=>U.elim λV z=>l I V z.1 z.2)
theorem MT{P0:A0->Prop}{P1:A1->Prop}(h:(∃x0,P0 x0)\/(∃x1,P1 x1))(k:∀x0,P0 x0->G)(l:∀x1,P1 x1->G):G:=h.elim (λh=>h.elim λz I=>k z I) (λh=>h.elim λz I=>l z I)
theorem MU{P1 P2 P3 P4 P5:A0->A1->A2->Prop}(h:(P0)\/(∃x0 x1 x2,P1 x0 x1 x2/\P2 x0 x1 x2/\P3 x0 x1 x2/\P4 x0 x1 x2/\P5 x0 x1 x2))(k:P0->G)(l:∀x0 x1 x2,P1 x0 x1 x2->P2 x0 x1 x2->P3 x0 x1 x2->P4 x0 x1 x2->P5 x0 x1 x2->G):G:=h.elim (k) (λh=>h.elim λI U=>U.elim λV Y=>Y.elim λZ z=>l I V Z z.1 z.2.1 z.2.2.1 z.2.2.2.1 z.2.2.2.2)
theorem Sm{P1 P2:A0->A1->A2->Prop}(h:(P0)\/(∃x0 x1 x2,P1 x0 x1 x2/\P2 x0 x1 x2))(k:P0->G)(l:∀x0 x1 x2,P1 x0 x1 x2->P2 x0 x1 x2->G):G:=h.elim (k) (λh=>h.elim λI U=>U.elim λV Y=>Y.elim λZ z=>l I V Z z.1 z.2)
theorem MV{A4:Sort _}{P1 P2:A0->A1->A2->Prop}{P3 P4:A3->A4->Prop}(h:(P0/\(∃x0 x1 x2,P1 x0 x1 x2/\P2 x0 x1 x2))\/(∃x3 x4,P3 x3 x4/\P4 x3 x4))(k:P0->∀x0 x1 x2,P1 x0 x1 x2->P2 x0 x1 x2->G)(l:∀x3 x4,P3 x3 x4->P4 x3 x4->G):G:=h.elim (λh=>h.2.elim λI U=>U.elim λV z=>z.elim λZ Y=>k h.1 I V Z Y.1 Y.2) (λh=>h.elim λI U=>U.elim λV z=>l I V z.1 z.2)
theorem I9{P0:A0->A1->Prop}{P1:A2->Prop}(h:(∃x0 x1,P0 x0 x1)\/(∃x2,P1 x2))(k:∀x0 x1,P0 x0 x1->G)(l:∀x2,P1 x2->G):G:=h.elim (λh=>h.elim λz I=>I.elim λU V=>k z U V) (λh=>h.elim λz I=>l z I)
theorem Sn{P2 P3:A0->A1->Prop}(h:(P0/\P1)\/(∃x0 x1,P2 x0 x1/\P3 x0 x1))(k:P0->P1->G)(l:∀x0 x1,P2 x0 x1->P3 x0 x1->G):G:=h.elim (λh=>k h.1 h.2) (λh=>h.elim λI U=>U.elim λV z=>l I V z.1 z.2)
theorem dK{q:Prop}(k:p->q)(h:p):q:=k h
theorem z9{α:Type _}{a:α}:some a=none->G:=λh=>nomatch h
theorem aZ{α:Type _}{a:α}:none=some a->G:=λh=>nomatch h
theorem WY:true=false->G:=λh=>nomatch h
theorem ng:false=true->G:=λh=>nomatch h
theorem bc{α:Type _}{a b:α}(k:a=b->G):some a=some b->G:=λh=>k (gq h)
theorem So{b:Nat}(h:a+b<=600):a<1000:=aam (bU (xm a b) h) (by decide)
theorem Vs(h1:d0+3*r+6<=600)(h3:d<=d0+2):d+3*r<=600:=by lia
theorem Vt(h1:u0+100*r+110<=9000)(h3:u<=u0+10):u+100*r+100<=9000:=by lia
theorem WZ{q:Nat}(h1:d0+3*q<=600)(h:d<=d0+3)(z:r+2<=q):d+3*(r+1)<=600:=by lia
theorem W0{q:Nat}(h1:u0+100*q+100<=9000)(h:u<=u0+50)(z:r+2<=q):u+100*(r+1)+100<=9000:=by lia
theorem Vu(h1:y=p)(h2:n=p+r+1):y+(n-1-y)+1=n:=by
 subst h1 h2;exact congrArg (·+1) (aai (xm y r))
theorem Vv{X L:Nat}(z:p<=X)(h:X-p=L+(n+T)):X=p+(L+n)+T:=by rw[ZV,ZV,<-h,aai z]
theorem Vw{b:Nat}(h:a<b):b-(a+1)+1<=b:=Nat.sub_lt (aam (Z2 _) h) (ZW _)
theorem Sp{L:Nat}(h2:2<=L)(h:p+(L+n+T)<=z):p+(L-1+1)+T<=z:=by
 rw[abl (bU (by decide) h2),ZV];exact bU (Xs (X1 (xm _ _) _) _) h
theorem Sq:u<=r+(u+1)-(r+1):=by rw[<-ZV,abE,abq];exact t_ _
theorem Sr{q:Nat}(h:p<=t)(e:t-p=l+(q+1)):p+l<t:=by
 have:=aai h;rw[e]at this;exact bk (Nat.add_lt_add_left (Xw (ZW q)) p) (Kj this)
theorem Ss(h:p+l<t):l<t+1-(p+1):=by rw[abE];exact Nat.lt_sub_of_add_lt (by rw[Z8];exact h)
theorem Su{p l t:Nat}(h:p+l<t):(1:Int)<=(t:Int)-(p:Int):=Int.le_sub_right_of_add_le (by rw[Int.add_comm];exact Int.ofNat_le.mpr (aam (xm p l) h))
theorem I_(h:j<t+1-(p+1)):j+p<t:=by rw[abE]at h;exact Nat.add_lt_of_lt_sub h
theorem Sv:i+(r+1)-r=i+1:=by rw[Z8 r 1,<-ZV,aaK]
theorem Sw{v A:Nat}(h:A+B<=C):v+A+(B+1)<=v+1+C:=by
 rw[<-ZV,ZV v A B,Nat.add_right_comm v 1 C];exact aa2 (Xs h v)
theorem MW(h:d+3*(r+1)<=600):d+1+3*r<=600:=by lia
theorem MX(h:u+100*(r+1)+100<=9000):u+3+100*r+100<=9000:=by lia
theorem Sx{q:Nat}(h:d+3*q<=600)(z:r+1<=q):d+3*(r+1)<=600:=bU (Xs (aa8 3 z) d) h
theorem Sy{q:Nat}(h:u+100*q+100<=9000)(z:r+1<=q):u+100*(r+1)+100<=9000:=bU (X1 (Xs (aa8 100 z) u) 100) h
theorem Sz:(-1+(n:Int)).toNat=n-1:=(congrArg Int.toNat (Int.add_comm (-1) n)).trans (Int.toNat_sub n 1)
theorem EC{i:Int}(h:0<=i)(h':i<n):i.toNat<n:=(Int.toNat_lt h).mpr h'
theorem MY{i:Int}(h:¬0<=i)(h':-(n:Int)<=i):(i+n).toNat<n:=by
 have e:=Int.add_le_add_right h' n;have l:=Int.add_lt_add_right (Int.not_le.mp h) n;rw[Int.add_left_neg]at e;rw[Int.zero_add]at l;exact(Int.toNat_lt e).mpr l
theorem z_(n:Int)(h:0<(k:Int)):0<=n%k/\n%k<k:=⟨Int.emod_nonneg _ (Int.ne_of_gt h),Int.emod_lt_of_pos _ h⟩
def QS(k:Lean.Name)(a:Array Lean.Syntax):Lean.Syntax:=.node .none `Lean.Parser.Tactic.tacticSeq #[.node .none `Lean.Parser.Tactic.tacticSeq1Indented #[.node .none `null #[.node .none k a]]]
def kr:Lean.Syntax:=QS `tacticKernel_rfl #[.atom .none "kernel_rfl"]
def gQ:Lean.Syntax:=QS `Lean.Parser.Tactic.exact #[.atom .none "exact",.ident .none "rfl".toRawSubstring `rfl []]
def dc:Lean.Syntax:=QS `Lean.Parser.Tactic.decide #[.atom .none "decide",.node .none `Lean.Parser.Tactic.optConfig #[.node .none `null #[]]]
def MZ(a:Array Lean.Syntax):Lean.Syntax:=QS `Lean.Parser.Tactic.exact #[.atom .none "exact",.node .none `Lean.Parser.Term.fun #[.atom .none "fun",.node .none `Lean.Parser.Term.basicFun #[.node .none `null a,.node .none `null #[],.atom .none "=>",.ident .none "rfl".toRawSubstring `rfl []]]]
def I':Lean.Syntax:=.node .none `Lean.Parser.Term.hole #[.atom .none "_"]
def qi:Lean.Syntax:=MZ #[I']
def Aa:Lean.Syntax:=MZ #[I',I']
set_option genInjectivity true in
inductive AV where
 |none
 |bool (b:Bool)
 |int (i:Int)
 |aa (b:List UInt8)
 |str (s:Str)
 |ref (a:fF)
 |ty (n:String)
 |bi (n:String)
 |tup (xs:List AV)
 |lst (xs:List AV)
 |obj (C:fF) (ks:List Str) (xs:List AV)
 |Ef (P:kX) (ks:List (List UInt8)) (xs:List AV)
 deriving Inhabited
abbrev Rs(α:Type):=Option (Except cz α)
noncomputable def Ja{β:Type}(k:List UInt8->Option β):AV->Option β
 | .aa b=>k b
 |_=>none
@[elab_as_elim] theorem Jb{β:Type}{k:List UInt8->Option β}{r:β}{G:AV->Prop}{a:AV}(h:Ja k a=some r)(g:∀b,k b=some r->G (.aa b)):G a:=by
 cases a with
 |aa b=>exact g b h
 |_=>exact aZ h
noncomputable def QT{β:Type}(k:Int->Option β):AV->Option β
 | .int b=>k b
 |_=>none
@[elab_as_elim] theorem Jc{β:Type}{k:Int->Option β}{r:β}{G:AV->Prop}{a:AV}(h:QT k a=some r)(g:∀b,k b=some r->G (.int b)):G a:=by
 cases a with
 |int b=>exact g b h
 |_=>exact aZ h
noncomputable def M0{β:Type}(k:List AV->Option β):AV->Option β
 | .lst b=>k b
 |_=>none
@[elab_as_elim] theorem Jd{β:Type}{k:List AV->Option β}{r:β}{G:AV->Prop}{a:AV}(h:M0 k a=some r)(g:∀b,k b=some r->G (.lst b)):G a:=by
 cases a with
 |lst b=>exact g b h
 |_=>exact aZ h
inductive SeqAt(T:String)(h:ZN)(t:fF)(vs:List cz):Prop|mk (n:Nat) (sl:Array (Option cz)):h.get? t=some {cls:=.type T,dict:=none,data:=.seq vs.toArray n,slots:=sl}->SeqAt T h t vs
theorem SeqAt.lt(x:SeqAt T h t vs):t<h.objs.size:=by obtain⟨n,sl,z⟩:=x;exact ye z
abbrev LstAt(h:ZN)(t:fF)(vs:List cz):Prop:=SeqAt "list" h t vs
abbrev TupAt(h:ZN)(t:fF)(vs:List cz):Prop:=SeqAt "tuple" h t vs
theorem SeqAt.list(x:LstAt h t vs):h.IsList t vs.toArray:=by obtain⟨n,sl,z⟩:=x;exact⟨_,z,rfl,n,rfl⟩
theorem SeqAt.tuple(x:TupAt h t vs):h.IsTuple t vs.toArray:=by obtain⟨n,sl,z⟩:=x;exact⟨_,z,rfl,n,rfl⟩
def dm(h:ZN)(x d C:fF)(ks:List Str)(vs:List cz):Prop:=
 (∃sl,h.get? x=some {cls:=.ref C,dict:=some d,data:=.plain,slots:=sl})/\(∃o es ep,h.get? d=some o/\o.data= .dict es ep/\o.dict=none/\es.size<=ks.length)/\h.Ns d (λk=>(ks.zip vs).lookup k)/\x=d+1
def iR(P:kX)(h:ZN)(a:fF)(ks:List (List UInt8))(vs:List cz):Prop:=
 (a==sysModules)=false/\∃o es ep,h.get? a=some o/\o.cls= .type "dict"/\o.dict=none/\o.data= .dict es ep/\(∀e∈es,∃k,PySem.W.isBytes k e.key=true/\e.hash=PySem.W.hashW P (.bytes k))/\
  ∀k,findBy PySem.W.isBytes es k=(ks.zip vs).lookup k
mutual
def VR(h:ZN)(F:fF->Prop):AV->cz->Prop
 | .none,v=>v= .none
 | .bool b,v=>v= .bool b
 | .int i,v=>∃t,v= .int i t
 | .aa b,v=>∃t,v= .bytes b.toArray t
 | .str x,v=>∃t,v= .str x t
 | .ref a,v=>v= .ref a
 | .ty n,v=>v= .type n
 | .bi n,v=>v= .builtin n
 | .tup xs,v=>∃a vs,v= .ref a/\F a/\TupAt h a vs/\bL h F xs vs
 | .lst xs,v=>∃a vs,v= .ref a/\F a/\LstAt h a vs/\bL h F xs vs
 | .obj C ks xs,v=>∃x d vs,v= .ref x/\F x/\F d/\dm h x d C ks vs/\bL h F xs vs
 | .Ef P ks xs,v=>∃a vs,v= .ref a/\F a/\iR P h a ks vs/\bL h F xs vs
def bL(h:ZN)(F:fF->Prop):List AV->List cz->Prop
 |[],vs=>vs=[]
 |x::xs,vs=>∃v ws,vs=v::ws/\VR h F x v/\bL h F xs ws
end
theorem lL{v:cz}:VR h F .none v=(v= .none):=rfl
theorem lM{v:cz}:VR h F (.bool b) v=(v= .bool b):=rfl
theorem lN{v:cz}{i:Int}:VR h F (.int i) v=∃t,v= .int i t:=rfl
theorem mh{v:cz}{b:List UInt8}:VR h F (.aa b) v=∃t,v= .bytes b.toArray t:=rfl
theorem ED{v:cz}:VR h F (.ref a) v=(v= .ref a):=rfl
theorem zQ{v:List cz}:bL h F [] v=(v=[]):=rfl
theorem yo{x:AV}{xs:List AV}:bL h F (x::xs) vs=∃v ws,vs=v::ws/\VR h F x v/\bL h F xs ws:=rfl
def Ab(F:fF->Prop)(h h':ZN):Prop:=∀a,F a->∀o,h.get? a=some o->∃sl,h'.get? a=some {o with slots:=sl}
theorem iC(k:∀o,h.get? a=some o->∃sl,h'.get? a=some {o with slots:=sl})(z:h.Ns a m):h'.Ns a m:=by
 exact dh z λo es I U hd r=>au (k o U) λsl hs=>⟨_,es,I,hs,hd,r⟩
theorem dm.up{x:fF}(k:∀b o,b=x\/b=d->h.get? b=some o->∃sl,h'.get? b=some {o with slots:=sl})(r:dm h x d C ks vs):dm h' x d C ks vs:=by
 exact MM r λsl I o es U z hd V Y Z=>au (k x _ (.inl rfl) I) λdH w0=>au (k d _ (.inr rfl) z) λM1 dg=>⟨⟨dH,w0⟩,⟨_,es,U,dg,hd,V⟩,iC (λo z=>k d o (.inr rfl) z) Y,Z⟩
mutual
theorem VR.mono(k:Ab F h h')(z:∀a,F a->F' a):∀{x:AV}{v:cz},VR h F x v->VR h' F' x v
 | .none,_,r=>r
 | .bool _,_,r=>r
 | .int _,_,r=>r
 | .aa _,_,r=>r
 | .str _,_,r=>r
 | .ref _,_,r=>r
 | .ty _,_,r=>r
 | .bi _,_,r=>r
 | .tup xs,_,r=>by
  refine bF r ?_;clear r;rintro a vs rfl I y3 rs;rcases y3 with⟨n,sl,U⟩
  exact au (k a I _ U) λY hs=>⟨a,vs,rfl,z a I,⟨n,Y,hs⟩,bL.mono k z rs⟩
 | .lst xs,_,r=>by
  refine bF r ?_;clear r;rintro a vs rfl I V rs;rcases V with⟨n,sl,U⟩
  exact au (k a I _ U) λY hs=>⟨a,vs,rfl,z a I,⟨n,Y,hs⟩,bL.mono k z rs⟩
 | .obj C ks xs,_,r=>by
  refine yn r ?_;clear r;rintro x d vs rfl Z hd U rs;exact⟨x,d,vs,rfl,z x Z,z d hd,U.up (λb o hb e=>hb.elim (λq=>k b (q▸Z) o e) λq=>k b (q▸hd) o e),bL.mono k z rs⟩
 | .Ef P ks xs,_,r=>by
  refine bF r ?_;clear r;rintro a vs rfl I y1 rs;refine aX y1 λh0 V=>?_;clear y1;refine ft V λo es ep U h1=>?_;clear V;exact au (k a I o U) λsl hs=>⟨a,vs,rfl,z a I,⟨h0,_,es,ep,hs,h1⟩,bL.mono k z rs⟩
theorem bL.mono(k:Ab F h h')(z:∀a,F a->F' a):∀{xs:List AV}{vs:List cz},bL h F xs vs->bL h' F' xs vs
 |[],_,r=>by simpa only[zQ,yo]using r
 |x::xs,_,r=>by
  refine bV r ?_;clear r;rintro v ws rfl I U;exact⟨v,ws,rfl,VR.mono k z I,bL.mono k z U⟩
end
def GenStep(g z:Array aas):Prop:=(acO g->acO z)/\g.size<=z.size/\∀i,i<g.size->z[i]? =g[i]?
theorem GenStep.refl(g:Array aas):GenStep g g:=⟨id,t_ _,λZ Z=>rfl⟩
theorem GenStep.trans{b:Array aas}(x:GenStep a b)(y:GenStep b c):GenStep a c:=
 ⟨λh=>y.1 (x.1 h),bU x.2.1 y.2.1,λi z=>(y.2.2 i (bk z x.2.1)).trans (x.2.2 i z)⟩
structure M3 where
 name:Str
 qual:Str
 params:abr
 body:List aaa
 scope:abw
structure Wd where
 prog:abf
 w:aab
 base:ZN
 mg:Str->Option cz
 mb:Str->Option cz
 tabs:fF->Prop
 EE:fF->Pos->Str
 lf:Nat->M3
 ref:fF->Array cz
def Wd.loose(W:Wd)(a:fF):Prop:=W.tabs a\/a=cStatics
def Ac(h:ZN):Prop:=∃mc,h.Ns cStatics mc/\mc "sys.recursionlimit"=none/\mc "thirdparty.any"=none
def iS(o:Obj):Prop:=∃vs,o.data= .fields vs/\18<vs.size
theorem iS.slots(h:iS o):iS {o with slots:=sl}:=h
def ew(X:fF->Prop)(h h':ZN):Prop:=∀b o,¬X b->h.get? b=some o->∃sl,h'.get? b=some {o with slots:=sl}
theorem ew.refl(X:fF->Prop)(h:ZN):ew X h h:=λZ o Z e=>⟨o.slots,e⟩
theorem ew.trans{X:fF->Prop}{b:ZN}(x:ew X a b)(y:ew X b c):ew X a c:=λp o z e=>by
 exact au (x p o z e) λsl h1=>au (y p _ z h1) λI h2=>⟨I,h2⟩
theorem ew.mono{X:fF->Prop}{b:ZN}(x:ew X a b)(h:∀p,X p->Y p):ew Y a b:=λp o z e=>x p o (λq=>z (h p q)) e
theorem ew.of_keeps{X:fF->Prop}(k:∀b o,h.get? b=some o->h'.get? b=some o):ew X h h':=λb o Z e=>⟨o.slots,k b o e⟩
def LT(W:Wd)(h:ZN):Prop:=(∀P,W.tabs P->∃ps more,h.get? P=some {cls:=.none,data:=.fields ps}/\ps=W.ref P++more/\TriplesOk ps.toList/\
 ∀pos cv,codeAmong pos ps.toList=some cv->∃a o vs t,cv= .ref a/\¬W.loose a/\h.get? a=some o/\o.data= .fields vs/\18<vs.size/\vs[1]? =some (.str (W.EE P pos) t))/\Ac h
theorem LT.there{W:Wd}(x:LT W h)(z:W.loose a):∃o,h.get? a=some o:=by
 refine g' z ?_ ?_;rotate_left;clear z;rintro rfl;rotate_right;clear z;intro z
 ·exact e7 (x.1 a z) λZ Z h1 Z=>⟨_,h1⟩
 ·exact WS x.2 λZ o Z Z h1 Z Z=>⟨o,h1⟩
theorem LT.keep{W:Wd}(x:LT W h)(k:∀b o,W.loose b\/iS o->h.get? b=some o->∃sl,h'.get? b=some {o with slots:=sl})(kf:∀b o vs,W.loose b->h.get? b=some o->o.data= .fields vs->h'.get? b=some o):LT W h':=⟨λP z=>by
 refine bF (x.1 P z) λps more h1 h2 h3 h4=>?_;have h5:=kf P _ _ (.inl z) h1 rfl;refine⟨ps,more,h5,h2,h3,λpos U I=>?_⟩;refine q8 (h4 pos U I) ?_;clear I;rintro a o vs t rfl V Y hd hz Z;exact au (k a o (.inr ⟨vs,hd,hz⟩) Y) λdH h6=>⟨a,_,vs,t,rfl,V,h6,hd,hz,Z⟩,by
 refine ax x.2 λmc hn hm=>?_;exact⟨mc,iC (λo e=>k _ o (.inl (.inr rfl)) e) hn,hm⟩⟩
theorem LT.qj{W:Wd}(x:LT W h)(k:∀b o,W.loose b\/iS o->h.get? b=some o->h'.get? b=some o):LT W h':=
 x.keep (λb o hb e=>⟨o.slots,k b o hb e⟩) λb o Z hb e Z=>k b o (.inl hb) e
structure fD(W:Wd)(X:fF->Prop)(s s':ea):Prop where
 stays:W.base.StaysIn s'.heap
 slots:ew (λa=>W.loose a\/X a) s.heap s'.heap
 tab:LT W s.heap->LT W s'.heap
 size:s.heap.objs.size<=s'.heap.objs.size
 os:s'.os=s.os
 gens:GenStep s.gens s'.gens
structure Step(W:Wd)(s s':ea):Prop where
 stays:W.base.StaysIn s'.heap
 slots:ew W.loose s.heap s'.heap
 tab:LT W s.heap->LT W s'.heap
 size:s.heap.objs.size<=s'.heap.objs.size
 os:s'.os=s.os
 gens:GenStep s.gens s'.gens
theorem cM{M:SW}{c:Prop}[Decidable c]{a b:Sem α}{Q:α->ea->Prop}(h:¬c)(k:wpAny M A b Q E s):wpAny M A (if c then a else b) Q E s:=by refine ag (if_neg h) ?_;exact k
theorem cC{M:SW}{c:Prop}[Decidable c]{a b:Sem α}{Q:α->ea->Prop}(h:c)(k:wpAny M A a Q E s):wpAny M A (if c then a else b) Q E s:=by refine ag (if_pos h) ?_;exact k
theorem cps{M:SW}{t:Sem α}{Q:α->ea->Prop}(h:∀(z:α->ea->Prop)(I:cz->ea->Prop),(∀a s',Q a s'->z a s')->(∀x s',E x s'->I x s')->wpAny M A t z I s):wpAny M A t Q E s:=h Q E (λZ Z h=>h) λZ Z h=>h
section
variable {W:Wd}
theorem Step.refl(h:W.base.StaysIn s.heap):Step W s s:=⟨h,.refl _ _,id,t_ _,rfl,.refl _⟩
theorem Step.trans{b:ea}(x:Step W a b)(y:Step W b c):Step W a c:=
 ⟨y.stays,x.slots.trans y.slots,λh=>y.tab (x.tab h),bU x.size y.size,y.os.trans x.os,x.gens.trans y.gens⟩
theorem Step.x{X:fF->Prop}{b:ea}(x:Step W a b):fD W X a b:=⟨x.stays,x.slots.mono λZ=>.inl,x.tab,x.size,x.os,x.gens⟩
theorem fD.none{X:fF->Prop}{b:ea}(x:fD W X a b)(h:∀p,¬X p):Step W a b:=⟨x.stays,x.slots.mono λp z=>z.elim id λq=>(h p q).elim,x.tab,x.size,x.os,x.gens⟩
theorem Step.toks(h:W.base.StaysIn s.heap):Step W s {s with toks:=t}:=⟨h,.refl _ _,id,t_ _,rfl,.refl _⟩
theorem Step.of_keeps(h:W.base.StaysIn s.heap)(k:∀b o,s.heap.get? b=some o->h'.get? b=some o)(hs:s.heap.objs.size<=h'.objs.size):Step W s {s with heap:=h',toks:=t}:=⟨λb o e=>k b o (h b o e),.of_keeps k,λl=>l.qj λb o Z e=>k b o e,hs,rfl,.refl _⟩
theorem Step.push(h:W.base.StaysIn s.heap):Step W s {s with heap:=s.heap.push o,toks:=t}:=
 .of_keeps h (λZ Z e=>ml _ e) (by rw[rW];exact Tw _)
end
structure bP(s s':ea)(F F':fF->Prop):Prop where
 up:∀a,F a->F' a
 new:∀a,F' a->F a\/(s.heap.objs.size<=a/\a<s'.heap.objs.size)
theorem bP.refl(s s':ea)(F:fF->Prop):bP s s' F F:=⟨λZ h=>h,λZ h=>.inl h⟩
theorem bP.trans(hs:s.heap.objs.size<=s'.heap.objs.size)(z:s'.heap.objs.size<=cR.heap.objs.size)(x:bP s s' F F')(y:bP s' cR F' q9):bP s cR F q9:=
 ⟨λa h=>y.1 a (x.1 a h),λa h=>(y.2 a h).elim (λq=>(x.2 a q).elim .inl λp=>.inr ⟨p.1,bk p.2 z⟩) λp=>.inr ⟨bU hs p.1,p.2⟩⟩
set_option genInjectivity true in
inductive LV where
 |un
 |im (a:AV)
 |own (xs:List AV)
 |ob (C:fF) (ks:List Str) (xs:List AV)
 |fn (k:Nat)
 deriving Inhabited
abbrev St:=List LV
structure ek where
 scope:abw
 names:List Str
 rank:Nat
 inner:Bool
 cd:cz
 qual:Str
structure cj where
 s₀:ea
 fu:fF->Prop
 X:fF->Prop
 A:XQ
 env:Env
 fe:Env
 outer:List Env
 L:fF
 C:fF
variable {J ak:St} {W:Wd} {S:cj} {fn:ek} {xs ys:List AV} {set:AV->St->Option St} {spec:List AV->Rs AV}
def cj.Old(W:Wd)(S:cj)(a:fF):Prop:=a<S.s₀.heap.objs.size/\¬W.loose a/\¬S.X a/\W.base.get? a=none
def cj.nm(S:cj)(a:fF):Prop:=a=S.L\/a=S.C
def cj.uT(S:cj)(a:fF):Prop:=S.nm a\/((∃b,S.X b)/\¬(S.X a/\S.X (a+1)))
structure cj.Ok(W:Wd)(S:cj)(fn:ek)(q:Bool):Prop where
 scope:S.env.scope=fn.scope
 kind:fn.scope.kind= .function
 locals:S.env.locals=S.C
 frame:S.env.frame=some S.L
 c6:S.fe.frame=some S.L
 nH:S.fe.scope.kind≠.module
 glob:S.env.globals=3
 bi:S.env.builtins=0
 frames:S.A.frames=some (S.fe::S.outer)
 dN:S.s₀.heap.FunFrames W.base S.outer
 cW:∀L,L∈S.outer.filterMap (·.frame)->¬(W.loose L\/S.X L)
 e8:W.base.StaysIn S.s₀.heap
 hg:W.base.Ns 3 W.mg
 hb:W.base.Ns 0 W.mb
 room:S.A.depth+3*fn.rank<=600/\S.A.units+100*fn.rank+100<=9000
 sR:∀a,S.fu a->a<S.s₀.heap.objs.size/\¬W.loose a
 x0:∀a,S.X a->a<S.s₀.heap.objs.size/\¬W.loose a/\W.base.get? a=none
 lb:∀a,W.loose a->a<S.s₀.heap.objs.size
 SA:LT W S.s₀.heap
 nodup:fn.names.Nodup
 hand:q=false->S.A.handled=none
 Ad:fn.names.head? =some ("self":Str)\/∀a,¬S.X a
 EF:S.env.code=fn.cd/\S.env.qual=fn.qual++".<locals>."
def FnAt(W:Wd)(h:ZN)(M:fF->Prop)(d:M3)(v:cz):Prop:=∃a o pm cd doc,v= .ref a/\M a/\h.get? a=some o/\o.data= .func (defFd d.name d.qual d.params d.body d.scope 3 .none .none none pm cd doc)/\
 ∃c oc vs t,cd= .ref c/\¬W.loose c/\h.get? c=some oc/\oc.data= .fields vs/\18<vs.size/\vs[1]? =some (.str d.qual t)
def jZ(W:Wd)(N:fF->Prop)(h:ZN)(F M:fF->Prop):LV->Option cz->Prop
 | .un,_=>True
 | .im a,v=>∃x,v=some x/\VR h F a x
 | .own xs,v=>∃a vs,v=some (.ref a)/\M a/\LstAt h a vs/\bL h F xs vs
 | .ob C ks xs,v=>∃x d vs,v=some (.ref x)/\M x/\M d/\¬N d/\dm h x d C ks vs/\bL h F xs vs
 | .fn k,v=>∃x,v=some x/\FnAt W h M (W.lf k) x
def LV.bR:LV->Bool
 | .own _=>true
 | .ob .. =>true
 |_=>false
structure Rel(W:Wd)(S:cj)(fn:ek)(F M:fF->Prop)(cur:Str->Option cz)(J:St)(s:ea):Prop where
 step:fD W S.X S.s₀ s
 grow:(∀a,S.fu a->F a)/\∀a,F a->S.fu a\/S.X a\/(S.s₀.heap.objs.size<=a/\a<s.heap.objs.size)
 mu:∀a,M a->(S.s₀.heap.objs.size<=a\/S.X a)/\a<s.heap.objs.size/\¬F a
 frame:(M S.L\/S.Old W S.L)/\M S.C
 top:∃o es ep,s.heap.get? S.L=some o/\o.data= .dict es ep
 ns:∃m,s.heap.Ns S.C m/\∀x,S.env.kindOf x=some .local->m x=cur x
 cells:∀x,S.env.kindOf x=some .cell->∃c o,S.env.cells.lookup x=some c/\(M c\/(fn.inner=true/\S.Old W c))/\s.heap.get? c=some o/\o.data= .cell (cur x)
 len:J.length=fn.names.length
 slots:∀i x,fn.names[i]? =some x->jZ W S.uT s.heap F M (J.getD i .un) (cur x)
 dist:∀i j x y,fn.names[i]? =some x->fn.names[j]? =some y->i≠j->(J.getD i .un).bR=true->(J.getD j .un).bR=true->cur x≠cur y
 small:∀a,M a->∃o,s.heap.get? a=some o/\¬iS o
section
variable {W:Wd} {S:cj} {fn:ek} {q:Bool} {F F' M:fF->Prop} {cur:Str->Option cz} {J:St} {s s':ea}
theorem Rel.stays(R:Rel W S fn F M cur J s):W.base.StaysIn s.heap:=R.step.stays
theorem Rel.tab(z:S.Ok W fn q)(R:Rel W S fn F M cur J s):LT W s.heap:=R.step.tab z.SA
theorem cj.Ok.bh(z:S.Ok W fn q)(h:S.s₀.heap.objs.size<=a):W.base.get? a=none:=by
 cases I:W.base.get? a with
 |none=>rfl
 |some o=>exact absurd (ye (z.e8 a o I)) (aca.mpr h)
theorem Rel.ql(z:S.Ok W fn q)(R:Rel W S fn F M cur J s)(h:M a):W.base.get? a=none:=(R.mu a h).1.elim z.bh λh=>(z.x0 a h).2.2
theorem Rel.bound(z:S.Ok W fn q)(R:Rel W S fn F M cur J s)(h:F a):a<s.heap.objs.size/\¬W.loose a:=by
 rcases R.grow.2 a h with h|h|h
 ·exact⟨bk (z.sR a h).1 R.step.size,(z.sR a h).2⟩
 ·exact⟨bk (z.x0 a h).1 R.step.size,(z.x0 a h).2.1⟩
 ·exact⟨h.2,λq=>f3 _ (bk (z.lb a q) h.1)⟩
theorem Rel.kq(z:S.Ok W fn q)(R:Rel W S fn F M cur J s)(T:Step W s s'):Ab F s.heap s'.heap:=λa I o U=>T.slots a o (R.bound z I).2 U
theorem Rel.bS(z:S.Ok W fn q)(R:Rel W S fn F M cur J s)(h:M a):¬W.loose a:=(R.mu a h).1.elim (λh q=>f3 _ (bk (z.lb a q) h)) λh=>(z.x0 a h).2.1
theorem Rel.ku(z:S.Ok W fn q)(R:Rel W S fn F M cur J s):W.base.get? S.L=none/\¬W.loose S.L:=R.frame.1.elim (λh=>⟨R.ql z h,R.bS z h⟩) λh=>⟨h.2.2.2,h.2.1⟩
theorem SeqAt.step(T':Step W s s')(h:¬W.loose a)(x:SeqAt T s.heap a vs):SeqAt T s'.heap a vs:=by
 obtain⟨n,sl,z⟩:=x;exact au (T'.slots a _ h z) λI hs=>⟨n,I,hs⟩
theorem jZ.up{v:Option cz}(V:∀a,F a->F' a)(I:∀a,M a->M' a)(k:∀b o,h.get? b=some o->F b\/M b\/(iS o/\¬W.loose b)->∃sl,h'.get? b=some {o with slots:=sl})(r:jZ W N h F M lv v):jZ W N h' F' M' lv v:=by
 have kq:Ab F h h':=λa U o z=>k a o z (.inl U);cases lv with
 |un=>trivial
 |im a=>refine ax r λx e Y=>?_;clear r;exact⟨x,e,Y.mono kq V⟩
 |own xs=>
  refine bF r λa vs e hm y5 Z=>?_;clear r;rcases y5 with⟨n,sl,z⟩
  exact au (k a _ z (.inr (.inl hm))) λdH hs=>⟨a,vs,e,I a hm,⟨n,dH,hs⟩,Z.mono kq V⟩
 |ob C ks xs=>
  refine hJ r λx d vs e Y hd hn z Z=>?_;clear r;exact⟨x,d,vs,e,I x Y,I d hd,hn,z.up (λb o hb e=>k b o e (.inr (.inl (by(refine g' hb ?_ ?_;rotate_left;clear hb;clear hn z;rintro rfl;rotate_right;clear hb;clear z;rintro rfl)<;>assumption)))),Z.mono kq V⟩
 |fn d=>
  refine ax r λx e y1=>?_;clear r;refine nG y1 ?_;clear y1;rintro a o pm cd doc rfl U z hd y2;refine q8 y2 ?_;clear y2;rintro c oc vs t rfl hc yq zR hz hv;exact au (k a _ z (.inr (.inl U))) λsl hs=>au (k c _ yq (.inr (.inr ⟨⟨vs,zR,hz⟩,hc⟩))) λdH uS=>⟨_,e,a,_,pm,.ref c,doc,rfl,I a U,hs,hd,c,_,vs,t,rfl,hc,uS,zR,hz,hv⟩
theorem Rel.keep(hS:S.Ok W fn q)(R:Rel W S fn F M cur J s)(K:fF->Obj->Prop)(V:∀a,F a->F' a)(Y:∀a,F' a->F a\/s.heap.objs.size<=a/\a<s'.heap.objs.size)(kb:W.base.StaysIn s'.heap)(kp:∀b o,s.heap.get? b=some o->K b o->∃sl,s'.heap.get? b=some {o with slots:=sl})(hz:s.heap.objs.size<=s'.heap.objs.size)(ho:s'.os=s.os)(hg:GenStep s.gens s'.gens)(ht:LT W s.heap->LT W s'.heap)(z:∀b o,s.heap.get? b=some o->F b\/M b\/(b<S.s₀.heap.objs.size/\¬W.loose b/\¬S.X b)\/(iS o/\¬W.loose b)->K b o):Rel W S fn F' M cur J s':=by
 have kF:∀b o,F b->s.heap.get? b=some o->∃sl,s'.heap.get? b=some {o with slots:=sl}:=λb o h e=>kp b o e (z b o e (.inl h));have kO:∀b o,M b\/S.Old W b->s.heap.get? b=some o->∃sl,s'.heap.get? b=some {o with slots:=sl}:=λb o h e=>kp b o e (z b o e (h.elim (λh=>.inr (.inl h)) λh=>.inr (.inr (.inl ⟨h.1,h.2.1,h.2.2.1⟩))));have kM:∀b o,M b->s.heap.get? b=some o->∃sl,s'.heap.get? b=some {o with slots:=sl}:=λb o h e=>kp b o e (z b o e (.inr (.inl h)));refine⟨⟨kb,?_,λh=>ht (R.step.tab h),bU R.step.size hz,ho.trans R.step.os,R.step.gens.trans hg⟩,⟨λa h=>V a (R.grow.1 a h),λa h=>?_⟩,λa I=>?_,R.frame,?_,?_,λx hx=>?_,R.len,λi x hi=>?_,R.dist,λa I=>?_⟩
 ·intro p o U e;exact au (R.step.slots p o U e) λsl h1=>au (kp p _ h1 (z p _ h1 (.inr (.inr (.inl ⟨ye e,λh=>U (.inl h),λh=>U (.inr h)⟩))))) λdH h2=>⟨dH,h2⟩
 ·refine I7 (Y a h) (λh=>?_) λh1 h2=>?_
  ·rcases R.grow.2 a h with h|h|h
   ·exact .inl h
   ·exact .inr (.inl h)
   ·exact .inr (.inr ⟨h.1,bk h.2 hz⟩)
  ·exact .inr (.inr ⟨bU R.step.size h1,h2⟩)
 ·exact fQ (R.mu a I) λh1 h2 h3=>⟨h1,bk h2 hz,λh=>(Y a h).elim h3 λh=>f3 _ (bk h2 h.1)⟩
 ·exact ft R.top λo es ep h1 h2=>au (kO _ _ R.frame.1 h1) λsl h3=>⟨_,es,ep,h3,h2⟩
 ·exact ax R.ns λm hn hm=>⟨m,iC (λo e=>kM _ o R.frame.2 e) hn,hm⟩
 ·exact bF (R.cells x hx) λc o h1 h2 h4 h5=>au (kO c o (h2.imp id And.right) h4) λsl hs=>⟨c,_,h1,h2,hs,h5⟩
 ·exact(R.slots i x hi).up V (λZ h=>h) λb o e h=>kp b o e (z b o e (h.elim .inl λh=>h.elim (λh=>.inr (.inl h)) λh=>.inr (.inr (.inr h))))
 ·exact ax (R.small a I) λo h1 h2=>au (kM a o I h1) λsl h3=>⟨_,h3,h2⟩
theorem Rel.move(z:S.Ok W fn q)(R:Rel W S fn F M cur J s)(T:Step W s s')(G:bP s s' F F'):Rel W S fn F' M cur J s':=
 R.keep z (λb Z=>¬W.loose b) G.1 (λa h=>(G.2 a h).imp id λh=>⟨h.1,h.2⟩) T.stays (λb o e h=>T.slots b o h e) T.size T.os T.gens T.tab λb o e h=>by
  rcases h with h|h|h|h
  ·exact(R.bound z h).2
  ·exact R.bS z h
  ·exact h.2.1
  ·exact h.2
theorem FunFrames.M4{X:fF->Prop}{base:ZN}(k:ew X h h'):∀{l:List Env},(∀L,L∈l.filterMap (·.frame)->¬X L)->h.FunFrames base l->h'.FunFrames base l:=by
 intro l
 induction l with
 |nil=>
  intro _ _;exact trivial
 |cons env rest I=>
  intro z r;refine WT r λU L o hf V Y hd Z=>?_;rw[aaF,hf]at z;exact au (k L o (z L (T4 ..)) Y) λsl hs=>⟨U,⟨L,_,hf,V,hs,hd⟩,I (λL' h=>z L' (AM _ h)) Z⟩
theorem Rel.frames(z:S.Ok W fn q)(R:Rel W S fn F M cur J s):s.heap.FunFrames W.base (S.fe::S.outer):=by
 exact ft R.top λo es U I hd=>⟨z.nH,⟨S.L,o,z.c6,(R.ku z).1,I,λvs e=>by rw[hd]at e;cases e⟩,FunFrames.M4 R.step.slots z.cW z.dN⟩
theorem Rel.M5(z:S.Ok W fn q)(R:Rel W S fn F M cur J s):s.heap.NoLimit:=by
 exact iQ ((R.tab z).2) λI U V Z=>⟨I,U,V⟩
end
def nI(cls:cz)(vs:Array cz):Prop:=vs.size<=18/\∀n,cls= .type n->vs[2]? =some .none
theorem nI.of{cls:cz}{vs:Array cz}(x:nI cls vs)(h:pK.size=vs.size/\pK[2]? =vs[2]?):nI cls pK:=⟨by refine ag h.1 ?_;exact x.1,λn e=>by refine ag h.2 ?_;exact x.2 n e⟩
inductive qm(W:Wd)(l:List Env)(L:fF)(n:Nat)(e:fF)(cls:cz)(h:ZN):Prop
 |mk (h1:h.FunFrames W.base l) (h2:n<=e) (oe:Obj) (vs:Array cz) (h3:h.get? e=some oe) (h4:oe.cls=cls) (h5:oe.data= .fields vs) (h6:nI cls vs)
  (h7:vs[1]? =some .none\/∃T oT ts fl,vs[1]? =some (.ref T)/\n<=T/\T≠e/\h.get? T=some oT/\oT.data= .fields ts/\ts.size<=18/\ts[3]? =some fl/\(fl= .none\/fl=rawInt L)):qm W l L n e cls h
theorem qm.el{L e:fF}{cls:cz}(z:qm W l L n e cls h)(I:∀(h1:h.FunFrames W.base l)(h2:n<=e)(oe:Obj)(vs:Array cz)(h3:h.get? e=some oe)(h4:oe.cls=cls)(h5:oe.data= .fields vs)(h6:nI cls vs)(h7:vs[1]? =some .none\/∃T oT ts fl,vs[1]? =some (.ref T)/\n<=T/\T≠e/\h.get? T=some oT/\oT.data= .fields ts/\ts.size<=18/\ts[3]? =some fl/\(fl= .none\/fl=rawInt L)),G):G:=qm.rec (motive:=λZ=>G) I z
noncomputable abbrev aJ(s:ea):Nat:=s.heap.objs.size
theorem sS{M:SW}{z:Ctx}{e:End}(h:Runs M z p t fs s e s'):aJ s<=aJ s':=by
 induction h<;>(try simp only[aJ,Shared.setGen,rW,aaL]at*)<;>lia
theorem nJ{M:SW}{z:Ctx}{res:GenResult}{P:ZN->Prop}(h:Wakes M z p g r s res s')(k:∀{z p t fs e af},Runs M z p t fs (s.setGen g .running) e af->P af.heap)(U:P s.heap):P s'.heap:=by
 have kk:∀{z p t fs},(∃I af,Runs M z p t fs (s.setGen g .running) I af/\I.quiet=true/\res=I.result/\s'=af.setGen g I.genState)->P s'.heap:=λh=>bF h λI af V Z Z e=>ag e (show P af.heap from k V);unfold Wakes at h;revert h;generalize s.gens[g]? =o;intro h;cases o with
 |none=>exact h.elim
 |some o=>
  cases o with
  |fresh c=>
   cases r with
   |send v=>cases v<;>first|exact kk h|exact ag h.2 U
   |throw x=>exact ag h.2 U
  |suspended=>exact kk h
  |_=>exact ag h.2 U
theorem yr{M:SW}{z:Ctx}{res:GenResult}(h:Wakes M z p g r s res s'):aJ s<=aJ s':=nJ (P:=λh=>aJ s<=h.objs.size) h (λ{_ _ _ _ _ t} I=>(sS I:aJ (s.setGen g .running)<=aJ t)) (t_ _)
theorem Ae(M:SW)(U:Ctx)(n:Nat)(t:Sem α):∀(Q:α->Pos->ea->Prop)(E:cz->Pos->ea->Prop)(p:Pos)(s:ea),n<=aJ s->Sem.wp M U t Q E p s->Sem.wp M U t (λa I s'=>n<=aJ s'/\Q a I s') (λe I s'=>n<=aJ s'/\E e I s') p s:=by
 induction t with
 |pure a=>intro Q E p s z h;exact⟨z,h⟩
 |raise e=>intro Q E p s z h;exact⟨z,h⟩
 |unsupported _=>intro Q E p s _ h;exact h
 |finish _=>intro Q E p s _ h;exact h
 |register _ _=>intro Q E p s _ h;exact h
 |yield _ _ _ _=>intro Q E p s _ h;exact h
 |fork _ _=>intro Q E p s _ h;exact h
 |await _ _ _ _ _=>intro Q E p s _ h;exact h
 |load a _ k ih=>intro Q E p s z h;refine ax h ?_;intro o Y h;exact⟨o,Y,ih o Q E p s z h⟩
 |update a _ f k ih=>intro Q E p s z h;exact⟨h.1,ih () Q E p _ (by simpa only[aJ,aaL]using z) h.2⟩
 |alloc o k ih=>intro Q E p s z h;exact ih _ Q E p _ (by simp only[aJ,rW]at*;exact Qt ‹_›) h
 |choose src m k ih=>intro Q E p s z h;exact⟨h.1,ih _ Q E p _ z h.2⟩
 |call c hd _ _ k ih=>intro Q E p s z h;refine e7 h ?_;intro r s' V h;exact⟨r,s',V,ih r Q E p s' (bU z (sS V)) h⟩
 |genState g k ih=>intro Q E p s z h;refine ax h ?_;intro st hs h;exact⟨st,hs,ih _ Q E p s z h⟩
 |resume g r _ k ih=>intro Q E p s z h;refine e7 h ?_;intro res s' hw h;exact⟨res,s',hw,ih res Q E p s' (bU z (yr hw)) h⟩
 |rule _ k ih=>intro Q E p s z h;exact ih () Q E p s z h
 |«at» I k ih=>intro Q E p s z h;exact ih () Q E I s z h
 |loadIfAlive a k ih=>intro Q E p s z h;exact ih _ Q E p s z h
 |point _ k ih=>intro Q E p s z h;exact ih () Q E p s z h
 |fresh k ih=>intro Q E p s z h;exact ih _ Q E p _ z h
 |ask k ih=>intro Q E p s z h;exact ih _ Q E p s z h
 |os q _ k ih=>intro Q E p s z h;exact ih _ Q E p _ z h
 |handled own k ih=>intro Q E p s z h;exact ih _ Q E p s z h
 |newGen c k ih=>intro Q E p s z h;exact ih _ Q E p _ z h
 |stack k ih=>intro Q E p s z h;exact ih _ Q E p s z h
 |thread k ih=>intro Q E p s z h;exact ih _ Q E p s z h
section
variable {M:SW}
theorem aP(h:wpAny M A t (λa s'=>aJ s<=aJ s'->Q a s') (λe s'=>aJ s<=aJ s'->E e s') s):wpAny M A t Q E s:=
 λz p I=>aaJ M z t (λZ Z Z x=>x.2 x.1) (λZ Z Z x=>x.2 x.1) p s (Ae M z (aJ s) t _ _ p s (t_ _) (h z p I))
end
def Below(n:Nat)(h h':ZN):Prop:=(∀b o,b<n\/iS o->h.get? b=some o->∃sl,h'.get? b=some {o with slots:=sl})/\∀b o vs,b<n->h.get? b=some o->o.data= .fields vs->h'.get? b=some o
theorem Below.refl(n:Nat)(h:ZN):Below n h h:=⟨λZ o Z e=>⟨o.slots,e⟩,λZ Z Z Z e Z=>e⟩
theorem Below.trans{b:ZN}(x:Below n a b)(y:Below n b c):Below n a c:=⟨λp o z e=>by
 refine au (x.1 p o z e) λsl h1=>au (y.1 p _ (z.imp id iS.slots) h1) λI h2=>?_;exact⟨I,h2⟩,λp o vs z e d=>y.2 p o vs z (x.2 p o vs z e d) d⟩
inductive j0(W:Wd)(l:List Env)(L n:Nat)(e:fF)(cls:cz)(h:ZN):Prop
 |mk (h1:h.FunFrames W.base l) (h2:n<=e) (oe:Obj) (vs:Array cz) (h3:h.get? e=some oe) (h4:oe.cls=cls) (h5:oe.data= .fields vs) (h6:nI cls vs) (T:fF) (oT:Obj) (ts:Array cz)
  (h7:vs[1]? =some (.ref T)) (h8:n<=T) (h9:T≠e/\h.get? T=some oT/\oT.data= .fields ts/\ts.size<=18/\ts[3]? =some (rawInt L)):j0 W l L n e cls h
theorem j0.el{L:Nat}{e:fF}{cls:cz}(z:j0 W l L n e cls h)(I:∀(h1:h.FunFrames W.base l)(h2:n<=e)(oe:Obj)(vs:Array cz)(h3:h.get? e=some oe)(h4:oe.cls=cls)(h5:oe.data= .fields vs)(h6:nI cls vs)(T:fF)(oT:Obj)(ts:Array cz)(h7:vs[1]? =some (.ref T))(h8:n<=T)(h9:T≠e/\h.get? T=some oT/\oT.data= .fields ts/\ts.size<=18/\ts[3]? =some (rawInt L)),G):G:=j0.rec (motive:=λZ=>G) I z
inductive nh(W:Wd)(l:List Env)(n:Nat)(e:fF)(cls:cz)(h:ZN):Prop
 |mk (h1:h.FunFrames W.base l) (h2:n<=e) (oe:Obj) (vs:Array cz) (h3:h.get? e=some oe) (h4:oe.cls=cls) (h5:oe.data= .fields vs) (h6:nI cls vs) (T:fF) (oT:Obj) (ts:Array cz)
  (h7:vs[1]? =some (.ref T)) (h8:n<=T) (h9:T≠e/\h.get? T=some oT/\oT.data= .fields ts/\ts.size<=18/\ts[3]? =some .none):nh W l n e cls h
theorem nh.el{e:fF}{cls:cz}(z:nh W l n e cls h)(I:∀(h1:h.FunFrames W.base l)(h2:n<=e)(oe:Obj)(vs:Array cz)(h3:h.get? e=some oe)(h4:oe.cls=cls)(h5:oe.data= .fields vs)(h6:nI cls vs)(T:fF)(oT:Obj)(ts:Array cz)(h7:vs[1]? =some (.ref T))(h8:n<=T)(h9:T≠e/\h.get? T=some oT/\oT.data= .fields ts/\ts.size<=18/\ts[3]? =some .none),G):G:=nh.rec (motive:=λZ=>G) I z
section
variable {M:SW} {A:XQ} {E:cz->ea->Prop} {s:ea} {W:Wd} {env:Env} {outer:List Env} {L e:fF} {n:Nat} {cls:cz}
theorem nh.Af(x:nh W l n e cls h):qm W l L n e cls h:=by
 obtain⟨z,I,oe,vs,he,U,hd,hz,T,oT,ts,h1,h2,h3,h4,h5,V,h6⟩:=x;exact⟨z,I,oe,vs,he,U,hd,hz,.inr ⟨T,oT,ts,_,h1,h2,h3,h4,h5,V,h6,.inl rfl⟩⟩
theorem j0.Af(x:j0 W l L n e cls h):qm W l L n e cls h:=by
 obtain⟨z,I,oe,vs,he,U,hd,hz,T,oT,ts,h1,h2,h3,h4,h5,V,h6⟩:=x;exact⟨z,I,oe,vs,he,U,hd,hz,.inr ⟨T,oT,ts,_,h1,h2,h3,h4,h5,V,h6,.inr rfl⟩⟩
theorem qm.there(x:qm W l L n e cls h):∃ob,h.get? e=some ob/\ob.cls=cls:=by
 obtain⟨_,_,oe,_,he,z,_⟩:=x;exact⟨oe,he,z⟩
theorem qm.less(z:m<=n)(x:qm W l L n e cls h):qm W l L m e cls h:=by
 refine x.el λI U oe vs he V hd hz h=>⟨I,bU z U,oe,vs,he,V,hd,hz,h.imp id ?_⟩;rintro⟨T,oT,ts,fl,h1,h2,h3⟩;exact⟨T,oT,ts,fl,h1,bU z h2,h3⟩
theorem q_{base:ZN}{L:fF}(I:A.frames=some (fe::outer))(U:s.heap.FunFrames base (fe::outer))(z:fe.frame=some L)(V:env.frame=some L)(h:∀h',Heap.SlotsOnly ((fe::outer).filterMap (·.frame)) s.heap h'->Q (.ref L) {s with heap:=h'}):wpAny M A (frameOf env) Q E s:=by
 have e:adn env=adn fe:=by unfold adn;exact ag V (ag z rfl)
 exact ag e (wpAny_frameOf_fun I U z h)
theorem kx{vs:Array cz}{head:cz}{EH:Bool}(gF:A.frames=some (fe::outer))(V:s.heap.FunFrames W.base (fe::outer))(EG:fe.frame=some L)(hf:env.frame=some L)(he:s.heap.get? e=some oe)(hd:oe.data= .fields vs)(aJ:1<vs.size)(sT:W.base.StaysIn s.heap)(L_:W.base.get? e=none)(h:∀h',W.base.StaysIn h'->(∀b o,b≠e->s.heap.get? b=some o->∃sl,h'.get? b=some {o with slots:=sl})->(∀b o vs,b≠e->s.heap.get? b=some o->o.data= .fields vs->h'.get? b=some o)->h'.FunFrames W.base (fe::outer)->(∃Ag pK T oT ts,h'.get? e=some Ag/\Ag.cls=oe.cls/\Ag.data= .fields pK/\(pK.size=vs.size/\pK[2]? =vs[2]?)/\pK[1]? =some (.ref T)/\s.heap.objs.size<=T/\T≠e/\h'.get? T=some oT/\oT.data= .fields ts/\ts.size<=18/\ts[3]? =some (rawInt L))->Q () {s with heap:=h'}):wpAny M A (do let a<-frameOf env;let pl<-entryPlaceOf L EH;let b<-adk head a .none (rawInt L) .none pl;setField (.ref e) 1 b) Q E s:=by
 have SD:e∉(fe::outer).filterMap (·.frame):=λY=>by
  refine L9 (V.mem Y) λZ o ho pL=>?_;rw[he]at ho;injection ho with ho;subst ho;exact pL vs hd
 refine az (q_ gF V EG hf λz U=>?_);refine az (wpAny_entryPlaceOf λpl EI=>?_);unfold adk newFields;refine az (Xt ?_ (EI.sizeOk5 _ _ _ _ _));generalize ei:({cls:=.type "traceback",dict:=none,data:=.fields ([head,.ref L,.none,rawInt L,.none]++(if pl.isEmpty then aaV 6 Tg else pl)).toArray}:Obj)=ob;have QU:ob.data= .fields ([head,.ref L,.none,rawInt L,.none]++(if pl.isEmpty then aaV 6 Tg else pl)).toArray:=by exact fP ei rfl
 have eG:ob.isFreed=false:=ZM QU;have mi:z.get? e=some oe:=(U.2.1 e SD).trans he;have M6:W.base.StaysIn z:=λb o I=>(U.2.1 b λY=>by rw[(V.mem Y).1]at I;exact aZ I).trans (sT b o I);have Hg:=ml (h:=z) ob mi;have Vx:z.objs.size≠e:=Nat.ne_of_gt (ye mi);have Hh:=X2 hd (·.setIfInBounds 1 (V9 z.objs.size));have M7:=JP (OE (·.setIfInBounds 1 (V9 z.objs.size))) Hg (ZM Hh);have M8:((z.push ob).update e (OE (·.setIfInBounds 1 (V9 z.objs.size)))).get? z.objs.size=some ob:=
  (Vp _ _ (aaS Vx)).trans (w' z eG)
 have keep:∀b o,b≠e->z.get? b=some o->((z.push ob).update e (OE (·.setIfInBounds 1 (V9 z.objs.size)))).get? b=some o:=λb o M9 hb=>by
  refine ag (Vp _ _ (aaS M9)) ?_;exact ml _ hb
 refine ZX Hg hd aJ (h _ (λb o I=>keep b o (λq=>by rw[q,L_]at I;exact aZ I) (M6 b o I)) (λb o M9 hb=>?_) (λb o vs M9 hb hd=>keep b o M9 ((U.2.1 b λY=>by
  refine L9 (V.mem Y) λZ o' et pL=>?_;rw[hb]at et;injection et with et;subst et;exact pL vs hd).trans hb)) ?_ ?_)
 ·refine au (U.2.2 b o hb) λsl hs=>?_;exact⟨sl,keep b _ M9 hs⟩
 ·refine V.of_keeps λb o hb pL=>?_;refine au (U.2.2 b o hb) λsl hs=>?_;exact⟨_,keep b _ (λq=>by rw[q,he]at hb;injection hb with hb;clear hs;subst hb;exact pL vs hd) hs,rfl⟩
 ·refine⟨_,_,z.objs.size,ob,_,M7,acp _ _,Hh,⟨by simp,by simp⟩,by simp[aJ],by refine ag U.1 ?_;exact t_ _,Vx,M8,QU,?_,?_⟩
  ·first|(simp;done)|((refine WV EI ?_ ?_;rotate_left;clear EI;clear ei QU;rintro _ _ _ _ _ _ _ rfl;rotate_right;clear EI;clear ei QU;rintro rfl)<;>simp)
  ·first|(simp;done)|(rcases EI with rfl|⟨_,_,_,_,_,_,_,rfl⟩<;>simp)
theorem lP{b:fF}(hb:h.get? b=some o)(I:iS o)(z:h.get? T=some oT)(hd:oT.data= .fields ts)(hz:ts.size<=18):b≠T:=λe=>by
 subst e;rw[hb]at z;revert z;refine bc λe=>?_;subst e;refine ax I λvs h1 h2=>?_;rw[hd]at h1;refine dK ?_ h1;clear h1;intro h1;cases h1;exact absurd h2 (aca.mpr hz)
theorem iT(gF:A.frames=some (fe::outer))(EG:fe.frame=some L)(Y:env.frame=some L)(sT:W.base.StaysIn s.heap)(hb:∀b,n<=b->W.base.get? b=none)(x:qm W (fe::outer) L n e cls s.heap)(hQ:∀h',W.base.StaysIn h'->j0 W (fe::outer) L n e cls h'->Below n s.heap h'->Q () {s with heap:=h'}):wpAny M A (noteFrame (.ref e) env) Q E s:=by
 obtain⟨f1,V,oe,vs,he,hc,hd,Z,h|⟨T,oT,ts,fl,h1,h2,h3,h4,h5,q',h6,h7⟩⟩:=x
 ·unfold noteFrame;simp only[Y];refine az (T9 he hd h ?_);refine cM (by decide) (kx gF f1 EG Y he hd (P9.mp h).1 sT (hb e V) λh' k1 k2 kf k3 g=>hQ h' k1 ?_ ⟨λb o I U=>k2 b o (I.elim (λI=>HA (bk I V)) λhB=>lP U hB he hd Z.1) U,λb o us I U uU=>kf b o us (HA (bk I V)) U uU⟩);exact Ey g λAg pK T oT ts g1 g2 g3 gz g4 g5 g6 y3=>jJ y3 λg7 g8 SE g9=>⟨k3,V,Ag,pK,g1,g2.trans hc,g3,Z.of gz,T,oT,ts,g4,bU (bU V (Kt (ye he))) g5,g6,g7,g8,SE,g9⟩
 refine g' h7 ?_ ?_;rotate_left;clear h7;rintro rfl;rotate_right;clear h7;rintro rfl
 ·unfold noteFrame;simp only[Y];refine az (T9 he hd h1 ?_);refine cC (show(V9 T !=Tg)=true from by simp) (az (T9 h4 h5 h6 ?_));refine cM (show¬((Tg==rawInt L)=true)from by simp[rawInt]) (az (ZX h4 h5 (P9.mp h6).1 ?_));have z:∀b,b≠T->(s.heap.update T (OE (·.setIfInBounds 3 Tg))).get? b=s.heap.get? b:=λb hb=>Vp _ _ (aaS hb);have fR:∀b o,s.heap.get? b=some o->(∀vs,o.data≠.fields vs)->b≠T:=λb o hb pL q=>by
   rw[q,h4]at hb;injection hb with hb;subst hb;exact pL ts h5
  refine kx gF (f1.of_keeps λb o hb pL=>⟨o,(z b (fR b o hb pL)).trans hb,rfl⟩) EG Y ((z e (aaS h3)).trans he) hd (P9.mp h1).1
   (λb o U=>(z b λq=>by rw[q,hb T h2]at U;exact aZ U).trans (sT b o U)) (hb e V) λh' k1 k2 kf k3 g=>hQ h' k1 ?_ ⟨λb o I U=>k2 b o (I.elim (λI=>HA (bk I V)) λhB=>lP U hB he hd Z.1) ((z b (I.elim (λI=>HA (bk I h2)) λhB=>lP U hB h4 h5 q')).trans U),λb o us I U uU=>kf b o us (HA (bk I V)) ((z b (HA (bk I h2))).trans U) uU⟩
  refine Ey g λAg pK T' W2 W4 g1 g2 g3 gz g4 g5 g6 y4=>jJ y4 λg7 g8 SE g9=>⟨k3,V,Ag,pK,g1,g2.trans hc,g3,Z.of gz,T',W2,W4,g4,?_,g6,g7,g8,SE,g9⟩;rw[aaL]at g5;exact bU (bU V (Kt (ye he))) g5
 ·unfold noteFrame;simp only[Y];refine az (T9 he hd h1 ?_);refine cC (show(V9 T !=Tg)=true from by simp) (az (T9 h4 h5 h6 ?_));exact cC (show(rawInt L==rawInt L)=true from by simp) (en (hQ _ sT ⟨f1,V,oe,vs,he,hc,hd,Z,T,oT,ts,h1,h2,h3,h4,h5,q',h6⟩ (.refl _ _)))
theorem iD{vs:Array cz}(f1:s.heap.FunFrames W.base l)(f2:n<=e)(Y:s.heap.get? e=some oe)(hc:oe.cls=cls)(hd:oe.data= .fields vs)(pH:nI cls vs)(h1:vs[1]? =some (.ref T))(h2:n<=T)(h3:T≠e)(h4:s.heap.get? T=some oT)(h5:oT.data= .fields ts)(q':ts.size<=18)(h6:ts[3]? =some fl)(sT:W.base.StaysIn s.heap)(hb:∀b,n<=b->W.base.get? b=none)(hQ:∀h',W.base.StaysIn h'->nh W l n e cls h'->Below n s.heap h'->Q () {s with heap:=h'}):wpAny M A (setFlight (.ref e) none) Q E s:=by
 have nK:3<ts.size:=(P9.mp h6).1;have z:∀b,b≠T->(s.heap.update T (OE (·.setIfInBounds 3 ((none:Option fF).elim Tg λf=>rawInt f)))).get? b=s.heap.get? b:=
  λb hb=>Vp _ _ (aaS hb)
 have fR:∀b o,s.heap.get? b=some o->(∀vs,o.data≠.fields vs)->b≠T:=λb o hb V q=>by
  rw[q,h4]at hb;injection hb with hb;subst hb;exact V ts h5
 refine az (T9 Y hd h1 ?_);refine cC (show(V9 T !=Tg)=true from by simp) (ZX h4 h5 nK (hQ _ (λb o I=>(z b λq=>by rw[q,hb T h2]at I;exact aZ I).trans (sT b o I)) ?_ ⟨λb o U I=>⟨o.slots,(z b (U.elim (λU=>HA (bk U h2)) λhB=>lP I hB h4 h5 q')).trans I⟩,λb o us U I Z=>(z b (HA (bk U h2))).trans I⟩));exact⟨f1.of_keeps λb o hb V=>⟨o,(z b (fR b o hb V)).trans hb,rfl⟩,f2,oe,vs,(z e (aaS h3)).trans Y,hc,hd,pH,T,_,_,h1,h2,h3,
  JP _ h4 (ZM (X2 h5 _)),X2 h5 _,by simp;exact q',by simp[nK]⟩
theorem nL(z:W.base.StaysIn s.heap)(hb:∀b,n<=b->W.base.get? b=none)(x:j0 W l L n e cls s.heap)(I:∀h',W.base.StaysIn h'->nh W l n e cls h'->Below n s.heap h'->Q () {s with heap:=h'}):wpAny M A (setFlight (.ref e) none) Q E s:=by
 obtain⟨U,V,oe,vs,he,Y,hd,Z,T,oT,ts,h1,h2,h3,h4,h5,q',h6⟩:=x;exact iD U V he Y hd Z h1 h2 h3 h4 h5 q' h6 z hb I
theorem lQ(z:W.base.StaysIn s.heap)(hb:∀b,n<=b->W.base.get? b=none)(x:nh W l n e cls s.heap)(I:∀h',W.base.StaysIn h'->nh W l n e cls h'->Below n s.heap h'->Q () {s with heap:=h'}):wpAny M A (setFlight (.ref e) none) Q E s:=by
 obtain⟨U,V,oe,vs,he,Y,hd,Z,T,oT,ts,h1,h2,h3,h4,h5,q',h6⟩:=x;exact iD U V he Y hd Z h1 h2 h3 h4 h5 q' h6 z hb I
theorem sU(sT:W.base.StaysIn s.heap)(hb:∀b,n<=b->W.base.get? b=none)(x:j0 W l L n e cls s.heap)(hQ:∀h',W.base.StaysIn h'->j0 W l L n e cls h'->Below n s.heap h'->Q () {s with heap:=h'}):wpAny M A (setFlight (.ref e) (some L)) Q E s:=by
 obtain⟨f1,f2,oe,vs,he,hc,hd,pH,T,oT,ts,g1,Y,g3,g4,U,q',g6⟩:=x;have z:∀b,b≠T->(s.heap.update T (OE (·.setIfInBounds 3 ((some L).elim Tg λf=>rawInt f)))).get? b=s.heap.get? b:=λb hb=>Vp _ _ (aaS hb);have fR:∀b o,s.heap.get? b=some o->(∀vs,o.data≠.fields vs)->b≠T:=λb o hb pL q=>by
  rw[q,g4]at hb;injection hb with hb;subst hb;exact pL ts U
 have nK:3<ts.size:=(P9.mp g6).1;refine az (T9 he hd g1 ?_);refine cC (show(V9 T !=Tg)=true from by simp) (ZX g4 U nK (hQ _ (λb o I=>(z b λq=>by rw[q,hb T Y]at I;exact aZ I).trans (sT b o I)) ?_ ⟨λb o V I=>⟨o.slots,(z b (V.elim (λV=>HA (bk V Y)) λhB=>lP I hB g4 U q')).trans I⟩,λb o us V I Z=>(z b (HA (bk V Y))).trans I⟩));exact⟨f1.of_keeps λb o hb pL=>⟨o,(z b (fR b o hb pL)).trans hb,rfl⟩,f2,oe,vs,(z e (aaS g3)).trans he,hc,hd,pH,T,_,_,g1,Y,g3,
  JP _ g4 (ZM (X2 U _)),X2 U _,by simp;exact q',by simp[nK]⟩
theorem mj{l:List Env}{Q:α->ea->Prop}{z:String}(I:env.frame=some L)(U:W.base.StaysIn s.heap)(hb:∀b,n<=b->W.base.get? b=none)(x:j0 W l L n e cls s.heap)(V:∀h',W.base.StaysIn h'->j0 W l L n e cls h'->Below n s.heap h'->E (.ref e) {s with heap:=h'}):wpAny M A (acP z (.ref e) env:Sem α) Q E s:=by
 obtain⟨Z,f2,oe,vs,he,hc,hd,pH,T,oT,ts,Y,g2⟩:=id x;refine az (T9 he hd Y ?_);refine ag (if_neg (by simp)) (ag I ?_);exact az (sU U hb x λh' k1 k2 k3=>ac8 (V h' k1 k2 k3))
theorem nh.le:nh W l n e cls h->n<=e| .mk _ h .. =>h
theorem nh.tail(x:nh W (env::l) n e cls h):nh W l n e cls h:=by
 obtain⟨⟨_,_,z⟩,I,oe,vs,h3,h4,h5,h6,T,oT,ts,h7,h8,h9⟩:=x;exact⟨z,I,oe,vs,h3,h4,h5,h6,T,oT,ts,h7,h8,h9⟩
theorem uV(V:A.frames=some (env::outer))(U:env.frame=some L)(Y:W.base.StaysIn s.heap)(hb:∀b,n<=b->W.base.get? b=none)(x:qm W (env::outer) L n e cls s.heap)(Z:∀h',W.base.StaysIn h'->nh W outer n e cls h'->Below n s.heap h'->Q () {s with heap:=h'}):wpAny M A (leaving env (.ref e)) Q E s:=by
 refine az (iT V U U Y hb x λaF z hh Ah=>nL z hb hh λc7 I M_ Ai=>Z c7 I M_.tail (Ah.trans Ai))
end
section
set_option backward.match.sparseCases true
def iU(z:Ctx):Prop:=(z.code::z.below.map (·.1)).any Code.isCaller=true
def cS(z:Ctx):Prop:=(z.below.map (·.1)).any Code.isCaller=true
def bH{α:Type}(M:SW)(A:XQ)(t:Sem α)(Q:α->ea->Prop)(E:cz->ea->Prop)(s:ea):Prop:=
 ∀Γ p,Γ.In A->iU Γ->Sem.wp M Γ t (λa Z s'=>Q a s') (λe Z s'=>E e s') p s
def ey(M:SW)(A:XQ)(c:Code)(R:aaR->ea->Prop)(s:ea):Prop:=
 ∀Γ p,Γ.code=c->Γ.Below A->cS Γ->wpCode M Γ R p s
theorem iU.enter{z:Ctx}(h:iU z)(c:Code)(hd:Option cz)(p:Pos):cS (z.enter c hd p):=h
theorem cS.in{z:Ctx}(h:cS z):iU z:=by
 unfold iU cS at*;rw[List.any_cons,h,Bool.or_true]
theorem cS.goto{z:Ctx}(h:cS z)(c:Code):cS (z.goto c):=h
section
variable {M:SW}
theorem bH.of(h:wpAny M A t Q E s):bH M A t Q E s:=λz p I Z=>h z p I
theorem aV(h:bH M A t Q E s)(I:∀a s,Q a s->Q' a s)(U:∀e s,E e s->E' e s):bH M A t Q' E' s:=
 λz p V Y=>aaJ M z t (λa Z s=>I a s) (λe Z s=>U e s) p s (h z p V Y)
theorem bf(h:Q a s):bH M A (pure a) Q E s:=λZ Z Z Z=>h
theorem aq(h:bH M A m (λa s'=>bH M A (f a) Q E s') E s):bH M A (m>>=f) Q E s:=λz p I U=>by
 rw[Sem.wp_bind'];exact aaJ M z m (λa V s' h'=>h' z V I U) (λZ Z Z h'=>h') p s (h z p I U)
theorem sV{k:cz->Sem Unit}(h:bH M A m Q (λe s'=>bH M A (k e) (λZ cR=>E e cR) E s') s):bH M A (m.onRaise k) Q E s:=λz p I U=>by
 rw[Sem.wp_onRaise];exact aaJ M z m (λZ Z Z h'=>h') (λe V s' h'=>h' z V I U) p s (h z p I U)
theorem iV{m:Sem α}{Q:Except cz α->ea->Prop}(h:bH M A m (λa=>Q (.ok a)) (λe=>Q (.error e)) s):bH M A m.attempt Q E s:=λz p I U=>by
 rw[Sem.wp_attempt];exact h z p I U
theorem c8(h:bH M A m Q E s):bH M A (holding vs m) Q E s:=λz p I U=>by rw[Sem.wp_holding];exact h z p I U
theorem br(h:Q () s):bH M A (standAt pos) Q E s:=.of (IW h)
theorem hU(h:ey M A c R s)(z:∀r s,R r s->R' r s):ey M A c R' s:=
 λI p U V Y=>wpCode_mono z (h I p U V Y)
theorem rb(z:ey M A c (λr s'=>match r with| .ok (.ret v)=>Q v s'| .ok _=>False| .error e=>E e s') s):bH M A (runValue c) Q E s:=
 λV p I U=>by rw[Sem.wp_runValue];exact z _ p rfl (I.enter c none p (by intro x;exact aZ x)) (U.enter ..)
theorem gR{pos:List cz}(z:ey M A (.call f ⟨pos,kw⟩) (λr s'=>match r with| .ok (.ret v)=>Q v s'| .ok _=>False| .error e=>E e s') s):
  bH M A (call f pos kw) Q E s:=rb z
theorem cH(h:bH M (A.under c) (M.den c) (λfin s'=>match fin with| .done f=>R (.ok f) s'| .again z=>z.quiet=true/\ey M A z R s') (λe s'=>R (.error e) s') s):ey M A c R s:=λI p U V Y=>by
 rw[wpCode_iff_wp,U];refine aaJ M I _ (λfin p' s' h'=>?_) (λZ Z Z h'=>h') p s (h I p (U▸V.in) Y.in);cases fin with
 |done f=>exact h'
 |again z=>exact⟨h'.1,h'.2 (I.goto z) p' rfl (V.goto z) (Y.goto z)⟩
theorem Aj{own:List String}{e:cz}(h:Q () s):bH M A (markTheRefusal own e) Q E s:=λz p U I=>by
 unfold markTheRefusal;rw[Sem.wp_bind'];show Sem.wp M z (if pythonCodeMadeTheCall own (((z.code,p)::z.below).map (·.1))=true then _ else pure ()) _ _ p s;have:pythonCodeMadeTheCall own (((z.code,p)::z.below).map (·.1))=false:=by
  unfold pythonCodeMadeTheCall;rw[abF,abF,Bool.not_eq_false'];exact .inl (.inl I)
 rw[this];exact h
end
end
noncomputable def bindR{α β:Type}(x:Rs α)(f:α->Rs β):Rs β:=
 match x with
 |none=>none
 |some (.error c)=>some (.error c)
 |some (.ok a)=>f a
@[simp] theorem e9(a:α)(f:α->Rs β):bindR (some (.ok a)) f=f a:=rfl
@[simp] theorem gS(c:cz)(f:α->Rs β):bindR (some (.error c)) f=some (.error c):=rfl
@[simp] theorem Je(f:α->Rs β):bindR none f=none:=rfl
theorem bJ{x:Rs α}{f:α->Rs β}{r:Except cz β}(h:bindR x f=some r):(∃c,x=some (.error c)/\r= .error c)\/∃a,x=some (.ok a)/\f a=some r:=by
 rcases x with _|(c|a)
 ·exfalso;cases h
 ·simp only[gS,e4]at h;exact .inl ⟨c,rfl,h.symm⟩
 ·exact .inr ⟨a,rfl,h⟩
theorem iW(x:Rs α)(f:α->Rs β)(g:β->Rs γ):bindR (bindR x f) g=bindR x λa=>bindR (f a) g:=by
 rcases x with _|(c|a)<;>rfl
noncomputable def aA{α:Type}(a:α):Rs α:=some (.ok a)
theorem qo(x:Rs α):bindR x aA=x:=by
 rcases x with _|(c|a)<;>rfl
def VH(W:Wd)(h:ZN)(F:fF->Prop)(x:AV)(v:cz):Prop:=
 VR h F x v\/∃xs a vs,x= .lst xs/\v= .ref a/\¬W.loose a/\LstAt h a vs/\bL h F xs vs
theorem VR.vh{F:fF->Prop}{x:AV}{v:cz}(r:VR h F x v):VH W h F x v:=.inl r
section
variable {W:Wd} {S:cj} {fn:ek} {q:Bool} {F F' M:fF->Prop} {cur:Str->Option cz} {J:St} {s s':ea}
theorem Rel.vr(z:S.Ok W fn q)(R:Rel W S fn F M cur J s)(T:Step W s s')(G:bP s s' F F'){x:AV}{v:cz}(h:VR s.heap F x v):VR s'.heap F' x v:=h.mono (R.kq z T) G.1
theorem Rel.Ma(z:S.Ok W fn q)(R:Rel W S fn F M cur J s)(T:Step W s s')(G:bP s s' F F'){x:List AV}{v:List cz}(h:bL s.heap F x v):bL s'.heap F' x v:=h.mono (R.kq z T) G.1
theorem Rel.vh(z:S.Ok W fn q)(R:Rel W S fn F M cur J s)(T:Step W s s')(G:bP s s' F F'){x:AV}{v:cz}(r:VH W s.heap F x v):VH W s'.heap F' x v:=by
 refine MU r (λr=>?_) λxs a vs U V I Y Z=>?_
 ·exact .inl (R.vr z T G r)
 ·exact .inr ⟨xs,a,vs,U,V,I,Y.step T I,R.Ma z T G Z⟩
end
theorem VH.lst{F:fF->Prop}{v:cz}(r:VH W h F (.lst xs) v):∃a vs,v= .ref a/\LstAt h a vs/\bL h F xs vs:=by
 refine MU r (λr=>?_) λys a vs V z Z I U=>?_
 ·exact bF r λa vs z Z I U=>⟨a,vs,z,I,U⟩
 ·cases V;exact⟨a,vs,z,I,U⟩
theorem VH.vr{F:fF->Prop}{x:AV}{v:cz}(r:VH W h F x v)(z:∀xs,x≠.lst xs):VR h F x v:=by
 refine Sm r (λr=>?_) λxs Z Z e Z=>?_
 ·exact r
 ·exact absurd e (z xs)
inductive PG{α β:Type}(Rl:ZN->(fF->Prop)->α->β->Prop)(W:Wd)(F:fF->Prop)(s:ea)(r:Except cz α)(v:β)(s':ea):Prop|mk (a:α) (F':fF->Prop):r= .ok a->Step W s s'->bP s s' F F'->Rl s'.heap F' a v->PG Rl W F s r v s'
theorem PG.el{Rl:ZN->(fF->Prop)->α->β->Prop}{F:fF->Prop}{r:Except cz α}{v:β}(z:PG Rl W F s r v s')(I:∀(a:α)(F':fF->Prop),r= .ok a->Step W s s'->bP s s' F F'->Rl s'.heap F' a v->G):G:=PG.rec (motive:=λZ=>G) I z
abbrev PE(W:Wd)(F:fF->Prop)(s:ea)(r:Except cz AV)(v:cz)(s':ea):Prop:=PG VR W F s r v s'
abbrev PV(W:Wd)(F:fF->Prop)(s:ea)(r:Except cz AV)(v:cz)(s':ea):Prop:=PG (VH W) W F s r v s'
inductive PN(W:Wd)(F:fF->Prop)(s:ea)(r:Except cz (List AV))(v:cz)(s':ea):Prop|mk (xs:List AV) (F':fF->Prop) (a:fF) (vs:List cz):r= .ok xs->Step W s s'->bP s s' F F'->v= .ref a->s.heap.objs.size<=a->¬F' a->LstAt s'.heap a vs->bL s'.heap F' xs vs->PN W F s r v s'
theorem PN.el{F:fF->Prop}{r:Except cz (List AV)}{v:cz}(z:PN W F s r v s')(I:∀(xs:List AV)(F':fF->Prop)(a:fF)(vs:List cz),r= .ok xs->Step W s s'->bP s s' F F'->v= .ref a->s.heap.objs.size<=a->¬F' a->LstAt s'.heap a vs->bL s'.heap F' xs vs->G):G:=PN.rec (motive:=λZ=>G) I z
def PT(W:Wd)(s:ea)(r:Except cz Bool)(b:Bool)(s':ea):Prop:=r= .ok b/\Step W s s'
abbrev PL(W:Wd)(F:fF->Prop)(s:ea)(r:Except cz (List AV))(vs:List cz)(s':ea):Prop:=PG bL W F s r vs s'
inductive PX(W:Wd)(S:cj)(s:ea){α:Type}(r:Except cz α)(x:cz)(s':ea):Prop|mk (cls:cz) (e:fF):r= .error cls->x= .ref e->Step W s s'->qm W (S.fe::S.outer) S.L (aJ s) e cls s'.heap->PX W S s r x s'
theorem PX.el{r:Except cz α}{x:cz}(z:PX W S s r x s')(I:∀(cls:cz)(e:fF),r= .error cls->x= .ref e->Step W s s'->qm W (S.fe::S.outer) S.L (aJ s) e cls s'.heap->G):G:=PX.rec (motive:=λZ=>G) I z
theorem yt{z:cz}:∀c,(Except.error z:Except cz α)= .error c->(Except.error z:Except cz β)= .error c:=λZ h=>by cases h;rfl
theorem rd{a:α}{X:cz->Prop}:∀c,(Except.ok a:Except cz α)= .error c->X c:=λZ h=>nomatch h
theorem sW{c:cz}{a:α}(h:(Except.error c:Except cz α)= .ok a):G:=nomatch h
theorem PG.no{Rl:ZN->(fF->Prop)->α->β->Prop}{F:fF->Prop}{c:cz}{v:β}:PG Rl W F s (.error c) v s'->G:=λ⟨_,_,h,_,_,_⟩=>sW h
theorem PN.no{F:fF->Prop}{c v:cz}:PN W F s (.error c) v s'->G:=λ⟨_,_,_,_,h,_,_,_,_,_,_,_⟩=>sW h
theorem PT.no{c:cz}{v:Bool}(h:PT W s (.error c) v s'):G:=sW h.1
theorem PX.no{a:α}{v:cz}:PX W S s (.ok a:Except cz α) v s'->G:=λ⟨_,_,h,_,_,_⟩=>nomatch h
section
variable (W:Wd) (q:Bool) (fn:ek)
structure aL(e:u_)(f:St->Rs AV):Prop where
 run:∀S F M cur J r s,S.Ok W fn q->Rel W S fn F M cur J s->f J=some r->
 wpAny (model W.prog W.w) S.A (eval e S.env) (PE W F s r) (PX W S s r) s
structure cw(e:u_)(f:St->Rs AV):Prop where
 run:∀S F M cur J r s,S.Ok W fn q->Rel W S fn F M cur J s->f J=some r->
 wpAny (model W.prog W.w) S.A (eval e S.env) (PV W F s r) (PX W S s r) s
structure jK(e:u_)(f:St->Rs (List AV)):Prop where
 run:∀S F M cur J r s,S.Ok W fn q->Rel W S fn F M cur J s->f J=some r->
 wpAny (model W.prog W.w) S.A (eval e S.env) (PN W F s r) (PX W S s r) s
structure gL(e:u_)(f:St->Rs Bool):Prop where
 run:∀S F M cur J r s,S.Ok W fn q->Rel W S fn F M cur J s->f J=some r->
 wpAny (model W.prog W.w) S.A (isTrue e S.env (eval e S.env)) (PT W s r) (PX W S s r) s
structure fG(es:List u_)(f:St->Rs (List AV)):Prop where
 run:∀S F M cur J r s pos,S.Ok W fn q->Rel W S fn F M cur J s->f J=some r->
 wpAny (model W.prog W.w) S.A (spliced (backTo pos (starEach es S.env))) (PL W F s r) (PX W S s r) s
structure jQ(t:cz->cz->Sem cz)(g:AV->AV->Rs AV):Prop where
 run:∀S F M cur J r s a b v w,S.Ok W fn q->Rel W S fn F M cur J s->VH W s.heap F a v->VH W s.heap F b w->g a b=some r->
 wpAny (model W.prog W.w) S.A (t v w) (PE W F s r) (PX W S s r) s
structure W5(g:AV->Option Bool):Prop where
 run:∀S F M cur J b s a v,S.Ok W fn q->Rel W S fn F M cur J s->VH W s.heap F a v->g a=some b->
 wpAny (model W.prog W.w) S.A (truthy v) (λb' s'=>b'=b/\Step W s s') (λZ Z=>False) s
end
theorem PX.lift{r:Except cz α}{x:cz}(T:Step W s af)(h:PX W S af r x s'):PX W S s r x s':=by
 exact h.el λcls e h1 h2 h3 h4=>⟨cls,e,h1,h2,T.trans h3,h4.less T.size⟩
theorem PX.to{r:Except cz α}{z:Except cz β}{x:cz}(h:PX W S s r x s')(I:∀c,r= .error c->z= .error c):PX W S s z x s':=by
 exact h.el λcls e h1 h2 h3 h4=>⟨cls,e,I cls h1,h2,h3,h4⟩
theorem gM{F:fF->Prop}{Rl:ZN->(fF->Prop)->α->β->Prop}{t:Sem β}{x:Rs α}{g:α->Rs γ}{r:Except cz γ}{Q:β->ea->Prop}{N:SW}(z:bindR x g=some r)(h:∀r1,x=some r1->wpAny N A t (PG Rl W F s r1) (PX W S s r1) s)(k:∀a,g a=some r->∀v F' s',Step W s s'->bP s s' F F'->Rl s'.heap F' a v->Q v s'):wpAny N A t Q (PX W S s r) s:=by
 rcases x with _|(c|a)
 ·cases z
 ·clear k;cases z;exact fm (h _ rfl) (λZ Z h=>h.no) λZ Z x=>x.to yt
 ·exact fm (h _ rfl) (λv s' ⟨_,F',e,T,G,I⟩=>by cases e;exact k a z v F' s' T G I) λZ Z x=>x.to rd
theorem Mb{t:Sem Bool}{x:Rs Bool}{g:Bool->Rs γ}{r:Except cz γ}{Q:Bool->ea->Prop}{N:SW}(z:bindR x g=some r)(h:∀r1,x=some r1->wpAny N A t (PT W s r1) (PX W S s r1) s)(k:∀a,g a=some r->∀s',Step W s s'->Q a s'):wpAny N A t Q (PX W S s r) s:=by
 rcases x with _|(c|a)
 ·cases z
 ·clear k;cases z;exact fm (h _ rfl) (λZ Z h=>h.no) λZ Z x=>x.to yt
 ·exact fm (h _ rfl) (λv s' ⟨e,T⟩=>by cases e;exact k a z s' T) λZ Z x=>x.to rd
theorem w8{F:fF->Prop}{Rl:ZN->(fF->Prop)->α->β->Prop}{t:Sem β}{a:α}{Q:β->ea->Prop}{N:SW}(h:wpAny N A t (PG Rl W F s (.ok a)) (PX W S s (.ok a)) s)(k:∀v F' s',Step W s s'->bP s s' F F'->Rl s'.heap F' a v->Q v s'):wpAny N A t Q E s:=
 fm h (λv s' x=>by cases x with|mk a F' e T G z=>cases e;exact k v F' s' T G z) λZ Z x=>x.no
theorem Mc{t:Sem Bool}{Q:Bool->ea->Prop}{N:SW}(h:wpAny N A t (PT W s (.ok b)) (PX W S s (.ok b)) s)(k:∀s',Step W s s'->Q b s'):wpAny N A t Q E s:=
 fm h (λv s' x=>by obtain⟨e,T⟩:=x;cases e;exact k s' T) λZ Z x=>x.no
theorem PE.lift{F aB:fF->Prop}{r:Except cz AV}{v:cz}(T:Step W s af)(G:bP s af F aB)(h:PE W aB af r v s'):PE W F s r v s':=by
 exact h.el λz F' h1 h2 h3 h4=>⟨z,F',h1,T.trans h2,G.trans T.size h2.size h3,h4⟩
theorem PN.lift{F aB:fF->Prop}{r:Except cz (List AV)}{v:cz}(T:Step W s af)(G:bP s af F aB)(h:PN W aB af r v s'):PN W F s r v s':=by
 exact h.el λz F' a vs h1 h2 h3 h4 h5 h6 h7 h8=>⟨z,F',a,vs,h1,T.trans h2,G.trans T.size h2.size h3,h4,bU T.size h5,h6,h7,h8⟩
theorem PT.lift{r:Except cz Bool}{v:Bool}(T:Step W s af)(h:PT W af r v s'):PT W s r v s':=⟨h.1,T.trans h.2⟩
theorem aL.v{e:u_}{f:St->Rs AV}(h:aL W q fn e f):cw W q fn e f:=.mk λS F M cur J r s z R I=>
 fm (h.run S F M cur J r s z R I) (λv s' ⟨U,F',h1,h2,h3,h4⟩=>⟨U,F',h1,h2,h3,h4.vh⟩) λZ Z x=>x
def uW(x:Rs (List AV)):Rs AV:=bindR x λxs=>aA (.lst xs)
theorem jK.e{e:u_}{f:St->Rs (List AV)}(h:jK W q fn e f):aL W q fn e (λJ=>uW (f J)):=.mk λS F M cur J r s U R z=>by
 refine pG (bJ z) ?_ ?_;rotate_left;intro xs h1 h2;rotate_right;clear z;rintro c h1 rfl
 ·refine fm (h.run S F M cur J _ s U R h1) (λv s' ⟨_,_,_,_,h,_,_,_,_,_,_,_⟩=>by exfalso;cases h) λx s' I=>I.to yt
 ·clear z;cases h2;refine fm (h.run S F M cur J _ s U R h1) (λv s' ⟨Y,F',a,vs,h1,h2,h3,h4,h5,h6,h7,h8⟩=>?_) λx s' I=>I.to rd;clear h6;cases h1;refine⟨.lst xs,λb=>F' b\/b=a,rfl,h2,⟨λb hb=>.inl (h3.1 b hb),λb hb=>?_⟩,?_⟩
  ·refine g' hb ?_ ?_;rotate_left;clear hb;clear h4;rintro rfl;rotate_right;clear hb;intro hb
   ·exact h3.2 b hb
   ·exact .inr ⟨h5,h7.lt⟩
  ·exact⟨a,vs,h4,.inr rfl,h7,h8.mono (λa Z o V=>⟨o.slots,V⟩) λb hb=>.inl hb⟩
theorem after{F:fF->Prop}{t:Sem cz}{z:Except cz AV}{r:Except cz β}{Q:cz->ea->Prop}(h:wpAny (model W.prog W.w) A t (PV W F s z) (PX W S s z) s)(I:∀c,z= .error c->r= .error c)(k:∀a v F' s',z= .ok a->Step W s s'->bP s s' F F'->VH W s'.heap F' a v->Q v s'):wpAny (model W.prog W.w) A t Q (PX W S s r) s:=
 fm h (λv s' ⟨a,F',h1,h2,h3,h4⟩=>k a v F' s' h1 h2 h3 h4) λZ Z x=>x.to I
theorem iX{F:fF->Prop}{t:Sem cz}{z:Except cz AV}{r:Except cz β}{Q:cz->ea->Prop}(h:wpAny (model W.prog W.w) A t (PE W F s z) (PX W S s z) s)(I:∀c,z= .error c->r= .error c)(k:∀a v F' s',z= .ok a->Step W s s'->bP s s' F F'->VR s'.heap F' a v->Q v s'):wpAny (model W.prog W.w) A t Q (PX W S s r) s:=
 fm h (λv s' ⟨a,F',h1,h2,h3,h4⟩=>k a v F' s' h1 h2 h3 h4) λZ Z x=>x.to I
theorem PX.raise{M:SW}{t:Sem α}{Q:α->ea->Prop}{r:Except cz β}(T:Step W s af)(h:wpAny M A t Q (PX W S af r) af):wpAny M A t Q (PX W S s r) af:=fm h (λZ Z x=>x) λZ Z x=>x.lift T
theorem PE.done{F:fF->Prop}{z:AV}{v:cz}(T:Step W s s')(h:VR s'.heap F z v):PE W F s (.ok z) v s':=⟨z,F,rfl,T,.refl _ _ _,h⟩
theorem ao(i k pos):aL W q fn (.Constant (.int i) k pos) (λZ=>aA (.int i)):=.mk λS F M cur J r s I R z=>by
 cases z;exact wpAny_Constant_int (PE.done (.toks R.stays) (⟨_,rfl⟩))
theorem aG(k pos):aL W q fn (.Constant .none k pos) (λZ=>aA .none):=.mk λS F M cur J r s I R z=>by
 cases z;exact wpAny_Constant_none (PE.done (.refl R.stays) (rfl))
theorem s_bool(b k pos):aL W q fn (.Constant (.bool b) k pos) (λZ=>aA (.bool b)):=.mk λS F M cur J r s I R z=>by
 cases z;exact wpAny_Constant_bool (PE.done (.refl R.stays) (rfl))
theorem c4(x:Str)(k pos):aL W q fn (.Constant (.str x) k pos) (λZ=>aA (.str x)):=.mk λS F M cur J r s I R z=>by
 cases z;exact wpAny_Constant_str (PE.done (.toks R.stays) (⟨_,rfl⟩))
theorem aH(b:List UInt8)(k pos):aL W q fn (.Constant (.bytes b) k pos) (λZ=>aA (.aa b)):=.mk λS F M cur J r s I R z=>by
 cases z;exact(λU p Z=>(PE.done (.toks R.stays) (⟨_,rfl⟩):PE W F s (.ok (.aa b)) (.bytes b.toArray s.toks) {s with toks:=s.toks+1}))
def jR(i:Nat)(J:St):Rs AV:=match J.getD i .un with| .im a=>aA a|_=>none
def fT(i:Nat)(J:St):Rs AV:=match J.getD i .un with| .im a=>aA a| .own xs=>aA (.lst xs)|_=>none
theorem cD{F:fF->Prop}{x:Str}{v:cz}{Q:cz->ea->Prop}(z:S.Ok W fn q)(R:Rel W S fn F M cur J s)(I:fn.scope.names.lookup x=some .local\/fn.scope.names.lookup x=some .cell)(V:cur x=some v)(h:Q v s):wpAny (model W.prog W.w) A (loadName S.env x) Q E s:=by
 have Y:S.env.scope.kind= .function:=by refine ag z.scope ?_;exact z.kind
 refine g' I (λI=>?_) λI=>?_
 ·have U:S.env.kindOf x=some .local:=by show S.env.scope.names.lookup x=_;exact ag z.scope I
  refine ax R.ns λm hn hm=>?_;rw[<-z.locals]at hn;exact wpAny_loadName_local Y U hn ((hm x U).trans V) h
 ·have U:S.env.kindOf x=some .cell:=by show S.env.scope.names.lookup x=_;exact ag z.scope I
  refine bF (R.cells x U) λc o h1 Z h4 h5=>wpAny_loadName_cell Y U h1 ⟨o,h4,?_⟩ h;exact ag h5 (ag V rfl)
def yv{β:Type}(i:Nat)(k:fF->List Str->List AV->Option β)(J:St):Option β:=match J.getD i .un with
 | .ob C ks xs=>k C ks xs
 |_=>none
theorem yv.el{k:fF->List Str->List AV->Option β}{r:β}(h:yv i k J=some r)(K:∀C ks xs,J.getD i .un= .ob C ks xs->k C ks xs=some r->G):G:=by
 unfold yv at h;revert h K;generalize J.getD i .un=l;intro h K;cases l<;>first|exact K _ _ _ rfl h|exact aZ h
theorem Jf{x:Str}(i:Nat)(pos)(U:fn.names[i]? =some x)(V:fn.scope.names.lookup x=some .local\/fn.scope.names.lookup x=some .cell)(hd:(x==("__debug__":Str))=false):aL W q fn (.Name x pos) (jR i):=.mk λS F M cur J r s Y R z=>by
 have I:=R.slots i x U;unfold jR at z;revert z I;generalize J.getD i .un=l;intro z I;cases l with
 |im a=>
  cases z;exact ax I λv Z hr=>Z6 (cD Y R V Z (PE.done (.refl R.stays) hr)) hd
 |_=>exact aZ z
set_option tactic.hygienic true in
theorem Jg{x:Str}(i:Nat)(pos)(hi:fn.names[i]? =some x)(hk:fn.scope.names.lookup x=some .local\/fn.scope.names.lookup x=some .cell)(hd:(x==("__debug__":Str))=false):cw W q fn (.Name x pos) (fT i):=.mk λS F M cur J r s U R z=>by
 have I:=R.slots i x hi;unfold fT at z;split at z
 ·rename_i a V;cases z;rw[V]at I;exact ax I λv Y Z=>Z6 (cD U R hk Y ⟨a,F,rfl,.refl R.stays,.refl _ _ _,Z.vh⟩) hd
 ·rename_i xs V;cases z;rw[V]at I;exact bF I λa vs Y hm hl Z=>Z6 (cD U R hk Y ⟨.lst xs,F,rfl,.refl R.stays,.refl _ _ _,.inr ⟨xs,a,vs,rfl,rfl,R.bS U hm,hl,Z⟩⟩) hd
 ·exact aZ z
theorem EK{l Y:u_}{op:Operator}{f g:St->Rs AV}{h:AV->AV->Rs AV}(hl:cw W q fn l f)(hr:cw W q fn Y g)(ho:jQ W q fn (binaryOp op) h):aL W q fn (.BinOp l op Y pos) (λJ=>bindR (f J) λa=>bindR (g J) λb=>h a b):=.mk λS F M cur J r s z R hf=>by
 refine wpAny_BinOp (gM hf (hl.run S F M cur J · s z R) λa h2 v aB af T G hv=>?_);have U:=R.move z T G;refine PX.raise T (gM h2 (hr.run S aB M cur J · af z U) λb h4 w aQ s₂ I V hw=>?_);have aM:=U.move z I V;refine PX.raise (T.trans I) (fm (ho.run S aQ M cur J r s₂ a b v w z aM (U.vh z I V hv) hw h4) (λZ Z x=>(x.lift I V).lift T G) λZ Z x=>x)
theorem Jh{l U:u_}{op:CmpOp}{f g:St->Rs AV}{h:AV->AV->Rs AV}(hl:cw W q fn l f)(hr:cw W q fn U g)(ho:jQ W q fn (compareOp op) h)(hm:behindInMarks op U=false):aL W q fn (.Compare l [op] [U] pos) (λJ=>bindR (f J) λa=>bindR (g J) λb=>h a b):=.mk λS F M cur J r s z R hf=>by
 refine wpAny_Compare1 ?_ hm;refine gM hf (hl.run S F M cur J · s z R) λa h2 v aB af T G hv=>?_;have V:=R.move z T G;refine PX.raise T (gM h2 (hr.run S aB M cur J · af z V) λb h4 w aQ s₂ I Y hw=>?_);have aM:=V.move z I Y;refine PX.raise (T.trans I) (fm (ho.run S aQ M cur J r s₂ a b v w z aM (V.vh z I Y hv) hw h4) (λZ Z x=>(x.lift I Y).lift T G) λZ Z x=>x)
noncomputable def c9(n:Nat):Bool:=decide (n<=1099511627776)
def cI:AV->Option Bool
 | .none=>some false
 | .bool b=>some b
 | .int i=>some (i !=0)
 | .aa b=>if c9 b.length then some (!b.isEmpty)else none
 | .str x=>if c9 x.length then some (x.length !=0)else none
 | .lst xs=>if c9 xs.length then some (!xs.isEmpty)else none
 |_=>none
theorem bL.length{F:fF->Prop}:∀{xs:List AV}{vs:List cz},bL h F xs vs->vs.length=xs.length:=by
 intro xs
 induction xs with
 |nil=>
  intro vs r;subst r;rfl
 |cons x xs IH=>
  intro vs r;refine bV r ?_;clear r;rintro v ws rfl _ r;simp[IH r]
theorem w9(n:Nat):((n:Int) !=0)=(n !=0):=by cases n<;>rfl
theorem sX(b:List α):(b.length !=0)= !b.isEmpty:=by cases b<;>rfl
theorem qp(h:c9 n=true):n<=1099511627776:=of_decide_eq_true h
theorem qq(h:c9 n=true):(n:Int)<2^63:=Int.lt_of_le_of_lt (Int.ofNat_le.mpr (qp h)) (by decide)
theorem iE{c:Prop}[Decidable c]{x:Option α}{y:α}(h:(if c then x else none)=some y):c/\x=some y:=by
 by_cases z:c
 ·exact⟨z,(if_pos z).symm.trans h⟩
 ·exact aZ ((if_neg z).symm.trans h)
theorem iZ:W5 W q fn cI:=by
 refine .mk λS F M cur J b s a v hS R I z=>?_;cases a with
 |none=>cases z;obtain rfl:=I.vr (λZ e=>nomatch e);exact λΓ p Z=>⟨rfl,.refl R.stays⟩
 |bool b=>cases z;obtain rfl:=I.vr (λZ e=>nomatch e);exact aat ⟨rfl,.refl R.stays⟩
 |int i=>cases z;refine au (I.vr (λZ e=>nomatch e)) ?_;clear I;rintro t rfl;exact truthy_int ⟨rfl,.refl R.stays⟩
 |aa b=>
  refine aX (iE z) λU z=>?_;revert z;refine bc λe=>?_;clear z;subst e;refine au (I.vr (λZ e=>nomatch e)) ?_;clear I;rintro t rfl;exact PySem.W.truthy_bytes (qp U) ⟨(w9 _).trans (sX b),.toks R.stays⟩
 |str x=>
  refine aX (iE z) λU z=>?_;revert z;refine bc λe=>?_;clear z;subst e;refine au (I.vr (λZ e=>nomatch e)) ?_;rintro t rfl;exact PySem.P.truthy_str (Int.not_le.mpr (qq U)) ⟨w9 _,.toks R.stays⟩
 |lst xs=>
  refine aX (iE z) λU z=>?_;revert z;refine bc λe=>?_;subst e;refine bV I.lst ?_;rintro a vs rfl V Y;have hlen:=Y.length;refine wpAny_truthy_list (items:=vs.toArray) V.list (by refine ag KG (ag hlen ?_);exact qq U) ⟨?_,.toks R.stays⟩;clear U V Y;cases xs<;>cases vs<;>first|rfl|(exfalso;cases hlen)
 |_=>exact aZ z
def i4(x:Rs AV):Rs Bool:=bindR x λa=>(cI a).map .ok
theorem QV{M:SW}{t:Sem Bool}{Q:Bool->ea->Prop}(h:wpAny M A t (λb' s'=>b'=b/\Step W s s') (λZ Z=>False) s)(k:∀s',Step W s s'->Q b s'):wpAny M A t Q E s:=
 fm h (λb' s' x=>by refine ag x.1 ?_;exact k s' x.2) λZ Z x=>x.elim
theorem Ji{F:fF->Prop}{z:AV}{u:cz}{r:Except cz Bool}(hz:cI z=some b)(hb:aA b=some r)(I:S.Ok W fn q)(R:Rel W S fn F M cur J af)(U:VH W af.heap F z u)(T:Step W s af):wpAny (model W.prog W.w) S.A (truthy u) (PT W s r) E af:=QV (iZ.run S F M cur J b af z u I R U hz) λs' T'=>⟨(gq hb).symm,T.trans T'⟩
theorem Jj{F:fF->Prop}{t:Sem cz}{x:Rs AV}{g:Bool->Rs γ}{r:Except cz γ}{Q:cz->ea->Prop}{N:SW}(I:bindR (i4 x) g=some r)(h:∀r1,x=some r1->wpAny N A t (PE W F s r1) (PX W S s r1) s)(k:∀b,g b=some r->∀z v F' s',cI z=some b->Step W s s'->bP s s' F F'->VR s'.heap F' z v->Q v s'):wpAny N A t Q (PX W S s r) s:=by
 unfold i4 at I;rw[iW]at I;refine gM I h λa I v F' s' T G U=>?_;cases hz:cI a with
 |none=>exact aZ (hz▸I)
 |some b=>rw[hz]at I;exact k b I a v F' s' hz T G U
theorem EL{e:u_}{f:St->Rs AV}(h:cw W q fn e f)(U:∀env z,isTrue e env z=(do let v<-z;standAt e.pos;holding [v] (truthy v))):gL W q fn e (λJ=>i4 (f J)):=.mk λS F M cur J r s I R V=>by
 refine wpAny_isTrue_value ?_ (U _ _);refine gM V (h.run S F M cur J · s I R) λa h2 v aB af T G Y=>?_;cases hb:cI a with
 |none=>exact aZ (hb▸h2)
 |some b=>rw[hb]at h2;exact Ji hb h2 I (R.move I T G) Y T
theorem Jk{l Y:u_}{op:CmpOp}{f g:St->Rs AV}{h:AV->AV->Rs AV}(hl:cw W q fn l f)(hr:cw W q fn Y g)(ho:jQ W q fn (compareOp op) h)(hm:behindInMarks op Y=false):gL W q fn (.Compare l [op] [Y] pos) (λJ=>i4 (bindR (f J) λa=>bindR (g J) λb=>h a b)):=.mk λS F M cur J r s I R U=>by
 refine wpAny_isTrue_Compare1 ?_ hm;unfold i4 at U;rw[iW]at U;refine gM U (hl.run S F M cur J · s I R) λa U v aB af T G hv=>?_;rw[iW]at U;have Z:=R.move I T G;refine PX.raise T (gM U (hr.run S aB M cur J · af I Z) λb U w aQ s₂ V a_ hw=>?_);have aM:=Z.move I V a_;exact PX.raise (T.trans V) (Jj (g:=aA) ((qo _).trans U) (ho.run S aQ M cur J · s₂ _ _ v w I aM (Z.vh I V a_ hv) hw) λb hb z u cx aK hz bp fU hu=>Ji hz hb I (aM.move I bp fU) hu.vh ((T.trans V).trans bp))
theorem SG{t:Sem Bool}{z:Except cz Bool}{r:Except cz β}{Q:Bool->ea->Prop}(h:wpAny (model W.prog W.w) A t (PT W s z) (PX W S s z) s)(I:∀c,z= .error c->r= .error c)(k:∀b s',z= .ok b->Step W s s'->Q b s'):wpAny (model W.prog W.w) A t Q (PX W S s r) s:=
 fm h (λv s' h=>k v s' h.1 h.2) λZ Z x=>x.to I
def EM(x:Rs Bool):Rs Bool:=bindR x λb=>aA (!b)
theorem i5{x:u_}{f:St->Rs Bool}(h:gL W q fn x f):gL W q fn (.UnaryOp .Not x pos) (λJ=>EM (f J)):=.mk λS F M cur J r s z R I=>by
 exact wpAny_isTrue_Not (Mb I (h.run S F M cur J · s z R) λa h2 s' T=>⟨(gq h2).symm,T⟩)
structure nN(W:Wd)(q:Bool)(fn:ek)(op:BoolOp)(es:List u_)(f:St->Rs Bool):Prop where
 run:∀S F M cur J r s,S.Ok W fn q->Rel W S fn F M cur J s->f J=some r->
 wpAny (model W.prog W.w) S.A (allTrue op es S.env) (PT W s r) (PX W S s r) s
def Ak(x y:Rs Bool):Rs Bool:=bindR x λb=>if b then y else aA false
def QW(x y:Rs Bool):Rs Bool:=bindR x λb=>if b then aA true else y
theorem cP:nN W q fn .And [] (λZ=>aA true):=.mk λS F M cur J r s I R z=>by cases z;exact wpAny_allTrue_And_nil ⟨rfl,.refl R.stays⟩
theorem e_:nN W q fn .Or [] (λZ=>aA false):=.mk λS F M cur J r s I R z=>by cases z;exact wpAny_allTrue_Or_nil ⟨rfl,.refl R.stays⟩
theorem aY{x:u_}{es:List u_}{f g:St->Rs Bool}(h:gL W q fn x f)(hs:nN W q fn .And es g):nN W q fn .And (x::es) (λJ=>Ak (f J) (g J)):=.mk λS F M cur J r s z R I=>by
 refine wpAny_allTrue_And_cons (Mb I (h.run S F M cur J · s z R) λa h2 s' T=>?_);clear I;cases a with
 |false=>cases h2;exact⟨rfl,T⟩
 |true=>exact PX.raise T (fm (hs.run S F M cur J r s' z (R.move z T (.refl _ _ _)) h2) (λZ Z x=>x.lift T) λZ Z x=>x)
theorem bj{x:u_}{es:List u_}{f g:St->Rs Bool}(h:gL W q fn x f)(hs:nN W q fn .Or es g):nN W q fn .Or (x::es) (λJ=>QW (f J) (g J)):=.mk λS F M cur J r s z R I=>by
 refine wpAny_allTrue_Or_cons (Mb I (h.run S F M cur J · s z R) λa h2 s' T=>?_);clear I;cases a with
 |true=>cases h2;exact⟨rfl,T⟩
 |false=>exact PX.raise T (fm (hs.run S F M cur J r s' z (R.move z T (.refl _ _ _)) h2) (λZ Z x=>x.lift T) λZ Z x=>x)
theorem b8{op:BoolOp}{es:List u_}{f:St->Rs Bool}(h:nN W q fn op es f):gL W q fn (.BoolOp op es pos) f:=.mk λS F M cur J r s z R I=>
 wpAny_isTrue_BoolOp (h.run S F M cur J r s z R I)
def Jl{α:Type}(x:Rs Bool)(y z:Rs α):Rs α:=bindR x λb=>if b then y else z
theorem rf{t a b:u_}{f:St->Rs Bool}{g h:St->Rs AV}(I:gL W q fn t f)(U:aL W q fn a g)(hb:aL W q fn b h):aL W q fn (.IfExp t a b pos) (λJ=>Jl (f J) (g J) (h J)):=.mk λS F M cur J r s z R V=>by
 refine wpAny_IfExp (Mb V (I.run S F M cur J · s z R) λx h2 s' T=>?_);cases x with
 |true=>exact PX.raise T (fm (U.run S F M cur J r s' z (R.move z T (.refl _ _ _)) h2) (λZ Z x=>x.lift T (.refl _ _ _)) λZ Z x=>x)
 |false=>exact PX.raise T (fm (hb.run S F M cur J r s' z (R.move z T (.refl _ _ _)) h2) (λZ Z x=>x.lift T (.refl _ _ _)) λZ Z x=>x)
theorem Na{t a b:u_}{f:St->Rs Bool}{g h:St->Rs (List AV)}(I:gL W q fn t f)(U:jK W q fn a g)(hb:jK W q fn b h):jK W q fn (.IfExp t a b pos) (λJ=>Jl (f J) (g J) (h J)):=.mk λS F M cur J r s z R V=>by
 refine wpAny_IfExp (Mb V (I.run S F M cur J · s z R) λx h2 s' T=>?_);cases x with
 |true=>exact PX.raise T (fm (U.run S F M cur J r s' z (R.move z T (.refl _ _ _)) h2) (λZ Z x=>x.lift T (.refl _ _ _)) λZ Z x=>x)
 |false=>exact PX.raise T (fm (hb.run S F M cur J r s' z (R.move z T (.refl _ _ _)) h2) (λZ Z x=>x.lift T (.refl _ _ _)) λZ Z x=>x)
theorem ai:fG W q fn [] (λZ=>aA []):=.mk λS F M cur J r s pos I R z=>by
 cases z;exact ac0 ⟨[],F,rfl,.refl R.stays,.refl _ _ _,by simp[zQ]⟩
theorem Al{e:u_}{es:List u_}{f:St->Rs AV}{g:St->Rs (List AV)}(h:aL W q fn e f)(hs:fG W q fn es g)(Y:∀env,starEach (e::es) env=(false,eval e env)::starEach es env):fG W q fn (e::es) (λJ=>bindR (f J) λa=>bindR (g J) λas=>aA (a::as)):=.mk λS F M cur J r s pos z R U=>by
 refine acA ?_ (Y _);refine gM U (h.run S F M cur J · s z R) λa h2 v aB af T G Z=>PX.raise T (gM h2 (hs.run S aB M cur J · af pos z (R.move z T G)) λas h4 vs aQ s₂ I V hr=>?_);clear U h2;cases h4;refine⟨_,aQ,rfl,T.trans I,G.trans T.size I.size V,?_⟩;exact⟨v,vs,rfl,(R.move z T G).vr z I V Z,hr⟩
noncomputable def cq(n:Nat):Bool:=decide (n<=16777216)
theorem cF(h:cq n=true):n<=sizeLine:=by refine ag aau ?_;simpa[cq]using h
def uX(x:Rs (List AV)):Rs AV:=bindR x λxs=>if cq xs.length then aA (.tup xs)else none
def Jm(x:Rs (List AV)):Rs (List AV):=bindR x λxs=>if cq xs.length then aA xs else none
theorem bt{es:List u_}{f:St->Rs (List AV)}(h:fG W q fn es f):aL W q fn (.Tuple es k pos) (λJ=>uX (f J)):=.mk λS F M cur J r s U R z=>by
 refine wpAny_Tuple (gM z (h.run S F M cur J · s pos U R) λxs h2 vs aB af T G I=>?_);split at h2
 ·rename_i V;refine dK ?_ h2;clear h2;intro h2;clear z;cases h2;refine⟨by refine ag I.length ?_;exact cF V,.tup xs,λb=>aB b\/b=af.heap.objs.size,rfl,T.trans (.push T.stays),⟨λb hb=>.inl (G.1 b hb),λb hb=>?_⟩,?_⟩
  ·refine g' hb ?_ ?_;rotate_left;clear hb;rintro rfl;rotate_right;clear hb;intro hb
   ·exact(G.2 b hb).imp id λh=>⟨h.1,ZP h.2 (by rw[rW];exact rv _)⟩
   ·exact .inr ⟨T.size,by rw[rW];exact rv _⟩
  ·exact⟨_,vs,rfl,.inr rfl,⟨0,#[],w' _ rfl⟩,I.mono (λa Z o Y=>⟨o.slots,ml _ Y⟩) λb hb=>.inl hb⟩
 ·exact aZ h2
theorem bD{es:List u_}{f:St->Rs (List AV)}(h:fG W q fn es f):jK W q fn (.List es pos) (λJ=>Jm (f J)):=.mk λS F M cur J r s z R I=>by
 refine wpAny_List (gM I (h.run S F M cur J · s pos z R) λxs h2 vs aB af T G U=>?_);split at h2
 ·rename_i V;refine dK ?_ h2;clear h2;intro h2;clear I;cases h2;have hb:¬aB af.heap.objs.size:=λh=>f3 _ ((R.move z T G).bound z h).1;exact⟨by rw[U.length];exact cF V,xs,aB,af.heap.objs.size,vs,rfl,T.trans (.push T.stays),⟨G.1,λb hb=>(G.2 b hb).imp id λh=>⟨h.1,ZP h.2 (by rw[rW];exact rv _)⟩⟩,rfl,T.size,hb,
   ⟨0,#[],w' _ rfl⟩,U.mono (λa Z o Y=>⟨o.slots,ml _ Y⟩) λb hb=>hb⟩
 ·exact aZ h2
theorem sub_bytes_NoneType:isSubtype (.type "bytes") (.type "NoneType")=pure false:=by rw[Ut];kernel_rfl
theorem sub_NoneType_bytes:isSubtype (.type "NoneType") (.type "bytes")=pure false:=by rw[Ut];kernel_rfl
theorem fV:Slot "bytes" (cmpInfo .Eq).2.2 "bytes.__eq__":=PySem.W.FB.slot_bytes_eq
theorem fW:Slot "bytes" (cmpInfo .NotEq).2.2 "bytes.__ne__":=PySem.W.FB.slot_bytes_ne
theorem qr(b:Array UInt8)(t:Tok):Gives («NoneType.__eq__» ⟨[.none,.bytes b t],[]⟩) (.val .notImplemented):=
 .of_wp λM A E s Q h=>by obtain⟨z,g,d,tk,os⟩:=s;wp_walk;exact⟨_,rfl,h⟩
theorem qt(b:Array UInt8)(t:Tok):Gives («NoneType.__ne__» ⟨[.none,.bytes b t],[]⟩) (.val .notImplemented):=
 .of_wp λM A E s Q h=>by obtain⟨z,g,d,tk,os⟩:=s;wp_walk;exact⟨_,rfl,h⟩
theorem iF(b:Array UInt8)(t:Tok):Gives («bytes.__eq__» ⟨[.bytes b t,.none],[]⟩) (.val .notImplemented):=by
 refine .of_wp λM A E s Q z=>?_;show wpAny M A (isInstance .none (.type "bytes")>>=λr=>_) _ E s;refine az (ZT (s:=s) (v:=.none) (T:="NoneType") (U:="bytes") (b:=false) rfl sub_NoneType_bytes ?_);refine az (ZT (s:=s) (v:=.none) (T:="NoneType") (U:="bytes") (b:=false) rfl sub_NoneType_bytes ?_);exact az (ZR (en ⟨_,rfl,z⟩))
theorem iG(b:Array UInt8)(t:Tok):Gives («bytes.__ne__» ⟨[.bytes b t,.none],[]⟩) (.val .notImplemented):=by
 refine .of_wp λM A E s Q z=>?_;show wpAny M A (isInstance .none (.type "bytes")>>=λr=>_) _ E s;refine az (ZT (s:=s) (v:=.none) (T:="NoneType") (U:="bytes") (b:=false) rfl sub_NoneType_bytes ?_);refine az (ZT (s:=s) (v:=.none) (T:="NoneType") (U:="bytes") (b:=false) rfl sub_NoneType_bytes ?_);exact az (ZR (en ⟨_,rfl,z⟩))
section
variable {prog:abf} {w:aab} {A:XQ} {E:cz->ea->Prop} {s:ea} {b:Array UInt8} {t:Tok} {Q:cz->ea->Prop}
open PySem.W.FB PySem.SeqAt
theorem tb(b:Array UInt8)(t:Tok)(s:ea):s.TypeIs (.bytes b t) "bytes":=rfl
theorem pM(h:Q (.bool false) s):wpAny (model prog w) A (compareOp .Eq .none (.bytes b t)) Q E s:=
 abb (k:=false) (λZ=>rfl) (λs'=>tb b t s') (by decide) sub_bytes_NoneType F.slot_NoneType_eq fV rfl
  (abm F.slot_NoneType_eq rfl F.entry_NoneType_eq (F.args_NoneType_eq_2 _ _) (qr b t)
   ⟨rfl,abm fV (tb b t s) entry_bytes_eq (args_bytes_eq_2 _ _) (iF b t) ⟨rfl,h⟩⟩)
theorem pN(h:Q (.bool false) s):wpAny (model prog w) A (compareOp .Eq (.bytes b t) .none) Q E s:=
 abb (k:=false) (λs'=>tb b t s') (λZ=>rfl) (by decide) sub_NoneType_bytes slot_bytes_eq acB rfl
  (abm slot_bytes_eq (tb b t s) entry_bytes_eq (args_bytes_eq_2 _ _) (iF b t)
   ⟨rfl,abm acB rfl F.entry_NoneType_eq (F.args_NoneType_eq_2 _ _) (qr b t) ⟨rfl,h⟩⟩)
theorem pO(h:Q (.bool true) s):wpAny (model prog w) A (compareOp .NotEq .none (.bytes b t)) Q E s:=
 abc (k:=false) (λZ=>rfl) (λs'=>tb b t s') (by decide) sub_bytes_NoneType F.slot_NoneType_ne fW rfl
  (abm F.slot_NoneType_ne rfl F.entry_NoneType_ne (F.args_NoneType_ne_2 _ _) (qt b t)
   ⟨rfl,abm fW (tb b t s) entry_bytes_ne (args_bytes_ne_2 _ _) (iG b t) ⟨rfl,h⟩⟩)
theorem pP(h:Q (.bool true) s):wpAny (model prog w) A (compareOp .NotEq (.bytes b t) .none) Q E s:=
 abc (k:=false) (λs'=>tb b t s') (λZ=>rfl) (by decide) sub_NoneType_bytes slot_bytes_ne acC rfl
  (abm slot_bytes_ne (tb b t s) entry_bytes_ne (args_bytes_ne_2 _ _) (iG b t)
   ⟨rfl,abm acC rfl F.entry_NoneType_ne (F.args_NoneType_ne_2 _ _) (qt b t) ⟨rfl,h⟩⟩)
end
noncomputable def lH:AV->AV->Option Bool
 | .none,.none=>some true
 | .none,.aa _=>some false
 | .aa _,.none=>some false
 | .aa a,.aa b=>some (a==b)
 | .int a,.int b=>some (a==b)
 | .none,.int _=>some false
 | .int _,.none=>some false
 |_,_=>none
noncomputable def scalar:AV->Bool
 | .none| .bool _| .int _| .aa _| .str _=>true
 |_=>false
section
variable {prog:abf} {w:aab} {A:XQ} {E:cz->ea->Prop} {s:ea} {Q:cz->ea->Prop} {h:ZN} {F:fF->Prop}
theorem Am{x y:AV}(I:lH x y=some b){F:fF->Prop}{v:cz}(z:VH W h F x v):VR h F x v:=z.vr λxs e=>by clear z;subst e;exact aZ I
theorem w_{x y:AV}(I:lH x y=some b){F:fF->Prop}{v:cz}(z:VH W h F y v):VR h F y v:=z.vr λxs e=>by clear z;subst e;cases x<;>exact aZ I
inductive Eg:cz->cz->Bool->Prop
 |nn:Eg .none .none true
 |ni (i t):Eg .none (.int i t) false
 |nb (b t):Eg .none (.bytes b t) false
 |SH (i t):Eg (.int i t) .none false
 |bn (b t):Eg (.bytes b t) .none false
 |ii (i j t u):Eg (.int i t) (.int j u) (i==j)
 |bb (a b:List UInt8) (t u):Eg (.bytes a.toArray t) (.bytes b.toArray u) (a==b)
theorem ky{x y:AV}{v w:cz}(I:VR h F x v)(hw:VR h F y w)(z:lH x y=some b):Eg v w b:=by
 cases x with
 |none=>
  cases (show v= .none from I);cases y with
  |none=>cases (show w= .none from hw);cases z;exact .nn
  |int j=>refine au hw ?_;rintro u rfl;cases z;exact .ni ..
  |aa j=>refine au hw ?_;rintro u rfl;cases z;exact .nb ..
  |_=>exact aZ z
 |int i=>
  refine au I ?_;rintro t rfl;cases y with
  |none=>cases (show w= .none from hw);cases z;exact .SH ..
  |int j=>refine au hw ?_;rintro u rfl;cases z;exact .ii ..
  |_=>exact aZ z
 |aa i=>
  refine au I ?_;rintro t rfl;cases y with
  |none=>cases (show w= .none from hw);cases z;exact .bn ..
  |aa j=>refine au hw ?_;rintro u rfl;cases z;exact .bb ..
  |_=>exact aZ z
 |_=>exact aZ z
theorem An{x y:AV}{v I:cz}(U:VR h F x v)(hw:VR h F y I)(V:lH x y=some b)(z:Q (.bool b) s):wpAny (model prog w) A (compareOp .Eq v I) Q E s:=by
 cases ky U hw V with
 |nn=>exact EqNone.eq_none_none z
 |ni=>exact EqNone.eq_none_int z
 |nb=>exact pM z
 |SH=>exact EqNone.eq_int_none z
 |bn=>exact pN z
 |ii=>exact P.eq_int z
 |bb=>exact PySem.W.eq_bytes z
theorem Jn{x y:AV}{v I:cz}(U:VR h F x v)(hw:VR h F y I)(V:lH x y=some b)(z:Q (.bool (!b)) s):wpAny (model prog w) A (compareOp .NotEq v I) Q E s:=by
 cases ky U hw V with
 |nn=>exact EqNone.ne_none_none z
 |ni=>exact EqNone.ne_none_int z
 |nb=>exact pO z
 |SH=>exact EqNone.ne_int_none z
 |bn=>exact pP z
 |ii=>exact P.ne_int z
 |bb=>exact PySem.W.ne_bytes z
theorem Eg.refl{v w:cz}(z:Eg v w b)(e:v=w):b=true:=by
 cases z with
 |nn=>rfl
 |ii i j t u=>injection e with e;subst e;exact BEq.rfl
 |bb i j t u=>injection e with e;refine ag (show i=j from congrArg Array.toList e) ?_;exact BEq.rfl
 |_=>exact(nomatch e)
open PySem.SeqAt in
theorem rh{x y:AV}{v U:cz}(V:VR h F x v)(hw:VR h F y U)(I:lH x y=some b):EqAt A s v U b:=λprog w E Q Y=>by
 have z:=ky V hw I;refine n4 (wpAny_ite_split (λEN=>?_) (λZ=>?_))
 ·have e:=z.refl (eq_of_beq EN);clear I z;subst e;exact az (ZR (en Y))
 ·have key:wpAny (model prog w) A (richCompare .Eq v U>>=truthOfDropped) Q E s:=az (An (Q:=λr s'=>wpAny _ A (truthOfDropped r) Q E s') V hw I (aat Y))
  (clear V hw Y;clear I;cases z)<;>exact key
end
theorem VH.dB{F:fF->Prop}{x:AV}{v:cz}(r:VH W h F x v)(z:scalar x=true):VR h F x v:=r.vr λxs e=>by clear r;subst e;exact ng z
def Jo(x y:AV):Rs AV:=(lH x y).map λb=>.ok (.bool b)
def Md(x y:AV):Rs AV:=(lH x y).map λb=>.ok (.bool !b)
theorem bZ:jQ W q fn (compareOp .Eq) Jo:=.mk λS F M cur J r s a b v w U R I hw hg=>by
 unfold Jo at hg;rcases z:lH a b with _|k
 ·rw[z]at hg;cases hg
 rw[z]at hg;refine dK ?_ hg;clear hg;intro hg;cases hg;exact An (Am z I) (w_ z hw) z (PE.done (.refl R.stays) (rfl))
theorem kz:jQ W q fn (compareOp .NotEq) Md:=.mk λS F M cur J r s a b v w U R I hw hg=>by
 unfold Md at hg;rcases z:lH a b with _|k
 ·rw[z]at hg;cases hg
 rw[z]at hg;refine dK ?_ hg;clear hg;intro hg;cases hg;exact Jn (Am z I) (w_ z hw) z (PE.done (.refl R.stays) (rfl))
noncomputable def ints2(f:Int->Int->Rs AV):AV->AV->Rs AV
 | .int a,.int b=>f a b
 |_,_=>none
theorem gG{t:cz->cz->Sem cz}{f:Int->Int->Rs AV}(h:∀S F M cur J r s i j u v,S.Ok W fn q->Rel W S fn F M cur J s->f i j=some r->wpAny (model W.prog W.w) S.A (t (.int i u) (.int j v)) (PE W F s r) (PX W S s r) s):jQ W q fn t (ints2 f):=
 .mk λS F M cur J r s a b v w I R z hw hg=>by
  cases a with
  |int i=>
   cases b with
   |int j=>
    refine au (z.dB rfl) ?_;clear z;rintro u rfl;refine au (hw.dB rfl) ?_;clear hw;rintro U rfl;exact h S F M cur J r s _ _ u U I R hg
   |_=>exact aZ hg
  |_=>exact aZ hg
theorem mn:jQ W q fn (compareOp .Lt) (ints2 λa b=>aA (.bool (decide (a<b)))):=gG λS F M cur J r s i j u v z R hg=>by cases hg;exact P.lt_int (PE.done (.refl R.stays) (rfl))
theorem qu:jQ W q fn (compareOp .LtE) (ints2 λa b=>aA (.bool (decide (a<=b)))):=gG λS F M cur J r s i j u v z R hg=>by cases hg;exact P.le_int (PE.done (.refl R.stays) (rfl))
theorem Ao:jQ W q fn (compareOp .Gt) (ints2 λa b=>aA (.bool (decide (a>b)))):=gG λS F M cur J r s i j u v z R hg=>by cases hg;exact P.gt_int (PE.done (.refl R.stays) (rfl))
theorem Aq:jQ W q fn (compareOp .GtE) (ints2 λa b=>aA (.bool (decide (a>=b)))):=gG λS F M cur J r s i j u v z R hg=>by cases hg;exact P.ge_int (PE.done (.refl R.stays) (rfl))
theorem hV:jQ W q fn (binaryOp .Sub) (ints2 λa b=>aA (.int (a-b))):=gG λS F M cur J r s i j u v z R hg=>by cases hg;exact P.sub_int (PE.done (.toks R.stays) (⟨_,rfl⟩))
theorem i6:jQ W q fn (binaryOp .Mod) (ints2 λa b=>if b≠0 then aA (.int (a.fmod b))else none):=gG λS F M cur J r s i j u v z R hg=>by
 split at hg
 ·rename_i h;refine dK ?_ hg;clear hg;intro hg;cases hg;exact PyProof.Rows.mod_int h (PE.done (.toks R.stays) (⟨_,rfl⟩))
 ·exact aZ hg
theorem rl:jQ W q fn (binaryOp .FloorDiv) (ints2 λa b=>if b≠0/\b.natAbs<2^62 then aA (.int (a.fdiv b))else none):=gG λS F M cur J r s i j u v U R hg=>by
 split at hg
 ·rename_i h;refine dK ?_ hg;clear hg;intro hg;cases hg;refine AutoIntOps.floordiv_1 (by simpa using h.1) ?_ (PE.done (.toks R.stays) (⟨_,rfl⟩));unfold divisionGoesByPylong;have h2:j.natAbs.log2<62:=by
   have z:j.natAbs≠0:=Int.natAbs_ne_zero.mpr h.1;exact(Nat.log2_lt z).mpr h.2
  have h3:j.natAbs.log2/30+1<=300:=Nat.succ_le_of_lt (aam (Nat.div_le_self _ _) (bk h2 (by decide)));simp only[v3,decide_eq_true_eq,not_and];intro I;split at I<;>lia
 ·exact aZ hg
theorem Jp:jQ W q fn (binaryOp .Pow) (ints2 λa b=>if a=2/\0<=b/\b<=1000 then aA (.int (a^b.toNat))else none):=gG λS F M cur J r s i j u v z R hg=>by
 split at hg
 ·rename_i h;refine dK ?_ hg;clear hg;intro hg;cases hg;refine fQ h ?_;clear h;rintro rfl h1 h2;refine PyProof.Rows.pow_int h1 ?_ (PE.done (.toks R.stays) (⟨_,rfl⟩));have:(ab1 2:Int)=2:=by decide
  refine ag this ?_;lia
 ·exact aZ hg
def EO:AV->AV->Rs AV
 | .int a,.int b=>aA (.int (a+b))
 | .aa a,.aa b=>if cq (a.length+b.length)then aA (.aa (a++b))else none
 |_,_=>none
theorem bW:jQ W q fn (binaryOp .Add) EO:=.mk λS F M cur J r s a b v w U R z hw hg=>by
 cases a with
 |int i=>
  cases b with
  |int j=>
   refine au (z.dB rfl) ?_;rintro u rfl;refine au (hw.dB rfl) ?_;rintro I rfl;cases hg;exact P.add_int (PE.done (.toks R.stays) ⟨_,rfl⟩)
  |_=>exact aZ hg
 |aa i=>
  cases b with
  |aa j=>
   refine au (z.dB rfl) ?_;rintro u rfl;refine au (hw.dB rfl) ?_;rintro I rfl;refine aX (iE hg) λh hg=>?_;cases hg;exact PySem.W.KBy.add_bytes (by simpa[cq]using h) λV k=>PE.done (.toks R.stays) (by first|rfl|exact⟨_,rfl⟩|simp[lL,lM,lN,mh])
  |_=>exact aZ hg
 |_=>exact aZ hg
theorem Ar{x:Int}(h:x.natAbs<2^62):ab1 x<=64:=by
 unfold ab1;split
 ·exact Z2 _
 ·rename_i z;have I:x.natAbs≠0:=by intro e;apply z;simpa using e
  have:=(Nat.log2_lt I).mpr h;exact bU ‹_› (by decide)
def SI:AV->AV->Rs AV
 | .int a,.int b=>if a.natAbs<2^62\/b.natAbs<2^62 then aA (.int (a*b))else none
 | .aa a,.int n=>if a≠[]/\-1048576<=n/\n<=1048576/\a.length<=16 then aA (.aa (aaV n.toNat a).flatten)else none
 |_,_=>none
theorem eH:jQ W q fn (binaryOp .Mult) SI:=.mk λS F M cur J r s a b v w U R z hw hg=>by
 cases a with
 |int i=>
  cases b with
  |int j=>
   refine au (z.dB rfl) ?_;rintro u rfl;refine au (hw.dB rfl) ?_;rintro I rfl;refine aX (iE hg) λh hg=>?_;cases hg;exact P.mul_int (PE.done (.toks R.stays) ⟨_,rfl⟩) (h.elim (λh=>.of_left (Ar h)) λh=>.of_right (Ar h))
  |_=>exact aZ hg
 |aa i=>
  cases b with
  |int j=>
   refine au (z.dB rfl) ?_;rintro u rfl;refine au (hw.dB rfl) ?_;rintro I rfl;refine aX (iE hg) λh hg=>?_;cases hg;exact PySem.W.bytes_mul_any h.1 h.2.1 h.2.2.1 h.2.2.2 λV k=>PE.done (.toks R.stays) ⟨_,rfl⟩
  |_=>exact aZ hg
 |_=>exact aZ hg
noncomputable def cN:AV->Bool
 | .none=>true
 |_=>false
def isA:AV->AV->Rs AV
 |a,.none=>aA (.bool (cN a))
 |_,_=>none
def Jq:AV->AV->Rs AV
 |a,.none=>aA (.bool (!cN a))
 |_,_=>none
theorem qw{F:fF->Prop}{a:AV}{v:cz}(z:VH W h F a v):(v== .none)=cN a:=by
 cases a with
 |none=>have:=z.dB rfl;clear z;subst this;rfl
 |bool b=>have:=z.dB rfl;clear z;subst this;rfl
 |int b=>have:=z.dB rfl;refine au this ?_;clear this;rintro t rfl;rfl
 |aa b=>have:=z.dB rfl;refine au this ?_;clear this;rintro t rfl;rfl
 |str b=>have:=z.dB rfl;refine au this ?_;clear this;rintro t rfl;rfl
 |ref b=>have:=z.vr (by simp);subst this;rfl
 |ty b=>have:=z.vr (by simp);subst this;rfl
 |bi b=>have:=z.vr (by simp);subst this;rfl
 |tup b=>have:=z.vr (by simp);refine e7 this ?_;clear this;rintro _ _ rfl _;rfl
 |lst b=>refine e7 z.lst ?_;rintro _ _ rfl _;rfl
 |obj C ks xs=>have:=z.vr (by simp);refine ft this ?_;clear this;rintro _ _ _ rfl _;rfl
 |Ef P ks xs=>have:=z.vr (by simp);refine e7 this ?_;clear this;rintro _ _ rfl _;rfl
theorem EP{a b:AV}{r:Except cz AV}(h:isA a b=some r):b= .none:=by
 cases b with
 |none=>rfl
 |_=>exact aZ h
theorem As{a b:AV}{r:Except cz AV}(h:Jq a b=some r):b= .none:=by
 cases b with
 |none=>rfl
 |_=>exact aZ h
theorem cT:jQ W q fn (compareOp .Is) isA:=.mk λS F M cur J r s a b v w I R z hw hg=>by
 obtain rfl:=EP hg;obtain rfl:w= .none:=hw.dB rfl;cases hg;exact is_none (PE.done (.refl R.stays) (by simp[lL,lM,lN,mh,qw z]))
theorem fX:jQ W q fn (compareOp .IsNot) Jq:=.mk λS F M cur J r s a b v w I R z hw hg=>by
 obtain rfl:=As hg;obtain rfl:w= .none:=hw.dB rfl;cases hg;exact isNot_none (PE.done (.refl R.stays) (by simp[lL,lM,lN,mh,qw z]))
def fa(x:AV):List AV->Option Bool
 |[]=>some false
 |y::ys=>(lH y x).bind λb=>(fa x ys).map λc=>b||c
theorem kB:fa x []=some false:=rfl
theorem xa:fa x (y::ys)=(lH y x).bind λb=>(fa x ys).map λc=>b||c:=rfl
theorem nO{x y:AV}(z:lH x y=some b):scalar x=true:=by
 cases x with
 |none=>rfl
 |int=>rfl
 |aa=>rfl
 |_=>exact aZ z
noncomputable def W6:cz->AV
 | .none=>.none
 | .bool b=>.bool b
 | .int i _=>.int i
 | .bytes b _=>.aa b.toList
 | .str x _=>.str x
 |_=>.none
theorem VR.sc{F:fF->Prop}{x:AV}{v:cz}(z:scalar x=true)(r:VR h F x v):x=W6 v:=by
 cases x with
 |none=>cases (show v= .none from r);rfl
 |bool b=>cases (show v= .bool b from r);rfl
 |int i=>refine au r ?_;clear r;rintro t rfl;rfl
 |aa i=>refine au r ?_;clear r;rintro t rfl;rfl
 |str i=>refine au r ?_;clear r;rintro t rfl;rfl
 |_=>exact ng z
theorem VR.inj{F:fF->Prop}{x y:AV}{v:cz}(z:scalar x=true)(I:scalar y=true)(r:VR h F x v)(U:VR h' F' y v):x=y:=(r.sc z).trans (U.sc I).symm
theorem bL.any_eq{F:fF->Prop}{x:AV}{v:cz}(Z:VR h F x v):∀{ys:List AV}{vs:List cz}{b:Bool},bL h F ys vs->fa x ys=some b->∀e:cz->Bool,(∀z y k,VR h F y z->lH y x=some k->e z=k)->(∀y,y∈vs->SeqAt.EqAt A s y v (e y))/\vs.any e=b:=by
 intro ys
 induction ys with
 |nil=>intro vs b U I e hz;subst U;simp only[kB,e4]at I;exact⟨by simp,by simpa using I⟩
 |cons y ys ih=>
  intro vs b U I e hz;refine bV U ?_;clear U;rintro w ws rfl h1 h2;simp only[xa]at I;rcases hb:lH y x with _|b1
  ·rw[hb]at I;exfalso;cases I
  rw[hb]at I;rcases Y:fa x ys with _|c
  ·rw[Y]at I;exfalso;cases I
  rw[Y]at I;simp only[Mr,aaq,e4]at I;refine aX (ih h2 Y e hz) λe1 e2=>?_;have hw:=hz w y b1 h1 hb;refine⟨λz V=>?_,by exact ag List.any_cons (ag hw (ag e2 (ag I rfl)))⟩;refine g' (QX.mp V) ?_ ?_;rotate_left;intro V;rotate_right;clear V;rintro rfl
  ·exact ag hw (rh h1 Z hb)
  ·exact e1 z V
open Classical in
theorem bL.rm{F:fF->Prop}{x:AV}{v:cz}(Z:VR h F x v)(hr:bL h F ys vs)(he:fa x ys=some b):∃e:cz->Bool,(∀y,y∈vs->SeqAt.EqAt A s y v (e y))/\vs.any e=b:=
 ⟨λz=>decide (∃y,VR h F y z/\lH y x=some true),hr.any_eq Z he _ λz y k V I=>by
  cases k with
  |true=>simp;exact⟨y,V,I⟩
  |false=>
   simp only[decide_eq_false_iff_not,not_exists,not_and];intro y' Y U;have:=V.inj (nO I) (nO U) Y;clear Y;subst this;rw[I]at U;revert U;refine bc λe=>?_;cases e⟩
def Vy(x c:AV):Rs AV:=match c with| .lst ys=>(fa x ys).map λb=>.ok (.bool b)| .tup ys=>(fa x ys).map λb=>.ok (.bool b)|_=>none
def ER(x c:AV):Rs AV:=match c with| .lst ys=>(fa x ys).map λb=>.ok (.bool !b)| .tup ys=>(fa x ys).map λb=>.ok (.bool !b)|_=>none
theorem hW{F:fF->Prop}{x:AV}{v:cz}(z:VH W h F x v)(I:fa x ys≠none)(U:ys≠[]):VR h F x v:=by
 refine z.vr λxs e=>?_;clear z;subst e;cases ys with
 |nil=>exact U rfl
 |cons y ys=>apply I;clear U I;cases y<;>rfl
set_option tactic.hygienic true in
theorem Js:jQ W q fn (compareOp .In) Vy:=.mk λS F M cur J r s a b v w hS R Y hw hg=>by
 cases b<;>simp only[Vy,reduceCtorEq]at hg
 ·rename_i ys;have hw:=hw.vr (by simp);refine bF hw ?_;clear hw;clear hw;rintro c vs rfl _ z I;rcases hb:fa a ys with _|k
  ·rw[hb]at hg;cases hg
  rw[hb]at hg;refine dK ?_ hg;clear hg;intro hg;cases hg;cases ys with
  |nil=>
   subst I;simp only[kB,e4]at hb;subst hb;exact SeqAt.in_tupleAt (λZ=>false) z.tuple (by simp) (PE.done (.refl R.stays) (by first|rfl|exact⟨_,rfl⟩|simp[lL,lM,lN,mh]))
  |cons y ys=>
   refine ax (I.rm (hW Y (by refine ag hb ?_;simp) (by simp)) (A:=S.A.in1) (s:=s) hb) λe U V=>?_;exact SeqAt.in_tupleAt e z.tuple (by simpa using U) (PE.done (.refl R.stays) (by simp[lL,lM,lN,mh,<-V]))
 ·rename_i ys;refine bV hw.lst ?_;rintro c vs rfl z I;rcases hb:fa a ys with _|k
  ·rw[hb]at hg;cases hg
  rw[hb]at hg;refine dK ?_ hg;clear hg;intro hg;cases hg;cases ys with
  |nil=>
   subst I;simp only[kB,e4]at hb;subst hb;exact SeqAt.in_listAt (λZ=>false) z.list (by simp) (PE.done (.refl R.stays) (by first|rfl|exact⟨_,rfl⟩|simp[lL,lM,lN,mh]))
  |cons y ys=>
   refine ax (I.rm (hW Y (by refine ag hb ?_;simp) (by simp)) (A:=S.A.in1) (s:=s) hb) λe U V=>?_;exact SeqAt.in_listAt e z.list (by simpa using U) (PE.done (.refl R.stays) (by simp[lL,lM,lN,mh,<-V]))
set_option tactic.hygienic true in
theorem kG:jQ W q fn (compareOp .NotIn) ER:=.mk λS F M cur J r s a b v w hS R Y hw hg=>by
 cases b<;>simp only[ER,reduceCtorEq]at hg
 ·rename_i ys;have hw:=hw.vr (by simp);refine bF hw ?_;clear hw;clear hw;rintro c vs rfl _ z I;rcases hb:fa a ys with _|k
  ·rw[hb]at hg;cases hg
  rw[hb]at hg;refine dK ?_ hg;clear hg;intro hg;cases hg;cases ys with
  |nil=>
   subst I;simp only[kB,e4]at hb;subst hb;exact adl (λZ=>false) z.tuple (by simp) (PE.done (.refl R.stays) (by first|rfl|exact⟨_,rfl⟩|simp[lL,lM,lN,mh]))
  |cons y ys=>
   refine ax (I.rm (hW Y (by refine ag hb ?_;simp) (by simp)) (A:=S.A.in1) (s:=s) hb) λe U V=>?_;exact adl e z.tuple (by simpa using U) (PE.done (.refl R.stays) (by simp[lL,lM,lN,mh,<-V]))
 ·rename_i ys;refine bV hw.lst ?_;rintro c vs rfl z I;rcases hb:fa a ys with _|k
  ·rw[hb]at hg;cases hg
  rw[hb]at hg;refine dK ?_ hg;clear hg;intro hg;cases hg;cases ys with
  |nil=>
   subst I;simp only[kB,e4]at hb;subst hb;exact adu (λZ=>false) z.list (by simp) (PE.done (.refl R.stays) (by first|rfl|exact⟨_,rfl⟩|simp[lL,lM,lN,mh]))
  |cons y ys=>
   refine ax (I.rm (hW Y (by refine ag hb ?_;simp) (by simp)) (A:=S.A.in1) (s:=s) hb) λe U V=>?_;exact adu e z.list (by simpa using U) (PE.done (.refl R.stays) (by simp[lL,lM,lN,mh,<-V]))
noncomputable def qx:AV->Option String
 | .aa _=>some "bytes"
 | .lst _=>some "list"
 | .tup _=>some "tuple"
 |_=>none
theorem VH.typ{v:cz}(z:VH W s.heap F a v)(I:qx a=some T):s.TypeIs v T:=by
 cases a with
 |aa l=>obtain rfl:=gq I;refine au (z.dB rfl) ?_;clear z;rintro t rfl;rfl
 |tup l=>obtain rfl:=gq I;refine bF (z.vr (by simp)) ?_;clear z;rintro c vs rfl _ V _;rcases V with⟨n,sl,U⟩;exact⟨_,U,rfl⟩
 |lst l=>obtain rfl:=gq I;refine bV z.lst ?_;rintro c vs rfl Y _;rcases Y with⟨n,sl,U⟩;exact⟨_,U,rfl⟩
 |_=>exact aZ I
noncomputable def idx(n:Nat)(i:Int):Option Nat:=if 0<=i then(if i<n then some i.toNat else none)else(if-(n:Int)<=i then some (i+n).toNat else none)
theorem Au{i:Int}(h:idx n i=some k):k<n:=by
 unfold idx at h;split at h<;>split at h<;>simp at h<;>subst h<;>first|exact EC ‹_› ‹_›|exact MY ‹_› ‹_›
def fH:AV->AV->Rs AV
 | .aa b,.int i=>if c9 b.length then(idx b.length i).map λk=>.ok (.int (b.getD k 0).toNat)else none
 | .lst xs,.int i=>if c9 xs.length then(idx xs.length i).map λk=>.ok (xs.getD k .none)else none
 | .tup xs,.int i=>if c9 xs.length then(idx xs.length i).map λk=>.ok (xs.getD k .none)else none
 |_,_=>none
theorem bL.getD:∀{xs:List AV}{vs:List cz}{k:Nat},bL h F xs vs->k<xs.length->∃v,vs[k]? =some v/\VR h F (xs.getD k .none) v
 |[],vs,k,r,hk=>by simp at hk
 |x::xs,vs,0,r,hk=>by refine bV r ?_;clear r;rintro v ws rfl z I;exact⟨v,by simp,by simpa using z⟩
 |x::xs,vs,k+1,r,hk=>by
  refine bV r ?_;clear r;rintro v ws rfl z I;exact ax (bL.getD (k:=k) I (by simpa using hk)) λw h1 h2=>⟨w,by simpa using h1,by simpa using h2⟩
theorem xb{i:Int}(h:idx n i=some k):seqIndex? i n=some k/\k<n/\-(n:Int)<=i/\i<n:=by
 unfold idx at h;by_cases h0:0<=i
 ·rw[if_pos h0]at h;refine aX (iE h) λh1 h=>?_;revert h;refine bc λe=>?_;subst e;exact⟨by simp[seqIndex?,show¬i<0 by exact Int.not_lt.mpr ‹_›,h0,h1],EC h0 h1,by lia,h1⟩
 ·rw[if_neg h0]at h;refine aX (iE h) λh1 h=>?_;revert h;refine bc λe=>?_;subst e;exact⟨by simp[seqIndex?,show i<0 by lia,show 0<=i+(n:Int) by lia,show i+(n:Int)<n by lia],MY h0 h1,h1,by lia⟩
theorem Av{o:Option α}{f:α->β}{r:β}(h:o.map f=some r):∃a,o=some a/\f a=r:=by
 cases o with
 |none=>exact(nomatch h)
 |some a=>exact⟨a,rfl,gq h⟩
theorem Jt:jQ W q fn getItem fH:=.mk λS F M cur J r s a b v w hS R hv hw hg=>by
 cases a with
 |aa l=>
  cases b with
  |int i=>
   refine aX (iE hg) λI hg=>ax (Av hg) ?_;rintro k z rfl;refine au (hv.dB rfl) ?_;rintro u rfl;refine au (hw.dB rfl) ?_;rintro u' rfl;refine jJ (xb z) λe h1 h2 h3=>?_;have zS:l.length<=1099511627776:=by simpa[c9]using I
   refine getItem_gives (typeIs_bytes s _ u) (by decide) abG acQ (acD _ _) (gives_bytes_getitem _ i u u' (l.getD k 0) ?_ ?_) (PE.done (.toks R.stays) (⟨_,rfl⟩))
   ·simp only[Bytes.fitsIndex,v3,decide_eq_true_eq];lia
   ·refine ag (show seqIndex? i l.toArray.size=some k from e) ?_;simp[h1]
  |_=>exact aZ hg
 |tup xs=>
  cases b with
  |int i=>
   refine aX (iE hg) λI hg=>ax (Av hg) ?_;rintro k z rfl;refine au (hw.dB rfl) ?_;rintro u' rfl;refine bF (hv.vr (by simp)) ?_;rintro c vs rfl _ V U;refine ax (U.getD (Au z)) λx Y Z=>jJ (xb z) λe h1 h2 h3=>?_;have hlen:=U.length;have zS:xs.length<=1099511627776:=by simpa[c9]using I
   exact PyProof.Rows.getItem_tuple (j:=k) V.tuple (by lia) (by lia) (by refine ag KG (ag hlen ?_);exact e) (by simpa using Y) (PE.done (.refl R.stays) Z)
  |_=>exact aZ hg
 |lst xs=>
  cases b with
  |int i=>
   refine aX (iE hg) λI hg=>ax (Av hg) ?_;rintro k z rfl;refine au (hw.dB rfl) ?_;rintro u' rfl;refine bV hv.lst ?_;rintro c vs rfl V U;refine ax (U.getD (Au z)) λx Y Z=>?_;have hlen:=U.length;have zS:xs.length<=1099511627776:=by simpa[c9]using I
   unfold idx at z;by_cases h0:0<=i
   ·rw[if_pos h0]at z;refine aX (iE z) λh2 z=>?_;revert z;refine bc λe=>?_;subst e;exact wpAny_getItem_list V.list h0 (by lia) (by simpa using Y) (PE.done (.refl R.stays) Z)
   ·rw[if_neg h0]at z;refine aX (iE z) λh2 z=>?_;revert z;refine bc λe=>?_;subst e;exact wpAny_getItem_list_neg V.list (by lia) (by simp[hlen];assumption) (by lia) (by simpa[hlen]using Y) (PE.done (.refl R.stays) Z)
  |_=>exact aZ hg
 |_=>exact aZ hg
def Aw:String->Prop:=λT=>∃id,typeLookup (.type T) "__getitem__"=pure (some (.builtin id))
theorem sY(h:qx a=some T):Aw T:=by
 cases a with
 |aa l=>obtain rfl:=gq h;exact⟨_,abG.lookup⟩
 |tup l=>obtain rfl:=gq h;exact⟨_,F.slot_tuple_getitem.lookup⟩
 |lst l=>obtain rfl:=gq h;exact⟨_,slot_list_getitem.lookup⟩
 |_=>exact aZ h
theorem nP{z:u_}{o i:cz}(U:s.TypeIs o T)(I:Aw T)(hs:∀o i,subscripted z false o i=operate [o,i] (getItem o i)\/subscripted z false o i=operate [i,o] (getItem o i))(h:wpAny (model W.prog W.w) A (getItem o i) Q E s):wpAny (model W.prog W.w) A (do let r<-subscripted z (<-getitemInPython o) o i;letTemporaryGo value o r;pure r) Q E s:=by
 refine au I ?_;intro id I;refine az (ag (getitemInPython_of_ne U.not_modules) (az (abg U I ?_)));have fin:wpAny (model W.prog W.w) A (subscripted z false o i) (λr aK=>wpAny (model W.prog W.w) A (letTemporaryGo value o r>>=λZ=>pure r) Q E aK) E s:=by
  refine g' (hs o i) (λe=>?_) λe=>?_<;>refine ag e ?_<;>
   exact wpAny_operating (fm h (λr aK V=>az (wpAny_letTemporaryGo (en V))) λZ Z x=>x)
 exact en (az fin)
noncomputable def kH:u_->Bool
 | .Slice .. =>false
 |_=>true
theorem qy{z:u_}(h:kH z=true)(o i:cz):subscripted z false o i=operate [o,i] (getItem o i)\/subscripted z false o i=operate [i,o] (getItem o i):=by
 cases z<;>first|exact .inl rfl|exact ng h
theorem Ax{b:AV}(h:fH a b=some r):∃T,qx a=some T:=by
 cases a with
 |aa l=>exact⟨_,rfl⟩
 |tup l=>exact⟨_,rfl⟩
 |lst l=>exact⟨_,rfl⟩
 |_=>exact aZ h
theorem Nb{z:u_}(hf:cw W q fn value f)(hg:cw W q fn z g)(hp:kH z=true):aL W q fn (.Subscript value z pos) (λJ=>bindR (f J) λa=>bindR (g J) λb=>fH a b):=.mk λS F M cur J r s I R hr=>by
 rw[ac9];refine az (gM hr (hf.run S F M cur J · s I R) λa h2 v aB af T G hv=>?_);have V:=R.move I T G;refine PX.raise T (az (n4 ?_));refine gM h2 (hg.run S aB M cur J · af I V) λb h4 w aQ s₂ U Y hw=>?_;have aM:=V.move I U Y;have dO:=V.vh I U Y hv;refine au (Ax h4) λTy hT=>az (IW (nP (dO.typ hT) (sY hT) (qy hp) ?_));exact PX.raise U (fm (Jt.run S aQ M cur J r s₂ a b v w I aM dO hw h4) (λZ Z x=>(x.lift U Y).lift T G) λZ Z x=>x)
structure sZ(W:Wd)(q:Bool)(fn:ek)(e:Option u_)(f:St->Rs AV):Prop where
 run:∀S F M cur J r s,S.Ok W fn q->Rel W S fn F M cur J s->f J=some r->
 wpAny (model W.prog W.w) S.A (evalPart e S.env) (PE W F s r) (PX W S s r) s
theorem bx:sZ W q fn none (λZ=>aA .none):=.mk λS F M cur J r s I R z=>by
 cases z;rw[evalPart_none];exact en (PE.done (.refl R.stays) (rfl))
theorem ba{e:u_}(h:aL W q fn e f):sZ W q fn (some e) f:=.mk λS F M cur J r s z R I=>by
 rw[evalPart_some];exact h.run S F M cur J r s z R I
noncomputable def i7:AV->Option (Option Int)
 | .none=>some none
 | .int i=>some (some i)
 |_=>none
theorem part_of{v:cz}{k:Option Int}(z:VR h F a v)(I:i7 a=some k):IsPart v k:=by
 cases a with
 |none=>obtain rfl:=gq I;obtain rfl:v= .none:=z;exact .none
 |int i=>obtain rfl:=gq I;refine au z ?_;clear z;rintro t rfl;exact .int _ _
 |_=>exact aZ I
noncomputable def dC{α:Type}(xs:List α)(lo z:Option Int):List α:=(xs.drop (lo.elim 0 (clipAt xs.length))).take (z.elim xs.length (clipAt xs.length)-lo.elim 0 (clipAt xs.length))
theorem bL.drop:∀{xs:List AV}{vs:List cz}(n:Nat),bL h F xs vs->bL h F (xs.drop n) (vs.drop n)
 |xs,vs,0,r=>by simpa using r
 |[],vs,n+1,r=>by subst r;simp[zQ]
 |x::xs,vs,n+1,r=>by refine bV r ?_;clear r;rintro v ws rfl _ r;simpa using bL.drop n r
theorem bL.take:∀{xs:List AV}{vs:List cz}(n:Nat),bL h F xs vs->bL h F (xs.take n) (vs.take n)
 |xs,vs,0,r=>by simp[zQ]
 |[],vs,n+1,r=>by subst r;simp[zQ]
 |x::xs,vs,n+1,r=>by
  refine bV r ?_;clear r;rintro v ws rfl z r;simp only[ab2,yo];exact⟨v,_,rfl,z,bL.take n r⟩
theorem Ay(items:Array cz)(lo z:Option Int):slicePick items lo z none=(dC items.toList lo z).toArray:=by
 unfold slicePick;rw[sliceBounds_plain];simp only[sliceRange_one,pick_run,dC,Array.length_toList]
theorem yw(l u:Option u_)(p:Pos)(o i:cz):subscripted (.Slice l u none p) false o i=operate [o,i] (getItem o i)\/subscripted (.Slice l u none p) false o i=operate [i,o] (getItem o i):=.inr rfl
theorem nR{l u:Option u_}{p:Pos}{f g h:St->Rs AV}(hf:cw W q fn value f)(hg:sZ W q fn l g)(hh:sZ W q fn u h){F:fF->Prop}{s:ea}{r:Except cz α}{k:AV->AV->AV->Rs α}{Q:cz->ea->Prop}(z:S.Ok W fn q)(R:Rel W S fn F M cur J s)(hr:bindR (f J) (λa=>bindR (g J) λb=>bindR (h J) λc=>k a b c)=some r)(hk:∀a b c v aB af sl vl vu,k a b c=some r->Step W s af->bP s af F aB->VH W af.heap aB a v->VR af.heap aB b vl->VR af.heap aB c vu->af.heap.IsSliceOf sl vl vu .none->(∃T,qx a=some T)/\wpAny (model W.prog W.w) S.A (getItem v (.ref sl)) Q (PX W S s r) af):wpAny (model W.prog W.w) S.A (eval (.Subscript value (.Slice l u none p) pos) S.env) Q (PX W S s r) s:=by
 rw[ac9];refine az (gM hr (hf.run S F M cur J · s z R) λa h2 v aB af T G hv=>?_);have aI:=R.move z T G;refine az (n4 (wpAny_Slice (PX.raise T ?_)));refine gM h2 (hg.run S aB M cur J · af z aI) λb h4 w aQ s₂ I a_ hw=>?_;have Y:=aI.move z I a_;refine PX.raise (T.trans I) (gM h4 (hh.run S aQ M cur J · s₂ z Y) λc h6 x cx aK U Z hx=>?_);rw[evalPart_none];refine en ?_;have V:Step W aK {aK with heap:=aK.heap.push {cls:=.type "slice",data:=.fields #[w,x,.none]}}:=.push U.stays;have pQ:bP aK {aK with heap:=aK.heap.push {cls:=.type "slice",data:=.fields #[w,x,.none]}} cx cx:=.refl _ _ _;have T':=((T.trans I).trans U).trans V;have G':=((G.trans T.size I.size a_).trans (T.trans I).size U.size Z).trans ((T.trans I).trans U).size V.size pQ;have cG:=Y.move z U Z;have xc:=cG.vh z V pQ (Y.vh z U Z (aI.vh z I a_ hv));refine aX (hk a b c v cx _ aK.heap.objs.size w x h6 T' G' xc
  (cG.vr z V pQ (Y.vr z U Z hw)) (cG.vr z V pQ hx) (Heap.IsSliceOf.new _ _ _ _)) λy0 W7=>?_;refine au y0 λTy hT=>?_
 refine az (IW (nP (xc.typ (s:={aK with heap:=aK.heap.push {cls:=.type "slice",data:=.fields #[w,x,.none]}}) hT) (sY hT) (yw l u p) W7))
noncomputable def xd{β:Type}(x:AV)(k:List UInt8->Option β):Option β:=match x with
 | .aa xs=>k xs
 |_=>none
theorem xd.el{x:AV}{k:List UInt8->Option β}{r:β}(h:xd x k=some r)(K:∀xs,x= .aa xs->k xs=some r->G):G:=by
 cases x<;>first|exact K _ rfl h|exact aZ h
theorem nk{x:Option α}{k:α->Option β}{r:β}(h:x.bind k=some r)(K:∀a,x=some a->k a=some r->G):G:=by
 cases x with
 |none=>exact aZ h
 |some a=>exact K a rfl h
def Ju(x b c:AV):Rs AV:=xd x λxs=>(i7 b).bind λlo=>(i7 c).bind λz=>if cq xs.length then aA (.aa (dC xs lo z))else none
theorem cX{l u:Option u_}{p:Pos}{f g h:St->Rs AV}(V:cw W q fn value f)(hg:sZ W q fn l g)(Y:sZ W q fn u h):aL W q fn (.Subscript value (.Slice l u none p) pos) (λJ=>bindR (f J) λa=>bindR (g J) λb=>bindR (h J) λc=>Ju a b c):=.mk λS F M cur J r s Z R U=>by
 refine nR V hg Y Z R U λa b c v aB af sl vl vu z T G I hl hu iY=>xd.el z λxs hx z=>?_;clear U z;subst hx;refine nk z λlo hb z=>nk z λhi hc z=>?_
 ·by_cases hz:cq xs.length
  ·rw[if_pos hz]at z;cases z;refine⟨⟨_,rfl⟩,?_⟩;have I:=I.dB rfl;refine au I ?_;clear I;clear I;rintro t rfl;refine getItem_meets (typeIs_bytes _ _ _) (by decide) abG acQ (acD _ _) (KBc.meets_slice2 _ t sl (part_of hl hb) (part_of hu hc)) ⟨iY,?_,λt' k=>?_⟩
   ·exact bU (KBc.size_picked_le _ _ _) (by simpa using cF hz)
   ·refine⟨.aa (dC xs lo hi),aB,rfl,T.trans (.toks T.stays),⟨G.1,G.2⟩,?_⟩;exact⟨t',by rw[KBc.picked_eq];simp[dC]⟩
  ·rw[if_neg hz]at z;exact aZ z
noncomputable def kI{β:Type}(x:AV)(k:List AV->Option β):Option β:=match x with
 | .lst xs=>k xs
 |_=>none
theorem kI.el{x:AV}{k:List AV->Option β}{r:β}(h:kI x k=some r)(K:∀xs,x= .lst xs->k xs=some r->G):G:=by
 cases x<;>first|exact K _ rfl h|exact aZ h
noncomputable def Me{β:Type}(x:AV)(d:β)(k:List AV->β):β:=match x with
 | .lst xs=>k xs
 |_=>d
theorem Me.el{x:AV}{d:β}{k:List AV->β}{r:β}(h:Me x d k=r)(K:∀xs,x= .lst xs->k xs=r->G)(D:d=r->G):G:=by
 cases x<;>first|exact K _ rfl h|exact D h
def uY(x b c:AV):Rs (List AV):=kI x λxs=>(i7 b).bind λlo=>(i7 c).bind λz=>if cq xs.length then aA (dC xs lo z)else none
theorem rn{l u:Option u_}{p:Pos}{f g h:St->Rs AV}(hf:cw W q fn value f)(hg:sZ W q fn l g)(hh:sZ W q fn u h):jK W q fn (.Subscript value (.Slice l u none p) pos) (λJ=>bindR (f J) λa=>bindR (g J) λb=>bindR (h J) λc=>uY a b c):=.mk λS F M cur J r s V R I=>by
 refine nR hf hg hh V R I λa b c v aB af sl vl vu z T G Y hl hu iY=>kI.el z λxs hx z=>?_;clear I z;subst hx;refine nk z λlo hb z=>nk z λU hc z=>?_
 ·by_cases hz:cq xs.length
  ·rw[if_pos hz]at z;cases z;refine⟨⟨_,rfl⟩,?_⟩;refine bV Y.lst ?_;clear Y;rintro d vs rfl ht I;have hlen:=I.length;refine wpAny_getItem_list_slice ht.list iY (part_of hl hb) (part_of hu hc) .none (by decide) ?_ (by simpa[hlen]using cF hz);rw[Ay];have hn:¬aB af.heap.objs.size:=λh=>f3 _ ((R.move V T G).bound V h).1;refine⟨dC xs lo U,aB,_,dC vs lo U,rfl,T.trans (.push T.stays),⟨G.1,λb hb=>(G.2 b hb).imp id λh=>⟨h.1,ZP h.2 (by rw[rW];exact rv _)⟩⟩,rfl,T.size,hn,
    ⟨0,#[],w' _ rfl⟩,?_⟩
   have:bL af.heap aB (dC xs lo U) (dC vs lo U):=by
    unfold dC;exact ag hlen ((I.drop _).take _)
   exact this.mono (λa Z o ho=>⟨o.slots,ml _ ho⟩) λb hb=>hb
  ·rw[if_neg hz]at z;exact aZ z
theorem Jv{x:Str}{a:AV}{v:cz}(I:fn.scope.names.lookup x=some .globalImplicit)(U:W.mg x=some v)(V:∀h F,VR h F a v)(hd:(x==("__debug__":Str))=false):aL W q fn (.Name x pos) (λZ=>aA a):=.mk λS F M cur J r s z R Y=>by
 cases Y;refine acb (by refine ag z.scope ?_;exact z.kind) (by show S.env.scope.names.lookup x=_;refine ag z.scope ?_;exact I) ?_ hd;refine az (abP (by refine ag z.glob ?_;exact z.hg.keeps R.stays) ?_);exact ag U (en (PE.done (.refl R.stays) (V _ _)))
theorem yx{x:Str}{a:AV}{v:cz}(I:fn.scope.names.lookup x=some .globalImplicit)(hg:W.mg x=none)(U:W.mb x=some v)(V:∀h F,VR h F a v)(hd:(x==("__debug__":Str))=false):aL W q fn (.Name x pos) (λZ=>aA a):=.mk λS F M cur J r s z R Y=>by
 cases Y;refine acb (by refine ag z.scope ?_;exact z.kind) (by show S.env.scope.names.lookup x=_;refine ag z.scope ?_;exact I) ?_ hd;refine az (abP (by refine ag z.glob ?_;exact z.hg.keeps R.stays) ?_);refine ag hg (az (abP (by refine ag z.bi ?_;exact z.hb.keeps R.stays) ?_));exact ag U (en (PE.done (.refl R.stays) (V _ _)))
def mq(W:Wd)(h:ZN)(F:fF->Prop):List AV->List cz->Prop
 |[],vs=>vs=[]
 |x::xs,vs=>∃v ws,vs=v::ws/\VH W h F x v/\mq W h F xs ws
theorem Nc:mq W h F [] vs=(vs=[]):=rfl
theorem Vz:mq W h F (x::xs) vs=∃v ws,vs=v::ws/\VH W h F x v/\mq W h F xs ws:=rfl
abbrev PA(W:Wd)(F:fF->Prop)(s:ea)(r:Except cz (List AV))(vs:List cz)(s':ea):Prop:=PG (mq W) W F s r vs s'
structure gx(W:Wd)(q:Bool)(fn:ek)(es:List u_)(f:St->Rs (List AV)):Prop where
 run:∀S F M cur J r s pos,S.Ok W fn q->Rel W S fn F M cur J s->f J=some r->
 wpAny (model W.prog W.w) S.A (spliced (backTo pos (starEach es S.env))) (PA W F s r) (PX W S s r) s
theorem ay:gx W q fn [] (λZ=>aA []):=.mk λS F M cur J r s pos I R z=>by
 cases z;exact ac0 ⟨[],F,rfl,.refl R.stays,.refl _ _ _,rfl⟩
theorem Az{e:u_}{es:List u_}{f:St->Rs AV}{g:St->Rs (List AV)}(h:cw W q fn e f)(hs:gx W q fn es g)(Y:∀env,starEach (e::es) env=(false,eval e env)::starEach es env):gx W q fn (e::es) (λJ=>bindR (f J) λa=>bindR (g J) λas=>aA (a::as)):=.mk λS F M cur J r s pos z R U=>by
 refine acA ?_ (Y _);refine gM U (h.run S F M cur J · s z R) λa h2 v aB af T G Z=>PX.raise T (gM h2 (hs.run S aB M cur J · af pos z (R.move z T G)) λas h4 vs aQ s₂ I V hr=>?_);clear U h2;cases h4;exact⟨_,aQ,rfl,T.trans I,G.trans T.size I.size V,v,vs,rfl,(R.move z T G).vh z I V Z,hr⟩
noncomputable def a7:List u_->Bool
 |[]=>true
 | .Starred .. ::_=>false
 |_::es=>a7 es
theorem plain_any:∀(es:List u_)(env:Env)(pos:Pos),a7 es=true->(backTo pos (starEach es env)).any (·.1)=false:=by
 intro es
 induction es with
 |nil=>
  intro _ _ _;exact rfl
 |cons e es IH=>
  intro env pos h;cases e<;>first|exact IH env pos h|exact ng h
theorem bM{es:List u_}(z:a7 es=true){M:SW}{f:cz}{Q:Args->ea->Prop}(h:wpAny M A (spliced (backTo pos (starEach es env))) (λvs s'=>Q ⟨vs,[]⟩ s') E s):wpAny M A (evalArgs f true (backTo pos (starEach es env)) []) Q E s:=by
 cases es with
 |nil=>
  refine az (fm h (λvs s' h'=>?_) λZ Z x=>x);refine az (en ?_);exact n4 (az (en (az (en (en h')))))
 |cons e es=>
  cases e<;>first|exact Calls.evalArgs_plain h|exact ng z
structure dD(W:Wd)(q:Bool)(fn:ek)(id:String)(h:List AV->Rs AV):Prop where
 run:∀S F M cur J r s xs vs,S.Ok W fn q->Rel W S fn F M cur J s->mq W s.heap F xs vs->h xs=some r->
 wpAny (model W.prog W.w) S.A (call (.builtin id) vs []) (PE W F s r) (PX W S s r) s
structure nq(W:Wd)(q:Bool)(fn:ek)(id:String)(h:List AV->Rs (List AV)):Prop where
 run:∀S F M cur J r s xs vs,S.Ok W fn q->Rel W S fn F M cur J s->mq W s.heap F xs vs->h xs=some r->
 wpAny (model W.prog W.w) S.A (call (.builtin id) vs []) (PN W F s r) (PX W S s r) s
theorem ES{x:Str}{es:List u_}{id:String}{g:St->Rs (List AV)}{h:List AV->Rs AV}(hn:aL W q fn (.Name x np) (λZ=>aA (.bi id)))(hg:gx W q fn es g)(U:a7 es=true)(hc:dD W q fn id h):aL W q fn (.Call (.Name x np) es [] pos) (λJ=>bindR (g J) h):=.mk λS F M cur J r s z R hr=>by
 refine ZY (iX (hn.run S F M cur J _ s z R rfl) rd λa v aB af ha T G hv=>?_);cases ha;subst hv;have V:=R.move z T G;refine acR (plain_any es S.env pos U) (bM U (PX.raise T ?_));exact gM hr (hg.run S aB M cur J · af pos z V) λxs h2 vs aQ s₂ I Y gA=>PX.raise (T.trans I) (fm (hc.run S aQ M cur J r s₂ xs vs z (V.move z I Y) gA h2) (λZ Z x=>(x.lift I Y).lift T G) λZ Z x=>x)
structure MethAt(T:String)(name:Str)(id:String):Prop where
 pa:PlainAttrs T
 slot:Slot T name id
 ty:typeOf (.builtin id)=pure (.type "method_descriptor")
theorem VH.noDict{F:fF->Prop}{a:AV}{v:cz}{T:String}(z:VH W s.heap F a v)(U:qx a=some T):∀b,v= .ref b->∃ob,s.heap.get? b=some ob/\ob.dict=none:=by
 intro b hb;subst hb;cases a with
 |aa l=>refine au (z.dB rfl) λt h=>?_;exact(nomatch h)
 |tup l=>refine bF (z.vr (by simp)) λc vs h Z V Z=>?_;rcases V with⟨n,sl,I⟩;cases h;exact⟨_,I,rfl⟩
 |lst l=>refine bV z.lst λc vs h Y Z=>?_;rcases Y with⟨n,sl,I⟩;cases h;exact⟨_,I,rfl⟩
 |_=>exact aZ U
theorem i8{es:List u_}(z:a7 es=true)(I:es.length<30)(env:Env)(pos:Pos):((backTo pos (starEach es env)).all (λx=> !x.1)&&(backToKw pos (keywordEach [] env)).all (λx=>x.1.isSome)&&decide (es.length+([]:List Keyword).length+(if([]:List Keyword).isEmpty then 0 else 1)<30))=true:=by
 have h1:=plain_any es env pos z;have h2:(backTo pos (starEach es env)).all (λx=> !x.1)=true:=by
  rw[Y'];intro x U;have:=abx.mp h1 x U
  simpa using this
 exact ag h2 (decide_eq_true I)
def mr{α:Type}(T:String)(x:Rs AV)(y:Rs (List AV))(h:List AV->Rs α):Rs α:=bindR x λa=>if qx a=some T then bindR y λxs=>h (a::xs)else none
theorem qz{o:u_}{es:List u_}{T id:String}{f:St->Rs AV}{g:St->Rs (List AV)}{h:List AV->Rs α}(hf:cw W q fn o f)(hg:gx W q fn es g)(I:a7 es=true)(hl:es.length<30)(dP:∀env,attributeBase o name env (eval o env)=eval o env)(fb:(apos.endLine==pos.line)=true)(U:MethAt T name id){F:fF->Prop}{r:Except cz α}{Q:cz->ea->Prop}(z:S.Ok W fn q)(R:Rel W S fn F M cur J s)(hr:mr T (f J) (g J) h=some r)(hk:∀xs vs aB af,h xs=some r->Step W s af->bP s af F aB->mq W af.heap aB xs vs->wpAny (model W.prog W.w) S.A (call (.builtin id) vs []) Q (PX W S s r) af):wpAny (model W.prog W.w) S.A (eval (.Call (.Attribute o name apos) es [] pos) S.env) Q (PX W S s r) s:=by
 refine wpAny_Call_method (dP _) (i8 I hl _ _) fb U.pa U.slot U.ty (gM hr (hf.run S F M cur J · s z R) λa h2 v aB af T G V=>?_);have Z:=R.move z T G;split at h2
 case isFalse=>exact aZ h2
 rename_i VA;refine⟨V.typ VA,V.noDict VA,?_⟩;refine acR (plain_any es S.env pos I) (bM I (PX.raise T ?_));exact gM h2 (hg.run S aB M cur J · af pos z Z) λxs h4 vs aQ s₂ Y a_ gA=>hk (a::xs) (v::vs) aQ s₂ h4 (T.trans Y) (G.trans T.size Y.size a_) ⟨v,vs,rfl,Z.vh z Y a_ V,gA⟩
theorem Jw{o:u_}{es:List u_}{T id:String}{f:St->Rs AV}{g:St->Rs (List AV)}{h:List AV->Rs AV}(I:cw W q fn o f)(hg:gx W q fn es g)(U:a7 es=true)(V:es.length<30)(Y:∀env,attributeBase o name env (eval o env)=eval o env)(fb:(apos.endLine==pos.line)=true)(hm:MethAt T name id)(hc:dD W q fn id h):aL W q fn (.Call (.Attribute o name apos) es [] pos) (λJ=>mr T (f J) (g J) h):=.mk λS F M cur J r s z R hr=>
 qz I hg U V Y fb hm z R hr λxs vs aB af hh T G hv=>
  PX.raise T (fm (hc.run S aB M cur J r af xs vs z (R.move z T G) hv hh) (λZ Z x=>x.lift T G) λZ Z x=>x)|>λw=>fm w (λZ Z x=>x) λZ Z x=>x
theorem ET{o:u_}{es:List u_}{T id:String}{f:St->Rs AV}{g:St->Rs (List AV)}{h:List AV->Rs (List AV)}(I:cw W q fn o f)(hg:gx W q fn es g)(U:a7 es=true)(V:es.length<30)(Y:∀env,attributeBase o name env (eval o env)=eval o env)(fb:(apos.endLine==pos.line)=true)(hm:MethAt T name id)(hc:nq W q fn id h):jK W q fn (.Call (.Attribute o name apos) es [] pos) (λJ=>mr T (f J) (g J) h):=.mk λS F M cur J r s z R hr=>
 qz I hg U V Y fb hm z R hr λxs vs aB af hh T G hv=>
  PX.raise T (fm (hc.run S aB M cur J r af xs vs z (R.move z T G) hv hh) (λZ Z x=>x.lift T G) λZ Z x=>x)
set_option genInjectivity true in
inductive Ou where
 |next (J:St)
 |brk (J:St)
 |cont (J:St)
 |ret (a:AV)
 |ex (c:cz) (J:St)
structure fI(W:Wd)(F M F' M':fF->Prop)(s s':ea):Prop where
 keep:ew (λb=>W.loose b\/M b) s.heap s'.heap
 size:aJ s<=aJ s'
 grow:∀a,M' a->M a\/aJ s<=a
 more:∀a,F a->F' a
 fE:∀a,F' a->F a\/M a\/aJ s<=a
 gens:GenStep s.gens s'.gens
theorem fI.refl{F:fF->Prop}:fI W F M F M s s:=⟨.refl _ _,t_ _,λZ h=>.inl h,λZ h=>h,λZ h=>.inl h,.refl _⟩
theorem fI.trans{F I U:fF->Prop}{a b c:ea}(x:fI W F M F' M' a b)(y:fI W F' M' I U b c):fI W F M I U a c:=by
 refine⟨λp o z e=>?_,bU x.size y.size,λp z=>(y.grow p z).elim (x.grow p) λh=>.inr (bU x.size h),λp h=>y.more p (x.more p h),λp h=>?_,x.gens.trans y.gens⟩
 ·exact au (x.keep p o z e) λsl h1=>au (y.keep p _ (λh=>h.elim (λh=>z (.inl h)) λh=>(x.grow p h).elim (λh=>z (.inr h)) λh=>f3 _ (bk (ye e) h)) h1) λV h2=>⟨V,h2⟩
 ·rcases y.fE p h with h|h|h
  ·exact x.fE p h
  ·refine g' (x.grow p h) (λh=>?_) λh=>?_
   ·exact .inr (.inl h)
   ·exact .inr (.inr h)
  ·exact .inr (.inr (bU x.size h))
theorem Step.fY{F:fF->Prop}(T:Step W s s')(G:bP s s' F F'):fI W F M F' M s s':=
 ⟨T.slots.mono λZ h=>.inl h,T.size,λZ h=>.inl h,G.1,λa h=>(G.2 a h).imp id λh=>.inr h.1,T.gens⟩
inductive PS(W:Wd)(S:cj)(fn:ek)(F M:fF->Prop)(s:ea)(r:Ou)(fl:Flow)(s':ea):Prop
 |mk (F' M':fF->Prop) (aC:Str->Option cz) (ak:St) (h1:Rel W S fn F' M' aC ak s') (h2:fI W F M F' M' s s') (h3:match fl with
  | .next=>r= .next ak
  | .brk=>r= .brk ak
  | .cont=>r= .cont ak
  | .ret v=>∃a,r= .ret a/\VR s'.heap F' a v):PS W S fn F M s r fl s'
theorem PS.el{F:fF->Prop}{r:Ou}{fl:Flow}(z:∀(F' M':fF->Prop)(aC:Str->Option cz)(ak:St)(h1:Rel W S fn F' M' aC ak s')(h2:fI W F M F' M' s s')(h3:match fl with| .next=>r= .next ak| .brk=>r= .brk ak| .cont=>r= .cont ak| .ret v=>∃a,r= .ret a/\VR s'.heap F' a v),G)(I:PS W S fn F M s r fl s'):G:=PS.rec (motive:=λZ=>G) z I
inductive i9(W:Wd)(S:cj)(fn:ek)(F M:fF->Prop)(s:ea)(r:Ou)(x:cz)(s':ea):Prop|mk (cls:cz) (e:fF) (n:Nat) (ak:St) (F' M':fF->Prop) (aC:Str->Option cz):r= .ex cls ak->x= .ref e->Rel W S fn F' M' aC ak s'->fI W F M F' M' s s'->(aJ s<=n/\aJ S.s₀<=n)->n<=aJ s'->(∀a,F' a\/M' a->a<n)->qm W (S.fe::S.outer) S.L n e cls s'.heap->i9 W S fn F M s r x s'
theorem i9.el{F:fF->Prop}{r:Ou}{x:cz}(z:i9 W S fn F M s r x s')(I:∀(cls:cz)(e:fF)(n:Nat)(ak:St)(F' M':fF->Prop)(aC:Str->Option cz),r= .ex cls ak->x= .ref e->Rel W S fn F' M' aC ak s'->fI W F M F' M' s s'->(aJ s<=n/\aJ S.s₀<=n)->n<=aJ s'->(∀a,F' a\/M' a->a<n)->qm W (S.fe::S.outer) S.L n e cls s'.heap->G):G:=i9.rec (motive:=λZ=>G) I z
theorem sJ{z:cz}:∀c,(Except.error z:Except cz α)= .error c->Ou.ex z J= .ex c J:=λZ h=>by cases h;rfl
structure aR(W:Wd)(q:Bool)(fn:ek)(st:aaa)(f:St->Option Ou):Prop where
 run:∀S F M cur J r s,S.Ok W fn q->Rel W S fn F M cur J s->f J=some r->
 wpAny (model W.prog W.w) S.A (exec st S.env) (PS W S fn F M s r) (i9 W S fn F M s r) s
structure c5(W:Wd)(q:Bool)(fn:ek)(st:List aaa)(f:St->Option Ou):Prop where
 run:∀S F M cur J r s,S.Ok W fn q->Rel W S fn F M cur J s->f J=some r->
 wpAny (model W.prog W.w) S.A (execs st S.env) (PS W S fn F M s r) (i9 W S fn F M s r) s
noncomputable def aU{α:Type}(x:Rs α)(J:St)(k:α->Option Ou):Option Ou:=
 match x with
 |none=>none
 |some (.error c)=>some (.ex c J)
 |some (.ok a)=>k a
theorem cg{x:Rs α}{k:α->Option Ou}{r:Ou}(h:aU x J k=some r):(∃c,x=some (.error c)/\r= .ex c J)\/∃a,x=some (.ok a)/\k a=some r:=by
 rcases x with _|(c|a)
 ·exfalso;cases h
 ·simp only[aU,e4]at h;exact .inl ⟨c,rfl,h.symm⟩
 ·exact .inr ⟨a,rfl,h⟩
noncomputable def bu(x:Option Ou)(k:St->Option Ou):Option Ou:=
 match x with
 |some (.next J)=>k J
 |r=>r
theorem PX.st{F:fF->Prop}{r:Except cz α}{z:Ou}{x:cz}(I:S.Ok W fn q)(R:Rel W S fn F M cur J s)(h:PX W S s r x s')(U:∀c,r= .error c->z= .ex c J):i9 W S fn F M s z x s':=by
 exact h.el λcls e h1 h2 T V=>⟨cls,e,aJ s,J,F,M,cur,U cls h1,h2,R.move I T (.refl _ _ _),T.fY (.refl _ _ _),⟨t_ _,R.step.size⟩,T.size,λa h=>h.elim (λh=>(R.bound I h).1) λh=>(R.mu a h).2.1,V⟩
theorem PS.lift{F aB z:fF->Prop}{r:Ou}{fl:Flow}(T:fI W F M aB z s af)(h:PS W S fn aB z af r fl s'):PS W S fn F M s r fl s':=by
 refine h.el ?_;rintro F' M' aC ak I T' h;exact⟨F',M',aC,ak,I,T.trans T',h⟩
theorem Nd{F:fF->Prop}{Rl:ZN->(fF->Prop)->α->β->Prop}{t:Sem β}{x:Rs α}{g:α->Option Ou}{r:Ou}{Q:β->ea->Prop}{N:SW}(I:S.Ok W fn q)(R:Rel W S fn F M cur J s)(z:aU x J g=some r)(h:∀r1,x=some r1->wpAny N A t (PG Rl W F s r1) (PX W S s r1) s)(k:∀a,g a=some r->∀v F' s',Step W s s'->bP s s' F F'->Rl s'.heap F' a v->Q v s'):wpAny N A t Q (i9 W S fn F M s r) s:=by
 rcases x with _|(c|a)
 ·cases z
 ·clear k;cases z;exact fm (h _ rfl) (λZ Z h=>h.no) λZ Z x=>x.st I R sJ
 ·exact fm (h _ rfl) (λv s' ⟨_,F',e,T,G,U⟩=>by cases e;exact k a z v F' s' T G U) λZ Z x=>x.st I R rd
theorem Jx{F:fF->Prop}{Rl:ZN->(fF->Prop)->α->β->Prop}{t:Sem β}{x:Rs α}{g:α->Option Ou}{r:Ou}{Q:β->ea->Prop}{N:SW}(z:∀x s',i9 W S fn F M s r x s'->E x s')(I:S.Ok W fn q)(R:Rel W S fn F M cur J s)(U:aU x J g=some r)(h:∀r1,x=some r1->wpAny N A t (PG Rl W F s r1) (PX W S s r1) s)(k:∀a,g a=some r->∀v F' s',Step W s s'->bP s s' F F'->Rl s'.heap F' a v->Q v s'):wpAny N A t Q E s:=fm (Nd I R U h k) (λZ Z h=>h) z
theorem mv(x:Rs α)(f:α->Rs β)(J:St)(k:β->Option Ou):aU (bindR x f) J k=aU x J λa=>aU (f a) J k:=by
 rcases x with _|(c|a)<;>rfl
theorem SJ{F:fF->Prop}{t:Sem Bool}{x:Rs Bool}{g:Bool->Option Ou}{r:Ou}{Q:Bool->ea->Prop}{N:SW}(I:S.Ok W fn q)(R:Rel W S fn F M cur J s)(z:aU x J g=some r)(h:∀r1,x=some r1->wpAny N A t (PT W s r1) (PX W S s r1) s)(k:∀a,g a=some r->∀s',Step W s s'->Q a s'):wpAny N A t Q (i9 W S fn F M s r) s:=by
 rcases x with _|(c|a)
 ·cases z
 ·clear k;cases z;exact fm (h _ rfl) (λZ Z h=>h.no) λZ Z x=>x.st I R sJ
 ·exact fm (h _ rfl) (λv s' ⟨e,T⟩=>by cases e;exact k a z s' T) λZ Z x=>x.st I R rd
theorem i9.lift{F aB z:fF->Prop}{r:Ou}{x:cz}(T:fI W F M aB z s af)(h:i9 W S fn aB z af r x s'):i9 W S fn F M s r x s':=by
 exact h.el λcls e n ak F' M' aC h1 h2 I T' h3 h4 h5 h6=>⟨cls,e,n,ak,F',M',aC,h1,h2,I,T.trans T',⟨bU T.size h3.1,h3.2⟩,h4,h5,h6⟩
theorem ah:c5 W q fn [] (λJ=>some (.next J)):=.mk λS F M cur J r s I R z=>by
 revert z;refine bc λe=>?_;subst e;exact abV ⟨F,M,cur,J,R,.refl,rfl⟩
theorem ae{st:aaa}{rest:List aaa}{f g:St->Option Ou}(h:aR W q fn st f)(hs:c5 W q fn rest g):c5 W q fn (st::rest) (λJ=>bu (f J) g):=.mk λS F M cur J r s Y R z=>by
 refine wpAny_execs_cons ?_;rcases I:f J with _|o
 ·simp[I,bu]at z
 refine fm (h.run S F M cur J o s Y R I) (λfl s' hp=>?_) λx s' hx=>?_
 ·refine hp.el λF' M' aC ak V T' U=>?_;clear hp;cases fl with
  |next=>
   subst U;simp only[I,bu]at z;exact fm (hs.run S F' M' aC ak r s' Y V z) (λZ Z x=>x.lift T') λZ Z x=>x.lift T'
  |brk=>subst U;simp only[I,bu,e4]at z;subst z;exact⟨F',M',aC,ak,V,T',rfl⟩
  |cont=>subst U;simp only[I,bu,e4]at z;subst z;exact⟨F',M',aC,ak,V,T',rfl⟩
  |ret v=>refine ax U ?_;clear U;rintro a rfl hv;simp only[I,bu,e4]at z;subst z;exact⟨F',M',aC,ak,V,T',a,rfl,hv⟩
 ·refine hx.el λcls e n ak F' M' aC h1 h2 h3 h4 h5 h6 h7 h8=>?_;clear hx;subst h1;simp only[I,bu,e4]at z;subst z;exact⟨cls,e,n,ak,F',M',aC,rfl,h2,h3,h4,h5,h6,h7,h8⟩
noncomputable def i_(cur:Str->Option cz)(x:Str)(v:cz):Str->Option cz:=λy=>if y=x then some v else cur y
theorem fc(J:St)(i j:Nat)(lv:LV)(z:i<J.length):(J.set i lv).getD j .un=if j=i then lv else J.getD j .un:=by
 simp only[ra,List.getElem?_set];by_cases h:i=j
 ·subst h;simp[z]
 ·simp[h,aaS h]
def nS(b:fF):LV->Option cz->Prop
 | .own _,v=>v=some (.ref b)
 | .ob ..,v=>v=some (.ref b)\/v=some (.ref (b+1))
 | .fn _,v=>v=some (.ref b)
 |_,_=>False
theorem jZ.but{N F:fF->Prop}{lv:LV}{v:Option cz}{b:fF}(I:NC b h h')(hF:¬F b)(hB:∀o,h.get? b=some o->¬iS o)(V:¬nS b lv v)(r:jZ W N h F M lv v):jZ W N h' F M lv v:=by
 have kq:Ab F h h':=λa ha o z=>⟨o.slots,(I.2 a λe=>hF (e▸ha)).trans z⟩;clear hF;cases lv with
 |un=>trivial
 |im a=>refine ax r λx e Y=>?_;clear r;exact⟨x,e,Y.mono kq λZ h=>h⟩
 |own xs=>
  refine bF r ?_;clear r;rintro a vs rfl hm y1 hr;rcases y1 with⟨n,sl,z⟩
  exact⟨a,vs,rfl,hm,⟨n,sl,(I.2 a λe=>V (by refine ag e ?_;rfl)).trans z⟩,hr.mono kq λZ h=>h⟩
 |ob C ks xs=>
  refine hJ r ?_;clear r;clear hB;rintro x d vs rfl Y hd hn z hr;have e:=z.2.2.2;refine⟨x,d,vs,rfl,Y,hd,hn,z.up (λc o U e'=>⟨o.slots,(I.2 c λq=>V ?_).trans e'⟩),hr.mono kq λZ h=>h⟩;clear I V Y hd hn z;subst q;refine g' U ?_ ?_;rotate_left;clear U;rintro rfl;rotate_right;clear U;clear e;rintro rfl
  ·exact .inl rfl
  ·exact .inr (by exact ag e rfl)
 |fn d=>
  refine ax r ?_;clear r;rintro x rfl y5;refine nG y5 ?_;clear y5;rintro a o pm cd doc rfl ha z hd y6;refine q8 y6 ?_;clear y6;rintro c oc vs t rfl U yq zR hz hv;exact⟨_,rfl,a,o,pm,.ref c,doc,rfl,ha,(I.2 a λe=>V (by refine ag e ?_;rfl)).trans z,hd,c,oc,vs,t,rfl,U,(I.2 c λe=>hB oc (e▸yq) ⟨vs,zR,hz⟩).trans yq,zR,hz,hv⟩
theorem jZ.Nf{N F:fF->Prop}{lv:LV}{v:Option cz}(z:∀a,M a->M' a)(r:jZ W N h F M lv v):jZ W N h F M' lv v:=
 r.up (λZ h=>h) z λb o e Z=>⟨o.slots,e⟩
theorem Rel.write{F:fF->Prop}{aC:Str->Option cz}{tk:Nat}{b:fF}(hS:S.Ok W fn q)(R:Rel W S fn F M cur J s)(hb:M b)(I:NC b s.heap h')(hB:∀o,s.heap.get? b=some o->¬iS o)(Y:∀a,M a->M' a)(Mf:∀a,M' a->M a\/(S.s₀.heap.objs.size<=a/\a<aJ s/\¬F a))(Jy:∃o es ep,h'.get? S.L=some o/\o.data= .dict es ep)(dG:∃m,h'.Ns S.C m/\∀y,S.env.kindOf y=some .local->m y=aC y)(lR:∀y,S.env.kindOf y=some .cell->∃c o,S.env.cells.lookup y=some c/\(M c\/(fn.inner=true/\S.Old W c))/\h'.get? c=some o/\o.data= .cell (aC y))(V:ak.length=J.length)(nT:∀i x,fn.names[i]? =some x->jZ W S.uT h' F M' (ak.getD i .un) (aC x))(s8:∀i j x y,fn.names[i]? =some x->fn.names[j]? =some y->i≠j->(ak.getD i .un).bR=true->(ak.getD j .un).bR=true->aC x≠aC y)(lJ:∀a,M' a->¬M a->∃o,s.heap.get? a=some o/\¬iS o)(uZ:∃o,h'.get? b=some o/\¬iS o):Rel W S fn F M' aC ak {s with heap:=h',toks:=tk}/\(∀x v,VR s.heap F x v->VR h' F x v):=by
 have kq:Ab F s.heap h':=λa U o ho=>⟨o.slots,(I.2 a λe=>(R.mu b hb).2.2 (e▸U)).trans ho⟩;have hz:({s with heap:=h',toks:=tk}:ea).heap.objs.size=s.heap.objs.size:=I.1;refine⟨⟨⟨?_,?_,λh=>(R.step.tab h).qj λp o z e=>(I.2 p λq=>?_).trans e,?_,R.step.os,R.step.gens⟩,⟨R.grow.1,λa U=>?_⟩,λa U=>?_,⟨R.frame.1.imp (Y _) id,Y _ R.frame.2⟩,Jy,dG,λy hy=>?_,V.trans R.len,nT,s8,λa U=>?_⟩,λx v h=>h.mono kq λZ h=>h⟩
 ·exact λp o z=>(I.2 p λe=>by rw[e,R.ql hS hb]at z;exact aZ z).trans (R.stays p o z)
 ·intro p o z e;refine au (R.step.slots p o z e) λsl h1=>⟨sl,(I.2 p λh=>?_).trans h1⟩;clear I hB uZ;subst h;exact(R.mu p hb).1.elim (λh=>f3 _ (bk (ye e) h)) λh=>z (.inr h)
 ·clear I uZ;subst q;refine g' z (λz=>?_) λz=>?_
  ·exact R.bS hS hb z
  ·exact hB o e z
 ·exact ag hz R.step.size
 ·rcases R.grow.2 a U with h|h|h
  ·exact .inl h
  ·exact .inr (.inl h)
  ·exact .inr (.inr ⟨h.1,by refine ag hz ?_;exact h.2⟩)
 ·refine ag hz (g' (Mf a U) (λh=>?_) λh=>?_)
  ·exact R.mu a h
  ·exact⟨.inl h.1,h.2⟩
 ·exact bV (lR y hy) λc o h1 h2 h3=>⟨c,o,h1,h2.imp (Y c) id,h3⟩
 ·by_cases EN:a=b
  ·exact ag EN uZ
  ·exact ax ((Classical.em (M a)).elim (λh=>R.small a h) λh=>lJ a U h) λo h1 h2=>⟨o,(I.2 a EN).trans h1,h2⟩
def gT(S:cj)(h:ZN)(b:fF):Prop:=(S.nm b/\∃o es ep,h.get? b=some o/\o.data= .dict es ep)\/∃o c,h.get? b=some o/\o.data= .cell c
theorem gT.small{b:fF}(x:gT S h b):∀o,h.get? b=some o->¬iS o:=by
 rintro o z ⟨vs,hd,_⟩
 (refine MV x ?_ λI c h1 h2=>?_;clear x;intro _ I es U h1 h2)<;>rw[z]at h1<;>(revert h1;refine bc λe=>?_;subst e)<;>rw[hd]at h2<;>(cases h2)
theorem gT.EU{F:fF->Prop}{lv:LV}{v:Option cz}{b:fF}(x:gT S h b)(r:jZ W S.uT h F M lv v):¬nS b lv v:=by
 have key:∀o,h.get? b=some o->(∃es I,o.data= .dict es I)\/∃c,o.data= .cell c:=λo z=>by
  (refine MV x ?_ λU c h1 h2=>?_;clear x;intro _ U es I h1 h2)<;>rw[z]at h1<;>(revert h1;refine bc λe=>?_;subst e)
  ·exact .inl ⟨_,_,h2⟩
  ·exact .inr ⟨_,h2⟩
 cases lv with
 |un=>exact id
 |im a=>exact id
 |own xs=>
  refine bF r ?_;clear r;rintro a vs rfl hm y6 hr;clear hm;rcases y6 with⟨n,sl,z⟩
  intro e;cases e
  (refine I9 (key _ z) (λZ Z h=>?_) λZ h=>?_)<;>(cases h)
 |ob C ks xs=>
  refine hJ r ?_;clear r;rintro y d vs rfl hx hd hn V hr;refine jJ V λY y2 Z h4=>?_;clear V;refine au Y λsl h1=>?_;clear Y;refine dh y2 λo es I h2 h3 Z=>?_;clear y2;clear hx hd;rintro(e|e)<;>(revert e;refine bc λe=>?_;cases e)
  ·(refine I9 (key _ h1) (λZ Z h=>?_) λZ h=>?_)<;>(cases h)
  ·have W8:b=d:=Z9 h4;clear h4 h1;subst W8;refine Sn x (λfK Z=>?_) λU c h5 h6=>?_
   ·exact hn (.inl fK)
   ·rw[h2]at h5;revert h5;refine bc λe=>?_;subst e;rw[h3]at h6;cases h6
 |fn d=>
  refine ax r ?_;clear r;rintro y rfl y3;refine nG y3 ?_;clear y3;rintro a o pm cd doc rfl ha z hd _;intro e;clear ha;cases e
  (refine I9 (key _ z) (λZ Z h=>?_) λZ h=>?_)<;>rw[hd]at h<;>(cases h)
theorem Rel.store{F:fF->Prop}{tk:Nat}{b:fF}{x:Str}{v:cz}{lv:LV}(hS:S.Ok W fn q)(R:Rel W S fn F M cur J s)(hi:fn.names[i]? =some x)(hb:M b)(bO:NC b s.heap h')(SK:gT S s.heap b)(Jy:∃o es ep,h'.get? S.L=some o/\o.data= .dict es ep)(dG:∃m,h'.Ns S.C m/\∀y,S.env.kindOf y=some .local->m y=i_ cur x v y)(lR:∀y,S.env.kindOf y=some .cell->∃c o,S.env.cells.lookup y=some c/\(M c\/(fn.inner=true/\S.Old W c))/\h'.get? c=some o/\o.data= .cell (i_ cur x v y))(hM:∀a,M a->M' a)(Mf:∀a,M' a->M a\/(S.s₀.heap.objs.size<=a/\a<aJ s/\¬F a))(Eh:jZ W S.uT s.heap F M' lv (some v))(hd:lv.bR=true->∀y j,fn.names[j]? =some y->j≠i->(J.getD j .un).bR=true->cur y≠some v)(lJ:∀a,M' a->¬M a->∃o,s.heap.get? a=some o/\¬iS o)(uZ:∃o,h'.get? b=some o/\¬iS o):Rel W S fn F M' (i_ cur x v) (J.set i lv) {s with heap:=h',toks:=tk}/\(∀x v,VR s.heap F x v->VR h' F x v):=by
 have I:i<J.length:=by refine ag R.len ?_;exact(gw.mp hi).1
 have Z:∀{j y},fn.names[j]? =some y->j≠i->y≠x:=λ{j y} U V e=>V (by
    clear dG lR;subst e;exact((List.getElem?_inj (gw.mp U).1 hS.nodup).mp (U.trans hi.symm)))
 have VB:∀{lv:LV}{w:Option cz},jZ W S.uT s.heap F M' lv w->jZ W S.uT h' F M' lv w:=λr=>r.but bO (R.mu b hb).2.2 SK.small (SK.EU r);refine R.write hS hb bO SK.small hM Mf Jy dG lR (by exact ag abh rfl) (λj y U=>?_) (λj k y z U hk EV h1 h2=>?_) lJ uZ
 ·refine ag (fc _ _ _ _ I) ?_;by_cases V:j=i
  ·clear hd I Z;subst V;rw[hi]at U;revert U;refine bc λe=>?_;subst e;simp only[if_true,i_];exact VB Eh
  ·simp only[V,if_false,i_,Z U V];exact VB ((R.slots j y U).Nf hM)
 ·rw[fc _ _ _ _ I]at h1 h2;by_cases V:j=i
  ·have Y:k≠i:=λe=>EV (V.trans e.symm);clear I;subst V;simp only[if_true]at h1;simp only[Y,if_false]at h2;rw[hi]at U;revert U;refine bc λe=>?_;subst e;simp only[i_,if_true,Z hk Y,if_false];exact λe=>hd h1 z k hk Y h2 e.symm
  ·simp only[V,if_false]at h1;by_cases Y:k=i
   ·subst Y;simp only[if_true]at h2;rw[hi]at hk;revert hk;refine bc λe=>?_;subst e;simp only[i_,if_true,Z U V,if_false];exact hd h2 y j U V h1
   ·simp only[Y,if_false]at h2;simp only[i_,Z U V,Z hk Y,if_false];exact R.dist j k y z U hk EV h1 h2
noncomputable def cy(i:Nat)(a:AV)(J:St):St:=J.set i (.im a)
noncomputable def fZ(i:Nat)(xs:List AV)(J:St):St:=J.set i (.own xs)
def dE(fn:ek)(i:Nat)(x:Str):Prop:=fn.names[i]? =some x/\
 (fn.scope.names.lookup x=some .local\/(fn.scope.names.lookup x=some .cell/\fn.inner=false/\∀y,fn.scope.names.lookup y=some .cell->y=x))
theorem hY{F M':fF->Prop}{x:Str}{v:cz}{lv:LV}{Q:Unit->ea->Prop}(hS:S.Ok W fn q)(R:Rel W S fn F M cur J s)(U:dE fn i x)(hM:∀a,M a->M' a)(Mf:∀a,M' a->M a\/(S.s₀.heap.objs.size<=a/\a<aJ s/\¬F a))(Eh:jZ W S.uT s.heap F M' lv (some v))(hd:lv.bR=true->∀y j,fn.names[j]? =some y->j≠i->(J.getD j .un).bR=true->cur y≠some v)(lJ:∀a,M' a->¬M a->∃o,s.heap.get? a=some o/\¬iS o)(hQ:∀s',Rel W S fn F M' (i_ cur x v) (J.set i lv) s'->aJ s'=aJ s->ew M s.heap s'.heap->s'.os=s.os->s'.gens=s.gens->Q () s'):wpAny (model W.prog W.w) A (storeName S.env x v) Q E s:=by
 refine aX U λhi hk=>?_;clear U;have EJ:S.env.scope.kind= .function:=by refine ag hS.scope ?_;exact hS.kind
 have kp:∀{b:fF}{h':ZN},M b->NC b s.heap h'->ew M s.heap h':=λ{b h'} hb z p o hp e=>⟨o.slots,(z.2 p λh=>hp (h▸hb)).trans e⟩;have top:∀{b:fF}{h':ZN},NC b s.heap h'->(b=S.L->∃m,h'.Ns b m)->∃o es V,h'.get? S.L=some o/\o.data= .dict es V:=λ{b h'} z hL=>by
  by_cases e:b=S.L
  ·exact R_ (hL e) λm o es V h1 h2 Z=>⟨o,es,V,e▸h1,h2⟩
  ·exact ft R.top λo es V h1 h2=>⟨o,es,V,(z.2 S.L λq=>e q.symm).trans h1,h2⟩
 refine Vo hk (λhk=>?_) λhk SM Hi=>?_
 ·have nj:S.env.kindOf x=some .local:=by show S.env.scope.names.lookup x=_;exact ag hS.scope hk
  refine ax R.ns λm U hm=>?_;have Hj:=U;rw[<-hS.locals]at Hj;refine wpAny_storeName_local nj Hj (λh' dG z=>?_) (by refine ag EJ ?_;rfl);rw[hS.locals]at dG z;have SN:=R.store (M':=M') (h':=h') (tk:=s.toks+1) (v:=v) (lv:=lv) hS hi R.frame.2 z (.inl ⟨.inr rfl,by
    refine dh U λY es V et dg Z=>?_;clear U;exact⟨Y,es,V,et,dg⟩⟩) (top z λZ=>⟨_,dG⟩) ⟨_,dG,λy I=>by simp only[i_];split<;>first|rfl|exact hm y I⟩ (λy I=>by
    refine bF (R.cells y I) λc o h1 h2 h3 h4=>?_;have SO:y≠x:=λe=>by rw[e,nj]at I;revert I;refine bc λe=>?_;cases e
    refine⟨c,o,h1,h2,(z.2 c λe=>?_).trans h3,by simp only[i_,SO,if_false];exact h4⟩;refine dh U λY es V et dg Z=>?_;clear U;rw[e,et]at h3;revert h3;refine bc λe=>?_;subst e;rw[dg]at h4;cases h4) hM Mf Eh hd lJ (by refine dh dG λY es V h1 h2 Z=>?_;clear dG;exact⟨Y,h1,by rintro⟨ws,h3,_⟩;rw[h2]at h3;cases h3⟩)
  exact hQ _ SN.1 z.1 (kp R.frame.2 z) rfl rfl
 ·have nj:S.env.kindOf x=some .cell:=by show S.env.scope.names.lookup x=_;exact ag hS.scope hk
  refine bF (R.cells x nj) λc o h1 h2 h3 h4=>?_;have h2:M c:=h2.elim id λh=>by rw[SM]at h;cases h.1
  refine wpAny_storeName_cell EJ nj h1 ⟨o,h3,h4⟩ λh' hc z=>?_;have VC:∀y,S.env.kindOf y=some .cell->y=x:=λy I=>Hi y (by
   have:S.env.scope.names.lookup y=some .cell:=I;rw[hS.scope]at this;exact this)
  have SN:=R.store (M':=M') (h':=h') (tk:=s.toks) (v:=v) (lv:=lv) hS hi h2 z (.inr ⟨o,_,h3,h4⟩) (top z λe=>by
    refine ft R.top λY es V h5 h6=>?_;rw[<-e,h3]at h5;revert h5;refine bc λe=>?_;subst e;rw[h4]at h6;cases h6) (by
    refine ax R.ns λm U hm=>⟨m,U.sameBut z (λe=>?_),λy I=>?_⟩
    ·refine dh U λY es V et dg Z=>?_;clear U;rw[e,h3]at et;revert et;refine bc λe=>?_;subst e;rw[h4]at dg;cases dg
    ·have SO:y≠x:=λe=>by rw[e,nj]at I;revert I;refine bc λe=>?_;cases e
     simp only[i_,SO,if_false];exact hm y I) (λy I=>by
    have:=VC y I;clear hQ hi hk Hi nj h4 VC;subst this;refine ax hc λY et dg=>?_;clear hc;exact⟨c,Y,h1,.inl h2,et,by simp only[i_,if_true];exact dg⟩) hM Mf Eh hd lJ (by refine ax hc λY et dg=>?_;clear hc;exact⟨Y,et,by rintro⟨ws,h3,_⟩;rw[dg]at h3;cases h3⟩)
  exact hQ _ SN.1 z.1 (kp h2 z) rfl rfl
theorem kJ{F:fF->Prop}{x:Str}{v:cz}{a:AV}{Q:Unit->ea->Prop}(I:S.Ok W fn q)(R:Rel W S fn F M cur J s)(U:dE fn i x)(V:VR s.heap F a v)(Y:∀s',Rel W S fn F M (i_ cur x v) (cy i a J) s'->fI W F M F M s s'->(∀x v,VR s.heap F x v->VR s'.heap F x v)->Q () s'):wpAny (model W.prog W.w) A (storeName S.env x v) Q E s:=
 hY (lv:=.im a) I R U (λZ h=>h) (λZ h=>.inl h) ⟨v,rfl,V⟩ (λh=>by exfalso;cases h) (λZ h h'=>absurd h h') λs' R' hz z ho hg=>
  Y s' R' ⟨z.mono λZ h=>.inr h,Kj hz.symm,λZ h=>.inl h,λZ h=>h,λZ h=>.inl h,by refine ag hg ?_;exact .refl _⟩ λx v h=>h.mono (λa ha o e=>z a o (λhm=>(R.mu a hm).2.2 ha) e) λZ h=>h
theorem yy{x:Str}{p:Pos}{f:St->Rs AV}(h:aL W q fn value f)(U:dE fn i x)(hs:∀env,swapsWith value (some (.Name x p)) pos.line env=pure false):aR W q fn (.Assign [.Name x p] value pos) (λJ=>aU (f J) J λa=>some (.next (cy i a J))):=.mk λS F M cur J r s z R I=>by
 refine acq ?_ (hs _);refine Nd z R I (h.run S F M cur J · s z R) λa h2 v aB af T G V=>?_;revert h2;refine bc λe=>?_;clear I;subst e;have Y:=R.move z T G;exact kJ z Y U V λs' R' T' Z=>⟨aB,M,_,_,R',(T.fY G).trans T',rfl⟩
theorem jZ.Ng{N F:fF->Prop}{lv:LV}{v:Option cz}(r:jZ W N h F M lv v)(I:lv.bR=true):∃a,v=some (.ref a)/\M a:=by
 cases lv with
 |own xs=>refine bV r λa Z e z Z=>?_;exact⟨a,e,z⟩
 |ob C ks xs=>refine dh r λa Z Z e z Z=>?_;exact⟨a,e,z⟩
 |_=>cases I
theorem qA{F:fF->Prop}{s₀:ea}{x:Str}{a:fF}{Q:Unit->ea->Prop}(hS:S.Ok W fn q)(z:Rel W S fn F M cur J s)(hn:dE fn i x)(hz:aJ s₀<=a)(h0:∀b,M b->b<aJ s₀)(W_:S.s₀.heap.objs.size<=aJ s₀)(V:¬F a)(U:LstAt s.heap a vs)(hr:bL s.heap F xs vs)(Y:∀s',Rel W S fn F (λb=>M b\/b=a) (i_ cur x (.ref a)) (fZ i xs J) s'->aJ s'=aJ s->ew M s.heap s'.heap->s'.gens=s.gens->Q () s'):wpAny (model W.prog W.w) A (storeName S.env x (.ref a)) Q E s:=
 hY (lv:=.own xs) (M':=λb=>M b\/b=a) hS z hn (λZ h=>.inl h) (λb h=>h.imp id λe=>by clear Y h;subst e;exact⟨bU W_ hz,U.lt,V⟩) ⟨a,vs,rfl,.inr rfl,U,hr⟩
  (λZ y j hj fL j1 I=>by
   refine ax ((z.slots j y hj).Ng j1) λb hb hm=>?_;rw[hb]at I;have I:b=a:=by injection I with I;injection I
   clear V U;clear Y;subst I;exact absurd (h0 b hm) (aca.mpr hz)) (λb h h'=>by
   have e:b=a:=h.elim (λq=>absurd q h') id;clear hz;clear V h;subst e;obtain⟨n,sl,ho⟩:=U;exact⟨_,ho,by rintro⟨ws,h3,_⟩;cases h3⟩) λs' R' hz hk Z hg=>Y s' R' hz hk hg
theorem u9{x:Str}{p:Pos}{f:St->Rs (List AV)}(h:jK W q fn value f)(V:dE fn i x)(hs:∀env,swapsWith value (some (.Name x p)) pos.line env=pure false):aR W q fn (.Assign [.Name x p] value pos) (λJ=>aU (f J) J λa=>some (.next (fZ i a J))):=.mk λS F M cur J r s z R I=>by
 refine acq ?_ (hs _);refine pG (cg I) ?_ ?_;rotate_left;intro a h1 h2;rotate_right;clear I;rintro c h1 rfl
 ·exact fm (h.run S F M cur J _ s z R h1) (λZ Z h=>h.no) λZ Z x=>x.st z R sJ
 revert h2;refine bc λe=>?_;clear I;subst e;refine fm (h.run S F M cur J _ s z R h1) (λv af ⟨yu,aB,b,vs,Y,T,G,hv,hz,hF,hl,hr⟩=>?_) λZ Z x=>x.st z R rd;cases Y;subst hv;have aI:=R.move z T G;refine qA (s₀:=s) z aI V hz (λb hb=>(R.mu b hb).2.1) R.step.size hF hl hr λs' R' j1 hk hg=>⟨aB,_,_,_,R',⟨(T.slots.mono λZ h=>.inl h).trans (hk.mono λZ h=>.inr h),bU T.size (Kj j1.symm),λc U=>U.imp id λ(e:c=b)=>by refine ag e ?_;exact hz,G.1,λc U=>(G.2 c U).imp id λh=>.inr h.1,by refine ag hg ?_;exact T.gens⟩,rfl⟩
theorem aW{t:u_}{f:St->Rs Bool}{g h:St->Option Ou}(U:gL W q fn t f)(hb:c5 W q fn body g)(V:c5 W q fn orelse h):aR W q fn (.If t body orelse pos) (λJ=>aU (f J) J λc=>if c then g J else h J):=.mk λS F M cur J r s z R Y=>by
 refine wpAny_If (SJ z R Y (U.run S F M cur J · s z R) λa h2 af T=>?_);have I:=R.move z T (.refl _ _ _);cases a with
 |true=>exact fm (hb.run S F M cur J r af z I h2) (λZ Z x=>x.lift (T.fY (.refl _ _ _))) λZ Z x=>x.lift (T.fY (.refl _ _ _))
 |false=>exact fm (V.run S F M cur J r af z I h2) (λZ Z x=>x.lift (T.fY (.refl _ _ _))) λZ Z x=>x.lift (T.fY (.refl _ _ _))
theorem aN{e:u_}{f:St->Rs AV}(h:aL W q fn e f):aR W q fn (.Return (some e) pos) (λJ=>aU (f J) J λa=>some (.ret a)):=.mk λS F M cur J r s z R I=>by
 refine wpAny_Return_some (Nd z R I (h.run S F M cur J · s z R) λa h2 v aB af T G U=>?_);revert h2;refine bc λe=>?_;clear I;subst e;exact⟨aB,M,cur,J,R.move z T G,T.fY G,a,rfl,U⟩
theorem AA:aR W q fn (.Break pos) (λJ=>some (.brk J)):=.mk λS F M cur J r s I R z=>by
 revert z;refine bc λe=>?_;subst e;exact wpAny_Break ⟨F,M,cur,J,R,.refl,rfl⟩
def yz(i:Nat)(J:St):St:=match J.getD i .un with| .own xs=>J.set i (.im (.lst xs))| .ob C ks xs=>J.set i (.im (.obj C ks xs))|_=>J
theorem Rel.s9{F:fF->Prop}(hS:S.Ok W fn q)(R:Rel W S fn F M cur J s){x:Str}(hi:fn.names[i]? =some x)(Z:fF->Prop)(a:AV){v:cz}(ck:cur x=some v)(hZ:∀b,Z b->M b)(Y:∀b,Z b->¬S.nm b/\∀o c,s.heap.get? b=some o->o.data≠.cell c)(hv:VR s.heap (λb=>F b\/Z b) a v)(hO:∀j y,fn.names[j]? =some y->j≠i->jZ W S.uT s.heap (λb=>F b\/Z b) (λb=>M b/\¬Z b) (J.getD j .un) (cur y)):Rel W S fn (λb=>F b\/Z b) (λb=>M b/\¬Z b) cur (J.set i (.im a)) s:=by
 have I:i<J.length:=by refine ag R.len ?_;exact(gw.mp hi).1
 refine⟨R.step,⟨λb h=>.inl (R.grow.1 b h),λb h=>?_⟩,λb hb=>?_,⟨R.frame.1.imp (λh'=>⟨h',λh=>(Y _ h).1 (.inl rfl)⟩) id,⟨R.frame.2,λh=>(Y _ h).1 (.inr rfl)⟩⟩,R.top,R.ns,λy hy=>?_,by refine ag abh ?_;exact R.len,λj y V=>?_,?_,λb hb=>R.small b hb.1⟩
 ·refine g' h (λh=>?_) λh=>?_
  ·exact R.grow.2 b h
  ·exact fQ (R.mu b (hZ b h)) λh1 h2 Z=>h1.elim (λh=>.inr (.inr ⟨h,h2⟩)) λh=>.inr (.inl h)
 ·exact fQ (R.mu b hb.1) λh1 h2 h3=>⟨h1,h2,λh=>h.elim h3 hb.2⟩
 ·exact bF (R.cells y hy) λc o h1 h2 h3 h4=>⟨c,o,h1,h2.imp (λh2=>⟨h2,λe=>(Y c e).2 o _ h3 h4⟩) id,h3,h4⟩
 ·refine ag (fc _ _ _ _ I) ?_;by_cases U:j=i
  ·clear hO I;subst U;rw[hi]at V;revert V;refine bc λe=>?_;subst e;simp only[if_true];exact⟨v,ck,hv⟩
  ·simp only[U,if_false];exact hO j y V U
 ·intro j k y z V hk EV h1 h2;rw[fc _ _ _ _ I]at h1 h2;by_cases U:j=i
  ·simp[U,LV.bR]at h1
  ·by_cases Ei:k=i
   ·simp[Ei,LV.bR]at h2
   ·simp only[U,Ei,if_false]at h1 h2;exact R.dist j k y z V hk EV h1 h2
theorem jZ.without{N F Z:fF->Prop}{lv:LV}{v:Option cz}(I:∀b,Z b->¬nS b lv v)(r:jZ W N h F M lv v):jZ W N h (λb=>F b\/Z b) (λb=>M b/\¬Z b) lv v:=by
 have kq:Ab F h h:=λb Z o z=>⟨o.slots,z⟩;cases lv with
 |un=>trivial
 |im a=>refine ax r λx e U=>?_;clear r;exact⟨x,e,U.mono kq λZ h=>.inl h⟩
 |own xs=>
  refine bF r ?_;clear r;rintro a vs rfl hm z V;exact⟨a,vs,rfl,⟨hm,λh=>I a h rfl⟩,z,V.mono kq λZ h=>.inl h⟩
 |ob C ks xs=>
  refine hJ r ?_;clear r;rintro x d vs rfl U hd hn z V;exact⟨x,d,vs,rfl,⟨U,λh=>I x h (.inl rfl)⟩,⟨hd,λh=>I d h (.inr (by exact ag z.2.2.2 rfl))⟩,hn,z,V.mono kq λZ h=>.inl h⟩
 |fn d=>
  refine ax r ?_;clear r;rintro x rfl Y;refine Sf Y ?_;clear Y;rintro a o pm cd doc rfl ha r;exact⟨_,rfl,a,o,pm,cd,doc,rfl,⟨ha,λh=>I a h rfl⟩,r⟩
theorem Rel.freeze{F:fF->Prop}(hS:S.Ok W fn q)(R:Rel W S fn F M cur J s){x:Str}(hi:fn.names[i]? =some x):∃F' M',Rel W S fn F' M' cur (yz i J) s/\(∀a,M' a->M a)/\(∀a,F a->F' a)/\∀a,F' a->F a\/M a:=by
 have r:=R.slots i x hi;unfold yz;cases hl:J.getD i .un with
 |un=>exact⟨F,M,R,λZ h=>h,λZ h=>h,λZ h=>.inl h⟩
 |im a=>exact⟨F,M,R,λZ h=>h,λZ h=>h,λZ h=>.inl h⟩
 |fn d=>exact⟨F,M,R,λZ h=>h,λZ h=>h,λZ h=>.inl h⟩
 |own xs=>
  rw[hl]at r;refine bF r λa vs hv hm jA hr=>?_;clear r;obtain⟨na,VD,qB⟩:=id jA;refine⟨λb=>F b\/b=a,λb=>M b/\b≠a,R.s9 hS hi (λb=>b=a) (.lst xs) hv (λb h=>h▸hm) (λb h=>?_) ?_ (λj y hj fL=>(R.slots j y hj).without λb h=>?_),λb h=>h.1,λb h=>.inl h,λb h=>h.imp id λ(e:b=a)=>by refine ag e ?_;exact hm⟩
  ·clear hv hm jA;subst h;refine⟨λh=>?_,λo c U hc=>by rw[qB]at U;revert U;refine bc λe=>?_;subst e;cases hc⟩;refine g' h (λh=>?_) λh=>?_
   ·refine ft R.top λo es ep U hd=>?_;rw[<-h,qB]at U;revert U;refine bc λe=>?_;subst e;cases hd
   ·refine EA R.ns λm o es ep U hd Z Z=>?_;rw[<-h,qB]at U;revert U;refine bc λe=>?_;subst e;cases hd
  ·exact⟨a,vs,rfl,.inr rfl,jA,hr.mono (λb Z o U=>⟨o.slots,U⟩) λb h=>.inl h⟩
  ·clear hm jA;subst h;have V:=R.slots j y hj;intro I;cases Y:J.getD j .un with
   |un=>rw[Y]at I;exact I
   |im c=>rw[Y]at I;exact I
   |own ys=>rw[Y]at I;exact R.dist j i y x hj hi fL (by refine ag Y ?_;rfl) (by refine ag hl ?_;rfl) (I.trans hv.symm)
   |ob C ks ys=>
    rw[Y]at I V;refine hJ V λz d us hz hx hd hn y4 Z=>?_;clear V;refine jJ y4 λy5 y6 Z h4=>?_;clear y4;refine au y5 λsl h1=>?_;clear y5;refine dh y6 λo es ep h2 h3 Z=>?_;clear y6;refine g' I (λI=>?_) λI=>?_
    ·exact R.dist j i y x hj hi fL (by refine ag Y ?_;rfl) (by refine ag hl ?_;rfl) (I.trans hv.symm)
    ·rw[hz]at I;have e:z=b+1:=by injection I with I;injection I
     have:d=b:=Z9 (h4.symm.trans e);rw[this,qB]at h2;revert h2;refine bc λe=>?_;subst e;cases h3
   |fn d=>
    rw[Y]at I V;refine ax V λz hz y3=>?_;clear V;refine nG y3 ?_;clear y3;rintro c o pm cd doc rfl ha U hd _;rw[hz]at I;have e:c=b:=by injection I with I;injection I
    rw[e,qB]at U;revert U;refine bc λe=>?_;subst e;cases hd
 |ob C ks xs=>
  rw[hl]at r;refine hJ r λa d vs hv VE VF Mh qB hr=>?_;clear r;refine MM (id qB) λsl h1 o es ep h2 h3 SP Z h4=>?_;refine⟨λb=>F b\/(b=a\/b=d),λb=>M b/\¬(b=a\/b=d),R.s9 hS hi (λb=>b=a\/b=d) (.obj C ks xs) hv (λb h=>by(refine g' h ?_ ?_;rotate_left;clear h;clear Mh qB h1 h2 h4;rintro rfl;rotate_right;clear h;clear hv qB h1 h4;rintro rfl)<;>assumption) (λb h=>?_) ?_ (λj y hj fL=>(R.slots j y hj).without λb h=>?_),
   λb h=>h.1,λb h=>.inl h,λb h=>h.imp id λe=>by(refine g' e ?_ ?_;rotate_left;clear e;clear h;clear Mh h2;rintro rfl;rotate_right;clear e;clear h;rintro rfl)<;>assumption⟩
  ·refine g' h ?_ ?_;rotate_left;clear h;clear VF;rintro rfl;rotate_right;clear h;clear VE;rintro rfl
   ·refine⟨λh=>?_,λo' c U hc=>by rw[h1]at U;revert U;refine bc λe=>?_;subst e;cases hc⟩;refine g' h (λh=>?_) λh=>?_
    ·refine ft R.top λo' pS rq U hd=>?_;rw[<-h,h1]at U;revert U;refine bc λe=>?_;subst e;cases hd
    ·refine EA R.ns λm o' pS rq U hd Z Z=>?_;rw[<-h,h1]at U;revert U;refine bc λe=>?_;subst e;cases hd
   ·exact⟨λh=>Mh (.inl h),λo' c U hc=>by rw[h2]at U;revert U;refine bc λe=>?_;subst e;rw[h3]at hc;cases hc⟩
  ·exact⟨a,d,vs,rfl,.inr (.inl rfl),.inr (.inr rfl),qB,hr.mono (λb Z o U=>⟨o.slots,U⟩) λb h=>.inl h⟩
  ·have V:=R.slots j y hj;intro I;clear SP;clear VE VF;cases Y:J.getD j .un with
   |un=>rw[Y]at I;exact I
   |im c=>rw[Y]at I;exact I
   |own ys=>
    rw[Y]at I V;refine bF V λc us hz hm y6 Z=>?_;clear V;rcases y6 with⟨n,dH,U⟩
    rw[hz]at I;have e:c=b:=by injection I with I;injection I
    clear I;subst e;refine g' h ?_ ?_;rotate_left;clear h;rintro rfl;rotate_right;clear h;rintro rfl
    ·exact R.dist j i y x hj hi fL (by refine ag Y ?_;rfl) (by refine ag hl ?_;rfl) (hz.trans hv.symm)
    ·rw[h2]at U;revert U;refine bc λe=>?_;subst e;cases h3
   |ob C' AB ys=>
    rw[Y]at I V;refine hJ V λz d' us hz hx hd hn y0 Z=>?_;clear V;refine jJ y0 λy1 y2 Z g4=>?_;clear y0;refine au y1 λdH g1=>?_;clear y1;refine dh y2 λo' pS rq g2 g3 Z=>?_;clear y2;have SQ:z≠a:=λe=>R.dist j i y x hj hi fL (by refine ag Y ?_;rfl) (by refine ag hl ?_;rfl) (by exact ag hz (ag hv (ag e rfl)));refine g' I (λI=>?_) λI=>?_
    ·rw[hz]at I;have e:z=b:=by injection I with I;injection I
     clear I;subst e;refine g' h ?_ ?_;rotate_left;clear h;rintro rfl;rotate_right;clear h;rintro rfl
     ·exact SQ rfl
     ·rw[h2]at g1;revert g1;refine bc λe=>?_;subst e;cases h3
    ·rw[hz]at I;have e:z=b+1:=by injection I with I;injection I
     have e':d'=b:=Z9 (g4.symm.trans e);refine g' h ?_ ?_;rotate_left;clear h;rintro rfl;rotate_right;clear h;clear SQ;rintro rfl
     ·rw[e',h1]at g2;revert g2;refine bc λe=>?_;subst e;cases g3
     ·exact SQ (e.trans h4.symm)
   |fn d'=>
    rw[Y]at I V;refine ax V λz hz y4=>?_;clear V;refine nG y4 ?_;clear y4;rintro c o' pm cd doc rfl ha U hd _;rw[hz]at I;have e:c=b:=by injection I with I;injection I
    subst e;refine g' h ?_ ?_;rotate_left;clear h;rintro rfl;rotate_right;clear h;rintro rfl
    ·rw[h1]at U;revert U;refine bc λe=>?_;subst e;cases hd
    ·rw[h2]at U;revert U;refine bc λe=>?_;subst e;rw[h3]at hd;cases hd
theorem fI.less{fu I F:fF->Prop}(h:∀a,I a->M a)(U:∀a,F a->fu a)(hg:∀a,fu a->F a\/M a)(T:fI W fu I F' M' s s'):fI W F M F' M' s s':=
 ⟨T.keep.mono λb hb=>hb.imp id (h b),T.size,λa z=>(T.grow a z).imp (h a) id,λa z=>T.more a (U a z),λa z=>(T.fE a z).elim (λh=>(hg a h).imp id .inl) λh'=>.inr (h'.imp (h a) id),T.gens⟩
theorem yA{st:aaa}{f:St->Option Ou}{x:Str}(i:Nat)(hi:fn.names[i]? =some x)(h:aR W q fn st f):aR W q fn st (λJ=>f (yz i J)):=.mk λS F M cur J r s Y R hf=>by
 refine bF (R.freeze Y hi) λF' M' R' Z hF hG=>fm (h.run S F' M' cur (yz i J) r s Y R' hf) (λfl s' hp=>?_) λy s' hx=>?_
 ·exact hp.el λaQ z c₂ I U V hm=>⟨aQ,z,c₂,I,U,V.less Z hF hG,hm⟩
 ·exact hx.el λcls e n I aQ z c₂ h1 h2 U V h3 h4 h5 h6=>⟨cls,e,n,I,aQ,z,c₂,h1,h2,U,V.less Z hF hG,h3,h4,h5,h6⟩
theorem Rel.below{F:fF->Prop}(z:S.Ok W fn q)(R:Rel W S fn F M cur J s)(hb:∀a,F a\/M a->a<n)(I:S.s₀.heap.objs.size<=n)(kb:W.base.StaysIn h')(B:Below n s.heap h')(hz:aJ s<=h'.objs.size):Rel W S fn F M cur J {s with heap:=h'}:=
 R.keep z (λb o=>b<n\/iS o) (λZ h=>h) (λZ h=>.inl h) kb (λb o e h=>B.1 b o h e) hz rfl (.refl _) (λl=>l.keep (λb o h e=>B.1 b o (h.imp (λh=>bk (z.lb b h) I) id) e) λb o vs h e d=>B.2 b o vs (bk (z.lb b h) I) e d) λb o e h=>by
  rcases h with h|h|h|h
  ·exact .inl (hb b (.inl h))
  ·exact .inl (hb b (.inr h))
  ·exact .inl (bk h.1 I)
  ·exact .inr h.1
theorem fI.below{F:fF->Prop}(T:fI W F M F' M' s s')(z:aJ s<=n)(B:Below n s'.heap h')(hz:aJ s'<=h'.objs.size):fI W F M F' M' s {s' with heap:=h'}:=
 ⟨λp o I e=>by
  refine au (T.keep p o I e) λsl h1=>au (B.1 p _ (.inl (bk (ye e) z)) h1) λU h2=>?_;exact⟨U,h2⟩,bU T.size hz,T.grow,T.more,T.fE,T.gens⟩
theorem nU{F:fF->Prop}{s:ea}{r:Ou}{x:cz}{A₁ EW:XQ}(gF:A₁.frames=some (S.fe::S.outer))(Y:S.Ok W fn q)(h:i9 W S fn F M s r x s'):notedBy (model W.prog W.w) A₁ S.env (λe cR=>cameBackBy (model W.prog W.w) EW S.env (i9 W S fn F M s r) e cR) x s':=by
 obtain⟨cls,e,n,ak,F',M',aC,h1,rfl,R',T',h3,h4,h5,h6⟩:=h;have hn:S.s₀.heap.objs.size<=n:=h3.2;have I:∀b,n<=b->W.base.get? b=none:=λb hb=>Y.bh (bU hn hb);refine aP (iT gF Y.c6 Y.frame R'.stays I h6 λU k₁ hh Ah kK=>?_);obtain⟨f1,f2,oe,vs,he,hc,hd,pH,T,oT,ts,g1,g2,g3,g4,g5,q',g6⟩:=hh;refine aP (s:={s' with heap:=U}) (az (T9 he hd g1 ?_));refine cM (by simp) (ag Y.frame (az (T9 he hd g1 ?_)));refine cC (show(V9 T !=Tg)=true from by simp) (ZX g4 g5 (P9.mp g6).1 λnV=>?_);have z:∀b,b≠T->(U.update T (OE (·.setIfInBounds 3 ((some S.L).elim Tg λf=>rawInt f)))).get? b=U.get? b:=λb hb=>Vp _ _ (aaS hb);have fR:∀b o,U.get? b=some o->(∀vs,o.data≠.fields vs)->b≠T:=λb o hb pL q=>by
  rw[q,g4]at hb;injection hb with hb;subst hb;exact pL ts g5
 have nK:3<ts.size:=(P9.mp g6).1;have B:Below n s'.heap (U.update T (OE (·.setIfInBounds 3 ((some S.L).elim Tg λf=>rawInt f)))):=
  Ah.trans ⟨λb o I V=>⟨o.slots,(z b (I.elim (λI=>HA (bk I g2)) λhB=>lP V hB g4 g5 q')).trans V⟩,λb o us I V Z=>(z b (HA (bk I g2))).trans V⟩
 have kb:W.base.StaysIn (U.update T (OE (·.setIfInBounds 3 ((some S.L).elim Tg λf=>rawInt f)))):=λb o V=>(z b λq=>by rw[q,I T g2]at V;exact aZ V).trans (k₁ b o V);have hz:aJ s'<=(U.update T (OE (·.setIfInBounds 3 ((some S.L).elim Tg λf=>rawInt f)))).objs.size:=bU kK nV;show i9 W S fn F M s r (.ref e) {s' with heap:=(U.update T (OE (·.setIfInBounds 3 ((some S.L).elim Tg λf=>rawInt f))))};refine⟨cls,e,n,ak,F',M',aC,h1,rfl,R'.below Y h5 hn kb B hz,T'.below h3.1 B hz,h3,bU h4 hz,h5,?_⟩;exact⟨f1.of_keeps λb o hb pL=>⟨o,(z b (fR b o hb pL)).trans hb,rfl⟩,f2,oe,vs,(z e (aaS g3)).trans he,hc,hd,pH,.inr ⟨T,_,_,_,g1,g2,g3,
  JP _ g4 (ZM (X2 g5 _)),X2 g5 _,by simp;exact q',by simp[nK],.inr rfl⟩⟩
theorem jB{F:fF->Prop}{r:Ou}{x:cz}(z:S.Ok W fn q)(h:i9 W S fn F M s r x s'):notedBy (model W.prog W.w) S.A S.env (λe cR=>cameBackBy (model W.prog W.w) S.A S.env (i9 W S fn F M s r) e cR) x s':=nU z.frames z h
theorem kL{M:SW}{I:XQ}{U:cz->ea->Prop}{x:cz}(h:notedBy M A env (λe cR=>cameBackBy M I env E e cR) x s')(z:∀e s,E e s->U e s):notedBy M A env (λe cR=>cameBackBy M I env U e cR) x s':=
 fm h (λZ Z h=>fm h (λZ Z h=>z _ _ h) z) λZ Z h=>fm h (λZ Z h=>z _ _ h) z
theorem SR(P:Nat->ea->Prop)(k:∀I:Nat->ea->Prop,(∀n s,P n s->I n s)->(∀n s,I n s->P n s)->G):G:=k P (λZ Z h=>h) λZ Z h=>h
def f7(t:St->Rs Bool)(b:St->Option Ou):Nat->St->Option Ou
 |0,_=>none
 |n+1,J=>aU (t J) J λc=>if c then(match b J with
   |some (.next ak)=>f7 t b n ak
   |some (.cont ak)=>f7 t b n ak
   |some (.brk ak)=>some (.next ak)
   |some (.ret a)=>some (.ret a)
   |some (.ex c ak)=>some (.ex c ak)
   |none=>none)else some (.next J)
theorem ja:f7 t u (n+1) J=aU (t J) J λc=>if c then(match u J with
   |some (.next ak)=>f7 t u n ak
   |some (.cont ak)=>f7 t u n ak
   |some (.brk ak)=>some (.next ak)
   |some (.ret a)=>some (.ret a)
   |some (.ex c ak)=>some (.ex c ak)
   |none=>none)else some (.next J):=rfl
inductive WI(W:Wd)(S:cj)(fn:ek)(F M:fF->Prop)(s:ea)(f:St->Rs Bool)(g:St->Option Ou)(r:Ou)(n:Nat)(s':ea):Prop
 |mk (F' M':fF->Prop) (aC:Str->Option cz) (ak:St) (h1:Rel W S fn F' M' aC ak s') (h2:fI W F M F' M' s s') (h3:f7 f g n ak=some r):WI W S fn F M s f g r n s'
theorem WI.el{F:fF->Prop}{f:St->Rs Bool}{g:St->Option Ou}{r:Ou}(z:WI W S fn F M s f g r n s')(I:∀(F' M':fF->Prop)(aC:Str->Option cz)(ak:St)(h1:Rel W S fn F' M' aC ak s')(h2:fI W F M F' M' s s')(h3:f7 f g n ak=some r),G):G:=WI.rec (motive:=λZ=>G) I z
theorem s_{t:u_}{f:St->Rs Bool}{g:St->Option Ou}(N:Nat)(ht:gL W q fn t f)(hb:c5 W q fn body g):aR W q fn (.While t body [] pos) (f7 f g N):=.mk λS F M cur J r s z R hf=>cps λQ E hQ hE=>by
 refine wpAny_While (SR (WI W S fn F M s f g r) λI U I2=>codeAny_whileLoop I (λn af hI=>?_) N (U _ _ ⟨F,M,cur,J,R,.refl,hf⟩));refine(I2 _ _ hI).el λaB pR c₁ V aI gB h=>?_;clear hf I2 hI;cases n with
 |zero=>exfalso;cases h
 |succ n=>
  simp only[ja]at h;refine pG (cg h) (λc h1 er=>?_) λa h1 h2=>?_
  ·exact fm (ht.run S aB pR c₁ V _ af z aI h1) (λ_ _ ⟨h,_⟩=>by exfalso;cases h) λx s' hx=>kL (jB z ((hx.st z aI λZ h=>er.trans (sJ _ h)).lift gB)) hE
  refine Mc (ht.run S aB pR c₁ V _ af z aI h1) λs₂ T=>?_;have aM:=aI.move z T (.refl _ _ _);clear h h1;cases a with
  |false=>
   simp only[F3,if_false]at h2⊢;revert h2;refine bc λe=>?_;clear hE U;subst e;exact abV (hQ _ _ ⟨aB,pR,c₁,V,aM,gB.trans (T.fY (.refl _ _ _)),rfl⟩)
  |true=>
   simp only[if_true]at h2⊢;rcases hg:g V with _|o
   ·simp[hg]at h2
   refine fm (hb.run S aB pR c₁ V o s₂ z aM hg) (λfl aK hp=>?_) λx aK hx=>?_
   ·refine hp.el λcx EX lS xe cG bp Y=>?_;clear hp;have T':=(gB.trans (T.fY (.refl _ _ _))).trans bp;clear hE;cases fl with
    |next=>subst Y;simp only[hg]at h2;exact⟨n,rv _,U _ _ ⟨cx,EX,lS,xe,cG,T',h2⟩⟩
    |cont=>subst Y;simp only[hg]at h2;exact⟨n,rv _,U _ _ ⟨cx,EX,lS,xe,cG,T',h2⟩⟩
    |brk=>clear U;subst Y;simp only[hg,e4]at h2;subst h2;exact hQ _ _ ⟨cx,EX,lS,xe,cG,T',rfl⟩
    |ret v=>refine ax Y ?_;clear Y;rintro a rfl hv;simp only[hg,e4]at h2;subst h2;exact hQ _ _ ⟨cx,EX,lS,xe,cG,T',a,rfl,hv⟩
   ·refine kL (jB z ?_) hE;refine hx.el λcls e n' ak F' M' aC Jz SS SP Xa SU Xb Xc Xd=>?_;clear hx;clear hQ;subst Jz;simp only[hg,e4]at h2;subst h2;exact i9.lift (gB.trans (T.fY (.refl _ _ _))) ⟨cls,e,n',ak,F',M',aC,rfl,SS,SP,Xa,SU,Xb,Xc,Xd⟩
structure Wd.Ok(W:Wd):Prop where
 hg:W.base.Ns 3 W.mg
 hb:W.base.Ns 0 W.mb
structure Ready(W:Wd)(A:XQ)(outer:List Env)(F X:fF->Prop)(s:ea)(rk:Nat):Prop where
 xg:W.Ok
 hand:A.handled=none
 frames:A.frames=some outer
 dN:s.heap.FunFrames W.base outer
 cW:∀L,L∈outer.filterMap (·.frame)->¬(W.loose L\/X L)
 stays:W.base.StaysIn s.heap
 sR:∀a,F a->a<aJ s/\¬W.loose a
 x0:∀a,X a->a<aJ s/\¬W.loose a/\W.base.get? a=none
 xf:∀a,X a->¬F a
 lb:∀a,W.loose a->a<aJ s
 lt:LT W s.heap
 room:A.depth+3*(rk+1)<=600/\A.units+100*(rk+1)+100<=9000
 SV:∀a,X a->∃o,s.heap.get? a=some o/\¬iS o
def xh(a:fF):Prop:=False
def CR(W:Wd)(outer:List Env)(F:fF->Prop)(s:ea)(r:Except cz AV)(res:aaR)(s':ea):Prop:=
 match res with
 | .ok (.ret v)=>PE W F s r v s'
 | .ok _=>False
 | .error x=>∃cls e,r= .error cls/\x= .ref e/\Step W s s'/\nh W outer (aJ s) e cls s'.heap
def Fn(W:Wd)(a:fF)(rk:Nat)(spec:List AV->Rs AV):Prop:=
 ∀A outer F s xs vs r,Ready W A outer F xh s rk->bL s.heap F xs vs->spec xs=some r->codeAny (model W.prog W.w) A (.call (.ref a) ⟨vs,[]⟩) (CR W outer F s r) s
noncomputable def bg:Option Ou->Rs AV
 |some (.next _)=>some (.ok .none)
 |some (.ret a)=>some (.ok a)
 |some (.ex c _)=>some (.error c)
 |_=>none
noncomputable def aO(n:Nat)(xs:List AV):St:=xs.map .im++aaV (n-xs.length) .un
theorem cY:∀{ps:List Str}{vs:List cz}{i:Nat}{x:Str}{v:cz},ps.Nodup->ps[i]? =some x->vs[i]? =some v->(ps.zip vs).reverse.lookup x=some v:=by
 intro ps
 induction ps with
 |nil=>intro vs i x v _ h;simp at h
 |cons p ps ih=>
  intro vs i x v z h1 h2;cases vs with
  |nil=>simp at h2
  |cons w vs=>
   rw[P8,acr,acd];cases i with
   |zero=>
    simp only[acE,e4]at h1 h2;subst h1 h2;have V:((ps.zip vs).reverse.lookup p)=none:=by
     rw[acF];intro y I;rw[List.mem_reverse]at I;have Y:y.1∈ps:=(Z3 I).1;have Z:=(abW.mp z).1;have U:p≠y.1:=λe=>Z (e▸Y)
     first|exact beq_eq_false_iff_ne.mpr U|simpa using U
    rw[V];simp
   |succ i=>
    simp only[aae]at h1 h2;rw[ih (abW.mp z).2 h1 h2];rfl
theorem bL.get{F:fF->Prop}:∀{xs:List AV}{vs:List cz}{k:Nat}{x:AV},bL h F xs vs->xs[k]? =some x->∃v,vs[k]? =some v/\VR h F x v
 |[],vs,k,x,r,hk=>by simp at hk
 |y::xs,vs,0,x,r,hk=>by refine bV r ?_;clear r;rintro v ws rfl z I;simp at hk;subst hk;exact⟨v,by simp,z⟩
 |y::xs,vs,k+1,x,r,hk=>by
  refine bV r ?_;clear r;rintro v ws rfl z I;exact ax (bL.get (k:=k) I (by simpa using hk)) λw h1 h2=>⟨w,by simpa using h1,h2⟩
theorem cellsFrom_some:∀(names:List (Str×aby))(n:Nat)(acc:List (Str×fF))(x:Str),((x,NameKind.cell)∈names\/(acc.lookup x).isSome=true)->((cellsFrom n names acc).lookup x).isSome=true:=by
 intro names
 induction names with
 |nil=>
  intro n acc x h;refine g' h (λh=>?_) λh=>?_
  ·exfalso;cases h
  ·exact h
 |cons I r z=>
  intro n acc x h;obtain⟨y,k⟩:=I;unfold cellsFrom;split
  ·refine z (n+1) ((y,n)::acc) x (g' h ?_ ?_);rotate_left;clear h;intro h;rotate_right;clear h;intro h
   ·refine g' (QX.mp h) (λh=>?_) λh=>?_
    ·cases h;right;simp
    ·exact .inl h
   ·right
    refine ag zd ?_;split<;>simp_all
  ·rename_i U;refine z n acc x (g' h ?_ ?_);rotate_left;clear h;intro h;rotate_right;clear h;intro h
   ·refine g' (QX.mp h) (λh=>?_) λh=>?_
    ·cases h;exact absurd rfl U
    ·exact .inl h
   ·exact .inr h
theorem j2(kindOf:Str->Option aby)(x:Str)(I:kindOf x=some .local):∀(binds:List (Str×cz))(m:Str->Option cz),bindL kindOf binds m x=(binds.reverse.lookup x).or (m x):=by
 intro binds
 induction binds with
 |nil=>
  intro m;simp[bindL]
 |cons U r IH=>
  intro m;obtain⟨n,v⟩:=U;rw[bindL,IH,acr,acd];by_cases z:n=x
  ·subst z;simp[I]
  ·have h1:¬x=n:=λe=>z e.symm;have h2:(x==n)=false:=by simpa using h1
   by_cases V:kindOf n=some .local<;>simp[V,h1,h2,List.lookup]
theorem j3(kindOf:Str->Option aby)(x:Str)(I:kindOf x=some .cell):∀(binds:List (Str×cz))(m:Str->Option cz),bindC kindOf binds m x=(binds.reverse.lookup x).or (m x):=by
 intro binds
 induction binds with
 |nil=>
  intro m;simp[bindC]
 |cons U r IH=>
  intro m;obtain⟨n,v⟩:=U;rw[bindC,IH,acr,acd];by_cases z:n=x
  ·subst z;simp[I]
  ·have h1:¬x=n:=λe=>z e.symm;have h2:(x==n)=false:=by simpa using h1
   by_cases V:kindOf n=some .local<;>simp[V,h1,h2,List.lookup]
theorem va{F:fF->Prop}{ou:Ou}{y:cz}(I:S.Ok W fn q)(Y:S.env=S.fe)(hx:i9 W S fn F M s ou y s')(hex:∀F' M' aC ak cls e s',Rel W S fn F' M' aC ak s'->ou= .ex cls ak->nh W S.outer (aJ S.s₀) e cls s'.heap->E (.ref e) s'):wpAny (model W.prog W.w) S.A (leaving S.env y) (λZ cR=>E y cR) E s':=by
 obtain⟨cls,e,n,ak,F',M',aC,h1,rfl,V,T',h3,h4,h5,h6⟩:=hx;have U:aJ S.s₀<=n:=h3.2;refine ag Y ?_;have eY:∀b,n<=b->W.base.get? b=none:=λb hb=>I.bh (bU U hb);refine aP (uV I.frames I.c6 V.stays eY h6 λc7 z fw Ai nV=>?_);have aM:=V.below I h5 U z Ai nV;refine hex F' M' aC ak cls e _ aM h1 ?_;obtain⟨f1,f2,oe,ws,he,hc,hd,hz,T,oT,ts,g1,g2,g3⟩:=fw;exact⟨f1,bU U f2,oe,ws,he,hc,hd,hz,T,oT,ts,g1,bU U g2,g3⟩
theorem vb{F X:fF->Prop}{a:fF}{f:St->Option Ou}{dQ:St}{binds:List (Str×cz)}{args:Args}{ou:Ou}{R:aaR->ea->Prop}(z:Ready W A outer F X s rk)(ho:s.heap.get? a=some o)(dR:o.data= .func fd)(jb:s.heap.CodeRec fd.code fd.qualname)(dS:fd.body= .stmts body)(j4:fd.closure=[])(mw:fd.globals=3)(rt:fd.builtins=0)(dT:∀A' Q E,Q binds s->wpAny (model W.prog W.w) A' (bindArgs fd args) Q E s)(nW:∀x∈binds,fd.scope.names.lookup x.1=some .local\/fd.scope.names.lookup x.1=some .cell)(dp:names.Nodup)(hlen:dQ.length=names.length)(nT:∀i x,names[i]? =some x->jZ W xh s.heap F X (dQ.getD i .un) (binds.reverse.lookup x))(s8:∀i j x y,names[i]? =some x->names[j]? =some y->i≠j->(dQ.getD i .un).bR=true->(dQ.getD j .un).bR=true->binds.reverse.lookup x≠binds.reverse.lookup y)(hB:c5 W false ⟨fd.scope,names,rk,false,fd.code,fd.qualname⟩ body f)(hf:f dQ=some ou)(uL:∀S:cj,S.s₀=s->S.X=X->S.fu=F->∀F' M' aC ak v s',Rel W S ⟨fd.scope,names,rk,false,fd.code,fd.qualname⟩ F' M' aC ak s'->((∃av,ou= .ret av/\VR s'.heap F' av v)\/(ou= .next ak/\v= .none))->R (.ok (.ret v)) s')(hex:∀S:cj,S.s₀=s->S.X=X->S.fu=F->∀F' M' aC ak cls e s',Rel W S ⟨fd.scope,names,rk,false,fd.code,fd.qualname⟩ F' M' aC ak s'->ou= .ex cls ak->nh W outer (aJ s) e cls s'.heap->R (.error (.ref e)) s')(f9:names.head? =some ("self":Str)\/∀a,¬X a)(JB:(∃av,ou= .ret av)\/(∃ak,ou= .next ak)\/∃c ak,ou= .ex c ak)(mS:autoParam (fd.scope.isCoroutine=false) gQ)(f_:autoParam (fd.scope.isGenerator=false) gQ)(hk:autoParam (fd.scope.kind= .function) gQ):codeAny (model W.prog W.w) A (.call (.ref a) args) R s:=by
 refine iQ z.lt.2 λmc nr AD Z=>?_;have vc:s.heap.NoLimit:=⟨mc,nr,AD⟩;have gH:∀x,fd.scope.names.lookup x=some .cell->((cellsFrom (s.heap.objs.size+1) fd.scope.names []).lookup x).isSome=true:=λx U=>cellsFrom_some _ _ _ _ (.inl (aaA U));refine codeAny_call_function (So z.room.1) ho dR mS f_ dS jb (dT _ _ _ ?_);refine ag j4 (aaW hk (λx U=>(nW x U).imp id λh=>⟨h,gH _ h⟩) λenv he af hI=>⟨vc.keeps hI.toInCall.keep,codeAny_func ?_⟩);refine jY hI.toInCall.same λaF te cO=>?_;have eL:env.locals=aJ s:=by refine ag he ?_;rfl
 have ef:env.frame=some (aJ s):=by refine ag he ?_;rfl
 have eg:env.globals=3:=by refine ag he ?_;exact mw
 have eb:env.builtins=0:=by refine ag he ?_;exact rt
 have es:env.scope=fd.scope:=by refine ag he ?_;rfl
 have ec:env.cells=cellsFrom (s.heap.objs.size+1) fd.scope.names []:=by refine ag he ?_;rfl
 have f':∀b o,s.heap.get? b=some o->aF.get? b=some o:=λb o e=>by have:=hI.toInCall.keep b o e;rw[cO]at this;exact this
 have dG:aF.Ns (aJ s) (bindL env.kindOf binds λZ=>none):=by have:=hI.toInCall.ns;rw[eL,cO]at this;exact this
 have sL:aJ s<aF.objs.size:=dG.lt;have ff:∀n c,env.cells.lookup n=some c->aF.IsCell c (bindC env.kindOf binds (λZ=>none) n):=λn c e=>by have:=hI.cell n c e;rw[cO]at this;exact this
 have jc:∀n c,env.cells.lookup n=some c->aJ s<c:=λn c e=>by have:=hI.above n c (aaA e);rw[eL]at this;exact this
 let S:cj:=⟨s,F,X,A.deeper env,env,env,outer,aJ s,aJ s⟩
 have hS:S.Ok W ⟨fd.scope,names,rk,false,fd.code,fd.qualname⟩ false:=by
  refine⟨es,hk,eL,ef,ef,(by refine ag es (ag hk ?_);intro x;cases x),eg,eb,abQ z.frames,z.dN,z.cW,z.stays,z.xg.hg,z.xg.hb,?_,z.sR,z.x0,z.lb,z.lt,dp,λZ=>z.hand,f9,by show env.code=_/\env.qual=_;refine ag he ?_;exact⟨rfl,rfl⟩⟩;have h1:=z.room.1;have h2:=z.room.2;show A.depth+1+3*rk<=600/\A.units+3+100*rk+100<=9000;exact⟨MW h1,MX h2⟩
 have vd:Rel W S ⟨fd.scope,names,rk,false,fd.code,fd.qualname⟩ F (λb=>b=aJ s\/(∃n,env.cells.lookup n=some b)\/X b) (λx=>binds.reverse.lookup x) dQ af:=by
  refine ag cO (⟨(Step.of_keeps z.stays f' (Kt sL)).x,⟨λZ h=>h,λZ h=>.inl h⟩,λb hb=>?_,⟨.inl (.inl rfl),.inl rfl⟩,?_,⟨_,dG,λx U=>?_⟩,λx U=>?_,hlen,λi x hi=>?_,s8,λb hb=>?_⟩)
  ·rcases hb with rfl|⟨n,I⟩|hb
   ·exact⟨.inl (t_ _),sL,λh=>f3 _ (z.sR _ h).1⟩
   ·exact⟨.inl (Kt (jc n b I)),(ff n b I).lt,λh=>f3 _ (ZP (z.sR _ h).1 (jc n b I))⟩
   ·exact⟨.inr hb,ZP (z.x0 b hb).1 sL,z.xf b hb⟩
  ·refine dh dG λo es ep h1 h2 Z=>?_;clear dG;exact⟨o,es,ep,h1,h2⟩
  ·rw[j2 _ _ U];simp
  ·have w0:fd.scope.names.lookup x=some .cell:=by refine fP es ?_;exact U
   refine au (WE.mp (gH x w0)) λc hc=>?_;rw[<-ec]at hc;refine ax (ff x c hc) λoc h1 h2=>⟨c,oc,hc,.inl (.inr (.inl ⟨x,hc⟩)),h1,?_⟩;rw[h2,j3 _ _ U];simp
  ·have r:=nT i x hi;show jZ W S.uT aF F _ (dQ.getD i .un) _;have V:=r.up (F':=F) (M':=λb=>b=aJ s\/(∃n,env.cells.lookup n=some b)\/X b) (λZ h=>h) (λZ h=>.inr (.inr h)) (h':=aF) λb o e Z=>⟨o.slots,f' b o e⟩;cases hl:dQ.getD i .un with
   |ob C ks xs=>
    rw[hl]at r V;refine yn V ?_;clear V;intro y d vs e hy hd _ V;refine hJ r λAE ve Ni Y AF gI Z lT Z=>?_;clear r;refine⟨y,d,vs,e,hy,hd,λI=>?_,V⟩;have Nj:d<aJ s:=by
     have h1:=V.1.2.2.2;have h2:=lT.2.2.2;rw[e]at Y;have:y=AE:=by injection Y with Y;injection Y
     have:d=ve:=Z9 (h1.symm.trans (this.trans h2));exact ag this ((z.x0 ve gI).1)
    refine I7 I ?_ λ_ I=>?_;clear I;rintro(I|I)
    ·exact f3 _ (I▸Nj)
    ·exact f3 _ (I▸Nj)
    ·refine I ?_;have h1:=V.1.2.2.2;have h2:=lT.2.2.2;rw[e]at Y;have q1:y=AE:=by injection Y with Y;injection Y
     have q2:d=ve:=Z9 (h1.symm.trans (q1.trans h2));refine ag q2 (⟨gI,by refine fP h2 ?_;exact AF⟩)
   |_=>rw[hl]at V;exact V
  ·rcases hb with rfl|⟨n,I⟩|hb
   ·refine dh dG λo es ep h1 h2 Z=>?_;clear dG;exact⟨o,h1,by rintro⟨ws,h3,_⟩;rw[h2]at h3;cases h3⟩
   ·exact ax (ff n b I) λo h1 h2=>⟨o,h1,by rintro⟨ws,h3,_⟩;rw[h2]at h3;cases h3⟩
   ·exact ax (z.SV b hb) λo h1 h2=>⟨o,f' b o h1,h2⟩
 refine fm (hB.run S F _ _ _ ou _ hS vd hf) (λfl s' hp=>?_) λx s' U=>?_
 ·refine hp.el λF' M' aC ak R' T' hm=>?_;clear hp;have bad:∀{P:Prop},((∃r,ou= .brk r)\/∃r,ou= .cont r)->P:=λh=>by
   rcases JB with⟨_,e⟩|⟨_,e⟩|⟨_,_,e⟩<;>(refine MT h ?_ λ_ h=>?_;clear h;intro _ h)<;>rw[e]at h<;>(cases h)
  cases fl with
  |next=>exact uL S rfl rfl rfl F' M' aC ak _ s' R' (.inr ⟨hm,rfl⟩)
  |brk=>exact bad (.inl ⟨_,hm⟩)
  |cont=>exact bad (.inr ⟨_,hm⟩)
  |ret v=>exact uL S rfl rfl rfl F' M' aC ak _ s' R' (.inl hm)
 ·exact va (E:=λe s=>R (.error e) s) hS rfl U (hex S rfl rfl rfl)
theorem bI:(aO n xs).getD i .un=match xs[i]? with|some a=>.im a|none=>.un:=by
 unfold aO;by_cases h:i<xs.length
 ·simp[ra,aav,h]
 ·simp only[ra,aav,ro,h,if_false,abt];refine ag (List.getElem?_eq_none (abJ h)) ?_;split<;>rfl
theorem aT{a:fF}{f:St->Option Ou}{ps:List Str}(ho:W.base.get? a=some o)(dR:o.data= .func fd)(jb:W.base.CodeRec fd.code fd.qualname)(dS:fd.body= .stmts body)(j4:fd.closure=[])(mw:fd.globals=3)(rt:fd.builtins=0)(dT:∀vs:List cz,vs.length=ps.length->bindArgs fd ⟨vs,[]⟩=pure (ps.zip vs))(b9:∃rest,names=ps++rest)(dp:names.Nodup)(lU:∀x∈ps,fd.scope.names.lookup x=some .local\/fd.scope.names.lookup x=some .cell)(hB:c5 W false ⟨fd.scope,names,rk,false,fd.code,fd.qualname⟩ body f)(mS:autoParam (fd.scope.isCoroutine=false) gQ)(f_:autoParam (fd.scope.isGenerator=false) gQ)(hk:autoParam (fd.scope.kind= .function) gQ):Fn W a rk (λxs=>if xs.length=ps.length then bg (f (aO names.length xs))else none):=λA outer F s xs vs r U hv z=>by
 simp only at z;split at z
 case isFalse=>exact aZ z
 rename_i mT;have EY:vs.length=ps.length:=hv.length.trans mT;refine au b9 λrest hrest=>?_;have td:ps.Nodup:=by rw[hrest]at dp;exact(ZZ.mp dp).1
 rcases V:f (aO names.length xs)with _|ou
 ·rw[V]at z;simp[bg]at z
 rw[V]at z;refine vb U (U.stays _ _ ho) dR (jb.keeps U.stays) dS j4 mw rt (binds:=ps.zip vs) (λA' Q E h=>by refine ag (dT vs EY) ?_;exact en h) (λx I=>lU x.1 (Z3 I).1) dp ?_ (λi x hi=>?_) (λi j x y hi hj AG h1 h2=>?_)
  hB V (λS hs hX hF F' M' aC ak v s' Y h=>?_) (λS hs hX hF F' M' aC ak cls e s' Y h1 h2=>?_) (.inr λZ h=>h) ?_ mS f_ hk
 ·simp only[aO,nx,ro,Q_];have:xs.length<=names.length:=by refine ag hrest (ag nx (ag mT ?_));exact xm _ _
  exact aai this
 ·refine ag bI ?_;cases I:xs[i]? with
  |none=>trivial
  |some a=>
   refine ax (hv.get I) λv yB gv=>?_;have th:i<xs.length:=(gw.mp I).1;have yC:ps[i]? =some x:=by rw[hrest,R0 (by refine fP mT ?_;exact th)]at hi;exact hi
   exact⟨v,cY td yC yB,gv⟩
 ·rw[bI]at h1;cases I:xs[i]? <;>rw[I]at h1<;>(exfalso;cases h1)
 ·clear U hv V;subst hs hF;have T:Step W S.s₀ s':=Y.step.none λp h=>by rw[hX]at h;exact h
  have G:bP S.s₀ s' S.fu F':=⟨Y.grow.1,λa h=>(Y.grow.2 a h).imp id λh=>h.elim (λh=>by rw[hX]at h;exact h.elim) id⟩;refine MR h ?_ ?_;rotate_left;clear h;rintro rfl rfl;rotate_right;clear h;rintro av rfl gv
  ·simp only[bg,e4]at z;subst z;exact⟨av,F',rfl,T,G,gv⟩
  ·simp only[bg,e4]at z;subst z;exact⟨.none,F',rfl,T,G,by first|rfl|exact⟨_,rfl⟩|simp[lL,lM,lN,mh,ED]⟩
 ·clear U hv V;subst hs h1;simp only[bg,e4]at z;subst z;exact⟨cls,e,rfl,rfl,Y.step.none λp h=>by rw[hX]at h;exact h,h2⟩
 ·cases ou with
  |next J=>exact .inr (.inl ⟨J,rfl⟩)
  |ret a=>exact .inl ⟨a,rfl⟩
  |ex c J=>exact .inr (.inr ⟨c,J,rfl⟩)
  |brk J=>simp[bg]at z
  |cont J=>simp[bg]at z
theorem xi{F:fF->Prop}{a:fF}{r:Except cz AV}(z:S.Ok W fn false)(R:Rel W S fn F M cur J s)(Y:Fn W a rk spec)(V:rk+1<=fn.rank)(hv:bL s.heap F xs vs)(hr:spec xs=some r):wpAny (model W.prog W.w) S.A (call (.ref a) vs []) (PE W F s r) (PX W S s r) s:=by
 have cZ:Ready W S.A (S.fe::S.outer) F xh s rk:=by
  refine⟨⟨z.hg,z.hb⟩,z.hand rfl,z.frames,R.frames z,λL I=>?_,R.stays,λb hb=>R.bound z hb,λZ h=>h.elim,λZ h=>h.elim,λb hb=>bk (z.lb b hb) R.step.size,R.tab z,?_,λZ h=>h.elim⟩
  ·rw[aaF,z.c6]at I;refine g' (QX.mp I) ?_ ?_;rotate_left;intro I;rotate_right;clear I;rintro rfl
   ·exact λh=>h.elim (R.ku z).2 id
   ·exact λh=>h.elim (λh=>z.cW L I (.inl h)) id
  ·have h1:=z.room.1;have h2:=z.room.2;exact⟨Sx h1 V,Sy h2 V⟩
 refine abK (aaM (Y S.A (S.fe::S.outer) F s xs vs r cZ hv hr) λres s' U=>?_);cases res with
 |ok fl=>
  cases fl with
  |ret v=>exact U
  |_=>exact U
 |error x=>
  exact bF U λcls e h1 h2 h3 h4=>⟨cls,e,h1,h2,h3,h4.Af⟩
theorem EZ{x:Str}{es:List u_}{a:fF}{g:St->Rs (List AV)}{o:Obj}{fd:aba}(hn:aL W false fn (.Name x np) (λZ=>aA (.ref a)))(hg:fG W false fn es g)(hp:a7 es=true)(ho:W.base.get? a=some o)(hd:o.data= .func fd)(hf:Fn W a rk spec)(jC:rk+1<=fn.rank):aL W false fn (.Call (.Name x np) es [] pos) (λJ=>bindR (g J) spec):=.mk λS F M cur J r s z R hr=>by
 refine ZY (iX (hn.run S F M cur J _ s z R rfl) rd λa' v aB af ha T G hv=>?_);cases ha;subst hv;have U:=R.move z T G;refine abu (o:=o) (fd:=fd) (bM hp (PX.raise T ?_));refine gM hr (hg.run S aB M cur J · af pos z U) λxs h2 vs aQ s₂ I V gA=>?_;have Y:=U.move z I V;exact⟨⟨Y.stays _ _ ho,hd⟩,PX.raise (T.trans I) (fm (xi z Y hf jC gA h2) (λZ Z x=>(x.lift I V).lift T G) λZ Z x=>x)⟩
theorem E0{e:u_}{f:St->Rs AV}(h:aL W q fn e f)(U:∀env:Env,env.scope=fn.scope->interactive env=false)(hs:∀env,swapsWith e none pos.line env=pure false):aR W q fn (.Expr e pos) (λJ=>aU (f J) J λZ=>some (.next J)):=.mk λS F M cur J r s z R I=>by
 refine ag (exec_Expr S.env e pos (U _ z.scope) (hs _)) (az (IW ?_));refine pG (cg I) ?_ ?_;rotate_left;intro a h1 h2;rotate_right;clear I;rintro c h1 rfl
 ·exact az (fm (h.run S F M cur J _ s z R h1) (λZ Z h=>h.no) λZ Z x=>x.st z R sJ)
 revert h2;refine bc λe=>?_;clear I;subst e;refine az (fm (h.run S F M cur J _ s z R h1) (λv af ⟨Y,aB,ha,T,G,hv⟩=>?_) λZ Z x=>x.st z R rd);have V:=R.move z T G;refine ac1 ⟨aB,M,cur,J,V,T.fY G,rfl⟩
section
set_option backward.match.sparseCases true
theorem Rel.iter{F:fF->Prop}{t:Nat}(I:S.Ok W fn q)(R:Rel W S fn F M cur J s)(U:¬F it)(V:¬M it)(z:S.s₀.heap.objs.size<=it)(Y:∀o,s.heap.get? it=some o->¬iS o)(kb:W.base.StaysIn h')(B:∀b o,b≠it->s.heap.get? b=some o->h'.get? b=some o)(hz:aJ s<=h'.objs.size):Rel W S fn F M cur J {s with heap:=h',toks:=t}:=by
 have hl:¬W.loose it:=λh=>f3 _ (bk (I.lb _ h) z);refine R.keep I (λb Z=>b≠it) (λZ h=>h) (λZ h=>.inl h) kb (λb o e h=>⟨o.slots,B b o h e⟩) hz rfl (.refl _) (λl=>l.qj λb o h e=>B b o (λq=>?_) e) λb o e h q=>?_
 ·clear U V z B;subst q;exact h.elim hl λh=>Y o e h
 ·clear hl;clear B;subst q;rcases h with h|h|h|h
  ·exact U h
  ·exact V h
  ·exact f3 _ (bk h.1 z)
  ·exact Y o e h.1
structure Src(W:Wd)(xs:List AV) where
 P:(fF->Prop)->fF->Nat->ZN->Prop
 item:∀{A:XQ}{E:cz->ea->Prop}{F:fF->Prop}{it:fF}{i:Nat}{x:AV}{s:ea}{Q:Option cz->ea->Prop},
  P F it i s.heap->¬F it->xs[i]? =some x->(∀v h' t,NC it s.heap h'->P F it (i+1) h'->VR h' F x v->Q (some v) {s with heap:=h',toks:=t})->wpAny (model W.prog W.w) A (pyNext (.ref it)) Q E s
 fin:∀{A:XQ}{E:cz->ea->Prop}{F:fF->Prop}{it:fF}{i:Nat}{s:ea}{Q:Option cz->ea->Prop},
  A.handled=none->P F it i s.heap->xs[i]? =none->(∀h' t,adG it s.heap h'->Q none {s with heap:=h',toks:=t})->wpAny (model W.prog W.w) A (pyNext (.ref it)) Q E s
 keep:∀{F F':fF->Prop}{it:fF}{i:Nat}{h h':ZN},P F it i h->(∀a,F a->F' a)->(∀b o,b=it\/F b->h.get? b=some o->∃sl,h'.get? b=some {o with slots:=sl})->P F' it i h'
 self:∀{A:XQ}{E:cz->ea->Prop}{F:fF->Prop}{it:fF}{i:Nat}{s:ea}{Q:cz->ea->Prop},P F it i s.heap->Q (.ref it) s->wpAny (model W.prog W.w) A (pyIter (.ref it)) Q E s
 small:∀{F:fF->Prop}{it:fF}{i:Nat}{h:ZN},P F it i h->∀o,h.get? it=some o->¬iS o
 ti:∀{A:XQ}{E:cz->ea->Prop}{F:fF->Prop}{it:fF}{i:Nat}{s:ea}{target:u_}{v:cz}{Q:Unit->ea->Prop},
  P F it i s.heap->Q () s->wpAny (model W.prog W.w) A (letOwnedTupleGo target (.ref it) v) Q E s
inductive TP(W:Wd)(S:cj)(fn:ek)(F M:fF->Prop)(ak:St)(s:ea)(u:Unit)(s':ea):Prop
 |mk (F':fF->Prop) (aC:Str->Option cz) (h1:Rel W S fn F' M aC ak s') (h2:fI W F M F' M s s') (h3:∀x v,VR s.heap F x v->VR s'.heap F' x v):TP W S fn F M ak s u s'
theorem TP.el{F:fF->Prop}{u:Unit}(z:TP W S fn F M ak s u s')(I:∀(F':fF->Prop)(aC:Str->Option cz)(h1:Rel W S fn F' M aC ak s')(h2:fI W F M F' M s s')(h3:∀x v,VR s.heap F x v->VR s'.heap F' x v),G):G:=TP.rec (motive:=λZ=>G) I z
theorem vf{F:fF->Prop}{t:Sem Unit}{Q:Unit->ea->Prop}{N:SW}(h:wpAny N A t (TP W S fn F M ak s) (λZ Z=>False) s)(k:∀s' F' aC,Rel W S fn F' M aC ak s'->fI W F M F' M s s'->(∀x v,VR s.heap F x v->VR s'.heap F' x v)->Q () s'):wpAny N A t Q E s:=
 fm h (λZ s' x=>x.casesOn λF' c R T z=>k s' F' c R T z) λZ Z x=>x.elim
structure tj(W:Wd)(fn:ek)(target:u_)(set:AV->St->Option St):Prop where
 run:∀S F M cur J ak s x v,S.Ok W fn false->Rel W S fn F M cur J s->VR s.heap F x v->set x J=some ak->
 wpAny (model W.prog W.w) S.A (assign target S.env v) (TP W S fn F M ak s) (λZ Z=>False) s
theorem JC{x:Str}{p:Pos}(z:dE fn i x):tj W fn (.Name x p) (λa J=>some (cy i a J)):=.mk λS F M cur J ak s a v I R U h=>by
 revert h;refine bc λe=>?_;subst e;exact wpAny_assign_Name (kJ I R z U λs' V T' Y=>⟨F,_,V,T',Y⟩)
noncomputable def dU(set:AV->St->Option St)(g:St->Option Ou):List AV->St->Option Ou
 |[],J=>some (.next J)
 |x::xs,J=>match set x J with
  |none=>none
  |some a6=>match g a6 with
   |some (.next ak)=>dU set g xs ak
   |some (.cont ak)=>dU set g xs ak
   |some (.brk ak)=>some (.next ak)
   |some (.ret a)=>some (.ret a)
   |some (.ex c ak)=>some (.ex c ak)
   |none=>none
theorem lV:dU set g [] J=some (.next J):=rfl
theorem eJ:dU set g (x::xs) J=match set x J with
  |none=>none
  |some a6=>match g a6 with
   |some (.next ak)=>dU set g xs ak
   |some (.cont ak)=>dU set g xs ak
   |some (.brk ak)=>some (.next ak)
   |some (.ret a)=>some (.ret a)
   |some (.ex c ak)=>some (.ex c ak)
   |none=>none:=rfl
theorem fI.iter{F:fF->Prop}{t:Nat}(T:fI W F M F' M' s s')(z:aJ s<=it)(B:∀b o,b≠it->s'.heap.get? b=some o->∃sl,h'.get? b=some {o with slots:=sl})(hz:aJ s'<=h'.objs.size):fI W F M F' M' s {s' with heap:=h',toks:=t}:=
 ⟨λp o I e=>by
  refine au (T.keep p o I e) λsl h1=>au (B p _ (HA (bk (ye e) z)) h1) λU h2=>?_;exact⟨U,h2⟩,bU T.size hz,T.grow,T.more,T.fE,T.gens⟩
inductive IP(W:Wd)(F:fF->Prop)(s:ea)(r:Except cz (List AV))(w:cz)(s₂:ea):Prop
 |mk (xs:List AV) (sr:Src W xs) (it:fF) (aB:fF->Prop) (h1:r= .ok xs) (h2:w= .ref it) (h3:aJ s<=it) (h4:it<aJ s₂) (h5:Step W s s₂) (h6:bP s s₂ F aB) (h7:¬aB it) (h8:sr.P aB it 0 s₂.heap):IP W F s r w s₂
theorem IP.el{F:fF->Prop}{r:Except cz (List AV)}{w:cz}{s₂:ea}(z:IP W F s r w s₂)(I:∀(xs:List AV)(sr:Src W xs)(it:fF)(aB:fF->Prop)(h1:r= .ok xs)(h2:w= .ref it)(h3:aJ s<=it)(h4:it<aJ s₂)(h5:Step W s s₂)(h6:bP s s₂ F aB)(h7:¬aB it)(h8:sr.P aB it 0 s₂.heap),G):G:=IP.rec (motive:=λZ=>G) I z
theorem IP.no{F:fF->Prop}{s₂:ea}{c w:cz}{P:Prop}:IP W F s (.error c) w s₂->P| .mk _ _ _ _ h .. =>sW h
structure mU(W:Wd)(fn:ek)(iter:u_)(f:St->Rs (List AV)):Prop where
 run:∀S F M cur J r s,S.Ok W fn false->Rel W S fn F M cur J s->f J=some r->
 wpAny (model W.prog W.w) S.A (eval iter S.env) (λx af=>wpAny (model W.prog W.w) S.A (pyIter x) (IP W F s r)
  (PX W S s r) af) (PX W S s r) s
inductive FO(S:cj)(fn:ek)(F M:fF->Prop)(s:ea){xs:List AV}(sr:Src W xs)(it:fF)(set:AV->St->Option St)(g:St->Option Ou)(r:Ou)(n:Nat)(s':ea):Prop
 |mk (F' M':fF->Prop) (aC:Str->Option cz) (ak:St) (i:Nat) (h1:Rel W S fn F' M' aC ak s') (h2:fI W F M F' M' s s') (h3:sr.P F' it i s'.heap) (h4:¬F' it) (h5:¬M' it) (h6:it<aJ s') (h7:n=xs.length-i) (h8:dU set g (xs.drop i) ak=some r):FO S fn F M s sr it set g r n s'
theorem FO.el{F:fF->Prop}{sr:Src W xs}{g:St->Option Ou}{r:Ou}(z:FO S fn F M s sr it set g r n s')(I:∀(F' M':fF->Prop)(aC:Str->Option cz)(ak:St)(i:Nat)(h1:Rel W S fn F' M' aC ak s')(h2:fI W F M F' M' s s')(h3:sr.P F' it i s'.heap)(h4:¬F' it)(h5:¬M' it)(h6:it<aJ s')(h7:n=xs.length-i)(h8:dU set g (xs.drop i) ak=some r),G):G:=FO.rec (motive:=λZ=>G) I z
theorem JD{iter:u_}{f:St->Rs (List AV)}{g:St->Option Ou}(hi:mU W fn iter f)(ht:tj W fn target set)(hb:c5 W false fn body g)(fh:∀env x,foldedSetIterable iter env x=pure x):aR W false fn (.For target iter body [] pos) (λJ=>aU (f J) J λxs=>dU set g xs J):=.mk λS F M cur J r s U R hf=>cps λQ E kQ kE=>by
 refine wpAny_For ?_ (fh _);refine pG (cg hf) (λc h1 er=>?_) λxs h1 h2=>?_
 ·have L:∀x s',PX W S s (.error c:Except cz (List AV)) x s'->E x s':=λZ Z x=>kE _ _ (x.st U R λZ h=>er.trans (sJ _ h));exact fm (hi.run S F M cur J _ s U R h1) (λZ Z h=>fm h (λZ Z g=>g.no) L) L
 refine fm (hi.run S F M cur J _ s U R h1) (λv af h=>fm h (λw s₂ g=>?_) λZ Z x=>x.no) λZ Z x=>x.no;refine g.el λyu sr it aB ha hw V vg aD G E1 hP=>?_;clear g;clear hf;cases ha;subst hw;have aM:=R.move U aD G;have e8:S.s₀.heap.objs.size<=it:=bU R.step.size V;refine SR (FO S fn F M s sr it set g r) λI I1 I2=>codeAny_forLoop_any I
  (λn s' hI=>?_) (xs.length-0) (I1 _ _ ⟨aB,M,cur,J,0,aM,aD.fY G,hP,E1,
   λh=>f3 _ (bk (R.mu it h).2.1 V),vg,rfl,by simpa using h2⟩)
 refine(I2 _ _ hI).el ?_;clear h2 vg E1 hP I2 hI;rintro F' M' aC ak i R' T' Hk jS Y h_ rfl z;have SX:aJ s<=it:=V;clear V;cases hx:xs[i]? with
 |none=>
  refine aP (sr.fin (U.hand rfl) Hk hx λh' t hE hz=>abV ?_);have hd:xs.drop i=[]:=by rw[ZU];exact R3.mp hx
  rw[hd]at z;simp only[lV,e4]at z;clear kE I1;subst z;have B:∀b o,b≠it->s'.heap.get? b=some o->∃sl,h'.get? b=some {o with slots:=sl}:=λb o hb e=>⟨o.slots,hE b o hb e⟩;exact kQ _ _ ⟨F',M',aC,ak,R'.iter U jS Y e8 (sr.small Hk) (λb o hb=>hE b o (λe=>by rw[e,U.bh e8]at hb;exact aZ hb) (R'.stays b o hb)) hE hz,T'.iter SX B hz,rfl⟩
 |some x=>
  have hd:xs.drop i=x::xs.drop (i+1):=by
   refine au (gw.mp hx) λJE yD=>?_;exact ag (ZH JE) (ag yD rfl)
  rw[hd]at z;rw[eJ]at z;refine sr.item Hk jS hx λw h' t bO kN hw=>?_;have B:∀b o,b≠it->s'.heap.get? b=some o->∃sl,h'.get? b=some {o with slots:=sl}:=λb o hb e=>⟨o.slots,(bO.2 b hb).trans e⟩;have hz:aJ s'<=h'.objs.size:=by refine ag bO.1 ?_;exact t_ _
  have cG:Rel W S fn F' M' aC ak {s' with heap:=h',toks:=t}:=R'.iter U jS Y e8 (sr.small Hk) (λb o hb=>(bO.2 b λe=>by rw[e,U.bh e8]at hb;exact aZ hb).trans (R'.stays b o hb)) (λb o hb e=>(bO.2 b hb).trans e) hz;have bp:fI W F M F' M' s {s' with heap:=h',toks:=t}:=T'.iter SX B hz;refine sr.ti kN ?_;clear Hk SX bO B;rcases jL:set x ak with _|a6
  ·rw[jL]at z;exact aZ z
  rw[jL]at z;refine fm (ht.run S F' M' aC ak a6 _ x w U cG hw jL) (λZ dx g=>?_) λZ Z h=>h.elim;refine g.el λAH SY iP eI Z=>?_;clear g;rcases hg:g a6 with _|o
  ·simp[hg]at z
  have tl:it<aJ ({s' with heap:=h',toks:=t}:ea):=bk h_ hz;have tm:sr.P AH it (i+1) dx.heap:=sr.keep kN eI.more λb o hb e=>eI.keep b o (λh=>by
   refine g' hb ?_ λhb=>?_;clear hb;clear jS h_ kN tl;clear I1;rintro rfl
   ·exact h.elim (λh=>f3 _ (bk (U.lb _ h) e8)) Y
   ·exact h.elim (cG.bound U hb).2 λh=>(cG.mu b h).2.2 hb) e
  have AI:¬AH it:=λh=>(eI.fE it h).elim jS λh=>h.elim Y λh=>f3 _ (bk tl h);refine fm (hb.run S AH M' SY a6 o dx U iP hg) (λfl cJ hp=>?_) λy cJ hy=>?_
  ·refine hp.el λgC JF JG xj dM cA hm=>?_;clear hp;have eu:=(bp.trans eI).trans cA;have next:dU set g (xs.drop (i+1)) xj=some r->∃m,m<xs.length-i/\I m cJ:=λh=>by
    have th:=(gw.mp hx).1;have E2:it<aJ dx:=bk tl eI.size;refine⟨xs.length-(i+1),by exact aaG ‹_› (rv _),I1 _ _ ⟨gC,JF,JG,xj,i+1,dM,eu,sr.keep tm cA.more λb o hb e=>cA.keep b o (λh=>?_) e,λh=>?_,λh=>?_,bk E2 cA.size,rfl,h⟩⟩
    ·refine g' hb ?_ λhb=>?_;clear hb;clear tm AI E2;clear jS h_ kN tl;clear I1;rintro rfl
     ·exact h.elim (λh=>f3 _ (bk (U.lb _ h) e8)) Y
     ·exact h.elim (iP.bound U hb).2 λh=>(iP.mu b h).2.2 hb
    ·exact(cA.fE it h).elim AI λh=>h.elim Y λh=>f3 _ (bk E2 h)
    ·exact(cA.grow it h).elim Y λh=>f3 _ (bk E2 h)
   clear kE;cases fl with
   |next=>subst hm;simp only[hg]at z;exact next z
   |cont=>subst hm;simp only[hg]at z;exact next z
   |brk=>clear next;subst hm;simp only[hg,e4]at z;subst z;exact kQ _ _ ⟨gC,JF,JG,xj,dM,eu,rfl⟩
   |ret v=>refine ax hm ?_;clear hm;clear next;rintro a rfl gv;simp only[hg,e4]at z;subst z;exact kQ _ _ ⟨gC,JF,JG,xj,dM,eu,a,rfl,gv⟩
  ·refine kL (jB U ?_) kE;refine hy.el λcls e n' gU q9 s7 gV g1 g2 g3 g4 g5 g6 g7 g8=>?_;clear hy;clear kQ;clear kE;subst g1;simp only[hg,e4]at z;subst z;exact i9.lift (bp.trans eI) ⟨cls,e,n',gU,q9,s7,gV,rfl,g2,g3,g4,g5,g6,g7,g8⟩
theorem nX{v:cz}{Q:Unit->ea->Prop}{T:String}(z:s.heap.get? it=some o)(I:o.cls= .type T)(U:["enumerate","zip","dict_itemiterator","dict_reverseitemiterator","odict_iterator","itertools.zip_longest","itertools.pairwise"].contains T=false)(h:Q () s):wpAny (model W.prog W.w) A (letOwnedTupleGo target (.ref it) v) Q E s:=by
 have key:∀a,wpAny (model W.prog W.w) A (do
   let o<-load it
   match o.cls,o.data with
   | .type n,.fields vs=>
    if["enumerate","zip","dict_itemiterator","dict_reverseitemiterator","odict_iterator","itertools.zip_longest","itertools.pairwise"].contains n&&vs[0]? ==some (rawInt a)then
     rule "for.unpacks-the-owned-tuple"
     updateField it 0 .none
   |_,_=>pure ()) Q E s:=λa=>by
  refine az (abn z ?_);refine ag I ?_;cases hd:o.data<;>simp only[U,aaI,F3,if_false]<;>exact en h
 cases target<;>first|exact en h|(cases v<;>first|exact en h|exact key _)
noncomputable def E3(xs:List AV):Src W xs where
 P F it i h:=∃l vs,F l/\LstAt h l vs/\bL h F xs vs/\h.IsListIter it l i
 item:=λ{A E F it i x s Q} ⟨l,vs,U,V,Y,z⟩ jS hx hQ=>by
  refine ax (Y.get hx) λv hv gv=>wpAny_pyNext_list_item z V.list (by simpa using hv) λh' AJ bO=>?_;have kq:Ab F s.heap h':=λb hb o I=>⟨o.slots,(bO.2 b λe=>jS (e▸hb)).trans I⟩;refine hQ v h' s.toks bO ⟨l,vs,U,?_,Y.mono kq λZ h=>h,AJ⟩ (gv.mono kq λZ h=>h);obtain⟨n,sl,I⟩:=V;exact⟨n,sl,(bO.2 l λe=>jS (e▸U)).trans I⟩
 fin:=λ{A E F it i s Q} hh ⟨l,vs,U,V,Y,z⟩ hx hQ=>
  abH hh z V.list (by
   rw[R3]at hx;simp[Y.length];exact hx) λh' hE=>hQ h' s.toks hE
 keep:=λ{F F' it i h h'} ⟨l,vs,U,V,Y,⟨o,I,hc,hd⟩⟩ QY k=>by
  obtain⟨n,sl,S0⟩:=V;exact au (k l _ (.inr U) S0) λdH hs=>au (k it _ (.inl rfl) I) λHl tu=>⟨l,vs,QY l U,⟨n,dH,hs⟩,Y.mono (λb hb o I=>k b o (.inr hb) I) QY,⟨_,tu,hc,hd⟩⟩
 self:=λ{A E F it i s Q} ⟨l,vs,U,V,Y,z⟩ hQ=>wpAny_pyIter_listiter z hQ
 small:=λ{F it i h} ⟨l,vs,U,V,Y,⟨o,I,hc,hd⟩⟩ o' et hB=>by
  rw[I]at et;revert et;refine bc λe=>?_;subst e;refine ax hB λws h1 h2=>?_;rw[hd]at h1;refine dK ?_ h1;clear h1;intro h1;cases h1;revert h2;simp
 ti:=λ{A E F it i s target v Q} ⟨l,vs,U,V,Y,⟨o,I,hc,hd⟩⟩ hQ=>nX I hc (by decide) hQ
theorem JH{iter:u_}{f:St->Rs (List AV)}(h:aL W false fn iter (λJ=>uW (f J))):mU W fn iter f:=.mk λS F M cur J r s z R U=>by
 cases r with
 |error c=>exact fm (h.run S F M cur J (.error c) s z R (by simp only[U];rfl)) (λZ Z h=>h.no) λZ Z x=>x.to yt
 |ok xs=>
  refine w8 (h.run S F M cur J (.ok (.lst xs)) s z R (by simp only[U];rfl)) λx aB af T G V=>bF V ?_;clear V;rintro l vs rfl hF Y Mi;have AK:aJ af<aJ {af with heap:=af.heap.push {cls:=.type "list_iterator",data:=.fields #[.ref l,.int 0 0]}}:=by simp only[aJ,rW];exact rv _
  refine acs Y.list ⟨xs,E3 xs,af.heap.objs.size,aB,rfl,rfl,T.size,AK,T.trans (.push T.stays),G.trans T.size (Kt AK) (.refl _ _ _),
   λh=>f3 _ ((R.move z T G).bound z h).1,l,vs,hF,?_,Mi.mono (λb Z o I=>⟨o.slots,ml _ I⟩) λZ h=>h,⟨_,w' _ rfl,rfl,rfl⟩⟩
  obtain⟨n,sl,I⟩:=Y;exact⟨n,sl,ml _ I⟩
noncomputable def JI(b:List UInt8):Src W (b.map λc=>.int c.toNat) where
 P F it i h:=∃t,KBw.IsBytesIter h it b.toArray t i
 item:=λ{A E F it i x s Q} ⟨t,z⟩ jS I U=>by
  rw[Xv]at I;rcases hb:b[i]? with _|c
  ·rw[hb]at I;cases I
  rw[hb]at I;refine dK ?_ I;clear I;intro I;cases I;exact KBw.next_item z (c:=c) (by simpa using hb) λh' AJ bO=>U _ h' _ bO ⟨t,AJ⟩ (⟨_,rfl⟩)
 fin:=λ{A E F it i s Q} hh ⟨t,z⟩ I U=>KBw.next_end hh z (by
   rw[R3]at I
   simpa using I) λh' hE=>U h' s.toks hE
 keep:=λ{F F' it i h h'} ⟨t,⟨o,V,Y,hd⟩⟩ QY k=>by
  exact au (k it _ (.inl rfl) V) λHl tu=>⟨t,⟨_,tu,Y,hd⟩⟩
 self:=λ{A E F it i s Q} ⟨t,z⟩ U=>KBw.pyIter_self z U
 small:=λ{F it i h} ⟨t,⟨o,V,Y,hd⟩⟩ o' Z hB=>by
  rw[V]at Z;revert Z;refine bc λe=>?_;subst e;refine ax hB λws h1 h2=>?_;rw[hd]at h1;refine dK ?_ h1;clear h1;intro h1;cases h1;revert h2;simp
 ti:=λ{A E F it i s target v Q} ⟨t,⟨o,V,Y,hd⟩⟩ U=>nX V Y (by decide) U
def S1(x:Rs AV):Rs (List AV):=bindR x fun| .aa b=>aA (b.map λc=>.int c.toNat)|_=>none
theorem xk{iter:u_}{f:St->Rs AV}(h:cw W false fn iter f):mU W fn iter (λJ=>S1 (f J)):=.mk λS F M cur J r s I R U=>by
 refine gM U (h.run S F M cur J · s I R) λa h2 x aB af T G z=>?_;clear U;cases a with
 |aa b=>
  cases h2;have z:=z.dB rfl;refine au z ?_;clear z;clear z;rintro t rfl;have V:aJ af<aJ {af with heap:=af.heap.push {cls:=.type "bytes_iterator",data:=.fields #[.bytes b.toArray t,.int 0 0]}}:=by simp only[aJ,rW];exact rv _
  exact KBw.pyIter_bytes ⟨_,JI b,af.heap.objs.size,aB,rfl,rfl,T.size,V,T.trans (.push T.stays),G.trans T.size (Kt V) (.refl _ _ _),
   λh=>f3 _ ((R.move I T G).bound I h).1,t,⟨_,w' _ rfl,rfl,rfl⟩⟩
 |_=>exact aZ h2
end
def eK(a:fF)(h:ZN):Prop:=a<h.objs.size/\h.get? a=none
theorem my{a b:fF}{f:Obj->Obj}(hb:(h.get? b).isSome)(x:eK a h):eK a (h.update b f):=by
 have z:b≠a:=λe=>by subst e;rw[x.2]at hb;cases hb
 exact⟨by rw[aaL];exact x.1,by rw[Vp _ _ z];exact x.2⟩
theorem qC{a:fF}(x:eK a h):eK a (h.push o):=by
 refine⟨by rw[rW];exact Z0 x.1,?_⟩;cases z:(h.push o).get? a with
 |none=>rfl
 |some o'=>
  refine WW (Heap.get?_push_cases z) (λe Z=>?_) λe=>?_
  ·exact absurd e (HA x.1)
  ·rw[x.2]at e;exact aZ e
set_option tactic.hygienic true in
theorem qD{a:fF}{M:SW}{V:Ctx}{p:Pos}{t:Sem Fin}{fs:List Frame}{e:End}(h:Runs M V p t fs s e s'):eK a s.heap->eK a s'.heap:=by
 induction h
 case update Y _ z=>exact λhd=>z (my Y hd)
 case alloc _ z=>exact λhd=>z (qC hd)
 all_goals (intro hd;(try simp only[Shared.setGen]at*);first|exact hd|(rename_i z;exact z hd)|(rename_i I U;exact U (I hd))|(rename_i I _ U;exact U (I hd))|(solve_by_elim))
theorem vi{a:fF}{M:SW}{z:Ctx}{p:Pos}{g:Nat}{r:Resume}{res:GenResult}(h:Wakes M z p g r s res s')(hd:eK a s.heap):eK a s'.heap:=nJ (P:=eK a) h (λ{_ _ _ _ _ t} I=>(qD I:eK a (s.setGen g .running).heap->eK a t.heap) hd) hd
def Dd(z h:ZN):Prop:=∀a,eK a z->eK a h
theorem wp_dead(M:SW)(Y:Ctx)(I:ZN)(t:Sem α):∀(Q:α->Pos->ea->Prop)(E:cz->Pos->ea->Prop)(p:Pos)(s:ea),Dd I s.heap->Sem.wp M Y t Q E p s->Sem.wp M Y t (λa V s'=>Dd I s'.heap/\Q a V s') (λe V s'=>Dd I s'.heap/\E e V s') p s:=by
 induction t with
 |pure a=>intro Q E p s z h;exact⟨z,h⟩
 |raise e=>intro Q E p s z h;exact⟨z,h⟩
 |unsupported _=>intro Q E p s _ h;exact h
 |finish _=>intro Q E p s _ h;exact h
 |register _ _=>intro Q E p s _ h;exact h
 |yield _ _ _ _=>intro Q E p s _ h;exact h
 |fork _ _=>intro Q E p s _ h;exact h
 |await _ _ _ _ _=>intro Q E p s _ h;exact h
 |load a _ k ih=>intro Q E p s z h;refine ax h ?_;intro o ho h;exact⟨o,ho,ih o Q E p s z h⟩
 |update a _ f k ih=>intro Q E p s z h;exact⟨h.1,ih () Q E p _ (λa U=>my h.1 (z a U)) h.2⟩
 |alloc o k ih=>intro Q E p s z h;exact ih _ Q E p _ (λa U=>qC (z a U)) h
 |choose src m k ih=>intro Q E p s z h;exact⟨h.1,ih _ Q E p _ z h.2⟩
 |call c hd _ _ k ih=>intro Q E p s z h;refine e7 h ?_;intro r s' Z h;exact⟨r,s',Z,ih r Q E p s' (λa U=>qD Z (z a U)) h⟩
 |genState g k ih=>intro Q E p s z h;refine ax h ?_;intro st hs h;exact⟨st,hs,ih _ Q E p s z h⟩
 |resume g r _ k ih=>intro Q E p s z h;refine e7 h ?_;intro res s' hw h;exact⟨res,s',hw,ih res Q E p s' (λa U=>vi hw (z a U)) h⟩
 |rule _ k ih=>intro Q E p s z h;exact ih () Q E p s z h
 |«at» V k ih=>intro Q E p s z h;exact ih () Q E V s z h
 |loadIfAlive a k ih=>intro Q E p s z h;exact ih _ Q E p s z h
 |point _ k ih=>intro Q E p s z h;exact ih () Q E p s z h
 |fresh k ih=>intro Q E p s z h;exact ih _ Q E p _ z h
 |ask k ih=>intro Q E p s z h;exact ih _ Q E p s z h
 |os q _ k ih=>intro Q E p s z h;exact ih _ Q E p _ z h
 |handled own k ih=>intro Q E p s z h;exact ih _ Q E p s z h
 |newGen c k ih=>intro Q E p s z h;exact ih _ Q E p _ z h
 |stack k ih=>intro Q E p s z h;exact ih _ Q E p s z h
 |thread k ih=>intro Q E p s z h;exact ih _ Q E p s z h
section
variable {M:SW}
theorem gW{t:Sem α}{Q:α->ea->Prop}(h:wpAny M A t (λa s'=>(∀b o,s.heap.get? b=none->s'.heap.get? b=some o->aJ s<=b)->Q a s') (λe s'=>(∀b o,s.heap.get? b=none->s'.heap.get? b=some o->aJ s<=b)->E e s') s):wpAny M A t Q E s:=
 λz p U=>by
  have key:∀s':ea,Dd s.heap s'.heap->∀b o,s.heap.get? b=none->s'.heap.get? b=some o->aJ s<=b:=λs' hd b o h1 h2=>by
   refine g' (adx b (aJ s)) (λI=>?_) λI=>?_
   ·have:=(hd b ⟨I,h1⟩).2;rw[h2]at this;exact z9 this
   ·exact I
  exact aaJ M z t (λZ Z s' x=>x.2 (key s' x.1)) (λZ Z s' x=>x.2 (key s' x.1)) p s (wp_dead M z s.heap t _ _ p s (λZ h=>h) (h z p U))
end
section
open PySem.W.X
set_option maxHeartbeats 0
set_option backward.eqns.nonrecursive true
set_option backward.match.sparseCases true
abbrev pw:abf:=PySem.Challenge.pw_iy0012_03
abbrev lw:OpenLaw:=PySem.Challenge.rw_iy0012_03
noncomputable def bodyOf(s:aaa):List aaa:=if h:s.ctorIdx=0 then abI (motive_2:=λZ=>List aaa) s h λZ Z b Z Z Z Z Z Z Z=>b else if h:s.ctorIdx=2 then Stmt.ClassDef.elim (motive_2:=λZ=>List aaa) s h λZ Z Z b Z Z Z Z Z Z Z=>b else[]
def AN:List aaa->List Nat->aaa
 |l,i::r=>(λs=>if r=[]then s else AN (bodyOf s) r) (l.getD i (.Pass default))
 |_,[]=>.Pass default
noncomputable def fdOf(s:aaa):abr×List aaa×abw:=if h:s.ctorIdx=0 then abI (motive_2:=λZ=>abr×List aaa×abw) s h λZ a b Z Z Z sc Z Z Z=>(a,b,sc)else(⟨[],[],none,[],[],none,[]⟩,[],⟨.function,[],false,false,[]⟩)
def bG(z:List Nat):abr×List aaa×abw:=fdOf (AN pw.main.body z)
noncomputable def nY(f:abr×List aaa×abw)(name qual:Str)(globals:fF)(QZ:List (Str×fF))(I U V doc pm cd:cz)(blt:fF)(z:Option fF):aba:=
 {name,qualname:=qual,params:=f.1,body:=.stmts f.2.1,scope:=f.2.2,globals,closure:=QZ,defaults:=U,kwdefaults:=V,doc,pyModule:=pm,annotations:=z,code:=cd,closureTuple:=I,builtins:=blt}
noncomputable abbrev de(P:kX)(k:Str)(t:Tok)(v:cz):ab9:=⟨PyData.keyHash P k,.str k t,v⟩
noncomputable abbrev oF(c:cz)(l:List cz):Obj:=⟨c,none,.fields l.toArray,#[]⟩
noncomputable abbrev oS(c:cz)(l:List cz)(n:Nat):Obj:=⟨c,none,.seq l.toArray n,#[]⟩
abbrev oT(l:List cz):Obj:=oS (.type "tuple") l 0
noncomputable abbrev oD(c:cz)(l:List ab9)(n:Nat):Obj:=⟨c,none,.dict l.toArray n,#[]⟩
noncomputable abbrev oU(c:cz)(f:aba):Obj:=⟨c,none,.func f,#[]⟩
abbrev bq:Obj:=oT []
abbrev dn:Obj:=oF .none []
abbrev dv(a b:Str)(n:Nat)(l k c:Int)(r:Nat)(A B C D:cz)(m:Nat):Obj:=oF (.type "code") [.str a n,.str b (n+1),.str "/claim/cut.py" (n+2),.int l 0,.int k 0,.int 0 0,.int 0 0,.int c 0,.ref r,.bool true,.int 181 0,.ref (r+1),A,B,C,D,.int m 0,.int l 0,.str "/claim/cut.py" (m+1)]
abbrev VG(p:List Nat)(a b m:Str)(n r:Nat):Obj:=oU (.type "function") (nY (bG p) a b 3 [] .none .none .none .none (.str m n) (.ref r) 0 none)
abbrev fM(p:List Nat)(a b:Str)(r:Nat):Obj:=VG p a b "dulwich.objects" 301 r
abbrev AO(p:List Nat)(a b:Str)(r:Nat):Obj:=VG p a b "law_iy0012_03" 861 r
abbrev dw(p:List Nat)(a b:Str):Obj:=oU .none (nY (bG p) a b 0 [] .none .none .none .none .none .none 0 none)
noncomputable abbrev oP(c:cz)(d:fF):Obj:=⟨c,some d,.plain,#[]⟩
def VI(P:kX):Obj:=oD .none [de P "type.__subclasses__.Exception.0" 212 (.int 31 0),de P "type.__subclasses__.Exception.n" 213 (.int 1 0)] 2
def S3(P:kX):Obj:=oD (.type "dict") [de P "__name__" 165 (.str "law_iy0012_03" 861),de P "__doc__" 166 .none,de P "__package__" 167 .none,de P "__loader__" 168 (.builtin "__main__.__loader__#opaque"),de P "__spec__" 169 .none,de P "__annotations__" 170 (.ref 6),de P "__builtins__" 171 (.ref 4),de P "__file__" 173 (.str "/claim/cut.py" 172),de P "__cached__" 174 .none,de P "_wall" 193 (.ref 21),de P "FileFormatException" 215 (.ref 31),de P "ObjectFormatException" 231 (.ref 44),de P "ObjectFormat" 278 (.ref 70),de P "SHA1" 299 (.ref 76),de P "DEFAULT_OBJECT_FORMAT" 300 (.ref 76),de P "_digit" 309 (.ref 84),de P "unhexlify" 315 (.ref 89),de P "ObjectID" 322 (.ref 96),de P "_TREE_HEADER" 324 (.bytes #[116,114,101,101] 323),de P "_PARENT_HEADER" 326 (.bytes #[112,97,114,101,110,116] 325),de P "_AUTHOR_HEADER" 328 (.bytes #[97,117,116,104,111,114] 327),de P "_COMMITTER_HEADER" 330 (.bytes #[99,111,109,109,105,116,116,101,114] 329),de P "_ENCODING_HEADER" 332 (.bytes #[101,110,99,111,100,105,110,103] 331),de P "_GPGSIG_HEADER" 334 (.bytes #[103,112,103,115,105,103] 333),de P "MAX_TIME" 336 (.int 9223372036854775807 335),de P "valid_hexsha" 343 (.ref 103),de P "check_hexsha" 351 (.ref 110),de P "check_identity" 361 (.ref 117),de P "check_time" 368 (.ref 124),de P "git_line" 376 (.ref 131),de P "ShaFile" 487 (.ref 214),de P "_parse_message" 503 (.ref 225),de P "_format_message" 515 (.ref 232),de P "parse_timezone" 528 (.ref 239),de P "format_timezone" 538 (.ref 247),de P "parse_time_entry" 554 (.ref 254),de P "format_time_entry" 565 (.ref 261),de P "_parse_commit" 585 (.ref 269),de P "Commit" 860 (.ref 501),de P "_law_one" 868 (.ref 510),de P "_law_rows" 874 (.ref 517),de P "_law_few" 880 (.ref 524),de P "_law_named" 886 (.ref 529),de P "_law_number" 892 (.ref 534),de P "_law_signed" 904 (.ref 541),de P "_law_split" 917 (.ref 548),de P "_law_read" 923 (.ref 553),de P "_law_person" 929 (.ref 558),de P "_law_sound" 941 (.ref 565),de P "law" 947 (.ref 570)] 50
def VJ(P:kX):Obj:=oP (.type "module") 0
def Nk(P:kX):Obj:=oD (.type "dict") [de P "__module__" 203 (.str "dulwich.errors" 194),de P "__firstlineno__" 207 (.int 5 206),de P "__static_attributes__" 208 (.ref 29),de P "__weakref__" 210 (.ref 32),de P "__doc__" 211 .none] 3
noncomputable def Nl(P:kX):Obj:=⟨(.type "type"),none,.cls {name:="FileFormatException",bases:=[(.type "Exception")],mro:=[(.ref 31),(.type "Exception"),(.type "BaseException"),(.type "object")],ns:=30,qualname:="FileFormatException",hasDict:=true,subclasses:=[(.ref 44)],abstract:=false,hasDel:=false},#[some (.ref 22),none,some (.str "FileFormatException" 196),some (.str "FileFormatException" 204),some (.builtin "Exception.__new__"),some (.bool true)]⟩
def JJ(P:kX):Obj:=oD (.type "dict") [de P "__module__" 223 (.str "dulwich.errors" 194),de P "__firstlineno__" 227 (.int 7 226),de P "__static_attributes__" 228 (.ref 42),de P "__doc__" 229 .none] 2
noncomputable def Nm(P:kX):Obj:=⟨(.type "type"),none,.cls {name:="ObjectFormatException",bases:=[(.ref 31)],mro:=[(.ref 44),(.ref 31),(.type "Exception"),(.type "BaseException"),(.type "object")],ns:=43,qualname:="ObjectFormatException",hasDict:=true,subclasses:=[],abstract:=false,hasDel:=false},#[some (.ref 35),none,some (.str "ObjectFormatException" 216),some (.str "ObjectFormatException" 224),some (.builtin "Exception.__new__"),some (.bool true)]⟩
def Nn(P:kX):Obj:=dv "_digit" "_digit" 303 24 1 3 78 .none (.ref 80) (.ref 81) (.ref 82) 307
def JK(P:kX):Obj:=fM [9] "_digit" "_digit" 83
def Np(P:kX):Obj:=dv "unhexlify" "unhexlify" 310 32 1 3 85 .none .none .none (.ref 87) 313
def JL(P:kX):Obj:=fM [10] "unhexlify" "unhexlify" 88
def Nq(P:kX):Obj:=dv "ObjectID" "ObjectID" 316 36 1 3 90 .none (.ref 92) (.ref 93) (.ref 94) 320
def JM(P:kX):Obj:=fM [11] "ObjectID" "ObjectID" 95
def Hm(P:kX):Obj:=dv "valid_hexsha" "valid_hexsha" 337 45 1 3 97 .none (.ref 99) (.ref 100) (.ref 101) 341
def AP(P:kX):Obj:=fM [19] "valid_hexsha" "valid_hexsha" 102
def Hn(P:kX):Obj:=dv "check_hexsha" "check_hexsha" 344 54 2 3 104 .none (.ref 106) (.ref 107) (.ref 108) 349
def AQ(P:kX):Obj:=fM [20] "check_hexsha" "check_hexsha" 109
def Ho(P:kX):Obj:=dv "check_identity" "check_identity" 352 57 2 3 111 .none (.ref 113) (.ref 114) (.ref 115) 359
def AR(P:kX):Obj:=fM [21] "check_identity" "check_identity" 116
def Hp(P:kX):Obj:=dv "check_time" "check_time" 362 64 1 3 118 .none (.ref 120) (.ref 121) (.ref 122) 366
def AS(P:kX):Obj:=fM [22] "check_time" "check_time" 123
def Hq(P:kX):Obj:=dv "__init__" "ShaFile.__init__" 389 71 1 3 139 .none (.ref 141) (.ref 142) (.ref 143) 393
def AU(P:kX):Obj:=fM [24,0] "__init__" "ShaFile.__init__" 144
def Hr(P:kX):Obj:=dv "as_raw_chunks" "ShaFile.as_raw_chunks" 396 77 1 3 146 .none (.ref 148) (.ref 149) (.ref 150) 400
def AW(P:kX):Obj:=fM [24,1] "as_raw_chunks" "ShaFile.as_raw_chunks" 151
def Hs(P:kX):Obj:=dv "as_raw_string" "ShaFile.as_raw_string" 403 85 1 3 153 .none (.ref 155) (.ref 156) (.ref 157) 407
def AX(P:kX):Obj:=fM [24,2] "as_raw_string" "ShaFile.as_raw_string" 158
def Ht(P:kX):Obj:=dv "set_raw_string" "ShaFile.set_raw_string" 410 88 2 3 160 .none (.ref 162) (.ref 163) (.ref 164) 415
def AY(P:kX):Obj:=fM [24,3] "set_raw_string" "ShaFile.set_raw_string" 165
def Hu(P:kX):Obj:=dv "set_raw_chunks" "ShaFile.set_raw_chunks" 418 93 2 3 167 .none (.ref 169) (.ref 170) (.ref 171) 423
def AZ(P:kX):Obj:=fM [24,4] "set_raw_chunks" "ShaFile.set_raw_chunks" 172
def Hv(P:kX):Obj:=dv "from_string" "ShaFile.from_string" 426 99 2 3 174 .none (.ref 176) (.ref 177) (.ref 178) 432
def A6(P:kX):Obj:=oU (.type "function") (nY (bG [24,5]) "from_string" "ShaFile.from_string" 3 [] .none .none .none .none (.str "dulwich.objects" 301) (.ref 179) 0 (some 183))
def Hw(P:kX):Obj:=oF .none []
def xl(P:kX):Obj:=dv "_parse_message" "_parse_message" 488 116 1 35 219 .none (.ref 221) (.ref 222) (.ref 223) 501
def A7(P:kX):Obj:=fM [25] "_parse_message" "_parse_message" 224
def Hx(P:kX):Obj:=dv "parse_timezone" "parse_timezone" 516 157 1 3 233 .none (.ref 235) (.ref 236) (.ref 237) 526
def A8(P:kX):Obj:=fM [27] "parse_timezone" "parse_timezone" 238
def Hy(P:kX):Obj:=dv "parse_time_entry" "parse_time_entry" 539 180 1 3 248 .none (.ref 250) (.ref 251) (.ref 252) 552
def A9(P:kX):Obj:=fM [29] "parse_time_entry" "parse_time_entry" 253
def Hz(P:kX):Obj:=oT [.bytes #[103,112,103,115,105,103] 333]
def HB(P:kX):Obj:=dv "_parse_commit" "_parse_commit" 566 197 2 3 263 .none (.ref 265) (.ref 266) (.ref 267) 583
def A_(P:kX):Obj:=oU (.type "function") (nY (bG [31]) "_parse_commit" "_parse_commit" 3 [] .none (.ref 262) .none .none (.str "dulwich.objects" 301) (.ref 268) 0 none)
noncomputable def HC(P:kX):Obj:=⟨(.type "cell"),none,.cell (some (.ref 501)),#[]⟩
def Ba(P:kX):Obj:=dv "__init__" "Commit.__init__" 602 253 1 3 279 .none (.ref 281) (.ref 282) (.ref 283) 607
def Bb(P:kX):Obj:=oU (.type "function") (nY (bG [32,2]) "__init__" "Commit.__init__" 3 [("__class__",273)] (.ref 278) .none .none .none (.str "dulwich.objects" 301) (.ref 284) 0 none)
def HD(P:kX):Obj:=dv "_deserialize" "Commit._deserialize" 610 262 2 3 286 .none .none .none (.ref 288) 613
def Bc(P:kX):Obj:=fM [32,3] "_deserialize" "Commit._deserialize" 289
def HE(P:kX):Obj:=dv "check" "Commit.check" 616 273 1 3 291 .none (.ref 293) (.ref 294) (.ref 295) 624
def Bd(P:kX):Obj:=fM [32,4] "check" "Commit.check" 296
def HF(P:kX):Obj:=dv "tree" "Commit.tree" 643 337 1 3 312 .none (.ref 314) (.ref 315) (.ref 316) 647
def Be(P:kX):Obj:=fM [32,7] "tree" "Commit.tree" 317
def HG(P:kX):Obj:=dv "parents" "Commit.parents" 661 346 1 3 329 .none (.ref 331) (.ref 332) (.ref 333) 665
def Bf(P:kX):Obj:=fM [32,9] "parents" "Commit.parents" 334
def HH(P:kX):Obj:=dv "author" "Commit.author" 679 355 1 3 346 .none (.ref 348) (.ref 349) (.ref 350) 683
def Bg(P:kX):Obj:=fM [32,11] "author" "Commit.author" 351
def HI(P:kX):Obj:=dv "committer" "Commit.committer" 697 364 1 3 363 .none (.ref 365) (.ref 366) (.ref 367) 701
def Bh(P:kX):Obj:=fM [32,13] "committer" "Commit.committer" 368
def HJ(P:kX):Obj:=dv "message" "Commit.message" 715 373 1 3 380 .none (.ref 382) (.ref 383) (.ref 384) 719
def Bi(P:kX):Obj:=fM [32,15] "message" "Commit.message" 385
def HK(P:kX):Obj:=dv "commit_time" "Commit.commit_time" 733 382 1 3 397 .none (.ref 399) (.ref 400) (.ref 401) 737
def Bj(P:kX):Obj:=fM [32,17] "commit_time" "Commit.commit_time" 402
def HL(P:kX):Obj:=dv "commit_timezone" "Commit.commit_timezone" 751 391 1 3 414 .none (.ref 416) (.ref 417) (.ref 418) 755
def Bk(P:kX):Obj:=fM [32,19] "commit_timezone" "Commit.commit_timezone" 419
def HM(P:kX):Obj:=dv "author_time" "Commit.author_time" 769 400 1 3 431 .none (.ref 433) (.ref 434) (.ref 435) 773
def Bl(P:kX):Obj:=fM [32,21] "author_time" "Commit.author_time" 436
def HN(P:kX):Obj:=dv "author_timezone" "Commit.author_timezone" 787 409 1 3 448 .none (.ref 450) (.ref 451) (.ref 452) 791
def Bm(P:kX):Obj:=fM [32,23] "author_timezone" "Commit.author_timezone" 453
def HO(P:kX):Obj:=dv "encoding" "Commit.encoding" 805 418 1 3 465 .none (.ref 467) (.ref 468) (.ref 469) 809
def Bn(P:kX):Obj:=fM [32,25] "encoding" "Commit.encoding" 470
def HP(P:kX):Obj:=dv "gpgsig" "Commit.gpgsig" 823 427 1 3 482 .none (.ref 484) (.ref 485) (.ref 486) 827
def Bo(P:kX):Obj:=fM [32,27] "gpgsig" "Commit.gpgsig" 487
noncomputable def HQ(P:kX):Obj:=⟨(.type "type"),none,.cls {name:="Commit",bases:=[(.ref 214)],mro:=[(.ref 501),(.ref 214),(.type "object")],ns:=500,qualname:="Commit",hasDict:=true,subclasses:=[],abstract:=false,hasDel:=false},#[some (.ref 270),none,some (.str "Commit" 586),some (.str "Commit" 594),some (.builtin "object.__new__"),some (.bool true)]⟩
def HR(P:kX):Obj:=dv "_law_one" "_law_one" 863 436 0 3 504 .none (.ref 506) (.ref 507) (.ref 508) 866
def Bp(P:kX):Obj:=AO [34] "_law_one" "_law_one" 509
def HS(P:kX):Obj:=dv "_law_rows" "_law_rows" 869 438 0 3 511 .none (.ref 513) (.ref 514) (.ref 515) 872
def Bq(P:kX):Obj:=AO [35] "_law_rows" "_law_rows" 516
def HT(P:kX):Obj:=dv "_law_few" "_law_few" 875 440 0 3 518 .none (.ref 520) (.ref 521) (.ref 522) 878
def Br(P:kX):Obj:=AO [36] "_law_few" "_law_few" 523
def HU(P:kX):Obj:=dv "_law_named" "_law_named" 881 442 1 3 525 .none .none .none (.ref 527) 884
def Bs(P:kX):Obj:=AO [37] "_law_named" "_law_named" 528
def HW(P:kX):Obj:=dv "_law_number" "_law_number" 887 444 1 3 530 .none .none .none (.ref 532) 890
def Bt(P:kX):Obj:=AO [38] "_law_number" "_law_number" 533
def HX(P:kX):Obj:=dv "_law_signed" "_law_signed" 893 451 1 3 535 .none (.ref 537) (.ref 538) (.ref 539) 902
def Bu(P:kX):Obj:=AO [39] "_law_signed" "_law_signed" 540
def HY(P:kX):Obj:=dv "_law_split" "_law_split" 905 464 1 3 542 .none (.ref 544) (.ref 545) (.ref 546) 915
def Bv(P:kX):Obj:=AO [40] "_law_split" "_law_split" 547
def HZ(P:kX):Obj:=dv "_law_read" "_law_read" 918 483 1 3 549 .none .none .none (.ref 551) 921
def Bw(P:kX):Obj:=AO [41] "_law_read" "_law_read" 552
def H0(P:kX):Obj:=dv "_law_person" "_law_person" 924 507 1 3 554 .none .none .none (.ref 556) 927
def Bx(P:kX):Obj:=AO [42] "_law_person" "_law_person" 557
def H3(P:kX):Obj:=dv "_law_sound" "_law_sound" 930 512 2 3 559 .none (.ref 561) (.ref 562) (.ref 563) 939
def By(P:kX):Obj:=AO [43] "_law_sound" "_law_sound" 564
def H4(P:kX):Obj:=dv "law" "law" 942 521 1 3 566 .none .none .none (.ref 568) 945
def Bz(P:kX):Obj:=AO [44] "law" "law" 569
def O3(P:kX):List Obj:=[boot_o_0 P,oD (.type "dict") [de P "builtins" 162 (.ref 4),de P "__main__" 163 (.ref 5)] 2,VI P,S3 P,VJ P,oP (.type "module") 3,oD (.type "dict") [] 0,bq,dn,oF (.type "code") [.str "<module>" 176,.str "<module>" 177,.str "/claim/cut.py" 178,.int 1 0,.int 0 0,.int 0 0,.int 0 0,.int 0 0,.ref 7,.bool false,.int 175 0,.ref 8,.none,.none,.none,.none,.int 179 0,.int 1 0,.str "/claim/cut.py" 180],⟨(.type "frame"),none,.plain,#[some (.ref 9),some (.ref 3),some (.ref 3),none,some (.str "__main__" 164),none,some (.ref 0)]⟩,bq,oF .none [.int 1 0,.int 0 0,.ref 20,.int 5 0,.int 0 0,.ref 27,.int 7 0,.int 0 0,.ref 40,.int 10 0,.int 0 0,.ref 52,.int 24 0,.int 0 0,.ref 83,.int 32 0,.int 0 0,.ref 88,.int 36 0,.int 0 0,.ref 95,.int 45 0,.int 0 0,.ref 102,.int 54 0,.int 0 0,.ref 109,.int 57 0,.int 0 0,.ref 116,.int 64 0,.int 0 0,.ref 123,.int 67 0,.int 0 0,.ref 130,.int 69 0,.int 0 0,.ref 137,.int 116 0,.int 0 0,.ref 224,.int 148 0,.int 0 0,.ref 231,.int 157 0,.int 0 0,.ref 238,.int 170 0,.int 0 0,.ref 246,.int 180 0,.int 0 0,.ref 253,.int 194 0,.int 0 0,.ref 260,.int 197 0,.int 0 0,.ref 268,.int 249 0,.int 0 0,.ref 276,.int 436 0,.int 0 0,.ref 509,.int 438 0,.int 0 0,.ref 516,.int 440 0,.int 0 0,.ref 523,.int 442 0,.int 0 0,.ref 528,.int 444 0,.int 0 0,.ref 533,.int 451 0,.int 0 0,.ref 540,.int 464 0,.int 0 0,.ref 547,.int 483 0,.int 0 0,.ref 552,.int 507 0,.int 0 0,.ref 557,.int 512 0,.int 0 0,.ref 564,.int 521 0,.int 0 0,.ref 569],oF (.type "code") [.str "<module>" 182,.str "<module>" 183,.str "/claim/cut.py" 184,.int 1 0,.int 0 0,.int 0 0,.int 0 0,.int 0 0,.ref 11,.bool false,.int 181 0,.ref 12,.none,.none,.none,.none,.int 185 0,.int 1 0,.str "/claim/cut.py" 186],⟨(.type "frame"),none,.plain,#[some (.ref 13),some (.ref 3),some (.ref 3),none,some (.str "__main__" 164),none,some (.ref 0)]⟩,bq,dn,oT [.str "k" 190],bq,dw [0] "_wall" "_wall",dv "_wall" "_wall" 187 1 1 3 15 .none (.ref 17) (.ref 18) (.ref 19) 191,oU (.type "function") (nY (bG [0]) "_wall" "_wall" 3 [] .none .none .none .none (.str "__main__" 164) (.ref 20) 0 none),oT [.type "Exception"],oF (.type "builtin_function_or_method") [.builtin "type.__prepare__",.type "type"],oD (.type "dict") [de P "__module__" 203 (.str "dulwich.errors" 194),de P "__qualname__" 205 (.str "FileFormatException" 204),de P "__firstlineno__" 207 (.int 5 206),de P "__static_attributes__" 208 (.ref 29)] 4,bq,dn,oF (.type "code") [.str "FileFormatException" 198,.str "FileFormatException" 199,.str "/claim/cut.py" 200,.int 5 0,.int 0 0,.int 0 0,.int 0 0,.int 0 0,.ref 25,.bool false,.int 181 0,.ref 26,.none,.none,.none,.none,.int 201 0,.int 5 0,.str "/claim/cut.py" 202],⟨(.type "frame"),none,.plain,#[some (.ref 27),some (.ref 3),some (.ref 24),none,some (.str "dulwich.errors" 194),none,some (.ref 0)]⟩,bq,Nk P,Nl P,oF (.type "getset_descriptor") [.str "__weakref__" 209,.ref 31,.builtin "ExceptionGroup.__weakref__",.none],oF (.type "super") [.ref 31,.ref 31,.ref 31],oF (.type "builtin_function_or_method") [.builtin "object.__init_subclass__",.ref 31],oT [.ref 31],oF (.type "builtin_function_or_method") [.builtin "type.__prepare__",.type "type"],oD (.type "dict") [de P "__module__" 223 (.str "dulwich.errors" 194),de P "__qualname__" 225 (.str "ObjectFormatException" 224),de P "__firstlineno__" 227 (.int 7 226),de P "__static_attributes__" 228 (.ref 42)] 4,bq,dn,oF (.type "code") [.str "ObjectFormatException" 218,.str "ObjectFormatException" 219,.str "/claim/cut.py" 220,.int 7 0,.int 0 0,.int 0 0,.int 0 0,.int 0 0,.ref 38,.bool false,.int 181 0,.ref 39,.none,.none,.none,.none,.int 221 0,.int 7 0,.str "/claim/cut.py" 222],⟨(.type "frame"),none,.plain,#[some (.ref 40),some (.ref 3),some (.ref 37),none,some (.str "dulwich.errors" 194),none,some (.ref 0)]⟩,bq,JJ P,Nm P,oF (.type "super") [.ref 44,.ref 44,.ref 44],oF (.type "builtin_function_or_method") [.builtin "object.__init_subclass__",.ref 44],bq,oF (.type "builtin_function_or_method") [.builtin "type.__prepare__",.type "type"],oD (.type "dict") [de P "__module__" 241 (.str "dulwich.object_format" 232),de P "__qualname__" 243 (.str "ObjectFormat" 242),de P "__firstlineno__" 245 (.int 10 244),de P "__init__" 257 (.ref 60),de P "hash_object_hex" 265 (.ref 67),de P "__static_attributes__" 271 (.ref 68)] 6,bq,oF .none [.int 12 0,.int 4 0,.ref 59,.int 19 0,.int 4 0,.ref 66],oF (.type "code") [.str "ObjectFormat" 236,.str "ObjectFormat" 237,.str "/claim/cut.py" 238,.int 10 0,.int 0 0,.int 0 0,.int 0 0,.int 0 0,.ref 50,.bool false,.int 181 0,.ref 51,.none,.none,.none,.none,.int 239 0,.int 10 0,.str "/claim/cut.py" 240],⟨(.type "frame"),none,.plain,#[some (.ref 52),some (.ref 3),some (.ref 49),none,some (.str "dulwich.object_format" 232),none,some (.ref 0)]⟩,bq,dn,oT [.str "self" 249,.str "name" 250,.str "type_num" 251,.str "oid_length" 252,.str "hex_length" 253,.str "hash_func" 254],bq,dw [5,0] "__init__" "ObjectFormat.__init__",dv "__init__" "ObjectFormat.__init__" 246 12 6 3 54 .none (.ref 56) (.ref 57) (.ref 58) 255,oU (.type "function") (nY (bG [5,0]) "__init__" "ObjectFormat.__init__" 3 [] .none .none .none .none (.str "dulwich.object_format" 232) (.ref 59) 0 none),bq,dn,oT [.str "self" 261,.str "data" 262],bq,dw [5,1] "hash_object_hex" "ObjectFormat.hash_object_hex",dv "hash_object_hex" "ObjectFormat.hash_object_hex" 258 19 2 3 61 .none (.ref 63) (.ref 64) (.ref 65) 263,oU (.type "function") (nY (bG [5,1]) "hash_object_hex" "ObjectFormat.hash_object_hex" 3 [] .none .none .none .none (.str "dulwich.object_format" 232) (.ref 66) 0 none),oT [.str "hash_func" 266,.str "hex_length" 267,.str "name" 268,.str "oid_length" 269,.str "type_num" 270],oD (.type "dict") [de P "__module__" 241 (.str "dulwich.object_format" 232),de P "__firstlineno__" 245 (.int 10 244),de P "__init__" 257 (.ref 60),de P "hash_object_hex" 265 (.ref 67),de P "__static_attributes__" 271 (.ref 68),de P "__dict__" 273 (.ref 71),de P "__weakref__" 275 (.ref 72),de P "__doc__" 276 .none] 4,⟨(.type "type"),none,.cls {name:="ObjectFormat",bases:=[(.type "object")],mro:=[(.ref 70),(.type "object")],ns:=69,qualname:="ObjectFormat",hasDict:=true,subclasses:=[],abstract:=false,hasDel:=false},#[none,none,some (.str "ObjectFormat" 234),some (.str "ObjectFormat" 242),some (.builtin "object.__new__"),some (.bool true)]⟩,oF (.type "getset_descriptor") [.str "__dict__" 272,.ref 70,.builtin "function.__dict__",.builtin "function.__dict__#set"],oF (.type "getset_descriptor") [.str "__weakref__" 274,.ref 70,.builtin "ExceptionGroup.__weakref__",.none],oF (.type "super") [.ref 70,.ref 70,.ref 70],oF (.type "builtin_function_or_method") [.builtin "object.__init_subclass__",.ref 70],oD (.type "dict") [de P "name" 290 (.str "sha1" 279),de P "type_num" 292 (.int 1 280),de P "oid_length" 294 (.int 20 281),de P "hex_length" 296 (.int 40 282),de P "hash_func" 298 .none] 5,oP (.ref 70) 75,oD (.type "frame") [de P "self" 283 (.ref 76),de P "name" 284 (.str "sha1" 279),de P "type_num" 285 (.int 1 280),de P "oid_length" 286 (.int 20 281),de P "hex_length" 287 (.int 40 282),de P "hash_func" 288 .none] 6,bq,dn,oT [.str "octet" 306],bq,dw [9] "_digit" "_digit",Nn P,JK P,bq,dn,dw [10] "unhexlify" "unhexlify",Np P,JL P,bq,dn,oT [.str "octets" 319],bq,dw [11] "ObjectID" "ObjectID",Nq P,JM P,bq,dn,oT [.str "hex" 340],bq,dw [19] "valid_hexsha" "valid_hexsha",Hm P,AP P,bq,dn,oT [.str "hex" 347,.str "error_msg" 348],bq,dw [20] "check_hexsha" "check_hexsha",Hn P,AQ P,bq,dn,oT [.str "identity" 355,.str "error_msg" 356,.str "email_start" 357,.str "email_end" 358],bq,dw [21] "check_identity" "check_identity",Ho P,AR P,bq,dn,oT [.str "time_seconds" 365],bq,dw [22] "check_time" "check_time",Hp P,AS P,bq,dn,oT [.str "field" 372,.str "value" 373],bq,dw [23] "git_line" "git_line",dv "git_line" "git_line" 369 67 2 3 125 .none (.ref 127) (.ref 128) (.ref 129) 374,fM [23] "git_line" "git_line" 130,bq,oF (.type "builtin_function_or_method") [.builtin "type.__prepare__",.type "type"],oD (.type "dict") [de P "__module__" 384 (.str "dulwich.objects" 301),de P "__qualname__" 386 (.str "ShaFile" 385),de P "__firstlineno__" 388 (.int 69 387),de P "__init__" 395 (.ref 145),de P "as_raw_chunks" 402 (.ref 152),de P "as_raw_string" 409 (.ref 159),de P "set_raw_string" 417 (.ref 166),de P "set_raw_chunks" 425 (.ref 173),de P "from_string" 446 (.ref 182),de P "_header" 453 (.ref 190),de P "raw_length" 460 (.ref 197),de P "copy" 467 (.ref 204),de P "get_id" 475 (.ref 211),de P "__static_attributes__" 480 (.ref 212)] 14,bq,oF .none [.int 71 0,.int 4 0,.ref 144,.int 77 0,.int 4 0,.ref 151,.int 85 0,.int 4 0,.ref 158,.int 88 0,.int 4 0,.ref 165,.int 93 0,.int 4 0,.ref 172,.int 100 0,.int 4 0,.ref 179,.int 105 0,.int 4 0,.ref 189,.int 108 0,.int 4 0,.ref 196,.int 111 0,.int 4 0,.ref 203,.int 114 0,.int 4 0,.ref 210],oF (.type "code") [.str "ShaFile" 379,.str "ShaFile" 380,.str "/claim/cut.py" 381,.int 69 0,.int 0 0,.int 0 0,.int 0 0,.int 0 0,.ref 135,.bool false,.int 181 0,.ref 136,.none,.none,.none,.none,.int 382 0,.int 69 0,.str "/claim/cut.py" 383],⟨(.type "frame"),none,.plain,#[some (.ref 137),some (.ref 3),some (.ref 134),none,some (.str "dulwich.objects" 301),none,some (.ref 0)]⟩,bq,dn,oT [.str "self" 392],bq,dw [24,0] "__init__" "ShaFile.__init__",Hq P,AU P,bq,dn,oT [.str "self" 399],bq,dw [24,1] "as_raw_chunks" "ShaFile.as_raw_chunks",Hr P,AW P,bq,dn,oT [.str "self" 406],bq,dw [24,2] "as_raw_string" "ShaFile.as_raw_string",Hs P,AX P,bq,dn,oT [.str "self" 413,.str "text" 414],bq,dw [24,3] "set_raw_string" "ShaFile.set_raw_string",Ht P,AY P,bq,dn,oT [.str "self" 421,.str "chunks" 422],bq,dw [24,4] "set_raw_chunks" "ShaFile.set_raw_chunks",Hu P,AZ P,bq,dn,oT [.str "cls" 429,.str "string" 430,.str "obj" 431],bq,dw [24,5] "from_string" "ShaFile.from_string",Hv P,A6 P,oD (.type "dict") [de P "__module__" 435 (.str "dulwich.objects" 301),de P "__name__" 438 (.str "from_string" 437),de P "__qualname__" 441 (.str "ShaFile.from_string" 440),de P "__doc__" 443 .none,de P "__annotations__" 445 (.ref 183)] 5,⟨(.type "classmethod"),some 181,.fields #[(.ref 180),(.bool false)],#[]⟩,oD (.type "dict") [] 0,bq,dn,oT [.str "self" 450],bq,dw [24,6] "_header" "ShaFile._header",dv "_header" "ShaFile._header" 447 105 1 3 184 .none (.ref 186) (.ref 187) (.ref 188) 451,fM [24,6] "_header" "ShaFile._header" 189,bq,dn,oT [.str "self" 457],bq,dw [24,7] "raw_length" "ShaFile.raw_length",dv "raw_length" "ShaFile.raw_length" 454 108 1 3 191 .none (.ref 193) (.ref 194) (.ref 195) 458,fM [24,7] "raw_length" "ShaFile.raw_length" 196,bq,dn,oT [.str "self" 464],bq,dw [24,8] "copy" "ShaFile.copy",dv "copy" "ShaFile.copy" 461 111 1 3 198 .none (.ref 200) (.ref 201) (.ref 202) 465,fM [24,8] "copy" "ShaFile.copy" 203,bq,dn,oT [.str "self" 471,.str "object_format" 472],bq,dw [24,9] "get_id" "ShaFile.get_id",dv "get_id" "ShaFile.get_id" 468 114 2 3 205 .none (.ref 207) (.ref 208) (.ref 209) 473,fM [24,9] "get_id" "ShaFile.get_id" 210,oT [.str "_chunked_text" 476,.str "_needs_serialization" 477,.str "_sha" 478,.str "object_format" 479],oD (.type "dict") [de P "__module__" 384 (.str "dulwich.objects" 301),de P "__firstlineno__" 388 (.int 69 387),de P "__init__" 395 (.ref 145),de P "as_raw_chunks" 402 (.ref 152),de P "as_raw_string" 409 (.ref 159),de P "set_raw_string" 417 (.ref 166),de P "set_raw_chunks" 425 (.ref 173),de P "from_string" 446 (.ref 182),de P "_header" 453 (.ref 190),de P "raw_length" 460 (.ref 197),de P "copy" 467 (.ref 204),de P "get_id" 475 (.ref 211),de P "__static_attributes__" 480 (.ref 212),de P "__dict__" 482 (.ref 215),de P "__weakref__" 484 (.ref 216),de P "__doc__" 485 .none] 4,⟨(.type "type"),none,.cls {name:="ShaFile",bases:=[(.type "object")],mro:=[(.ref 214),(.type "object")],ns:=213,qualname:="ShaFile",hasDict:=true,subclasses:=[(.ref 501)],abstract:=false,hasDel:=false},#[none,none,some (.str "ShaFile" 377),some (.str "ShaFile" 385),some (.builtin "object.__new__"),some (.bool true)]⟩,oF (.type "getset_descriptor") [.str "__dict__" 481,.ref 214,.builtin "function.__dict__",.builtin "function.__dict__#set"],oF (.type "getset_descriptor") [.str "__weakref__" 483,.ref 214,.builtin "ExceptionGroup.__weakref__",.none],oF (.type "super") [.ref 214,.ref 214,.ref 214],oF (.type "builtin_function_or_method") [.builtin "object.__init_subclass__",.ref 214],bq,Hw P,oT [.str "chunks" 491,.str "text" 492,.str "place" 493,.str "k" 494,.str "v" 495,.str "eof" 496,.str "_strip_last_newline" 497,.str "end" 498,.str "line" 499,.str "rest" 500],bq,dw [25] "_parse_message" "_parse_message",xl P,A7 P,bq,dn,oT [.str "headers" 507,.str "body" 508,.str "field" 509,.str "value" 510,.str "lines" 511,.str "line" 512],bq,dw [26] "_format_message" "_format_message",dv "_format_message" "_format_message" 504 148 2 35 226 .none (.ref 228) (.ref 229) (.ref 230) 513,fM [26] "_format_message" "_format_message" 231,bq,dn,oT [.str "text" 519,.str "sign" 520,.str "offset" 521,.str "unnecessary_negative_timezone" 522,.str "signum" 523,.str "hours" 524,.str "minutes" 525],bq,dw [27] "parse_timezone" "parse_timezone",Hx P,A8 P,oT [.bool false],bq,dn,oT [.str "offset" 532,.str "unnecessary_negative_timezone" 533,.str "sign" 534,.str "hours" 535],bq,dw [28] "format_timezone" "format_timezone",dv "format_timezone" "format_timezone" 529 170 2 3 241 .none (.ref 243) (.ref 244) (.ref 245) 536,oU (.type "function") (nY (bG [28]) "format_timezone" "format_timezone" 3 [] .none (.ref 240) .none .none (.str "dulwich.objects" 301) (.ref 246) 0 none),bq,dn,oT [.str "value" 542,.str "sep" 543,.str "person" 544,.str "rest" 545,.str "timetext" 546,.str "timezonetext" 547,.str "time" 548,.str "timezone" 549,.str "timezone_neg_utc" 550,.str "exc" 551],bq,dw [29] "parse_time_entry" "parse_time_entry",Hy P,A9 P,bq,dn,oT [.str "person" 558,.str "time" 559,.str "timezone_info" 560,.str "timezone" 561,.str "timezone_neg_utc" 562],bq,dw [30] "format_time_entry" "format_time_entry",dv "format_time_entry" "format_time_entry" 555 194 3 3 255 .none (.ref 257) (.ref 258) (.ref 259) 563,fM [30] "format_time_entry" "format_time_entry" 260,Hz P,bq,dn,oT [.str "chunks" 569,.str "signature_header" 570,.str "parents" 571,.str "extra" 572,.str "tree" 573,.str "author" 574,.str "committer" 575,.str "encoding" 576,.str "message" 577,.str "signatures" 578,.str "in_parents" 579,.str "field" 580,.str "value" 581,.str "no_ident" 582],bq,dw [31] "_parse_commit" "_parse_commit",HB P,A_ P,oT [.ref 214],oF (.type "builtin_function_or_method") [.builtin "type.__prepare__",.type "type"],oD (.type "dict") [de P "__module__" 593 (.str "dulwich.objects" 301),de P "__qualname__" 595 (.str "Commit" 594),de P "__firstlineno__" 597 (.int 249 596),de P "type_name" 599 (.bytes #[99,111,109,109,105,116] 598),de P "type_num" 601 (.int 1 600),de P "__init__" 609 (.ref 285),de P "_deserialize" 615 (.ref 290),de P "check" 626 (.ref 297),de P "raw_without_sig" 633 (.ref 304),de P "_serialize" 642 (.ref 311),de P "tree" 650 (.ref 328),de P "parents" 668 (.ref 345),de P "author" 686 (.ref 362),de P "committer" 704 (.ref 379),de P "message" 722 (.ref 396),de P "commit_time" 740 (.ref 413),de P "commit_timezone" 758 (.ref 430),de P "author_time" 776 (.ref 447),de P "author_timezone" 794 (.ref 464),de P "encoding" 812 (.ref 481),de P "gpgsig" 830 (.ref 498),de P "__static_attributes__" 856 (.ref 499),de P "__classcell__" 857 (.ref 273)] 23,HC P,bq,oF .none [.int 253 0,.int 4 0,.ref 284,.int 262 0,.int 4 0,.ref 289,.int 273 0,.int 4 0,.ref 296,.int 311 0,.int 4 0,.ref 303,.int 314 0,.int 4 0,.ref 310,.int 338 0,.int 4 0,.ref 317,.int 342 0,.int 4 0,.ref 326,.int 347 0,.int 4 0,.ref 334,.int 351 0,.int 4 0,.ref 343,.int 356 0,.int 4 0,.ref 351,.int 360 0,.int 4 0,.ref 360,.int 365 0,.int 4 0,.ref 368,.int 369 0,.int 4 0,.ref 377,.int 374 0,.int 4 0,.ref 385,.int 378 0,.int 4 0,.ref 394,.int 383 0,.int 4 0,.ref 402,.int 387 0,.int 4 0,.ref 411,.int 392 0,.int 4 0,.ref 419,.int 396 0,.int 4 0,.ref 428,.int 401 0,.int 4 0,.ref 436,.int 405 0,.int 4 0,.ref 445,.int 410 0,.int 4 0,.ref 453,.int 414 0,.int 4 0,.ref 462,.int 419 0,.int 4 0,.ref 470,.int 423 0,.int 4 0,.ref 479,.int 428 0,.int 4 0,.ref 487,.int 432 0,.int 4 0,.ref 496],oF (.type "code") [.str "Commit" 588,.str "Commit" 589,.str "/claim/cut.py" 590,.int 249 0,.int 0 0,.int 0 0,.int 0 0,.int 0 0,.ref 274,.bool false,.int 181 0,.ref 275,.none,.none,.none,.none,.int 591 0,.int 249 0,.str "/claim/cut.py" 592],⟨(.type "frame"),none,.plain,#[some (.ref 276),some (.ref 3),some (.ref 272),none,some (.str "dulwich.objects" 301),none,some (.ref 0)]⟩,oT [.ref 273],oT [.str "__class__" 605],dn,oT [.str "self" 606],bq,dw [32,2] "__init__" "Commit.__init__",Ba P,Bb P,bq,dn,dw [32,3] "_deserialize" "Commit._deserialize",HD P,Bc P,bq,dn,oT [.str "self" 619,.str "parent" 620,.str "last" 621,.str "field" 622,.str "_" 623],bq,dw [32,4] "check" "Commit.check",HE P,Bd P,bq,dn,oT [.str "self" 630],bq,dw [32,5] "raw_without_sig" "Commit.raw_without_sig",dv "raw_without_sig" "Commit.raw_without_sig" 627 311 1 3 298 .none (.ref 300) (.ref 301) (.ref 302) 631,fM [32,5] "raw_without_sig" "Commit.raw_without_sig" 303,bq,dn,oT [.str "self" 637,.str "headers" 638,.str "p" 639],bq,dw [32,6] "_serialize" "Commit._serialize",dv "_serialize" "Commit._serialize" 634 314 1 3 305 .none (.ref 307) (.ref 308) (.ref 309) 640,fM [32,6] "_serialize" "Commit._serialize" 310,bq,dn,oT [.str "self" 646],bq,dw [32,7] "tree" "Commit.tree",HF P,Be P,oF (.type "property") [.ref 318,.none,.none,.none,.int 0 0,.bool false],oF (.type "builtin_function_or_method") [.builtin "property.setter",.ref 319],bq,dn,oT [.str "self" 655,.str "value" 656],bq,dw [32,8] "tree" "Commit.tree",dv "tree" "Commit.tree" 652 341 2 3 321 .none (.ref 323) (.ref 324) (.ref 325) 657,fM [32,8] "tree" "Commit.tree" 326,oF (.type "property") [.ref 318,.ref 327,.none,.none,.str "tree" 650,.bool false],bq,dn,oT [.str "self" 664],bq,dw [32,9] "parents" "Commit.parents",HG P,Bf P,oF (.type "property") [.ref 335,.none,.none,.none,.int 0 0,.bool false],oF (.type "builtin_function_or_method") [.builtin "property.setter",.ref 336],bq,dn,oT [.str "self" 673,.str "value" 674],bq,dw [32,10] "parents" "Commit.parents",dv "parents" "Commit.parents" 670 350 2 3 338 .none (.ref 340) (.ref 341) (.ref 342) 675,fM [32,10] "parents" "Commit.parents" 343,oF (.type "property") [.ref 335,.ref 344,.none,.none,.str "parents" 668,.bool false],bq,dn,oT [.str "self" 682],bq,dw [32,11] "author" "Commit.author",HH P,Bg P,oF (.type "property") [.ref 352,.none,.none,.none,.int 0 0,.bool false],oF (.type "builtin_function_or_method") [.builtin "property.setter",.ref 353],bq,dn,oT [.str "self" 691,.str "value" 692],bq,dw [32,12] "author" "Commit.author",dv "author" "Commit.author" 688 359 2 3 355 .none (.ref 357) (.ref 358) (.ref 359) 693,fM [32,12] "author" "Commit.author" 360,oF (.type "property") [.ref 352,.ref 361,.none,.none,.str "author" 686,.bool false],bq,dn,oT [.str "self" 700],bq,dw [32,13] "committer" "Commit.committer",HI P,Bh P,oF (.type "property") [.ref 369,.none,.none,.none,.int 0 0,.bool false],oF (.type "builtin_function_or_method") [.builtin "property.setter",.ref 370],bq,dn,oT [.str "self" 709,.str "value" 710],bq,dw [32,14] "committer" "Commit.committer",dv "committer" "Commit.committer" 706 368 2 3 372 .none (.ref 374) (.ref 375) (.ref 376) 711,fM [32,14] "committer" "Commit.committer" 377,oF (.type "property") [.ref 369,.ref 378,.none,.none,.str "committer" 704,.bool false],bq,dn,oT [.str "self" 718],bq,dw [32,15] "message" "Commit.message",HJ P,Bi P,oF (.type "property") [.ref 386,.none,.none,.none,.int 0 0,.bool false],oF (.type "builtin_function_or_method") [.builtin "property.setter",.ref 387],bq,dn,oT [.str "self" 727,.str "value" 728],bq,dw [32,16] "message" "Commit.message",dv "message" "Commit.message" 724 377 2 3 389 .none (.ref 391) (.ref 392) (.ref 393) 729,fM [32,16] "message" "Commit.message" 394,oF (.type "property") [.ref 386,.ref 395,.none,.none,.str "message" 722,.bool false],bq,dn,oT [.str "self" 736],bq,dw [32,17] "commit_time" "Commit.commit_time",HK P,Bj P,oF (.type "property") [.ref 403,.none,.none,.none,.int 0 0,.bool false],oF (.type "builtin_function_or_method") [.builtin "property.setter",.ref 404],bq,dn,oT [.str "self" 745,.str "value" 746],bq,dw [32,18] "commit_time" "Commit.commit_time",dv "commit_time" "Commit.commit_time" 742 386 2 3 406 .none (.ref 408) (.ref 409) (.ref 410) 747,fM [32,18] "commit_time" "Commit.commit_time" 411,oF (.type "property") [.ref 403,.ref 412,.none,.none,.str "commit_time" 740,.bool false],bq,dn,oT [.str "self" 754],bq,dw [32,19] "commit_timezone" "Commit.commit_timezone",HL P,Bk P,oF (.type "property") [.ref 420,.none,.none,.none,.int 0 0,.bool false],oF (.type "builtin_function_or_method") [.builtin "property.setter",.ref 421],bq,dn,oT [.str "self" 763,.str "value" 764],bq,dw [32,20] "commit_timezone" "Commit.commit_timezone",dv "commit_timezone" "Commit.commit_timezone" 760 395 2 3 423 .none (.ref 425) (.ref 426) (.ref 427) 765,fM [32,20] "commit_timezone" "Commit.commit_timezone" 428,oF (.type "property") [.ref 420,.ref 429,.none,.none,.str "commit_timezone" 758,.bool false],bq,dn,oT [.str "self" 772],bq,dw [32,21] "author_time" "Commit.author_time",HM P,Bl P,oF (.type "property") [.ref 437,.none,.none,.none,.int 0 0,.bool false],oF (.type "builtin_function_or_method") [.builtin "property.setter",.ref 438],bq,dn,oT [.str "self" 781,.str "value" 782],bq,dw [32,22] "author_time" "Commit.author_time",dv "author_time" "Commit.author_time" 778 404 2 3 440 .none (.ref 442) (.ref 443) (.ref 444) 783,fM [32,22] "author_time" "Commit.author_time" 445,oF (.type "property") [.ref 437,.ref 446,.none,.none,.str "author_time" 776,.bool false],bq,dn,oT [.str "self" 790],bq,dw [32,23] "author_timezone" "Commit.author_timezone",HN P,Bm P,oF (.type "property") [.ref 454,.none,.none,.none,.int 0 0,.bool false],oF (.type "builtin_function_or_method") [.builtin "property.setter",.ref 455],bq,dn,oT [.str "self" 799,.str "value" 800],bq,dw [32,24] "author_timezone" "Commit.author_timezone",dv "author_timezone" "Commit.author_timezone" 796 413 2 3 457 .none (.ref 459) (.ref 460) (.ref 461) 801,fM [32,24] "author_timezone" "Commit.author_timezone" 462,oF (.type "property") [.ref 454,.ref 463,.none,.none,.str "author_timezone" 794,.bool false],bq,dn,oT [.str "self" 808],bq,dw [32,25] "encoding" "Commit.encoding",HO P,Bn P,oF (.type "property") [.ref 471,.none,.none,.none,.int 0 0,.bool false],oF (.type "builtin_function_or_method") [.builtin "property.setter",.ref 472],bq,dn,oT [.str "self" 817,.str "value" 818],bq,dw [32,26] "encoding" "Commit.encoding",dv "encoding" "Commit.encoding" 814 422 2 3 474 .none (.ref 476) (.ref 477) (.ref 478) 819,fM [32,26] "encoding" "Commit.encoding" 479,oF (.type "property") [.ref 471,.ref 480,.none,.none,.str "encoding" 812,.bool false],bq,dn,oT [.str "self" 826],bq,dw [32,27] "gpgsig" "Commit.gpgsig",HP P,Bo P,oF (.type "property") [.ref 488,.none,.none,.none,.int 0 0,.bool false],oF (.type "builtin_function_or_method") [.builtin "property.setter",.ref 489],bq,dn,oT [.str "self" 835,.str "value" 836],bq,dw [32,28] "gpgsig" "Commit.gpgsig",dv "gpgsig" "Commit.gpgsig" 832 431 2 3 491 .none (.ref 493) (.ref 494) (.ref 495) 837,fM [32,28] "gpgsig" "Commit.gpgsig" 496,oF (.type "property") [.ref 488,.ref 497,.none,.none,.str "gpgsig" 830,.bool false],oT [.str "_author" 841,.str "_author_time" 842,.str "_author_timezone" 843,.str "_author_timezone_neg_utc" 844,.str "_commit_time" 845,.str "_commit_timezone" 846,.str "_commit_timezone_neg_utc" 847,.str "_committer" 848,.str "_encoding" 849,.str "_extra" 850,.str "_gpgsig" 851,.str "_message" 852,.str "_needs_serialization" 853,.str "_parents" 854,.str "_tree" 855],oD (.type "dict") [de P "__module__" 593 (.str "dulwich.objects" 301),de P "__firstlineno__" 597 (.int 249 596),de P "type_name" 599 (.bytes #[99,111,109,109,105,116] 598),de P "type_num" 601 (.int 1 600),de P "__init__" 609 (.ref 285),de P "_deserialize" 615 (.ref 290),de P "check" 626 (.ref 297),de P "raw_without_sig" 633 (.ref 304),de P "_serialize" 642 (.ref 311),de P "tree" 650 (.ref 328),de P "parents" 668 (.ref 345),de P "author" 686 (.ref 362),de P "committer" 704 (.ref 379),de P "message" 722 (.ref 396),de P "commit_time" 740 (.ref 413),de P "commit_timezone" 758 (.ref 430),de P "author_time" 776 (.ref 447),de P "author_timezone" 794 (.ref 464),de P "encoding" 812 (.ref 481),de P "gpgsig" 830 (.ref 498),de P "__static_attributes__" 856 (.ref 499),de P "__doc__" 858 .none] 3,HQ P,oF (.type "super") [.ref 501,.ref 501,.ref 501],oF (.type "builtin_function_or_method") [.builtin "object.__init_subclass__",.ref 501],bq,dn,bq,bq,dw [34] "_law_one" "_law_one",HR P,Bp P,bq,dn,bq,bq,dw [35] "_law_rows" "_law_rows",HS P,Bq P,bq,dn,bq,bq,dw [36] "_law_few" "_law_few",HT P,Br P,bq,dn,dw [37] "_law_named" "_law_named",HU P,Bs P,bq,dn,dw [38] "_law_number" "_law_number",HW P,Bt P,bq,dn,oT [.str "text" 896,.str "at" 897,.str "words" 898,.str "time" 899,.str "zone" 900,.str "seconds" 901],bq,dw [39] "_law_signed" "_law_signed",HX P,Bu P,bq,dn,oT [.str "text" 908,.str "headers" 909,.str "rows" 910,.str "whole" 911,.str "k" 912,.str "rest" 913,.str "at" 914],bq,dw [40] "_law_split" "_law_split",HY P,Bv P,bq,dn,dw [41] "_law_read" "_law_read",HZ P,Bw P,bq,dn,dw [42] "_law_person" "_law_person",H0 P,Bx P,bq,dn,oT [.str "told" 933,.str "keys" 934,.str "person" 935,.str "time" 936,.str "behind" 937,.str "k" 938],bq,dw [43] "_law_sound" "_law_sound",H3 P,By P,bq,dn,dw [44] "law" "law",H4 P,Bz P]
noncomputable def Xe(l:List Obj):Nat->Obj:=l.rec (λZ=>default) λo Z z n=>n.rec o λk Z=>z k
def ob(P:kX)(n:Nat):Obj:=Xe (O3 P) n
noncomputable def Xf(f:Nat->Obj)(d:Nat):Nat->Nat->BT:=d.rec (λZ Z=>.nil) λZ z a b=>(Nat.blt a 571).rec .nil (.node (f a) (z (a+b) (2*b)) (z (a+2*b) (2*b)))
def T3(P:kX):BT:=Xf (ob P) 11 0 1
noncomputable def JN:List Nat:=[0,1,2,3,4,6,8,9,13,16,20,21,24,26,27,30,31,37,39,40,43,44,49,52,55,59,60,62,66,67,69,70,75,79,83,84,86,88,89,91,95,96,98,102,103,105,109,110,112,116,117,119,123,124,126,130,131,134,137,140,144,145,147,151,152,154,158,159,161,165,166,168,172,173,175,179,180,181,182,183,185,189,190,192,196,197,199,203,204,206,210,211,213,214,220,224,225,227,231,232,234,238,239,240,242,246,247,249,253,254,256,260,261,262,264,268,269,272,273,276,280,284,285,287,289,290,292,296,297,299,303,304,306,310,311,313,317,318,319,322,326,327,328,330,334,335,336,339,343,344,345,347,351,352,353,356,360,361,362,364,368,369,370,373,377,378,379,381,385,386,387,390,394,395,396,398,402,403,404,407,411,412,413,415,419,420,421,424,428,429,430,432,436,437,438,441,445,446,447,449,453,454,455,458,462,463,464,466,470,471,472,475,479,480,481,483,487,488,489,492,496,497,498,500,501,505,509,510,512,516,517,519,523,524,526,528,529,531,533,534,536,540,541,543,547,548,550,552,553,555,557,558,560,564,565,567,569,570]
def K3(P:kX):abd:=JN.map λn=>(n,ob P n)
def q3:abf:={pw with main:={pw.main with body:=[AN pw.main.body [44]]}}
noncomputable def nZ:List Str:=[oK "_wall",oK "FileFormatException",oK "ObjectFormatException",oK "ObjectFormat",oK "SHA1",oK "DEFAULT_OBJECT_FORMAT",oK "_digit",oK "unhexlify",oK "ObjectID",oK "_TREE_HEADER",oK "_PARENT_HEADER",oK "_AUTHOR_HEADER",oK "_COMMITTER_HEADER",oK "_ENCODING_HEADER",oK "_GPGSIG_HEADER",oK "MAX_TIME",oK "valid_hexsha",oK "check_hexsha",oK "check_identity",oK "check_time",oK "git_line",oK "ShaFile",oK "_parse_message",oK "_format_message",oK "parse_timezone",oK "format_timezone",oK "parse_time_entry",oK "format_time_entry",oK "_parse_commit",oK "Commit",oK "_law_one",oK "_law_rows",oK "_law_few",oK "_law_named",oK "_law_number",oK "_law_signed",oK "_law_split",oK "_law_read",oK "_law_person",oK "_law_sound"]
noncomputable def E4(fY:acu->Thread->Option (acu×Thread))(ok:Thread->Bool):Nat->acu->Thread->Option acu
 |0,_,_=>none
 |n+1,s,t=>match through t with
  |true=>some s
  |false=>match ok t with
   |false=>none
   |true=>match fY s t with
    |some (s',t')=>E4 fY ok n s' t'
    |none=>none
theorem E5{tb:String->Option aaH}{p:abf}{w:aab}{I:Nat}{z:Option cz}:∀{n:Nat}{s s':acu}{t:Thread},E4 (stepT (denote tb) p w) (stepOk I z) n s t=some s'->topRun tb p w I z n s.abs t=some s'.abs:=by
 intro n
 induction n with
 |zero=>
  intro _ _ _ h;cases h
 |succ n IH=>
  intro s s' t h;change (match through t with|true=>some s|false=>match stepOk I z t with|false=>none|true=>match stepT (denote tb) p w s t with|some (s',Y)=>E4 (stepT (denote tb) p w) (stepOk I z) n s' Y|none=>none)=some s' at h;unfold topRun;cases U:through t with
  |true=>rw[U]at h;cases h;rfl
  |false=>
   rw[U]at h;cases V:stepOk I z t with
   |false=>rw[V]at h;cases h
   |true=>
    rw[V]at h;cases hs:stepT (denote tb) p w s t with
    |none=>rw[hs]at h;cases h
    |some r=>obtain⟨s₂,Z⟩:=r;rw[hs]at h;rw[stepT_spec hs];exact IH h
noncomputable def Nr(l:List Obj):BT:=(l.zipIdx).foldl (λt x=>t.ins x.2 x.1) .nil
def BB(P:kX):BT:=Nr [boot_o_0 P,boot_o_1 P,boot_o_2 P,boot_o_3 P,boot_o_4 P,boot_o_5 P,boot_o_6 P,boot_o_7 P,boot_o_8 P,boot_o_9 P,boot_o_10 P]
theorem boot_abs(P:kX):absHeap (BB P) 11 {}=abv P:=by kernel_rfl
noncomputable def JO(as:List fF)(s:acu):List (Option Obj)×Nat×Nat:=(as.map λa=>match Nat.blt a s.n with|true=>(s.tree.get a).bind alive|false=>none,s.n,s.toks)
theorem BC{s:acu}:∀{as:List fF}{K:List (Option Obj)},(as.map λa=>match Nat.blt a s.n with|true=>(s.tree.get a).bind alive|false=>none)=K->K.all (·.isSome)=true->as.map s.abs.heap.get? =K:=by
 intro as
 induction as with
 |nil=>
  intro _ e _;exact e
 |cons a as IH=>
  intro K e z;subst e;simp only[G0,ado,v3]at z⊢;rw[IH rfl z.2];congr 1;have hs:=z.1;cases hb:Nat.blt a s.n with
  |false=>rw[hb]at hs;cases hs
  |true=>
   rw[hb]at hs;cases hg:s.tree.get a with
   |none=>rw[hg]at hs;cases hs
   |some o=>exact abs_get (oC hb) hg
theorem E6{as:List fF}{s:acu}{K:List (Option Obj)}{t:Nat}(e:JO as s=(K,n,t))(z:K.all (·.isSome)=true):obsZ as s.abs=(K,n,t):=by
 obtain⟨I,U,V⟩:_/\_/\_:=by simpa only[JO,Prod.mk.injEq]using e
 show(_,_,_)=_;rw[BC I z,show s.abs.heap.objs.size=n from(absHeap_size _ _ _).trans U,show s.abs.toks=t from V]
def pT(P:kX)(os:abz):acu:=⟨T3 P,571,{},⟨[]⟩,{},948,os⟩
theorem big(w:aab)(os:abz):E4 (stepT (denote treeTable) pw w) (stepOk 11 (some (.ref 6))) 5300 ⟨BB w.params,11,{},⟨[]⟩,acS,adj,os⟩ (topStub pw)=some (pT w.params os):=by
 unfold pw;rw[PySem.W.Fast.te10156331382660048174,PySem.W.Fast.te11892475500146522536,PySem.W.Fast.te14364793385576792824,PySem.W.Fast.te6613529449190102663]
 kernel_rfl
theorem BD(w:aab)(os:abz):(staticsOk (importedModules pw.main.body) (abv w.params) (pT w.params os).abs.heap&&namesBound pw (pT w.params os).abs.heap&&gensDone (pT w.params os).abs&&laidKept (abv w.params) (pT w.params os).abs.heap)=true:=by
 kernel_rfl
theorem BE(w:aab)(os:abz):openSeen q3 nZ (importedModules pw.main.body) (λs=>recOk [] s) true (pT w.params os).abs=openGood q3 nZ:=by
 unfold q3 pw;rw[PySem.W.Fast.te4187177175401517315]
 kernel_rfl
theorem BF(w:aab)(os:abz):JO JN (pT w.params os)=valZ K3 571 948 w:=by
 kernel_rfl
theorem Nt(w:aab):((abv w.params).isNs mainGlobals&&(Array.mk ([]:List aas)).size==0,(abv w.params).objs.size,(abv w.params).nsMap mainGlobals "__annotations__")=(true,11,some (V9 6)):=by
 kernel_rfl
theorem E7{p q:abf}{loose:List Str}{Z:ea->Bool}{Yf:ea->α}{Ya:aab->α}{N:Nat}{g0:Bool}{z:kX->ZN}{U:Array aas}{V:Drawn}{Y Nu:Nat}{I:Option cz}{M:Nat}(S:kX->abz->ea)(Nv:∀w:aab,(fencedOpening treeTable p w N).map (λs=>(s.heap,s.gens,s.drawn,s.toks))=some (z w.params,U,V,Y))(size:∀w:aab,((z w.params).isNs mainGlobals&&U.size==0,(z w.params).objs.size,(z w.params).nsMap mainGlobals "__annotations__")=(true,Nu,I))(run:∀(w:aab)(os:abz),topRun treeTable p w Nu I M ⟨z w.params,U,V,Y,os⟩ (topStub p)=some (S w.params os))(le:Nat.ble M N=true)(BD:∀(w:aab)(os:abz),(staticsOk (importedModules p.main.body) (z w.params) (S w.params os).heap&&namesBound p (S w.params os).heap&&gensDone (S w.params os)&&laidKept (z w.params) (S w.params os).heap)=true)(BE:∀(w:aab)(os:abz),openSeen q loose (importedModules p.main.body) Z g0 (S w.params os)=openGood q loose)(BF:∀(w:aab)(os:abz),Yf (S w.params os)=Ya w):LeftO p q loose Z Yf Ya N g0:=λw=>by
 obtain⟨⟨h,gs,d,k,os⟩,e,e'⟩:=r0.mp (Nv w);obtain⟨rfl,rfl,rfl,rfl⟩:h=z w.params/\gs=U/\d=V/\k=Y:=by simpa using e'
 obtain⟨z1,z2,z3⟩:_/\_/\_:=by simpa only[Prod.mk.injEq]using size w
 have r:=topRun_mono (N-M) _ _ _ _ (run w os);rw[show M+(N-M)=N by have:=oC le;omega]at r;have t:topFrom treeTable p w N ⟨z w.params,gs,d,k,os⟩=some (S w.params os):=by
  unfold topFrom;dsimp only;rw[z1,z2,z3,r];show(match staticsOk (importedModules p.main.body) (z w.params) (S w.params os).heap&&namesBound p (S w.params os).heap&&gensDone (S w.params os)&&laidKept (z w.params) (S w.params os).heap with|true=>_|false=>_)=_;rw[BD w os]
 unfold openEnds;rw[e];show(topFrom treeTable p w N _).map _=_;rw[t];exact congrArg some (Prod.ext (BE w os) (BF w os))
theorem S5(w:aab)(os:abz):topRun treeTable pw w 11 (some (.ref 6)) 5300 ⟨abv w.params,⟨[]⟩,acS,adj,os⟩ (topStub pw)=some (pT w.params os).abs:=by
 have r:=E5 (big w os);have z:SharedT.abs ⟨BB w.params,11,{},⟨[]⟩,acS,adj,os⟩=⟨abv w.params,⟨[]⟩,acS,adj,os⟩:=congrArg (λh=>Shared.mk h _ _ _ _) (boot_abs w.params);rw[z]at r;exact r
theorem Nw:∀w:aab,(fencedOpening treeTable pw w 10600).map (λs=>(s.heap,s.gens,s.drawn,s.toks))=some (abv w.params,Array.mk [],acS,adj):=
 boot_open (p:=pw) (N:=10600) (by kernel_rfl) (by decide) (λs=>by kernel_rfl)
theorem xn:∀l:List (fF×Obj),(l.map λp=>some p.2).all (·.isSome)=true
 |[]=>rfl
 |_::l=>xn l
theorem JQ(w:aab)(os:abz):obsZ JN (pT w.params os).abs=valZ K3 571 948 w:=E6 (BF w os) (xn _)
theorem Nx:LeftO pw q3 nZ (λs=>recOk [] s) (obsZ JN) (valZ K3 571 948) 10600:=
 E7 (λP os=>(pT P os).abs) Nw Nt S5 rfl BD BE JQ
noncomputable def Xg:List (Str×u_):=[]
noncomputable def posOf(s:aaa):Pos:=if h:s.ctorIdx=0 then abI (motive_2:=λZ=>Pos) s h λZ Z Z Z Z Z Z Z Z p=>p else default
def JR:DefRec:=⟨"law",(bG [44]).1,(bG [44]).2.1,(bG [44]).2.2,posOf (AN pw.main.body [44])⟩
end
section
set_option maxHeartbeats 0
open PySem.W.X
noncomputable abbrev xo(t:Sem Fin):Thread:=⟨t,.builtin "claim.caller" {},default,[]⟩
theorem Ny{w:aab}{t:Sem Fin}{R:aaR->ea->Prop}(hz:s.asleep)(h:bH (model prog w) callerA t (λfin s'=>∃f,fin= .done f/\R (.ok f) s'/\acO s'.gens) (λe s'=>R (.error e) s'/\acO s'.gens) s):∃n r s' cR,runN (denote table) prog w n s (xo t)= .halted (outcomeOf r) s'/\schedN (denote table) prog w n (.single s (xo t))= .halted (outcomeOf r) s'/\s'.forget=cR.forget/\R r cR:=by
 have hw:=aaJ (model prog w) ⟨.builtin "claim.caller" {},none,none,[],none⟩ t
  (post':=Sem.finPost (model prog w) ⟨.builtin "claim.caller" {},none,none,[],none⟩ λr s'=>R r s'/\leftWithCleanup s'.gens=false) (exc':=λe Z s'=>R (.error e) s'/\leftWithCleanup s'.gens=false)
  (λfin p s' ⟨f,e,a,b⟩=>by subst e;exact⟨a,abR b⟩) (λe p s' ⟨a,b⟩=>⟨a,abR b⟩) default s (h _ default caller_in rfl)
 exact z6 (wp_halts_full (M:=model prog w) (R:=R) hz hw) λn r s₂ af a b c d=>⟨n,r,af,s₂,b,a,c,d⟩
abbrev GoodR(c:ClaimW)(s₀ af:ea)(args:List WData)(res:aaR)(s':ea):Prop:=GoodWG c (classAt s₀.heap) (ExcName.means s₀.heap) args af res s'
abbrev H5{α:Type}(q:abf)(loose:List Str)(Yf:ea->α)(Ya:aab->α)(r:RowW)(d:DefRec):Prop:=
 ∀(w:aab)(s₀ af:ea)(mg mb:Str->Option cz),Ground q loose [] (λZ Z=>True) w s₀ mg mb af.heap->Yf s₀=Ya w->∀a,mg d.name=some (.ref a)->
  ∀(args:List WData)(vals:List cz)(as:List fF),Laid [] w s₀ af args vals as->r.claim.pre args=true->
   bH (model r.prog w) callerA (PySem.call (.ref a) vals) (λv=>GoodR r.claim s₀ af args (.ok (.ret v))) (λe=>GoodR r.claim s₀ af args (.error e)) af
theorem JS{r:OpenRow}{q:abf}{loose:List Str}{Yf:ea->α}{Ya:aab->α}{d:DefRec}{N:Nat}(V:r.records=[])(Xh:r.writes=false)(left:LeftO r.prog q loose (λs=>recOk [] s) Yf Ya N)(JT:defOf q r.name=some (d,[]))(hp:r.prog.theDef r.name=some (d.params,d.body,d.scope))(hk:kwWritten? d.params.kwonlyargs d.params.kw_defaults=some [])(k1:r.wellSaid=true)(ok:(chainsOk q&&opensWell r.prog&&(frees r.toRowW&&r.within.isEmpty))=true)(hb:r.prog.bare)(hw:r.toRowW.promised)(call:H5 q loose Yf Ya r.toRowW d):r.Holds:=by
 simp only[v3]at ok;refine Sh ok λXi o1 gF Xj=>MK (frees_parts gF) λNz hu ha Xk hm=>⟨k1,hw,⟨hb,o1,by show r.makers.map _=[];rw[hm];rfl⟩,hw.witness,λw=>?_⟩;refine aX (left.behind (XP:=λZ h=>RecFacts [] h) (λs hs=>recFacts_of hs) Xi w) λl1 l2=>⟨l1,λs' uS=>?_⟩;refine iQ (l2 s' uS) λb0 hf S6 y3=>R6 y3 λs hT hz Mj dG I hy=>?_;have G:Ground q loose [] (λZ Z=>True) w s (s.heap.nsMap mainGlobals) (s.heap.nsMap builtinsNs) s.heap:=⟨I.T,I.B,I.D,I.TE,I.TD,I.W,trivial,I.cls,I.has,I.apart,I.once,I.K⟩;have Q0:s.gens=#[]:=Array.eq_empty_of_size_eq_zero (beq_iff_eq.mp Mj);refine uR (G.fn JT) λa oa pm cd doc y2=>e7 y2 ?_;rintro dV kV ga-;refine⟨b0,hf,S6,s,hT,λn hn=>?_,λx U=>?_,λx U=>?_,λargs E9 vj ord NA=>?_⟩
 ·obtain rfl:n=r.name:=by split at hn<;>simp_all
  exact pinned_of_view dG G JT hp hk
 ·have Y:x∈r.records:=U;rw[V]at Y;exfalso;cases Y
 ·have Y:x∈r.records:=U;rw[V]at Y;exfalso;cases Y
 have hG:=G.has;rw[<-V]at hG;refine au (WE.mp (layAllW_isSome (P:=w.params) (ord:=ord) hG args r.args s (pre_splitW E9).1)) λy1 hl=>?_;rcases y1 with⟨vs,af⟩
 have zS:=hl;rw[V]at zS;have rest:=layAllW_rest _ _ _ hl;have keeps:=layAllW_keeps _ _ _ hl;refine iQ (reads_layAllW NA _ _ _ zS vj af.heap λZ Z e=>e) λas h1 h2 h3=>?_;have L:Laid [] w s af args vs as:=⟨⟨ord,NA,zS⟩,h1,h2,h3,keeps,rest.1.trans Q0,rest.2.2.1⟩;have LL:Laid r.toRowW.claim.records w s af args vs as:=by
  show Laid r.records w s af args vs as;rw[V];exact L
 have BH:=G.keeps (λZ Z Z Z Z=>trivial) keeps;have W:=call w s af _ _ BH hy a (defOf_name JT▸ga) args vs as L E9;have fin:∀res s',GoodR r.toRowW.claim s af args res s'->(r.toRowW.claim.Ends s args vs af res s'/\s'.os=s.os)/\acO s'.gens:=λres s' g=>by
  exact fQ (g.laid (c:=r.toRowW.claim) Nz (abL.mp Xj) (ident_freeW hu ha Xk) LL) λx y z=>⟨⟨x,y⟩,z⟩
 refine Sa (Ny (prog:=r.prog) (w:=w) (s:=af) (R:=λres s'=>r.toRowW.claim.Ends s args vs af res s'/\s'.os=s.os)
  (t:=do match<-nsGet mainNs r.name with
   |some f=>do ret (<-PySem.call f vs)
   |none=>unsupported "claim.caller:no-such-global") (Shared.asleep_of_life rest.2.2.2 hz)
  (aq (.of (abP BH.T.g (by
   rw[ga];have z:=aq (f:=λv=>(ret v:Sem Fin)) (Q:=λfin s'=>∃f,fin= .done f/\(r.toRowW.claim.Ends s args vs af (.ok f) s'/\s'.os=s.os)/\acO s'.gens) (E:=λe s'=>(r.toRowW.claim.Ends s args vs af (.error e) s'/\s'.os=s.os)/\acO s'.gens)
    (aV W (λv s' g=>bf ⟨_,rfl,fin _ _ g⟩) λe s' g=>fin _ _ g)
   exact z))))) λn res lO iO run VK eG H6 Xl=>?_
 refine MK (Shared.forget_eq eG) ?_;rintro eh- -eo-;refine⟨vs,af,hl,n,_,lO,VK,?_,(λZ i x U=>by rw[Q0]at U;simp at U),(λVL=>by rw[Xh]at VL;exact ng VL),?_,Shared.rest_eq (eo.trans Xl)⟩
 ·refine WX (H6.congr eh) ?_ ?_;rotate_left;clear run VK H6;rintro e ob cls rfl d1 d2 d3 d4 d5;rotate_right;rintro v rfl d1 d2 d3 d4 d5
  ·exact .inl ⟨v,rfl,d1,d2,d3,λb o y Z=>d4 b o y,d5⟩
  ·exact .inr ⟨e,ob,cls,rfl,d1,d2,d3,d4,λb o y Z=>d5 b o y⟩
 ·rw[(runN_life _ _ _ run).trans rest.2.2.2]
abbrev BI:Prop:=H5 q3 nZ (obsZ JN) (valZ K3 571 948) lw.row.toRowW JR
theorem NB:lw.wellSaid=true:=(congrFun PySem.W.Fast.te9446332074065402090 lw).trans (by kernel_rfl)
theorem JU(call:BI):lw.Holds:=by
 w_on
 refine holds_law NB λz=>JS (r:=lw.row) (q:=q3) (loose:=nZ) (Yf:=obsZ JN) (Ya:=valZ K3 571 948) (d:=JR) (N:=10600) rfl rfl
  Nx (by rfl) (by rfl) (by rfl) (by assumption) (by decide+kernel) ⟨rfl,rfl,rfl,rfl,rfl,by decide+kernel⟩ ?hw call
 w_witness2
end
theorem mq.length{F:fF->Prop}:∀{xs:List AV}{vs:List cz},mq W h F xs vs->vs.length=xs.length:=by
 intro xs
 induction xs with
 |nil=>
  intro vs r;simp only[Nc]at r;subst r;rfl
 |cons x xs IH=>
  intro vs r;refine bV r ?_;clear r;rintro v ws rfl _ r;simp[IH r]
theorem rx{F:fF->Prop}{s₂:ea}{t:Nat}{e:fF}{cls:cz}{oe:Obj}{vs:Array cz}(z:S.Ok W fn q)(R:Rel W S fn F M cur J s)(T:Step W s s₂)(I:∀b o,s₂.heap.get? b=some o->h'.get? b=some o)(hz:aJ s<=h'.objs.size)(U:s₂.heap.get? e=none)(he:h'.get? e=some oe)(Y:oe.cls=cls)(hd:oe.data= .fields vs)(S7:nI cls vs)(h1:vs[1]? =some .none)(JV:∀b o,s.heap.get? b=none->h'.get? b=some o->aJ s<=b):PX W S s (Except.error cls:Except cz α) (.ref e) {s₂ with heap:=h',toks:=t}:=by
 have T':Step W s {s₂ with heap:=h',toks:=t}:=⟨λb o e=>I b o (T.stays b o e),T.slots.trans (.of_keeps I),λl=>(T.tab l).qj λb o Z e=>I b o e,hz,T.os,T.gens⟩;have R':=R.move z T' (.refl _ _ F);have Xn:s.heap.get? e=none:=by
  cases hq:s.heap.get? e with
  |none=>rfl
  |some o=>
   by_cases V:W.loose e
   ·exact au ((T.tab (R.tab z)).there V) λo' h=>aZ (U▸h)
   ·exact au (T.slots e o V hq) λsl h=>aZ (U▸h)
 exact⟨cls,e,rfl,rfl,T',R'.frames z,JV e oe Xn he,oe,vs,he,Y,hd,S7,.inl h1⟩
theorem ry{B newId initId:String}{Y bm:List cz}(X:acT B newId initId Y)(hT:OwnTail W.base Y bm){nm qn:Str}{C N:fF}{bs:List cz}{hdct:Bool}{sn:List Str}{sub:List cz}{ab:Bool}{col:Option Bool}{dd:Option fF}{k0 k1 k2 k3 k5:Option cz}{mN:Str->Option cz}{x:Str}{es:List u_}{g:St->Rs (List AV)}(hC:W.base.get? C=some (excClassObj nm qn C N bs bm hdct sn sub ab col dd k0 k1 k2 k3 k5 newId))(hN:W.base.Ns N mN)(JW:mN "__init__"=none)(hn:aL W false fn (.Name x np) (λZ=>aA (.ref C)))(hg:gx W false fn es g)(hp:a7 es=true):aR W false fn (.Raise (some (.Call (.Name x np) es [] cB)) none pos) (λJ=>aU (g J) J λxs=>if cq xs.length then some (.ex (.ref C) J)else none):=.mk λS F M cur J r s z R U=>by
 refine gW (aP ?_);refine wpAny_Raise_call_subT X (C:=C) (nm:=nm) (q:=qn) (N:=N) (bs:=bs) (bm:=bm) (hdct:=hdct) (sn:=sn) (sub:=sub) (ab:=ab) (col:=col) (dd:=dd) (k0:=k0) (k1:=k1) (k2:=k2) (k3:=k3) (k5:=k5) (newId:=newId)
  (mN:=mN) (hT.hasType X.hasBase) (z.hand rfl) (plain_any es S.env cB hp) JW ?_
 refine w8 (hn.run S F M cur J _ s z R rfl) λf aB af T G hv=>?_;subst hv;refine⟨rfl,bM hp ?_⟩;have aI:=R.move z T G;refine pG (cg U) ?_ ?_;rotate_left;intro xs h1 h2;rotate_right;clear U;rintro c h1 rfl
 ·exact fm (hg.run S aB M cur J _ af cB z aI h1) (λZ Z h=>h.no) λy s' hx=>λZ Z=>(hx.lift T).st z R sJ
 split at h2
 case isFalse=>exact aZ h2
 rename_i mT;revert h2;refine bc λe=>?_;clear U;subst e;refine w8 (hg.run S aB M cur J _ af cB z aI h1) λvs aQ s₂ I a_ gA=>⟨rfl,?_,I.stays _ _ hC,hN.keeps I.stays,hT.keeps I.stays,λh' e V hz gF=>?_⟩
 ·exact ag gA.length (cF mT)
 ·refine iQ V.there λt he Z Z=>?_;have hk:∀b o,s₂.heap.get? b=some o->h'.get? b=some o:=V.keeps;exact(rx (α:=AV) (t:=s₂.toks) z R (T.trans I) hk hz V.new he rfl rfl ⟨by simp,λZ Z=>rfl⟩ rfl gF).st z R sJ
theorem BK{cls newId initId:String}(X:ExcCallFacts cls newId initId)(Y:ExcRaiseFacts cls){x:Str}{es:List u_}{g:St->Rs (List AV)}(hn:aL W false fn (.Name x np) (λZ=>aA (.ty cls)))(hg:gx W false fn es g)(V:a7 es=true):aR W false fn (.Raise (some (.Call (.Name x np) es [] cB)) none pos) (λJ=>aU (g J) J λxs=>if cq xs.length then some (.ex (.type cls) J)else none):=.mk λS F M cur J r s z R I=>by
 refine gW (aP ?_);refine wpAny_Raise_call X Y (z.hand rfl) (plain_any es S.env cB V) (w8 (hn.run S F M cur J _ s z R rfl) λf aB af T G hv=>?_);subst hv;refine⟨rfl,bM V ?_⟩;have aI:=R.move z T G;refine pG (cg I) ?_ ?_;rotate_left;intro xs h1 h2;rotate_right;clear I;rintro c h1 rfl
 ·exact fm (hg.run S aB M cur J _ af cB z aI h1) (λZ Z h=>h.no) λy s' hx=>λZ Z=>(hx.lift T).st z R sJ
 split at h2
 case isFalse=>exact aZ h2
 rename_i mT;revert h2;refine bc λe=>?_;clear I;subst e;refine w8 (hg.run S aB M cur J _ af cB z aI h1) λvs aQ s₂ aD a_ gA=>⟨rfl,?_,λh' e U hz gF=>?_⟩
 ·exact ag gA.length (cF mT)
 ·refine iQ U.there λt he Z Z=>?_;have hk:∀b o,s₂.heap.get? b=some o->h'.get? b=some o:=U.keeps;exact(rx (α:=AV) (t:=s₂.toks) z R (T.trans aD) hk hz U.new he rfl rfl ⟨by simp,λZ Z=>rfl⟩ rfl gF).st z R sJ
theorem fN{t:u_}{f:St->Rs Bool}(U:gL W q fn t f):aR W q fn (.Assert t none pos) (λJ=>aU (f J) J λb=>if b then some (.next J)else none):=.mk λS F M cur J r s z R I=>by
 refine wpAny_Assert_holds (pG (cg I) ?_ ?_);rotate_left;intro b h1 h2;rotate_right;clear I;rintro c h1 rfl
 ·exact fm (U.run S F M cur J _ s z R h1) (λ_ _ ⟨h,_⟩=>by cases h) λZ Z x=>x.st z R sJ
 clear I;cases b with
 |false=>cases h2
 |true=>
  cases h2;exact Mc (U.run S F M cur J _ s z R h1) λaf T=>⟨rfl,F,M,cur,J,R.move z T (.refl _ _ _),T.fY (.refl _ _ _),rfl⟩
noncomputable def cj.marked(S:cj)(e:fF):cj:={S with A:=S.A.mark (some (.ref e))}
theorem cj.Ok.marked(z:S.Ok W fn q)(e:fF):(S.marked e).Ok W fn true:=
 ⟨z.scope,z.kind,z.locals,z.frame,z.c6,z.nH,z.glob,z.bi,z.frames,z.dN,z.cW,z.e8,z.hg,z.hb,z.room,z.sR,z.x0,z.lb,z.SA,z.nodup,(λh=>by exact WY h),z.Ad,z.EF⟩
theorem Rel.marked{F:fF->Prop}(R:Rel W S fn F M cur J s)(e:fF):Rel W (S.marked e) fn F M cur J s:=
 ⟨R.step,R.grow,R.mu,R.frame,R.top,R.ns,R.cells,R.len,R.slots,R.dist,R.small⟩
theorem Rel.unmarked{F:fF->Prop}{e:fF}(R:Rel W (S.marked e) fn F M cur J s):Rel W S fn F M cur J s:=
 ⟨R.step,R.grow,R.mu,R.frame,R.top,R.ns,R.cells,R.len,R.slots,R.dist,R.small⟩
structure jd(W:Wd)(fn:ek)(t:u_)(m:cz->Option Bool):Prop where
 run:∀S F M cur J s e ob b,S.Ok W fn true->Rel W S fn F M cur J s->s.heap.get? e=some ob->¬W.loose e->m ob.cls=some b->
 wpAny (model W.prog W.w) S.A (eval t S.env) (λc af=>wpAny (model W.prog W.w) S.A (excMatches (.ref e) c) (λb' s₂=>b'=b/\Step W s s₂) (λZ Z=>False) af) (λZ Z=>False) s
noncomputable def tv(g h oe:St->Option Ou)(m:cz->Option Bool)(J:St):Option Ou:=
 match g J with
 |some (.next ak)=>oe ak
 |some (.ex c ak)=>if m c=some true then(match h ak with|some (.ex _ _)=>none|some (.next ak)=>some (.next ak)|some (.brk ak)=>some (.brk ak)|some (.cont ak)=>some (.cont ak)|some (.ret a)=>some (.ret a)|none=>none)else none
 |some (.brk ak)=>some (.brk ak)
 |some (.cont ak)=>some (.cont ak)
 |some (.ret a)=>some (.ret a)
 |none=>none
theorem i9.ou{F:fF->Prop}{o:Ou}{x:cz}:i9 W S fn F M s o x af->∃cls ak,o= .ex cls ak| .mk cls _ _ ak _ _ _ h .. =>⟨cls,ak,h⟩
theorem j5{F:fF->Prop}{s:ea}{cls x:cz}{t:u_}{m:cz->Option Bool}{name:Option Str}{mz:List aaa}{je:Pos}{Q:Flow->ea->Prop}
  (z:S.Ok W fn false) (ht:jd W fn t m) (hx:i9 W S fn F M s (.ex cls ak) x af) (nr:m cls=some true)
  (k:∀e n F' M' aC I,x= .ref e->Rel W S fn F' M' aC ak I->fI W F M F' M' s I->(aJ s<=n/\aJ S.s₀<=n)->(∀a,F' a\/M' a->a<n)->nh W (S.fe::S.outer) n e cls I.heap->
   codeAny (model W.prog W.w) (S.A.mark (some x)) (.handlers x [.ExceptHandler none name mz je] S.env) (λr s₂=>match r with
     | .ok f=>(match name with
      |none=>Q f s₂
      |some n=>wpAny (model W.prog W.w) S.A (do bindName S.env n .none;unbindBehindTheSuite S.env n je) (λZ aK=>Q f aK) E s₂)
     | .error x=>cameBackBy (model W.prog W.w) S.A S.env E x s₂) I):
  wpAny (model W.prog W.w) S.A (noteFrame x S.env) (λZ s₂=>wpAny (model W.prog W.w) S.A (setFlight x none) (λZ aK=>wpAny (model W.prog W.w) S.A (handleBy x S.env [.ExceptHandler (some t) name mz je]) Q E aK) E s₂) E af:=by
 obtain⟨_,e,n,a6,F',M',aC,h1,rfl,R',T',h3,h4,h5,h6⟩:=hx;cases h1;have V:S.s₀.heap.objs.size<=n:=h3.2;have eY:∀b,n<=b->W.base.get? b=none:=λb hb=>z.bh (bU V hb);refine aP (iT z.frames z.c6 z.frame R'.stays eY h6 λc7 U ND Ai nV=>?_);refine aP (nL (s:={af with heap:=c7}) U eY ND λnQ JX NF S8 NG=>?_);have NH:=Ai.trans S8;have NI:aJ af<=nQ.objs.size:=bU nV NG;have cG:=R'.below z h5 V JX NH NI;have bp:=T'.below h3.1 NH NI;generalize NJ:({af with heap:=nQ}:ea)=aK at cG bp;have vk:nh W (S.fe::S.outer) n e cls aK.heap:=by refine fP NJ ?_;exact NF
 have L_:n<=e:=vk.le;have JY:¬W.loose e:=λhl=>f3 _ (bk (z.lb e hl) (bU V L_));refine ax (vk.Af (L:=S.L)|>.there) λob ei S9=>?_;have JZ:=z.marked e;refine wpAny_handleBy_cons (codeAny_handlers_test ?_) (by intro x;cases x);refine fm (ht.run (S.marked e) F' M' aC ak aK e ob true JZ (cG.marked e) ei JY (by refine ag S9 ?_;exact nr)) (λc dx hc=>?_) λZ Z h=>h.elim;refine fm hc (λb' I ⟨uN,Y⟩=>?_) λZ Z h=>h.elim;subst uN;simp only[if_true];have dM:=cG.move z Y (.refl _ _ F');have mA:nh W (S.fe::S.outer) n e cls I.heap:=by
  obtain⟨f1,f2,Ag,vs,he,qE,hd,pH,T,oT,ts,g1,g2,g3,g4,g5,q',g6⟩:=vk;have Xo:¬W.loose T:=λhl=>f3 _ (bk (z.lb T hl) (bU V g2));exact au (Y.slots e _ JY he) λsl aF=>au (Y.slots T _ Xo g4) λHl c7=>⟨dM.frames z,f2,_,vs,aF,qE,hd,pH,T,_,ts,g1,g2,g3,c7,g5,q',g6⟩
 exact k e n F' M' aC I rfl dM (bp.trans (Y.fY (.refl _ _ _))) h3 h5 mA
theorem vm{t:u_}{BL:aaa}{mz:List aaa}{je:Pos}{g h oe:St->Option Ou}{m:cz->Option Bool}(hg:c5 W false fn body g)(ho:c5 W false fn orelse oe)(ht:jd W fn t m)(hh:c5 W true fn (BL::mz) h):aR W false fn (.Try body [.ExceptHandler (some t) none (BL::mz) je] orelse [] pos) (tv g h oe m):=.mk λS F M cur J r s U R z=>by
 refine wpAny_Try_except ?_;unfold tv at z;rcases V:g J with _|o
 ·exact aZ (V▸z)
 rw[V]at z;refine fm (hg.run S F M cur J o s U R V) (λfl af hp=>?_) λx af Y=>?_
 ·clear V;obtain⟨F',M',aC,ak,R',T',I⟩:=hp;cases fl with
  |next=>simp only at I;subst I;simp only at z;exact fm (ho.run S F' M' aC ak r af U R' z) (λZ Z x=>x.lift T') λZ Z x=>x.lift T'
  |brk=>simp only at I;subst I;simp only[e4]at z;subst z;exact⟨F',M',aC,ak,R',T',rfl⟩
  |cont=>simp only at I;subst I;simp only[e4]at z;subst z;exact⟨F',M',aC,ak,R',T',rfl⟩
  |ret v=>refine ax I ?_;clear I;rintro a rfl hv;simp only[e4]at z;subst z;exact⟨F',M',aC,ak,R',T',a,rfl,hv⟩
 refine jY Y.ou ?_;clear V;rintro cls ak rfl;simp only at z;split at z
 case isFalse=>exact aZ z
 rename_i nr;refine j5 U ht Y nr λe n F' M' aC cJ yD dM cA h3 h5 mA=>?_;clear Y;subst yD;have eY:∀b,n<=b->W.base.get? b=none:=λb hb=>U.bh (bU h3.2 hb);have JZ:=U.marked e;refine codeAny_handlers_suite (aP (lQ dM.stays eY mA λlW BM BN tw iI=>?_));have rz:=dM.below U h5 h3.2 BM tw iI;have eu:fI W F M F' M' s {cJ with heap:=lW}:=cA.below h3.1 tw iI;rcases BO:h ak with _|oh
 ·exact aZ (BO▸z)
 rw[BO]at z;refine fm (hh.run (S.marked e) F' M' aC ak oh _ JZ (rz.marked e) BO) (λfl pU hp=>?_) λx pU Y=>?_
 ·clear BO;obtain⟨q9,s7,gV,gU,mB,S_,I⟩:=hp;have Tt:=eu.trans S_;cases fl with
  |next=>simp only at I;subst I;simp only[e4]at z;subst z;exact⟨q9,s7,gV,gU,mB.unmarked,Tt,rfl⟩
  |brk=>simp only at I;subst I;simp only[e4]at z;subst z;exact⟨q9,s7,gV,gU,mB.unmarked,Tt,rfl⟩
  |cont=>simp only at I;subst I;simp only[e4]at z;subst z;exact⟨q9,s7,gV,gU,mB.unmarked,Tt,rfl⟩
  |ret v=>refine ax I ?_;clear I;rintro a rfl hv;simp only[e4]at z;subst z;exact⟨q9,s7,gV,gU,mB.unmarked,Tt,a,rfl,hv⟩
 ·clear BO;obtain⟨_,_,_,_,_,_,_,Jz,_⟩:=Y;subst Jz;simp only at z;exact aZ z
theorem Rel.BP{F:fF->Prop}{t:Nat}{x:Str}{b:fF}{lv:LV}(hS:S.Ok W fn q)(R:Rel W S fn F M cur J s)(hi:fn.names[i]? =some x)(hb:M b)(Y:NC b s.heap h')(hB:∀o,s.heap.get? b=some o->¬iS o)(fK:¬S.nm b)(Xp:∀o c,s.heap.get? b=some o->o.data≠.cell c)(dW:(J.getD i .un).bR=true)(Eh:jZ W S.uT h' F M lv (cur x))(hO:∀j y,fn.names[j]? =some y->j≠i->¬nS b (J.getD j .un) (cur y))(uZ:∃o,h'.get? b=some o/\¬iS o):Rel W S fn F M cur (J.set i lv) {s with heap:=h',toks:=t}/\(∀x v,VR s.heap F x v->VR h' F x v):=by
 have I:i<J.length:=by refine ag R.len ?_;exact(gw.mp hi).1
 refine R.write hS hb Y hB (λZ h=>h) (λZ h=>.inl h) ?_ ?_ (λy hy=>?_) (by exact ag abh rfl) (λj y U=>?_) (λj k y z U hk EV h1 h2=>?_) (λZ h h'=>absurd h h') uZ
 ·exact ft R.top λo es ep h1 h2=>⟨o,es,ep,(Y.2 S.L λe=>fK (.inl e.symm)).trans h1,h2⟩
 ·exact ax R.ns λm hn hm=>⟨m,hn.sameBut Y λe=>fK (.inr e.symm),hm⟩
 ·exact bF (R.cells y hy) λc o h1 h2 h3 h4=>⟨c,o,h1,h2,(Y.2 c λe=>Xp o _ (e▸h3) h4).trans h3,h4⟩
 ·refine ag (fc _ _ _ _ I) ?_;by_cases V:j=i
  ·cases V;rw[hi]at U;revert U;refine bc λe=>?_;cases e;simp only[if_true];exact Eh
  ·simp only[V,if_false];exact(R.slots j y U).but Y (R.mu b hb).2.2 hB (hO j y U V)
 ·rw[fc _ _ _ _ I]at h1 h2;have own:∀{j},(if j=i then lv else J.getD j .un).bR=true->(J.getD j .un).bR=true:=λ{j} h=>by
   by_cases V:j=i
   ·clear h;cases V;exact dW
   ·simp only[V,if_false]at h;exact h
  exact R.dist j k y z U hk EV (own h1) (own h2)
theorem Rel.n5{F:fF->Prop}(R:Rel W S fn F M cur J s){x:Str}{a:fF}(hi:fn.names[i]? =some x)(dW:(J.getD i .un).bR=true)(ck:cur x=some (.ref a))(jA:LstAt s.heap a vs):∀j y,fn.names[j]? =some y->j≠i->¬nS a (J.getD j .un) (cur y):=λj y Y fL I=>by
 obtain⟨na,VD,qB⟩:=id jA;have V:=R.slots j y Y;cases U:J.getD j .un with
 |un=>rw[U]at I;exact I
 |im c=>rw[U]at I;exact I
 |own ys=>rw[U]at I;exact R.dist j i y x Y hi fL (by refine ag U ?_;rfl) dW (I.trans ck.symm)
 |ob C ks ys=>
  rw[U]at I V;refine hJ V λz d us hz hx hd hn y1 Z=>?_;clear V;refine jJ y1 λy2 y3 Z h4=>?_;clear y1;refine au y2 λsl h1=>?_;clear y2;refine dh y3 λo es ep h2 h3 Z=>?_;clear y3;refine g' I (λI=>?_) λI=>?_
  ·exact R.dist j i y x Y hi fL (by refine ag U ?_;rfl) dW (I.trans ck.symm)
  ·rw[hz]at I;have e:z=a+1:=by injection I with I;injection I
   have:d=a:=Z9 (h4.symm.trans e);rw[this,qB]at h2;revert h2;refine bc λe=>?_;subst e;cases h3
 |fn d=>
  rw[U]at I V;refine ax V λz hz y4=>?_;clear V;refine nG y4 ?_;clear y4;rintro c o pm cd doc rfl ha ho hd _;rw[hz]at I;have e:c=a:=by injection I with I;injection I
  rw[e,qB]at ho;revert ho;refine bc λe=>?_;subst e;cases hd
theorem Rel.xp{F:fF->Prop}(R:Rel W S fn F M cur J s){a:fF}(U:LstAt s.heap a vs):¬S.nm a/\(∀o c,s.heap.get? a=some o->o.data≠.cell c)/\∀o,s.heap.get? a=some o->¬iS o:=by
 obtain⟨na,VD,I⟩:=id U;refine⟨λh=>?_,λo c z V=>(by rw[I]at z;revert z;refine bc λe=>?_;subst e;cases V),λo z ⟨ws,h,_⟩=>by rw[I]at z;revert z;refine bc λe=>?_;subst e;cases h⟩;refine g' h (λh=>?_) λh=>?_
 ·refine ft R.top λo es Y z hd=>?_;rw[<-h,I]at z;revert z;refine bc λe=>?_;subst e;cases hd
 ·refine EA R.ns λm o es Y z hd Z Z=>?_;rw[<-h,I]at z;revert z;refine bc λe=>?_;subst e;cases hd
theorem bL.snoc{F:fF->Prop}:∀{xs:List AV}{vs:List cz}{x:AV}{v:cz},bL h F xs vs->VR h F x v->bL h F (xs++[x]) (vs++[v]):=by
 intro xs
 induction xs with
 |nil=>
  intro vs x v r z;subst r;simp only[Z4,zQ,yo];exact⟨v,[],rfl,z,rfl⟩
 |cons y xs IH=>
  intro vs x v r z;refine bV r ?_;clear r;rintro w ws rfl I U;simp only[Xm,yo];exact⟨w,ws++[v],rfl,I,IH U z⟩
def NK(i:Nat)(x:Rs AV)(J:St):Option Ou:=match J.getD i .un with
 | .own xs=>aU x J λa=>if cq xs.length then some (.next (J.set i (.own (xs++[a]))))else none
 |_=>none
theorem yE{x:Str}{z:Pos}{e:u_}{f:St->Rs AV}(hn:dE fn i x)(BQ:(x==("__debug__":Str))=false)(h:aL W q fn e f)(dP:∀env,attributeBase (.Name x np) "append" env (eval (.Name x np) env)=eval (.Name x np) env)(hp:a7 [e]=true)(fb:(apos.endLine==z.line)=true)(vn:∀env,backTo z (starEach [e] env)=[(false,eval e env)])(hi:∀env:Env,env.scope=fn.scope->interactive env=false)(hs:∀env,swapsWith (.Call (.Attribute (.Name x np) "append" apos) [e] [] z) none pos.line env=pure false):aR W q fn (.Expr (.Call (.Attribute (.Name x np) "append" apos) [e] [] z) pos) (λJ=>NK i (f J) J):=.mk λS F M cur J r s U R I=>cps λQ E kQ kE=>by
 refine ag (exec_Expr S.env _ pos (hi _ U.scope) (hs _)) (az (IW (az ?_)));have hk:fn.scope.names.lookup x=some .local\/fn.scope.names.lookup x=some .cell:=hn.2.imp id λh=>h.1;have iY:=R.slots i x hn.1;simp only[NK]at I;cases V:J.getD i .un with
 |un=>exact aZ (V▸I)
 |im b=>exact aZ (V▸I)
 |ob C ks xs=>exact aZ (V▸I)
 |fn d=>exact aZ (V▸I)
 |own xs=>
  rw[V]at I iY;simp only at I;refine bF iY λa vs hc Y jA hr=>?_;clear iY;refine wpAny_Call_append (dP _) (i8 hp (by simp) _ _) fb (vn _) (Z6 (cD U R hk hc ?_) BQ);obtain⟨n,sl,qB⟩:=id jA;refine⟨a,vs.toArray,rfl,⟨_,n,qB,rfl,rfl,rfl⟩,?_⟩;refine Jx kE U R I (h.run S F M cur J · s U R) λy h2 v aB af T G hv=>?_;split at h2
  case isFalse=>exact aZ h2
  rename_i hz;revert h2;refine bc λe=>?_;clear kE I;subst e;have aI:=R.move U T G;have jf:LstAt af.heap a vs:=jA.step T (R.bS U Y);have n6:=R.Ma U T G hr;obtain⟨n₁,NL,vo⟩:=id jf;refine list_append_plainL (its:=vs.toArray) ⟨_,n₁,vo,rfl,rfl,rfl⟩ (λh' zS bO=>?_) (by simp[hr.length];exact cF hz);refine ac1 ?_;have hu:LstAt h' a (vs++[v]):=by
   refine bF zS λy2 n' et qE dg NM=>?_;clear zS;rcases y2 with⟨c,dd,dt,dH⟩
   simp only at qE dg NM;subst qE dg NM;exact⟨n',dH,by refine ag et ?_;simp⟩
  refine fQ (aI.xp jf) λg1 g2 g3=>?_;have Ta:=n6.snoc hv;have dW:(J.getD i .un).bR=true:=by refine ag V ?_;rfl
  have aM:=(aI.BP (lv:=.own (xs++[y])) (t:=af.toks) U hn.1 Y bO g3 g1 g2 dW ⟨a,vs++[v],hc,Y,hu,Ta.mono (λb hb o ho=>⟨o.slots,(bO.2 b λe=>(aI.mu a Y).2.2 (e▸hb)).trans ho⟩) λZ h=>h⟩ (aI.n5 hn.1 dW hc jf) (by obtain⟨n',dH,h1⟩:=hu;exact⟨_,h1,by rintro⟨ws,h3,_⟩;cases h3⟩)).1;refine kQ _ _ ⟨aB,M,cur,_,aM,⟨λp o sM e'=>?_,?_,λZ h=>.inl h,G.1,λb hb=>(G.2 b hb).imp id λh=>.inr h.1,T.gens⟩,rfl⟩
  ·exact au (T.slots p o (λh=>sM (.inl h)) e') λdH h1=>⟨dH,(bO.2 p λe=>sM (.inr (e▸Y))).trans h1⟩
  ·show aJ s<=h'.objs.size;exact ag bO.1 T.size
theorem lX:Slot "bytes" "find" "bytes.find":=
 .of (owner:="bytes") (n:="find") (by rw[ZQ,S2];kernel_rfl) (by decide+kernel) (by decide+kernel) (by decide+kernel)
  (by first|exact .inl (by decide+kernel)|exact .inr (by decide+kernel)) (by rw[Ut];kernel_rfl)
theorem yF:typeOf (.builtin "bytes.find")=pure (.type "method_descriptor"):=by show builtinType _=_;refine ag aaj ?_;kernel_rfl
theorem n7:entryFor table "bytes.find"=some aaH.«bytes.find»:=Z7 (by kernel_rfl)
theorem tA(a b:cz):argsOk "bytes.find" ⟨[a,b],[]⟩:=by unfold argsOk;kernel_rfl
theorem tB(a b c:cz):argsOk "bytes.find" ⟨[a,b,c],[]⟩:=by unfold argsOk;kernel_rfl
def ib(a b:Array UInt8)(st z:Option Int):Option Nat:=
 (if(A5 a.size st z).2-(A5 a.size st z).1<b.size then none else some ((A5 a.size st z).1.toNat,(A5 a.size st z).2.toNat)).bind λ(lo,I)=>acv a b lo I
theorem BR(a b:Array UInt8)(t u:Tok):«bytes.find» ⟨[.bytes a t,.bytes b u],[]⟩=(match ib a b none none with
 |some i=>retInt i
 |none=>do rule "bytes.find.not-found";retInt (-1)):=by kernel_rfl!
theorem BS(a b:Array UInt8)(i:Int)(t u v:Tok):«bytes.find» ⟨[.bytes a t,.bytes b u,.int i v],[]⟩=(match ib a b (some i) none with
 |some i=>retInt i
 |none=>do rule "bytes.find.not-found";retInt (-1)):=by kernel_rfl!
def jT(a b:List UInt8)(st:Option Int):Int:=match ib a.toArray b.toArray st none with
 |some i=>i
 |none=> -1
theorem m_find:MethAt "bytes" "find" "bytes.find":=⟨ZI,lX,yF⟩
theorem qF{Q:cz->ea->Prop}{o:Option Nat}{M:SW}(h:Q (.int (match o with|some i=>(i:Int)|none=> -1) s.toks) {s with toks:=s.toks+1}):
  wpAny M A (match o with|some i=>retInt i|none=>do rule "bytes.find.not-found";retInt (-1)) (λfin s'=>∃v,fin= .done (.ret v)/\Q v s') E s:=by
 cases o with
 |some i=>exact az (abS (en ⟨_,rfl,h⟩))
 |none=>exact az (ZR (az (abS (en ⟨_,rfl,h⟩))))
theorem mq.Xq{F:fF->Prop}(r:mq W h F [] vs):vs=[]:=r
section
variable {β:Type} {r:β} {h:ZN} {F:fF->Prop} {a:AV} {v:cz} {xs:List AV} {vs:List cz}
@[elab_as_elim] theorem n8{k:List UInt8->Option β}{G:cz->Prop}(e:Ja k a=some r)(z:VH W h F a v)(g:∀b t,k b=some r->G (.bytes b.toArray t)):G v:=by
 revert z;exact Jb e λb hb z=>(z.dB rfl).elim λt e=>e▸g b t hb
@[elab_as_elim] theorem BU{k:Int->Option β}{G:cz->Prop}(e:QT k a=some r)(z:VH W h F a v)(g:∀b t,k b=some r->G (.int b t)):G v:=by
 revert z;exact Jc e λb hb z=>(z.dB rfl).elim λt e=>e▸g b t hb
@[elab_as_elim] theorem vp{k:List AV->Option β}{G:cz->Prop}(e:M0 k a=some r)(I:VH W h F a v)(g:∀ys x z,k ys=some r->LstAt h x z->bL h F ys z->G (.ref x)):G v:=by
 revert I;exact Jd e λys hb I=>by refine bV I.lst ?_;rintro x z rfl h1 h2;exact g ys x z hb h1 h2
noncomputable def yG(k:AV->List AV->Option β):List AV->Option β
 |[]=>none
 |a::xs=>k a xs
def mV(k:List UInt8->List AV->Option β):List AV->Option β:=yG λa xs=>Ja (k · xs) a
def tC(k:Int->List AV->Option β):List AV->Option β:=yG λa xs=>QT (k · xs) a
def BV(k:List AV->List AV->Option β):List AV->Option β:=yG λa xs=>M0 (k · xs) a
noncomputable def yH(x:Option β)(k:List AV->Option β):List AV->Option β
 |[]=>x
 |a::xs=>k (a::xs)
def kP(x:Option β):List AV->Option β:=yH x λZ=>none
@[elab_as_elim] theorem kR{k:AV->List AV->Option β}{G:List cz->Prop}(e:yG k xs=some r)(z:mq W h F xs vs)(g:∀a v ys ws,k a ys=some r->VH W h F a v->mq W h F ys ws->G (v::ws)):G vs:=by
 cases xs with
 |nil=>exact aZ e
 |cons a ys=>refine bV z ?_;rintro v ws rfl h1 h2;exact g a v ys ws e h1 h2
@[elab_as_elim] theorem dX{k:List UInt8->List AV->Option β}{G:List cz->Prop}(e:mV k xs=some r)(z:mq W h F xs vs)(g:∀b t ys ws,k b ys=some r->mq W h F ys ws->G (.bytes b.toArray t::ws)):G vs:=
 kR e z λa v ys ws e h1 h2=>n8 (G:=λv=>G (v::ws)) e h1 λb t e=>g b t ys ws e h2
@[elab_as_elim] theorem ic{k:Int->List AV->Option β}{G:List cz->Prop}(e:tC k xs=some r)(z:mq W h F xs vs)(g:∀b t ys ws,k b ys=some r->mq W h F ys ws->G (.int b t::ws)):G vs:=
 kR e z λa v ys ws e h1 h2=>BU (G:=λv=>G (v::ws)) e h1 λb t e=>g b t ys ws e h2
@[elab_as_elim] theorem nt{k:List AV->List AV->Option β}{G:List cz->Prop}(e:BV k xs=some r)(U:mq W h F xs vs)(g:∀z x I ys ws,k z ys=some r->LstAt h x I->bL h F z I->mq W h F ys ws->G (.ref x::ws)):G vs:=
 kR e U λa v ys ws e h1 h2=>vp (G:=λv=>G (v::ws)) e h1 λz x I e h3 h4=>g z x I ys ws e h3 h4 h2
@[elab_as_elim] theorem kT{x:Option β}{k:List AV->Option β}{G:List cz->Prop}(e:yH x k xs=some r)(z:mq W h F xs vs)(g:x=some r->G [])(I:∀ys,k ys=some r->mq W h F ys vs->G vs):G vs:=by
 cases xs with
 |nil=>refine dK ?_ z;clear z;intro z;cases z;exact g e
 |cons a ys=>exact I _ e z
@[elab_as_elim] theorem di{x:Option β}{G:List cz->Prop}(e:kP x xs=some r)(z:mq W h F xs vs)(g:x=some r->G []):G vs:=kT e z g λZ e Z=>aZ e
end
def BW:List AV->Rs AV:=mV λa=>mV λb=>yH (aA (.int (jT a b none))) (tC λi=>kP (aA (.int (jT a b (some i)))))
theorem j6:dD W q fn "bytes.find" BW:=.mk λS F M cur J r s xs vs U R I z=>by
 refine dX z I λa t xs vs z I=>dX z I λb u xs vs z I=>kT z I (λz=>?_) λxs z I=>ic z I λi w xs vs z I=>di z I λz=>?_
 ·cases z;refine Nh lX rfl n7 ?_ (tA _ _);rw[BR];exact qF (PE.done (.toks R.stays) (⟨_,rfl⟩))
 ·cases z;refine Nh lX rfl n7 ?_ (tB _ _ _);rw[BS];exact qF (PE.done (.toks R.stays) (⟨_,rfl⟩))
def BX:List AV->Rs AV:=yG λa=>kP (match a with
 | .aa b=>if c9 b.length then aA (.int b.length)else none
 | .lst b=>if c9 b.length then aA (.int b.length)else none
 |_=>none)
theorem fi:dD W q fn "len" BX:=.mk λS F M cur J r s xs vs Z R I z=>by
 refine kR z I λa v xs vs z h1 I=>di z I λz=>?_;cases a with
 |aa b=>
  refine aX (iE z) λU z=>?_;cases z;refine au (h1.dB rfl) ?_;clear h1;rintro t rfl;exact PySem.W.len_bytes (by simpa[c9]using U) (PE.done (.toks R.stays) (⟨_,rfl⟩))
 |lst b=>
  refine aX (iE z) λU z=>?_;cases z;refine bV h1.lst ?_;clear h1;rintro a us rfl V Y;have hlen:=Y.length;refine len_list V.list (by simp[c9]at U;simp[hlen];lia) (PE.done (.toks R.stays) (by simp[lL,lM,lN,mh,hlen]))
 |_=>exact aZ z
def vq(x y z:Rs AV)(g h:AV->AV->Rs AV):Rs Bool:=
 bindR x λa=>bindR y λb=>bindR (i4 (g a b)) λt=>if t then bindR z λc=>i4 (h b c)else aA false
theorem BY{l vt lT:u_}{n9 og:CmpOp}{f g k:St->Rs AV}{aF c7:AV->AV->Rs AV}(hl:cw W q fn l f)(n6:cw W q fn vt g)(BZ:cw W q fn lT k)(kU:jQ W q fn (compareOp n9) aF)(jg:jQ W q fn (compareOp og) c7)(hm:lastMarks (n9::og::[]) (vt::lT::[])=false):gL W q fn (.Compare l [n9,og] [vt,lT] pos) (λJ=>vq (f J) (g J) (k J) aF c7):=.mk λS F M cur J r s I R U=>by
 refine isTrue_chain ?_ hm;unfold vq at U;refine gM U (hl.run S F M cur J · s I R) λa U v aB af T G hv=>?_;have aI:=R.move I T G;refine test_link (PX.raise T (gM U (n6.run S aB M cur J · af I aI) λb U w aQ s₂ V a_ hw=>?_));have aM:=aI.move I V a_;refine PX.raise (T.trans V) (Jj U (kU.run S aQ M cur J · s₂ a b v w I aM (aI.vh I V a_ hv) hw) λt U z u cx aK hz bp fU hu=>?_);have cG:=aM.move I bp fU;refine QV (iZ.run S cx M cur J t aK z u I cG hu.vh hz) λdx eI=>?_;have Y:=((T.trans V).trans bp).trans eI;clear hz;cases t with
 |false=>
  exact⟨(gq U).symm,Y⟩
 |true=>
  have iP:=cG.move I eI (.refl _ _ _);refine test_last (PX.raise Y (gM U (BZ.run S cx M cur J · dx I iP) λc U x gC cJ Z pV hx=>?_));have dM:=iP.move I Z pV;exact PX.raise (Y.trans Z) (Jj (g:=aA) ((qo _).trans U) (jg.run S gC M cur J · cJ b c w x I dM (iP.vh I Z pV (cG.vh I eI (.refl _ _ _) (aM.vh I bp fU hw))) hx) λtb hb y u' yI vv hy eu Tb Xr=>Ji hy hb I (dM.move I eu Tb) Xr.vh ((Y.trans Z).trans eu))
def NN:AV->Rs AV
 | .int i=>aA (.int (-i))
 |_=>none
theorem jU{x:u_}{f:St->Rs AV}(h:cw W q fn x f):aL W q fn (.UnaryOp .USub x pos) (λJ=>bindR (f J) NN):=.mk λS F M cur J r s U R I=>by
 refine wpAny_UnaryOp (gM I (h.run S F M cur J · s U R) λa I v aB af T G z=>?_);cases a with
 |int i=>
  cases I;have z:=z.dB rfl;refine au z ?_;clear z;clear z;rintro t rfl;exact P.neg_int ⟨.int (-i),aB,rfl,T.trans (.toks T.stays),⟨G.1,G.2⟩,by first|rfl|exact⟨_,rfl⟩|simp[lL,lM,lN,mh,ED]⟩
 |_=>cases I
def vw(x y:Rs AV):Rs AV:=bindR x λa=>match cI a with|none=>none|some true=>y|some false=>aA a
def NO(x y:Rs AV):Rs AV:=bindR x λa=>match cI a with|none=>none|some true=>aA a|some false=>y
theorem rA{x y:u_}{f g:St->Rs AV}(hx:aL W q fn x f)(hy:aL W q fn y g):aL W q fn (.BoolOp .And [x,y] pos) (λJ=>vw (f J) (g J)):=.mk λS F M cur J r s z R I=>by
 refine wpAny_And2 (gM I (hx.run S F M cur J · s z R) λa I v aB af T G Y=>?_);have V:=R.move z T G;rcases hb:cI a with _|t
 ·exact aZ (hb▸I)
 rw[hb]at I;refine QV (iZ.run S aB M cur J t af a v z V Y.vh hb) λs₂ U=>?_;clear hb;cases t with
 |true=>exact PX.raise (T.trans U) (fm (hy.run S aB M cur J r s₂ z (V.move z U (.refl _ _ _)) I) (λZ Z x=>(x.lift U (.refl _ _ _)).lift T G) λZ Z x=>x)
 |false=>exact⟨a,aB,(gq I).symm,T.trans U,G.trans T.size U.size (.refl _ _ _),V.vr z U (.refl _ _ _) Y⟩
theorem NP{x y:u_}{f g:St->Rs AV}(hx:aL W q fn x f)(hy:aL W q fn y g):aL W q fn (.BoolOp .Or [x,y] pos) (λJ=>NO (f J) (g J)):=.mk λS F M cur J r s z R I=>by
 refine wpAny_Or2 (gM I (hx.run S F M cur J · s z R) λa I v aB af T G Y=>?_);have V:=R.move z T G;rcases hb:cI a with _|t
 ·exact aZ (hb▸I)
 rw[hb]at I;refine QV (iZ.run S aB M cur J t af a v z V Y.vh hb) λs₂ U=>?_;clear hb;cases t with
 |false=>exact PX.raise (T.trans U) (fm (hy.run S aB M cur J r s₂ z (V.move z U (.refl _ _ _)) I) (λZ Z x=>(x.lift U (.refl _ _ _)).lift T G) λZ Z x=>x)
 |true=>exact⟨a,aB,(gq I).symm,T.trans U,G.trans T.size U.size (.refl _ _ _),V.vr z U (.refl _ _ _) Y⟩
noncomputable def H7(c x:cz):Option Bool:=if x=c then some true else none
theorem J0{t:u_}{X:String}(I:aL W true fn t (λZ=>aA (.ty X)))(U:isSubtype (.type X) (.type "BaseException")=pure true)(V:isSubtype (.type ((Manifest.find? X).elim "type" λx=>x.metatype)) (.type "tuple")=pure false)(Y:isSubtype (.type X) (.type X)=pure true):jd W fn t (H7 (.type X)):=
 .mk λS F M cur J s e ob b hS R he hl z=>by
  refine aX (iE z) λJ1 z=>?_;revert z;refine bc λe=>?_;clear z;subst e;refine w8 (I.run S F M cur J _ s hS R rfl) λc aB af T G hv=>?_;subst hv;exact au (T.slots e ob hl he) λsl mi=>wpAny_excMatches_type (X:=X) ⟨_,mi,J1⟩ U V Y ⟨rfl,T⟩
theorem NQ{B newId initId:String}{bm:List cz}{nm I:Str}{C N:fF}{bs:List cz}{hdct:Bool}{sn:List Str}{sub:List cz}{ab:Bool}{col:Option Bool}{dd:Option fF}{k0 k1 k2 k3 k5:Option cz}{t:u_}(U:aL W true fn t (λZ=>aA (.ref C)))(V:W.base.get? C=some (excClassObj nm I C N bs bm hdct sn sub ab col dd k0 k1 k2 k3 k5 newId))(Y:bm.contains (.type "BaseException")=true):jd W fn t (H7 (.ref C)):=
 .mk λS F M cur J s e ob b hS R he hl z=>by
  refine aX (iE z) λJ1 z=>?_;revert z;refine bc λe=>?_;clear z;subst e;refine w8 (U.run S F M cur J _ s hS R rfl) λc aB af T G hv=>?_;clear G;subst hv;refine au (T.slots e ob hl he) λsl mi=>?_;obtain⟨hp,g,d,tk,os⟩:=af;exact wpAny_excMatches_sub_self (T.stays _ _ V) mi J1 Y ⟨rfl,T⟩
theorem vx(b:Array UInt8)(c:Int)(t u:Tok)(I:0<=c)(h1:c<256):Gives («bytes.__contains__» ⟨[.bytes b t,.int c u],[]⟩) (.val (.bool (b.contains c.toNat.toUInt8))):=by
 refine .of_wp λM A E s Q z=>?_;have e:«bytes.__contains__» ⟨[.bytes b t,.int c u],[]⟩=(do
   let i<-(asIndex (.int c u)).attempt
   let some b'<-Bytes.buffer? "bytes.__contains__" (.bytes b t)|unsupported "internal:bytes-without-payload"
   ret (.bool (<-(match i with
   | .ok i=>do
    if i<0||i>=256 then do rule s!"{"bytes.__contains__"}.byte-out-of-range";raiseError "ValueError" "byte must be in range(0, 256)"
    return b'.contains i.toNat.toUInt8
   | .error _=>unsupported "x":Sem Bool)))):=by kernel_rfl!
 refine ag e (az (abe (Uu (a:=c) rfl ?_)));refine az (Uu (abO) ?_);exact az (cM (by simp;omega) (en (en ⟨_,rfl,z⟩)))
def Tc(x c:AV):Rs AV:=QT (λi=>Ja (λb=>if 0<=i/\i<256 then aA (.bool (!b.contains i.toNat.toUInt8))else none) c) x
theorem xq:jQ W q fn (compareOp .NotIn) Tc:=.mk λS F M cur J r s a b v w I R z hw hg=>by
 refine BU hg z λi u hg=>n8 hg hw λb U hg=>aX (iE hg) λh hg=>?_;cases hg;exact notIn_gives (T:="bytes") rfl abA acG (acx _ _) (vx _ _ _ _ h.1 h.2) (PE.done (.refl R.stays) (by first|rfl|exact⟨_,rfl⟩|simp[lL,lM,lN,mh]))
theorem oi:Slot "bytes" "rfind" "bytes.rfind":=
 .of (owner:="bytes") (n:="rfind") (by rw[ZQ,S2];kernel_rfl) (by decide+kernel) (by decide+kernel) (by decide+kernel)
  (by first|exact .inl (by decide+kernel)|exact .inr (by decide+kernel)) (by rw[Ut];kernel_rfl)
theorem vy:typeOf (.builtin "bytes.rfind")=pure (.type "method_descriptor"):=by show builtinType _=_;refine ag aaj ?_;kernel_rfl
theorem tE:entryFor table "bytes.rfind"=some aaH.«bytes.rfind»:=Z7 (by kernel_rfl)
theorem rB(a b:cz):argsOk "bytes.rfind" ⟨[a,b],[]⟩:=by unfold argsOk;kernel_rfl
noncomputable def gX(a b:Array UInt8):Option Nat:=
 (if(A5 a.size none none).2-(A5 a.size none none).1<b.size then none else some ((A5 a.size none none).1.toNat,(A5 a.size none none).2.toNat)).bind λ(lo,z)=>Bytes.rfind? a b lo z
theorem yJ(a b:Array UInt8)(t u:Tok):«bytes.rfind» ⟨[.bytes a t,.bytes b u],[]⟩=(match gX a b with
 |some i=>retInt i
 |none=>do rule "bytes.rfind.not-found";retInt (-1)):=by kernel_rfl!
def vz(a b:List UInt8):Int:=match gX a.toArray b.toArray with
 |some i=>i
 |none=> -1
theorem vA(a b:Array UInt8)(t u:Tok):«bytes.startswith» ⟨[.bytes a t,.bytes b u],[]⟩=(do
  if<-isInstance (.bytes b u) (.type "tuple")then unsupported "internal:bytes.startswith"
  else ret (.bool (if(A5 a.size none none).2-(A5 a.size none none).1<b.size then false
   else a.extract (A5 a.size none none).1.toNat ((A5 a.size none none).1.toNat+b.size)==b))):=by kernel_rfl!
theorem B1(a b:Array UInt8)(t u:Tok):«bytes.endswith» ⟨[.bytes a t,.bytes b u],[]⟩=(do
  if<-isInstance (.bytes b u) (.type "tuple")then unsupported "internal:bytes.endswith"
  else ret (.bool (if(A5 a.size none none).2-(A5 a.size none none).1<b.size then false
   else a.extract ((A5 a.size none none).2.toNat-b.size) (A5 a.size none none).2.toNat==b))):=by kernel_rfl!
theorem m_rfind:MethAt "bytes" "rfind" "bytes.rfind":=⟨ZI,oi,vy⟩
def tF{β:Type}(k:List UInt8->List UInt8->Option β):List AV->Option β:=mV λa=>mV λb=>kP (k a b)
@[elab_as_elim] theorem kW{β:Type}{r:β}{h:ZN}{F:fF->Prop}{xs:List AV}{vs:List cz}{k:List UInt8->List UInt8->Option β}{G:List cz->Prop}(e:tF k xs=some r)(z:mq W h F xs vs)(g:∀a t b u,k a b=some r->G [.bytes a.toArray t,.bytes b.toArray u]):G vs:=
 dX e z λa t Z Z e z=>dX (G:=λvs=>G (.bytes a.toArray t::vs)) e z λb u Z Z e z=>di (G:=λvs=>G (.bytes a.toArray t:: .bytes b.toArray u::vs)) e z λe=>g a t b u e
def J2:List AV->Rs AV:=tF λa b=>aA (.int (vz a b))
theorem E_:dD W q fn "bytes.rfind" J2:=.mk λS F M cur J r s xs vs V R U z=>by
 refine kW z U λa t b u z=>?_
 ·cases z;refine Nh oi rfl tE ?_ (rB _ _);rw[yJ];cases I:gX a.toArray b.toArray with
  |some i=>exact az (abS (en ⟨_,rfl,PE.done (.toks R.stays) (by simp[lL,lM,lN,mh,vz,I])⟩))
  |none=>exact az (ZR (az (abS (en ⟨_,rfl,PE.done (.toks R.stays) (by simp[lL,lM,lN,mh,vz,I])⟩))))
theorem sub_bytes_tuple:isSubtype (.type "bytes") (.type "tuple")=pure false:=by rw[Ut];kernel_rfl
theorem B2:MethAt "bytes" "startswith" "bytes.startswith":=⟨ZI,acy,FB.type_bytes_startswith⟩
theorem J3:MethAt "bytes" "endswith" "bytes.endswith":=⟨ZI,acU,FB.type_bytes_endswith⟩
noncomputable def jD(a b:List UInt8):Bool:=if(A5 a.length none none).2-(A5 a.length none none).1<b.length then false
   else a.toArray.extract (A5 a.length none none).1.toNat ((A5 a.length none none).1.toNat+b.length)==b.toArray
noncomputable def xr(a b:List UInt8):Bool:=if(A5 a.length none none).2-(A5 a.length none none).1<b.length then false
   else a.toArray.extract ((A5 a.length none none).2.toNat-b.length) (A5 a.length none none).2.toNat==b.toArray
def xt:List AV->Rs AV:=tF λa b=>aA (.bool (jD a b))
def H8:List AV->Rs AV:=tF λa b=>aA (.bool (xr a b))
theorem B3:dD W q fn "bytes.startswith" xt:=.mk λS F M cur J r s xs vs U R I z=>by
 refine kW z I λa t b u z=>?_
 ·cases z;refine Nh acy rfl FB.entry_bytes_startswith ?_ (FB.args_bytes_startswith_2 _ _);rw[vA];refine az (ZT (T:="bytes") (b:=false) rfl sub_bytes_tuple ?_);exact cM (by decide) (en ⟨_,rfl,PE.done (.refl R.stays) (rfl)⟩)
theorem J4:dD W q fn "bytes.endswith" H8:=.mk λS F M cur J r s xs vs U R I z=>by
 refine kW z I λa t b u z=>?_
 ·cases z;refine Nh acU rfl FB.entry_bytes_endswith ?_ (FB.args_bytes_endswith_2 _ _);rw[B1];refine az (ZT (T:="bytes") (b:=false) rfl sub_bytes_tuple ?_);exact cM (by decide) (en ⟨_,rfl,PE.done (.refl R.stays) (rfl)⟩)
theorem bL.app{F:fF->Prop}:∀{xs ys:List AV}{vs ws:List cz},bL h F xs vs->bL h F ys ws->bL h F (xs++ys) (vs++ws):=by
 intro xs
 induction xs with
 |nil=>
  intro ys vs ws r z;subst r;simpa using z
 |cons x xs IH=>
  intro ys vs ws r z;refine bV r ?_;clear r;rintro v I rfl U V;simp only[Xm,yo];exact⟨v,I++ws,rfl,U,IH V z⟩
def NR(a b:AV):Rs (List AV):=M0 (λxs=>M0 (λys=>if cq (xs.length+ys.length)then aA (xs++ys)else none) b) a
theorem vB{l Y:u_}{f g:St->Rs AV}(hl:cw W q fn l f)(hr:cw W q fn Y g):jK W q fn (.BinOp l .Add Y pos) (λJ=>bindR (f J) λa=>bindR (g J) λb=>NR a b):=.mk λS F M cur J r s z R hf=>by
 refine wpAny_BinOp (gM hf (hl.run S F M cur J · s z R) λa h2 v aB af T G hv=>?_);have U:=R.move z T G;refine PX.raise T (gM h2 (hr.run S aB M cur J · af z U) λb h4 w aQ s₂ I V hw=>?_);have aM:=U.move z I V;have dO:=U.vh z I V hv;refine vp h4 dO λxs x vs h4 ⟨n,sl,hx⟩ VM=>vp h4 hw λys y ws h4 ⟨n2,Xu,hy⟩ VN=>?_
 ·refine aX (iE h4) λhz h4=>?_
  ·clear hf h2;cases h4;have TT:=T.trans I;have hn:¬aQ s₂.heap.objs.size:=λh=>f3 _ (aM.bound z h).1;have h_:aJ s₂<aJ {s₂ with heap:=s₂.heap.push {cls:=.type "list",data:=.seq (vs.toArray++ws.toArray)}}:=by simp only[aJ,rW];exact rv _
   have e:vs.toArray++ws.toArray=(vs++ws).toArray:=by simp
   refine concat_meets ⟨_,hx,rfl⟩ ⟨_,hy,rfl⟩ noFill_list_add seq_list_add PySem.F.slot_list_add PySem.F.entry_list_add (PySem.F.args_list_add_2 _ _)
    (list_addW x y vs.toArray ws.toArray n n2 none none sl Xu (by simp[VM.length,VN.length];exact cF hz)) ⟨hx,hy,?_⟩
   refine ag e ?_;exact⟨xs++ys,aQ,_,vs++ws,rfl,TT.trans (.push TT.stays),(G.trans T.size I.size V).trans TT.size (Kt (by simp only[rW];exact rv _)) (.refl _ _ _),rfl,TT.size,hn,⟨0,#[],w' _ rfl⟩,
    (VM.app VN).mono (λa Z o ho=>⟨o.slots,ml _ ho⟩) λZ h=>h⟩
noncomputable def ie(K:abd)(t:cz):List cz->Option Bool
 |[]=>some false
 |c::r=>match subIn K t c with
  |some true=>some true
  |some false=>ie K t r
  |none=>none
theorem yK{K:abd}:ie K t []=some false:=rfl
theorem yL{K:abd}:ie K t (c::r)=match subIn K t c with
  |some true=>some true
  |some false=>ie K t r
  |none=>none:=rfl
noncomputable def J5:AV->Option cz
 | .ty n=>some (.type n)
 | .ref a=>some (.ref a)
 |_=>none
def qG:List AV->Option (List cz)
 |[]=>some []
 |a::r=>(J5 a).bind λv=>(qG r).map λvs=>v::vs
theorem Fc:qG []=some []:=rfl
theorem Fd:qG (a::r)=(J5 a).bind λv=>(qG r).map λvs=>v::vs:=rfl
theorem B4{F:fF->Prop}:∀{xs:List AV}{vs cs:List cz},bL h F xs vs->qG xs=some cs->vs=cs:=by
 intro xs
 induction xs with
 |nil=>
  intro vs cs r e;subst r;simp only[Fc,e4]at e;exact e
 |cons x xs I=>
  intro vs cs r e;refine bV r ?_;clear r;rintro v ws rfl U V;simp only[Fd]at e;refine ax (z0.mp e) λc z e=>ax (r0.mp e) ?_;clear e;clear e;rintro Z Y rfl;refine ag (I V Y) ?_;cases x<;>simp only[J5,e4,reduceCtorEq]at z<;>exact ag U (ag z rfl)
theorem vC{M:SW}{Q:PUnit->ea->Prop}(f:cz->PUnit->Sem (ForInStep PUnit))(T:Sem (ForInStep PUnit))(U:∀c u,f c u=(isExcClass c>>=λx=>if(!x)=true then T else pure (.yield ⟨⟩))):∀{z:List cz},(∀c∈z,Looks M s.heap (isExcClass c) true)->Q ⟨⟩ s->wpAny M A (forIn z PUnit.unit f) Q E s:=by
 intro z
 induction z with
 |nil=>
  intro _ h;exact ag ada (en h)
 |cons c r IH=>
  intro I h;rw[abi,U];refine az (az ((I c (T4 ..)).here ?_));simp only[Bool.not_true,F3,if_false];exact en (IH (λc V=>I c (AM _ V)) h)
theorem B5{K:abd}{M:SW}{t:cz}(X:K.In s.heap)(f:cz->Option Bool×Unit->Sem (ForInStep (Option Bool×Unit)))(U:∀c u,f c u=(isSubtype t c>>=λx=>if x=true then pure (.done (some true,()))else pure (.yield (none,())))):∀{I:List cz}{b:Bool}{Q:Option Bool×Unit->ea->Prop},ie K t I=some b->Q (if b then(some true,())else(none,())) s->wpAny M A (forIn I (none,()) f) Q E s:=by
 intro I
 induction I with
 |nil=>
  intro b Q z h;simp only[yK,e4]at z;subst z;rw[ada];exact en h
 |cons c r IH=>
  intro b Q z h;simp only[yL]at z;rw[abi,U];split at z
  ·rename_i hs;revert z;refine bc λe=>?_;subst e;exact az (az ((looks_subIn X hs).here (en (en h))))
  ·rename_i hs;refine az (az ((looks_subIn X hs).here ?_));simp only[F3,if_false];exact en (IH z h)
  ·exact aZ z
theorem tG{K:abd}{M:SW}{Q:Bool->ea->Prop}{e:fF}{ob:Obj}{tup:fF}(X:K.In s.heap)(U:s.heap.get? e=some ob)(V:TupAt s.heap tup vs)(Y:∀c∈vs,Looks M s.heap (isExcClass c) true)(z:ie K ob.cls vs=some b)(h:Q b s):wpAny M A (excMatches (.ref e) (.ref tup)) Q E s:=by
 refine MN V.tuple λo I hc n hd=>az (ZT ⟨o,I,hc⟩ isSubtype_tuple_tuple ?_);refine ag (if_pos rfl) (az (ace I hd (az (en ?_))));dsimp only[aa3];refine az (vC _ _ (λZ Z=>rfl) Y ?_);refine az (az (abn U (en ?_)));refine az (B5 X _ (λZ Z=>rfl) z ?_);clear z;cases b<;>exact en h
theorem xu{K:abd}{t:u_}{z:List cz}(U:K.In W.base)(V:aL W true fn t (λZ=>aA (.tup xs)))(Y:qG xs=some z)(B0:∀c∈z,Looks (model W.prog W.w) W.base (isExcClass c) true)(m:cz->Option Bool)(hm:∀c b,m c=some b->ie K c z=some b):jd W fn t m:=
 .mk λS F M cur J s e ob b hS R he hl Xx=>by
  refine w8 (V.run S F M cur J _ s hS R rfl) λc aB af T G I=>bF I ?_;clear I;rintro tup vs rfl _ J6 hr;obtain rfl:=B4 hr Y;exact au (T.slots e ob hl he) λsl mi=>tG (K:=K) (b:=b) (λa o e=>T.stays _ _ (U a o e)) mi J6 (λc hc=>(B0 c hc).keeps T.stays) (hm _ _ Xx) ⟨rfl,T⟩
def Fe(h:ZN)(it:fF)(x left step:Int):Prop:=∃o,h.get? it=some o/\o.cls= .type "range_iterator"/\o.data= .fields #[rawInt x,rawInt left,rawInt step]
section
variable {w:aab}
theorem Ff{x left step:Int}{Q:Option cz->ea->Prop}(I:Fe s.heap it x left step)(H9:0<left)(hQ:∀h',Fe h' it (x+step) (left-1) step->NC it s.heap h'->Q (some (.int x s.toks)) {s with heap:=h',toks:=s.toks+1}):wpAny (model prog w) A (pyNext (.ref it)) Q E s:=by
 refine iQ I λo z V hd=>?_;have Y:s.TypeIs (.ref it) "range_iterator":=⟨_,z,V⟩;refine az (abe (aaf (name:=oK "__next__") Y Z1
  (Nh Z1 Y ab5 ?_ (abX _))))
 show wpAny _ _ (field (.ref it) 0>>=_) _ _ s;refine az (T9 z hd (x:=rawInt x) rfl ?_);show wpAny _ _ (field (.ref it) 1>>=_) _ _ s;refine az (T9 z hd (x:=rawInt left) rfl ?_);show wpAny _ _ (field (.ref it) 2>>=_) _ _ s;refine az (T9 z hd (x:=rawInt step) rfl ?_);show wpAny _ _ (if left<=0 then _ else _) _ _ s;refine cM (by lia) (az (ZX z hd (by simp) ?_));have U:=X2 hd (·.setIfInBounds 0 (rawInt (x+step)));have Z:=JP (OE (·.setIfInBounds 0 (rawInt (x+step)))) z (ZM U);refine az (ZX Z U (by simp) ?_);have gI:=X2 U (·.setIfInBounds 1 (rawInt (left-1)));have jg:=JP (OE (·.setIfInBounds 1 (rawInt (left-1)))) Z (ZM gI);refine az (abS (en ⟨_,rfl,en (hQ _ ⟨_,jg,(acp ..).trans ((acp ..).trans V),by refine ag gI ?_;rfl⟩ ((ZJ ..).trans (ZJ ..)))⟩))
theorem J7{x left step:Int}{Q:Option cz->ea->Prop}(U:A.handled=none)(I:Fe s.heap it x left step)(Y:left<=0)(Z:∀h',adG it s.heap h'->Q none {s with heap:=h'}):wpAny (model prog w) A (pyNext (.ref it)) Q E s:=by
 refine iQ I λo z hc hd=>?_;have V:s.TypeIs (.ref it) "range_iterator":=⟨_,z,hc⟩;refine az (abe (aaf (name:=oK "__next__") V Z1
  (Nh Z1 V ab5 ?_ (abX _))))
 show wpAny _ _ (field (.ref it) 0>>=_) _ _ s;refine az (T9 z hd (x:=rawInt x) rfl ?_);show wpAny _ _ (field (.ref it) 1>>=_) _ _ s;refine az (T9 z hd (x:=rawInt left) rfl ?_);show wpAny _ _ (field (.ref it) 2>>=_) _ _ s;refine az (T9 z hd (x:=rawInt step) rfl ?_);show wpAny _ _ (if left<=0 then _ else _) _ _ s;refine ag (if_pos Y) (az (ZR ?_));refine az ?_;show wpAny _ _ (newExc (.type "StopIteration") []>>=_) _ _ _;refine az ?_;unfold newExc newTuple;refine az (Xt ?_ (by size_fits));refine az (m:=firstArgMember _ _) (Uu (a:=Tg) (by first|rfl|(simp only[firstArgMember];rfl)) ?_);refine Xt ?_ (by size_fits);refine az (wpAny_handled ?_)
 first|refine ag (show A.in1.handled=none from U) ?_|refine ag U ?_
 refine az (en (ac8 ?_));refine az (ZT (T:="StopIteration") (b:=true) ⟨_,w' _ rfl,rfl⟩ isSubtype_stop ?_);exact en (Z _ (((Heap.ExtBut.refl it s.heap).push _).push _))
end
noncomputable def c_(a b c:Int):List AV:=(ZK (OR a b c).toNat).map λi:Nat=>.int (a+i*c)
theorem vD{a b c:Int}{x:AV}(h:(c_ a b c)[i]? =some x):i<(OR a b c).toNat/\x= .int (a+i*c):=by
 unfold c_ at h;rw[Xv]at h;refine ax (r0.mp h) ?_;clear h;rintro k z rfl;refine au (gw.mp z) ?_;clear z;rintro I rfl;rw[List.length_range]at I;exact⟨I,by simp⟩
theorem tH{a b c:Int}(h:(c_ a b c)[i]? =none):(OR a b c).toNat<=i:=by
 rw[R3]at h
 simpa[c_]using h
noncomputable def B6{W:Wd}(a b c:Int):Src W (c_ a b c) where
 P F it i h:=Fe h it (a+i*c) ((OR a b c)-i) c
 item:=λ{A E F it i x s Q} z jS Y I=>by
  refine aX (vD Y) ?_;clear Y;rintro h_ rfl;refine Ff z (by lia) λh' AJ bO=>I _ h' _ bO ?_ (⟨_,rfl⟩);have e1:a+((i+1:Nat):Int)*c=a+i*c+c:=by
   rw[show((i+1:Nat):Int)=(i:Int)+1 by rfl,Int.add_mul];lia
  have e2:OR a b c-((i+1:Nat):Int)=OR a b c-i-1:=by lia
  refine ag e1 (ag e2 ?_);exact AJ
 fin:=λ{A E F it i s Q} hh z Y I=>by
  have:=tH Y;exact J7 hh z (by lia) λh' hE=>I h' s.toks hE
 keep:=λ{F F' it i h h'} ⟨o,U,V,hd⟩ QY k=>by
  exact au (k it _ (.inl rfl) U) λsl hs=>⟨_,hs,V,hd⟩
 self:=λ{A E F' it i s Q} ⟨o,U,V,hd⟩ I=>by
  have Z:s.TypeIs (.ref it) "range_iterator":=⟨_,U,V⟩;refine wpAny_pyIter_slot Z acf (Nh acf Z F.entry_range_iterator_iter ?_ (F.args_range_iterator_iter_1 _));exact en ⟨_,rfl,"range_iterator",_,Z,Z1.lookup,I⟩
 small:=λ{F it i h} ⟨o,U,V,hd⟩ o' et hB=>by
  rw[U]at et;revert et;refine bc λe=>?_;subst e;refine ax hB λws h1 h2=>?_;clear hB;rw[hd]at h1;refine dK ?_ h1;clear h1;intro h1;cases h1;revert h2;simp
 ti:=λ{A E F it i s target v Q} ⟨o,U,V,hd⟩ I=>nX U V (by decide) I
theorem noPylong{x y:Int}(h:y.natAbs<2^62):abY x y=false:=by
 unfold abY;simp only[abF,decide_eq_false_iff_not]
 left
 split
 ·decide
 ·rename_i z;have z:y.natAbs≠0:=by intro e;apply z;simpa using e
  have:=(Nat.log2_lt z).mpr h;lia
def jh:List AV->Option (Int×Int×Int):=tC λa=>yH (some (0,a,1)) (tC λb=>yH (some (a,b,1)) (tC λc=>kP (if c≠0/\c.natAbs<2^62 then some (a,b,c)else none)))
def j7(x:Rs (List AV)):Rs (List AV):=bindR x λxs=>match jh xs with
 |some (a,b,c)=>if Ud a b c then aA (c_ a b c)else none
 |none=>none
theorem vF{r:Except cz (List AV)}(h:(match jh xs with|some (a,b,c)=>if Ud a b c then aA (c_ a b c)else none|none=>none)=some r):∃a b c,jh xs=some (a,b,c)/\Ud a b c=true/\r= .ok (c_ a b c):=by
 cases z:jh xs with
 |none=>exact aZ (z▸h)
 |some p=>
  obtain⟨a,b,c⟩:=p;rw[z]at h;exact aX (iE h) λh1 h2=>⟨a,b,c,rfl,h1,(gq h2).symm⟩
theorem Fh{x:Str}{es:List u_}{g:St->Rs (List AV)}(hn:aL W false fn (.Name x np) (λZ=>aA (.ty "range")))(hg:gx W false fn es g)(hp:a7 es=true):mU W fn (.Call (.Name x np) es [] pos) (λJ=>j7 (g J)):=.mk λS F M cur J r s U R hr=>by
 refine ZY (iX (hn.run S F M cur J _ s U R rfl) rd λa v aB af ha T G hv=>?_);cases ha;subst hv;have aI:=R.move U T G;refine acg (plain_any es S.env pos hp) (bM hp ?_);refine PX.raise T (gM hr (hg.run S aB M cur J · af pos U aI) λxs h2 vs aQ s₂ aD a_ I=>?_);have aM:=aI.move U aD a_;have TT:=T.trans aD;have GG:=G.trans T.size aD.size a_;have fin:∀{a b c:Int}{u Y v:Tok}{te:Nat},Ud a b c=true->r= .ok (c_ a b c)->
   wpAny (model W.prog W.w) S.A (pyIter (.ref s₂.heap.objs.size)) (IP W F s r) (PX W S s r)
    {s₂ with heap:=s₂.heap.push {cls:=.type "range",data:=.fields #[.int a u,.int b Y,.int c v]},toks:=te}:=λ{a b c u Y v te} V hr=>by
  refine wpAny_pyIter_range (IsRange.new ..) V ?_;have hz:aJ s₂<aJ ({s₂ with heap:=(s₂.heap.push {cls:=.type "range",data:=.fields #[.int a u,.int b Y,.int c v]}).push {cls:=.type "range_iterator",data:=.fields #[rawInt a,rawInt (OR a b c),rawInt c]},toks:=te}:ea):=by
   simp only[aJ,rW];exact Tw _
  have j1:(s₂.heap.push {cls:=.type "range",data:=.fields #[.int a u,.int b Y,.int c v]}).objs.size=s₂.heap.objs.size+1:=by rw[rW]
  refine⟨_,B6 a b c,_,aQ,hr,rfl,?_,?_,TT.trans (.of_keeps TT.stays (λZ Z e=>ml _ (ml _ e)) (Kt hz)),GG.trans TT.size (Kt hz) (.refl _ _ _),λh=>?_,?_⟩
  ·rw[j1];exact bU TT.size (Tw _)
  ·exact Nat.lt_of_lt_of_eq (rv _) (rW ..).symm
  ·have h1:=(aM.bound U h).1;rw[j1]at h1;exact f3 _ (ZP (rv _) h1)
  ·refine⟨_,w' _ rfl,rfl,?_⟩;simp
 refine dh (vF h2) λa b c z V e=>ic z I λa' t xs vs z I=>kT z I (λz=>?_) λxs z I=>ic z I λb' u xs vs z I=>kT z I (λz=>?_) λxs z I=>ic z I λc' w xs vs z I=>di z I λz=>?_
 ·revert z;refine bc λe=>?_;clear z;clear z;cases e;exact call_range_1 (fin V e)
 ·revert z;refine bc λe=>?_;cases e;exact call_range_2 (fin V e)
 ·refine aX (iE z) λhc z=>?_;revert z;refine bc λe=>?_;cases e;exact call_range_3 hc.1 (fin V e) (.inl (noPylong hc.2))
theorem B7{F:fF->Prop}{s₂:ea}{t:Nat}{e:fF}{cls:String}{α:Type}(z:S.Ok W fn q)(R:Rel W S fn F M cur J s)(T:Step W s s₂)(x:Heap.NewExc s₂.heap h' e cls)(hz:aJ s<=h'.objs.size)(I:∀b o,s.heap.get? b=none->h'.get? b=some o->aJ s<=b):PX W S s (Except.error (.type cls):Except cz α) (.ref e) {s₂ with heap:=h',toks:=t}:=by
 exact bV x.there λob u U V hd=>rx (α:=α) z R T x.keeps hz x.new U V hd ⟨by simp,λZ Z=>rfl⟩ rfl I
structure oj(W:Wd)(fn:ek)(elts:List u_)(set:List AV->St->Option St):Prop where
 len:∀env,(assignEach elts env).length=elts.length
 star:∀env,(assignEach elts env).findIdx? (·.1)=none
 run:∀S F M cur J ak s xs vs,S.Ok W fn false->Rel W S fn F M cur J s->bL s.heap F xs vs->set xs J=some ak->
 wpAny (model W.prog W.w) S.A (assignInOrder ((assignEach elts S.env).map (·.2)) vs) (TP W S fn F M ak s) (λZ Z=>False) s
theorem fx:oj W fn [] (λxs J=>match xs with|[]=>some J|_=>none):=⟨λZ=>rfl,λZ=>rfl,λS F M cur J ak s xs vs z R I h=>by
 cases xs with
 |nil=>cases h;exact assignInOrder_nil ⟨F,cur,R,.refl,λZ Z h=>h⟩
 |cons _ _=>exact aZ h⟩
theorem bL.B8{F:fF->Prop}(k:∀x v,VR h F x v->VR h' F' x v):∀{xs:List AV}{vs:List cz},bL h F xs vs->bL h' F' xs vs:=by
 intro xs
 induction xs with
 |nil=>
  intro vs r
  simpa only[zQ,yo]using r
 |cons x xs IH=>
  intro vs r;simp only[yo]at r⊢;refine bV r ?_;clear r;rintro v ws rfl z I;exact⟨v,ws,rfl,k x v z,IH I⟩
noncomputable def rC(f:AV->St->Option St)(g:List AV->St->Option St)(xs:List AV)(J:St):Option St:=match xs with
 |x::xs=>(f x J).bind (g xs)
 |[]=>none
theorem Fi{t:u_}{ts:List u_}{f:AV->St->Option St}{g:List AV->St->Option St}(ht:tj W fn t f)(U:oj W fn ts g)(V:∀env,assignEach (t::ts) env=(false,assign t env)::assignEach ts env):oj W fn (t::ts) (rC f g):=⟨λenv=>by rw[V];simp[U.len env],λenv=>by rw[V,List.findIdx?_cons];simp[U.star env],λS F M cur J ak s xs vs Y R Z h=>by
 rw[V];cases xs with
 |nil=>cases h
 |cons x xs=>
  refine bV Z ?_;clear Z;rintro v ws rfl h1 h2;refine ax (z0.mp h) λa6 e1 e2=>assignInOrder_cons (vf (ht.run S F M cur J a6 s x v Y R h1 e1) λaf aB c₁ aI gB z=>?_);refine vf (U.run S aB M c₁ a6 ak af xs ws Y aI (h2.B8 z) e2) λs₂ aQ c₂ aM aD I=>?_;exact⟨aQ,c₂,aM,gB.trans aD,λx v h=>I x v (z x v h)⟩⟩
theorem Rel.kept{F:fF->Prop}{t:Nat}(z:S.Ok W fn q)(R:Rel W S fn F M cur J s)(k:∀b o,s.heap.get? b=some o->h'.get? b=some o)(hz:aJ s<=h'.objs.size):Step W s {s with heap:=h',toks:=t}:=.of_keeps R.stays k hz
theorem J8{a:AV}{k:List AV->Option β}{r:β}(h:(match a with| .tup xs=>k xs|_=>none)=some r)(K:∀xs,a= .tup xs->k xs=some r->G):G:=by
 cases a<;>first|exact K _ rfl h|exact aZ h
theorem jE{elts:List u_}{g:List AV->St->Option St}(U:oj W fn elts g):tj W fn (.Tuple elts k pos) (λa J=>match a with| .tup xs=>if xs.length=elts.length then g xs J else none|_=>none):=.mk λS F M cur J ak s a v I R V h=>by
 refine J8 h λxs ha h2=>?_;clear h;split at h2
 case isFalse=>exact aZ h2
 rename_i z;subst ha;refine bF V ?_;clear V;rintro t vs rfl hF ht Y;rw[arm_assign_Tuple];refine az (IW ?_);unfold unpack;rw[U.star,U.len,show elts.length=vs.toArray.size by simp[Y.length,z]];refine az (n4 (aP (wpAny_unpackItems_tuple (I.hand rfl) ht.tuple λh' hx hz=>?_)));have kp:∀b o,s.heap.get? b=some o->h'.get? b=some o:=λb o e=>hx b o (HA (ye e)) e;have T:Step W s {s with heap:=h'}:=R.kept (t:=s.toks) I kp hz;exact vf (U.run S F M cur J ak {s with heap:=h'} xs vs I (R.move I T (.refl _ _ _)) (Y.mono (λb Z o e=>⟨o.slots,kp b o e⟩) λZ h=>h) h2) λs' F' c' R' T' k'=>⟨F',c',R',(T.fY (.refl _ _ _)).trans T',λx v h=>k' x v (h.mono (λb Z o e=>⟨o.slots,kp b o e⟩) λZ h=>h)⟩
theorem qH{w:aab}{l:fF}{items:List cz}(hh:A.handled=none)(gu:l≠it):∀(n i:Nat)(s:ea)(Q:List cz->ea->Prop),s.heap.IsListIter it l i->s.heap.IsList l items.toArray->(∀h',(i+n<=items.length->h'.IsListIter it l (i+n))->adG it s.heap h'->aJ s<=h'.objs.size->Q ((items.drop i).take n) {s with heap:=h'})->wpAny (model prog w) A (draw (.ref it) n) Q E s
 |0,i,s,Q,z,_,U=>by
  exact en (by simpa using U s.heap (λZ=>by simpa using z) (λZ Z Z e=>e) (t_ _))
 |n+1,i,s,Q,z,V,U=>by
  cases I:items[i]? with
  |none=>
   have hd:items.drop i=[]:=by rw[ZU];exact R3.mp I
   refine az (aP (abH hh z V (by simpa using I) λY hE hz=>en ?_));have:=U Y (λh=>by have:=R3.mp I;lia) hE hz;rw[hd]at this;simpa using this
  |some x=>
   refine au (gw.mp I) λh_ yD=>?_;refine az (wpAny_pyNext_list_item z V (x:=x) (by simpa using I) λY vG cO=>?_);have tI:Y.IsList l items.toArray:=by refine ax V λo ho r=>?_;exact⟨o,(cO.2 l gu).trans ho,r⟩
   refine az (n4 (qH hh gu n (i+1) _ _ vG tI λc7 J9 hE hz=>en ?_));have hd:items.drop i=x::items.drop (i+1):=by exact ag (ZH h_) (ag yD rfl)
   have:=U c7 (λh=>by refine ag (show i+(n+1)=i+1+n by lia) ?_;exact J9 (by lia)) (λb o hb e=>hE b o hb ((cO.2 b hb).trans e)) (bU (Kj cO.1.symm) hz);rw[hd,ab2]at this;exact this
theorem yM:∀n:Fin 12,∀m:Fin 12,((s!"not enough values to unpack (expected {n.val}, got {m.val})":String):Str).length<=100:=by decide+kernel
def tJ(n:Nat):AV->Rs (List AV)
 | .tup xs=>if xs.length=n then aA xs else none
 | .lst xs=>if xs.length=n then aA xs else if xs.length<n/\n<12 then some (.error (.type "ValueError"))else none
 |_=>none
theorem mD{F:fF->Prop}{s:ea}{l:fF}{r:Except cz (List AV)}{Q:List cz->ea->Prop}(V:S.Ok W fn false)(R:Rel W S fn F M cur J s)(U:LstAt s.heap l vs)(hr:bL s.heap F xs vs)(z:tJ n (.lst xs)=some r)(hQ:r= .ok xs->∀h',(∀b o,s.heap.get? b=some o->h'.get? b=some o)->aJ s<=h'.objs.size->Q vs {s with heap:=h'}):wpAny (model W.prog W.w) S.A (unpackItems (.ref l) n none) Q (PX W S s r) s:=by
 refine gW (aP ?_);have h_:l≠s.heap.objs.size:=HA U.lt;have hlen:=hr.length;have Y:=V.hand rfl;refine az (az (abg U.list.typeIs slot_list_iter.lookup ?_));refine en ?_;simp only[F3,if_false];refine az (n4 (acs U.list ?_));have NS:(s.heap.push {cls:=.type "list_iterator",data:=.fields #[.ref l,.int 0 0]}).IsList l vs.toArray:=by
  refine ax U.list λo ho r=>⟨o,ml _ ho,r⟩
 refine az (n4 (qH Y h_ n 0 _ _ ⟨_,w' _ rfl,rfl,rfl⟩ NS λI vG hE hz=>?_));have kp:∀b o,s.heap.get? b=some o->I.get? b=some o:=λb o e=>hE b o (HA (ye e)) (ml _ e);have kK:aJ s<=I.objs.size:=bU (by rw[aJ,aJ,rW];exact Tw _) hz;refine ag aaX ?_;unfold tJ at z;by_cases hn:xs.length=n
 ·simp only[hn,if_true]at z;refine dK ?_ z;clear z;intro z;cases z;have Xy:vs.take n=vs:=Zk (by lia);refine ag Xy (cM (by lia) ?_);have tI:I.IsList l vs.toArray:=by
   exact ax U.list λo ho r=>⟨o,kp l o ho,r⟩
  refine az (n4 (aP (s:={s with heap:=I}) (abH Y (vG (by lia)) tI (by simp;lia) λc7 NT nV=>?_)));simp only[adv,F3,if_false];refine en λZ Z=>hQ rfl c7 (λb o e=>NT b o (HA (ye e)) (kp b o e)) (bU kK nV)
 ·simp only[hn,if_false]at z;split at z
  ·rename_i J_;revert z;refine bc λe=>?_;clear hQ;subst e;have VO:(vs.take n).length=vs.length:=by refine ag List.length_take ?_;lia
   refine cC (by refine ag VO ?_;lia) ?_;refine az (ZR (az (wpAny_raiseErrorMade ab3 Y (λh' tk e hx j1 gF=>?_) ?_)))
   ·have T:Step W s {s with heap:=I}:=R.kept (t:=s.toks) V kp kK;exact B7 (s₂:={s with heap:=I}) V R T hx j1 gF
   ·refine ag VO ?_;have:=yM ⟨n,J_.2⟩ ⟨vs.length,by lia⟩;exact ag aau (bU this (by decide))
  ·exact aZ z
def tK(n:Nat)(x:Rs AV)(g:List AV->St->Option St)(J:St):Option Ou:=aU (bindR x (tJ n)) J λxs=>(g xs J).map .next
theorem tL{F:fF->Prop}{elts:List u_}{dY:Pos}{g:List AV->St->Option St}{a:AV}{v:cz}{r:Ou}{Q:Unit->ea->Prop}(pI:oj W fn elts g)(V:S.Ok W fn false)(R:Rel W S fn F M cur J s)(hv:VR s.heap F a v)(U:aU (tJ elts.length a) J (λxs=>(g xs J).map .next)=some r)(hQ:∀F' c' ak s',Rel W S fn F' M c' ak s'->fI W F M F' M s s'->r= .next ak->Q () s')(hE:∀c x s',r= .ex c J->PX W S s (.error c:Except cz (List AV)) x s'->E x s'):wpAny (model W.prog W.w) S.A (assign (.Tuple elts k dY) S.env v) Q E s:=by
 cases a with
 |tup ys=>
  by_cases I:ys.length=elts.length
  ·rw[show tJ elts.length (.tup ys)=aA ys from if_pos I]at U;obtain⟨ak,hg,e⟩:=r0.mp U;exact vf ((jE pI).run S F M cur J ak s (.tup _) v V R hv (by simp only[I,if_true];exact hg)) λs₂ aQ Y aM aD Z=>hQ _ _ _ _ aM aD e.symm
  ·rw[show tJ elts.length (.tup ys)=none from if_neg I]at U;exact aZ U
 |lst ys=>
  refine bF hv ?_;clear hv;rintro l vs rfl hF hl mE;rw[arm_assign_Tuple];refine az (IW ?_);unfold unpack;rw[pI.star,pI.len];cases z:tJ elts.length (.lst ys)with
  |none=>exact aZ (z▸U)
  |some ru=>
   rw[z]at U;cases ru with
   |error c=>exact az (n4 (fm (mD (Q:=λZ Z=>False) V R hl mE z λh=>sW h) (λZ Z h=>h.elim) λy s' hy=>hE c _ _ (gq U).symm hy))
   |ok xs=>
    have e:ys=xs:=by
     replace z:(if ys.length=elts.length then aA ys else if ys.length<elts.length/\elts.length<12 then some (.error (.type "ValueError"))else none)=some (.ok xs):=z;by_cases h:ys.length=elts.length
     ·rw[if_pos h]at z;exact Except.ok.inj (gq z)
     ·rw[if_neg h]at z;by_cases h2:ys.length<elts.length/\elts.length<12
      ·rw[if_pos h2]at z;exact sW (gq z)
      ·rw[if_neg h2]at z;exact aZ z
    subst e;obtain⟨ak,hg,e⟩:=r0.mp U;refine az (n4 (fm (mD V R hl mE z λZ h' kp hz=>?_) (λZ Z h=>h) λy s' hy=>hy.no));have T':Step W s {s with heap:=h'}:=R.kept (t:=s.toks) V kp hz;exact vf (pI.run S F M cur J ak {s with heap:=h'} ys vs V (R.move V T' (.refl _ _ _)) (mE.mono (λb Z o e=>⟨o.slots,kp b o e⟩) λZ h=>h) hg) λs₂ aQ Y aM aD Z=>hQ _ _ _ _ aM ((T'.fY (.refl _ _ _)).trans aD) e.symm
 |_=>exact aZ U
theorem yN{elts:List u_}{U:Pos}{f:St->Rs AV}{g:List AV->St->Option St}(V:aL W false fn value f)(Y:oj W fn elts g)(hs:∀env,swapsWithSole [.Tuple elts k U] value pos.line env=pure false)(hw:∀env,swappedStores [.Tuple elts k U] value env=pure none):aR W false fn (.Assign [.Tuple elts k U] value pos) (λJ=>tK elts.length (f J) g J):=.mk λS F M cur J r s z R I=>by
 refine Assign_Tuple ?_ (hs _) (hw _);unfold tK at I;rw[mv]at I;exact Nd z R I (V.run S F M cur J · s z R) λa I v aB af T G hv=>tL Y z (R.move z T G) hv I (λaQ c₂ ak s₂ aM aD e=>⟨aQ,M,c₂,ak,aM,(T.fY G).trans aD,e⟩) λc x s' e h=>(h.lift T).st z R λZ h=>e.trans (sJ _ h)
noncomputable def dZ(fs scope:abw):abw:=
 {scope with names:=scope.names.map λ(n,k)=>if(k== .free&&fs.kind== .function&&fs.names.lookup n==some .cell)then(n,.cell)else(n,k)}
theorem vH{fs:abw}(h:env.scope=fs):relabel scope env=dZ fs scope:=by
 subst h;rfl
theorem vI:∀(names:List (Str×aby))(acc:List (Str×fF))(f:Str×aby->List (Str×fF)->Sem (ForInStep (List (Str×fF)))),
  (∀n k cs,f (n,k) cs=if(k== .free)=true then(do let c<-cellOf env n;pure (.yield ((n,c)::cs)))else pure (.yield cs))->
  (∀n,(n,aaQ)∈names->(env.cells.lookup n).isSome=true)->(∀n c,acc.lookup n=some c->env.cells.lookup n=some c)->
  ∃z,forIn names acc f=pure z/\(∀n c,z.lookup n=some c->env.cells.lookup n=some c)/\∀n,((n,aaQ)∈names\/(acc.lookup n).isSome=true)->(z.lookup n).isSome=true:=by
 intro names
 induction names with
 |nil=>
  intro acc f _ _ I;exact⟨acc,rfl,I,λn h=>h.elim (λh=>by exfalso;cases h) id⟩
 |cons p0 r IH=>
  intro acc f V U I;obtain⟨y,k⟩:=p0;rw[abi,V];by_cases Y:k= .free
  ·subst Y;refine au (WE.mp (U y (T4 ..))) λc VP=>?_;have e:cellOf env y=pure c:=by unfold cellOf;rw[VP]
   simp only[beq_self_eq_true,if_true,e,pure_bind];obtain⟨z,h1,h2,h3⟩:=IH ((y,c)::acc) f V (λn Z=>U n (AM _ Z)) (λn c' h=>by
    rw[zd]at h;cases hb:n==y with
    |true=>rw[hb]at h;revert h;refine bc λe=>?_;subst e;rw[beq_iff_eq.mp hb];exact VP
    |false=>rw[hb]at h;exact I n c' h)
   refine⟨z,h1,h2,λn h=>h3 n ?_⟩;refine g' h (λh=>?_) λh=>?_
   ·refine g' (QX.mp h) (λh=>?_) λh=>?_
    ·cases h;right;simp
    ·exact .inl h
   ·right;rw[zd];split<;>simp_all
  ·have hb:(k==aaQ)=false:=by simpa using Y
   simp only[hb,F3,if_false,pure_bind];refine iQ (IH acc f V (λn Z=>U n (AM _ Z)) I) λz h1 h2 h3=>⟨z,h1,h2,λn h=>h3 n ?_⟩;refine g' h (λh=>?_) λh=>?_
   ·refine g' (QX.mp h) (λh=>?_) λh=>?_
    ·clear U hb;cases h;exact absurd rfl Y
    ·exact .inl h
   ·exact .inr h
theorem vJ{env:Env}(U:∀n,(n,aaQ)∈scope.names->(env.cells.lookup n).isSome=true):∃I,closureFor scope env=pure I/\(∀n c,I.lookup n=some c->env.cells.lookup n=some c)/\∀n,(n,aaQ)∈scope.names->(I.lookup n).isSome=true:=by
 obtain⟨I,h1,h2,h3⟩:=vI (env:=env) scope.names [] (λ(x:Str×aby)(z:List (Str×fF))=>(if(x.2== .free)=true then(do let c<-cellOf env x.1;pure (.yield ((x.1,c)::z)))else pure (.yield z):Sem (ForInStep (List (Str×fF))))) (λn k z=>rfl) U (λn c h=>by exfalso;cases h);refine⟨I,?_,h2,λn h=>h3 n (.inl h)⟩;have e:closureFor scope env=(forIn scope.names ([]:List (Str×fF)) λ(x:Str×aby)(z:List (Str×fF))=>(if(x.2== .free)=true then(do let c<-cellOf env x.1;pure (.yield ((x.1,c)::z)))else pure (.yield z):Sem (ForInStep (List (Str×fF)))))>>=pure:=rfl;refine ag e (ag h1 ?_);rfl
structure mF(W:Wd)(fn:ek)(ifs:List u_)(p:St->Rs Bool):Prop where
 run:∀S F M cur J r s,S.Ok W fn false->Rel W S fn F M cur J s->p J=some r->
 wpAny (model W.prog W.w) S.A (forIn ifs true λc r=>if r=true then do let ok<-isTrue c S.env (eval c S.env);pure (ForInStep.yield ok)else pure (ForInStep.yield r)) (PT W s r) (PX W S s r) s
theorem vK:mF W fn [] (λZ=>aA true):=.mk λS F M cur J r s I R z=>by cases z;exact wpAny_tests_nil ⟨rfl,.refl R.stays⟩
theorem lY{c:u_}{p:St->Rs Bool}(h:gL W false fn c p):mF W fn [c] p:=.mk λS F M cur J r s z R I=>wpAny_tests_one (h.run S F M cur J r s z R I)
def cQ(set:AV->St->Option St)(p:St->Rs Bool)(g:St->Rs AV):List AV->St->Rs (List AV)
 |[],_=>aA []
 |x::xs,J=>match set x J with
  |none=>none
  |some z=>bindR (p z) λb=>if b then bindR (g z) λy=>bindR (cQ set p g xs z) λys=>aA (y::ys)else cQ set p g xs z
theorem Fj:cQ set p g [] J=aA []:=rfl
theorem xv:cQ set p g (x::xs) J=match set x J with
  |none=>none
  |some z=>bindR (p z) λb=>if b then bindR (g z) λy=>bindR (cQ set p g xs z) λys=>aA (y::ys)else cQ set p g xs z:=rfl
noncomputable def Fl(J:St)(j:Nat):LV:=match J.getD j .un with| .im a=>.im a|_=>.un
def lZ(n:Nat)(ig:List Nat)(J:St):St:=aaV n .un++ig.map (Fl J)
inductive CI(S:cj)(fnC:ek)(D it:fF){xs:List AV}(sr:Src W xs)(set:AV->St->Option St)(p:St->Rs Bool)(g:St->Rs AV)(r:Except cz (List AV))(n:Nat)(s:ea):Prop
 |mk (F':fF->Prop) (aC:Str->Option cz) (ak:St) (i:Nat) (out:List AV) (vs:List cz) (h1:Rel W S fnC F' (λa=>a=S.C) aC ak s) (h2:LstAt s.heap D vs) (h3:bL s.heap F' out vs) (h4:¬F' D) (h5:sr.P F' it i s.heap) (h6:¬F' it) (h7:it<aJ s) (h8:D<aJ s) (h9:n=xs.length-i) (iJ:out.length<=i) (Q1:i<=xs.length)
   (Xz:bindR (cQ set p g (xs.drop i) ak) (λys=>aA (out++ys))=some r):CI S fnC D it sr set p g r n s
theorem CI.el{fnC:ek}{D:fF}{sr:Src W xs}{p:St->Rs Bool}{g:St->Rs AV}{r:Except cz (List AV)}(z:CI S fnC D it sr set p g r n s)(I:∀(F':fF->Prop)(aC:Str->Option cz)(ak:St)(i:Nat)(out:List AV)(vs:List cz)(h1:Rel W S fnC F' (λa=>a=S.C) aC ak s)(h2:LstAt s.heap D vs)(h3:bL s.heap F' out vs)(h4:¬F' D)(h5:sr.P F' it i s.heap)(h6:¬F' it)(h7:it<aJ s)(h8:D<aJ s)(h9:n=xs.length-i)(iJ:out.length<=i)(Q1:i<=xs.length)(Xz:bindR (cQ set p g (xs.drop i) ak) (λys=>aA (out++ys))=some r),G):G:=CI.rec (motive:=λZ=>G) I z
theorem yO{elt iter:u_}{ifs:List u_}{D:fF}{fnC:ek}{R:aaR->ea->Prop}(sr:Src W xs){p:St->Rs Bool}{g:St->Rs AV}{r:Except cz (List AV)}(I:S.Ok W fnC false)(ht:tj W fnC target set)(zT:mF W fnC ifs p)(hg:aL W false fnC elt g)(hlen:xs.length<=sizeLine){s₀:ea}(Td:S.s₀=s₀)(hX:∀a,¬S.X a)(hit:aJ s₀<=it)(hD:aJ s₀<=D)(B9:D≠S.C)(NU:it≠S.C)(NV:it≠D)(uL:∀F' aC ak s' ys vs,Rel W S fnC F' (λa=>a=S.C) aC ak s'->r= .ok ys->LstAt s'.heap D vs->bL s'.heap F' ys vs->¬F' D->R (.ok .next) s')(hex:∀cls e F' aC ak s',Rel W S fnC F' (λa=>a=S.C) aC ak s'->r= .error cls->j0 W (S.fe::S.outer) S.L (aJ s₀) e cls s'.heap->R (.error (.ref e)) s'):∀(n:Nat)(s:ea),CI S fnC D it sr set p g r n s->codeAny (model W.prog W.w) S.A (.compLoop (.ListComp elt [⟨target,iter,ifs,0⟩] scope pos) 0 (.ref it) (.ref D) S.env) R s:=by
 intro n s hI;refine codeAny_loop rfl (CI S fnC D it sr set p g r) (λn s hI=>?_) n hI;show wpAny _ S.A ((compTurn (.ListComp elt [⟨target,iter,ifs,0⟩] scope pos) 0 (.ref it) (.ref D) S.env).onRaise (λx=>do noteFrame x S.env;theTreesLotGoes x)) _ _ s;refine wpAny_noted ?_;rw[compTurn_list];obtain⟨aB,c₁,a6,i,out,vs,aI,jA,VQ,H_,hP,jS,h_,Te,rfl,S0,Zl,z⟩:=hI;have e8:S.s₀.heap.objs.size<=it:=by rw[Td];exact hit
 have xw:S.s₀.heap.objs.size<=D:=by rw[Td];exact hD
 refine cps λQ E hQ hE=>?_;have XA:=λs' (h:R (.ok .next) s')=>hQ (.done .next) s' h;have Q2:=λn' s' (h:n'<xs.length-i) hI=>hQ (.again _) s' ⟨rfl,n',h,hI⟩;clear hQ;have exc:∀{α:Type}{aQ:fF->Prop}{c₂ U s₂ cls x s'},Rel W S fnC aQ (λa=>a=S.C) c₂ U s₂->r= .error cls->PX W S s₂ (.error cls:Except cz α) x s'->E x s':=by
  intro α aQ c₂ U s₂ cls x s' aM hr hx;refine hE _ _ ?_;obtain⟨XB,e,h1,rfl,T,ha⟩:=hx;cases h1;have cG:=aM.move I T (.refl _ _ aQ);have hn:S.s₀.heap.objs.size<=aJ s₂:=aM.step.size;have eY:∀b,aJ s₂<=b->W.base.get? b=none:=λb hb=>I.bh (bU hn hb);refine aP (iT I.frames I.c6 I.frame cG.stays eY ha λaF k₁ hh Ah kK=>?_);have J_:∀a,aQ a\/a=S.C->a<aJ s₂:=λa h=>h.elim (λh=>(aM.bound I h).1) λh=>(aM.mu a h).2.1;refine hex cls e aQ c₂ U _ (cG.below I J_ hn k₁ Ah kK) hr ?_;obtain⟨f1,f2,oe,ws,g1,g2,g3,g4,T',oT,ts,k1,k2,k3⟩:=hh;have:aJ s₀<=aJ s₂:=by rw[<-Td];exact hn
  exact⟨f1,bU this f2,oe,ws,g1,g2,g3,g4,T',oT,ts,k1,bU this k2,k3⟩
 clear hit hI;cases hx:xs[i]? with
 |none=>
  have hd:xs.drop i=[]:=by rw[ZU];exact R3.mp hx
  rw[hd]at z;simp only[Fj,aA,e9,X5,e4]at z;refine az (IW (az (aP (sr.fin (I.hand rfl) hP hx λh' t hE hz=>?_))));have B:∀b o,b≠it->s.heap.get? b=some o->∃sl,h'.get? b=some {o with slots:=sl}:=λb o hb e=>⟨o.slots,hE b o hb e⟩;have aM:=aI.iter (t:=t) I jS NU e8 (sr.small hP) (λb o hb=>hE b o (λe=>by rw[e,I.bh e8]at hb;exact aZ hb) (aI.stays b o hb)) hE hz;refine en (XA _ (uL aB c₁ a6 _ out vs aM z.symm ?_ (VQ.mono (λb hb o e=>B b o (λq=>jS (q▸hb)) e) λZ h=>h) H_));obtain⟨k,sl,Ej⟩:=jA;exact⟨k,sl,hE D _ (aaS NV) Ej⟩
 |some x=>
  have hd:xs.drop i=x::xs.drop (i+1):=by
   refine au (gw.mp hx) λJE yD=>?_;rw[ZH JE,yD]
  have th:=(gw.mp hx).1;rw[hd]at z;refine az (IW (az (sr.item hP jS hx λv h' t bO kN hv=>?_)));have B:∀b o,b≠it->s.heap.get? b=some o->∃sl,h'.get? b=some {o with slots:=sl}:=λb o hb e=>⟨o.slots,(bO.2 b hb).trans e⟩;have hz:aJ s<=h'.objs.size:=by rw[bO.1];exact t_ _
  have aM:=aI.iter (t:=t) I jS NU e8 (sr.small hP) (λb o hb=>(bO.2 b λe=>by rw[e,I.bh e8]at hb;exact aZ hb).trans (aI.stays b o hb)) (λb o hb e=>(bO.2 b hb).trans e) hz;refine az (sr.ti kN ?_);rw[xv]at z;clear hP;rcases jL:set x a6 with _|U
  ·rw[jL]at z;cases z
  rw[jL]at z;simp only at z;have Zm:∀a,¬S.X a:=hX;have J':LstAt h' D vs:=by obtain⟨k,sl,Ej⟩:=jA;exact⟨k,sl,(bO.2 D (aaS NV)).trans Ej⟩
  refine az (vf (ht.run S aB (λa=>a=S.C) c₁ a6 U _ x v I aM hv jL) λaK Y lS cG bp JX=>?_);have kY:∀a,S.s₀.heap.objs.size<=a->¬W.loose a:=λa ha hl=>f3 _ (bk (I.lb a hl) ha);have Ka:LstAt aK.heap D vs:=by
   obtain⟨k,sl,Ej⟩:=J';exact au (bp.keep D _ (λh=>h.elim (kY D xw) B9) Ej) λdH h=>⟨k,dH,h⟩
  have Kb:bL aK.heap Y out vs:=(VQ.mono (h':=h') (F':=aB) (λb hb o e=>B b o (λq=>jS (q▸hb)) e) λZ h=>h).B8 JX;have Ia:sr.P Y it (i+1) aK.heap:=sr.keep kN bp.more λb o hb e=>bp.keep b o (λh=>by
   refine g' hb ?_ λhb=>?_;clear hb;clear NV jS h_ Q2 bO kN B;rintro rfl
   ·exact h.elim (kY _ e8) NU
   ·exact h.elim (aM.bound I hb).2 λh=>(aM.mu b h).2.2 hb) e
  have fg:∀{a},Y a->aB a\/a=S.C\/aJ ({s with heap:=h',toks:=t}:ea)<=a:=λ{a} h=>bp.fE a h;have tl:it<aJ ({s with heap:=h',toks:=t}:ea):=bk h_ hz;have Ib:D<aJ ({s with heap:=h',toks:=t}:ea):=bk Te hz;have rD:¬Y it:=λh=>(fg h).elim jS λh=>h.elim NU λh=>f3 _ (bk tl h);have Kc:¬Y D:=λh=>(fg h).elim H_ λh=>h.elim B9 λh=>f3 _ (bk Ib h);have vL:it<aJ aK:=bk tl bp.size;have Ic:D<aJ aK:=bk Ib bp.size;have et:∃rp,p U=some rp:=by
   rcases hp:p U with _|rp
   ·rw[hp]at z;cases z
   ·exact⟨rp,rfl⟩
  refine au et λrp hp=>?_;rw[hp]at z;clear NU tl;clear jS h_ bO kN B;cases rp with
  |error c=>
   simp only[gS,e4]at z;exact az (fm (zT.run S Y _ lS U _ aK I cG hp) (λ_ _ ⟨h,_⟩=>by cases h) λZ Z hx=>exc cG z.symm hx)
  |ok b=>
   simp only[e9]at z;refine az (fm (zT.run S Y _ lS U _ aK I cG hp) (λb' dx ⟨hb,eI⟩=>?_) λZ Z h=>h.no);clear hp;cases hb;have iP:=cG.move I eI (.refl _ _ Y);have up:∀{V:ea}{gC:fF->Prop},Step W aK V->bP aK V Y gC->Rel W S fnC gC (λa=>a=S.C) lS U V->LstAt V.heap D vs/\bL V.heap gC out vs/\sr.P gC it (i+1) V.heap/\¬gC it/\¬gC D/\it<aJ V/\D<aJ V:=by
    intro V gC cA pV dM;refine⟨Ka.step cA (kY D xw),cG.Ma I cA pV Kb,sr.keep Ia pV.1 (λb o hb e=>cA.slots b o (λh=>by
     refine g' hb ?_ λhb=>?_;clear hb;clear Ia rD vL;clear NV Q2;rintro rfl
     ·exact kY _ e8 h
     ·exact(cG.bound I hb).2 h) e),λh=>(pV.2 _ h).elim rD λh=>f3 _ (bk vL h.1),λh=>(pV.2 _ h).elim Kc λh=>f3 _ (bk Ic h.1),bk vL cA.size,bk Ic cA.size⟩
   cases b with
   |false=>
    simp only[F3,if_false]at z;exact sQ (up eI (.refl _ _ _) iP) λu1 u2 u3 u4 u5 u6 u7=>en (Q2 (xs.length-(i+1)) _ (by exact aaG ‹_› (rv _)) ⟨Y,lS,U,i+1,out,vs,iP,u1,u2,u5,u3,u4,u6,u7,rfl,Qt S0,th,z⟩)
   |true=>
    simp only[if_true]at z;have et:∃rg,g U=some rg:=by
     rcases ia:g U with _|rg
     ·rw[ia]at z;cases z
     ·exact⟨rg,rfl⟩
    refine au et λrg ia=>?_;rw[ia]at z;cases rg with
    |error c=>
     simp only[gS,e4]at z;exact az (az (fm (hg.run S Y _ lS U _ dx I iP ia) (λZ Z h=>h.no) λZ Z hx=>exc iP z.symm hx))
    |ok y=>
     simp only[e9]at z;refine az (az (w8 (hg.run S Y _ lS U _ dx I iP ia) λu gC V cA pV hu=>?_));have dM:=iP.move I cA pV;refine sQ (up (eI.trans cA) ((bP.refl aK dx Y).trans eI.size cA.size pV) dM) λu1 u2 u3 u4 u5 u6 u7=>?_;obtain⟨kD,VS,Ej⟩:=id u1;refine az (list_append_plainL (its:=vs.toArray) ⟨_,kD,Ej,rfl,rfl,rfl⟩ (λlW NW rE=>?_) (by
      have:=u2.length;simp only[KG];lia))
     have NX:LstAt lW D (vs++[u]):=by
      refine bF NW λy4 n' et qE dg NM=>?_;rcases y4 with⟨c,dd,dt,dH⟩
      simp only at qE dg NM;subst qE dg NM;exact⟨n',dH,by rw[et];simp⟩
     have NY:∀b o,b≠D->V.heap.get? b=some o->∃sl,lW.get? b=some {o with slots:=sl}:=λb o hb e=>⟨o.slots,(rE.2 b hb).trans e⟩;have iI:aJ V<=lW.objs.size:=by rw[rE.1];exact t_ _
     have rz:Rel W S fnC gC (λa=>a=S.C) lS U {V with heap:=lW,toks:=V.toks}:=dM.iter I u5 B9 xw (λo z hB=>by
      rw[Ej]at z;revert z;refine bc λe=>?_;cases e;refine ax hB λws hw Z=>?_;cases hw) (λb o hb=>(rE.2 b λe=>by rw[e,I.bh xw]at hb;exact aZ hb).trans (dM.stays b o hb)) (λb o hb e=>(rE.2 b hb).trans e) iI
     have kq:Ab gC V.heap lW:=λb hb o e=>NY b o (λq=>u5 (q▸hb)) e;refine en (en (Q2 (xs.length-(i+1)) _ (by exact aaG ‹_› (rv _)) ⟨gC,lS,U,i+1,out++[y],vs++[u],rz,NX,(u2.snoc hu).mono kq λZ h=>h,u5,sr.keep u3 (λZ h=>h) (λb o hb e=>NY b o (λq=>by
      clear e;cases q;refine g' hb (λhb=>?_) λhb=>?_
      ·exact NV hb.symm
      ·exact u5 hb) e),u4,bk u6 iI,bk u7 iI,rfl,by simp;assumption,th,?_⟩))
     rcases hrest:cQ set p g (xs.drop (i+1)) U with _|(c|ys)
     ·rw[hrest]at z;cases z
     ·rw[hrest]at z;exact z
     ·rw[hrest]at z;simp only[e9,aA]at z⊢;rw[SF];exact z
def CompEnd(M:SW)(A:XQ)(E:cz->ea->Prop)(use:Option (cz->Sem Unit))(Q:cz->ea->Prop)(acc:cz)(z:Env)(r:aaR)(s':ea):Prop:=
 match r,use with
 | .ok _,none=>∃m,s'.heap.Ns z.locals m/\∀h',NC z.locals s'.heap h'->Q acc {s' with heap:=h'}
 | .ok _,some u=>wpAny M A (u acc) (λZ cR=>∃m,cR.heap.Ns z.locals m/\∀h',NC z.locals cR.heap h'->Q .none {cR with heap:=h'}) E s'
 | .error x,_=>∃m,s'.heap.Ns z.locals m/\∀h',NC z.locals s'.heap h'->wpAny M A (acP "comprehension.variables-let-go" x z:Sem cz) (λZ Z=>False) E {s' with heap:=h'}
theorem yP{M:SW}{e:u_}{B_ first:Sem cz}{g:Comprehension}{gs:List Comprehension}{cl:List (Str×fF)}{use:Option (cz->Sem Unit)}{Q:cz->ea->Prop}(yQ:clausesOf e=g::gs)(hs:∀x,foldedSetIterable g.iter env x=pure x)(NZ:closureFor scope env=pure cl)(nW:scope.kind= .function)(b9:∀x∈scope.names,x.2= .local->scope.names.lookup x.1=some .local)(h:wpAny M A first (λx af=>wpAny M A (pyIter x) (λit s₂=>wpAny M A B_ (λacc aK=>wpAny M A (newFunctionEnv scope env.globals cl [] env.qual none .none (some env)) (λcenv dx=>codeAny M A (.compStart e 0 it acc {cenv with scope:=relabel scope env}) (CompEnd M A E use Q acc {cenv with scope:=relabel scope env}) dx) E aK) E s₂) E af) E s):wpAny M A (comprehension e scope env pos B_ false first use) Q E s:=by
 unfold comprehension;refine ag NZ (ag yQ ?_);refine az (fm h (λx af aF=>az (IW (az (Uu (hs x) (az (n4 (fm aF (λit s₂ c7=>
  wpAny_standIf (az (fm c7 (λacc aK nQ=>az (en (az (fm nQ (λcenv dx N0=>?_) λZ Z h'=>h')))) λZ Z h'=>h')))
   λZ Z h'=>h'))))))) λZ Z h'=>h')
 dsimp only;have Y:∀x∈(scope.names.filter λx=>(x.2== .local||x.2== .cell)&&x.1 !=(".0":Str)).reverse,x.2= .local->
   Env.kindOf {cenv with scope:=relabel scope env} x.1=some .local:=λx hx hl=>lookup_relabel_local (b9 x (ac2.mp (List.mem_reverse.mp hx)).1 hl)
 have Ek:∀x∈(scope.names.filter λx=>(x.2== .local||x.2== .cell)&&x.1 !=(".0":Str)).reverse.drop 1++(scope.names.filter λx=>(x.2== .local||x.2== .cell)&&x.1 !=(".0":Str)).reverse.take 1,
   x.2= .local->Env.kindOf {cenv with scope:=relabel scope env} x.1=some .local:=λx hx hl=>by
  refine g' (aar.mp hx) (λh1=>?_) λh1=>?_
  ·exact Y x (abT h1) hl
  ·exact Y x (adb h1) hl
 refine n4 (az (abe (n4 (wpAny_run (aaM N0 λr s' z=>?_)))));clear h aF c7 nQ N0;cases r with
 |ok f=>
  cases use with
  |none=>
   refine ax z ?_;intro m I z;exact az (n4 (acH (cenv:={cenv with scope:=relabel scope env}) nW _ s' m Y I λh' m' Z U=>en (z h' U)))
  |some u=>
   refine az (ZR (az (n4 (fm z (λZ cR V=>?_) λZ Z h'=>h'))));refine ax V ?_;intro m I V;exact az (acH (cenv:={cenv with scope:=relabel scope env}) nW _ cR m Ek I λh' m' Z U=>en (V h' U))
 |error x=>
  have V:∃m,s'.heap.Ns cenv.locals m/\∀h',NC cenv.locals s'.heap h'->wpAny M A (acP "comprehension.variables-let-go" x {cenv with scope:=relabel scope env}:Sem cz) (λZ Z=>False) E {s' with heap:=h'}:=by cases use<;>exact z
  exact ax V λm I z=>az (n4 (acH (cenv:={cenv with scope:=relabel scope env}) nW _ s' m Y I λh' m' Z U=>fm (z h' U) (λZ Z f=>f.elim) λZ Z y=>y))
theorem Step.but{C:fF}(T:Step W s s')(z:NC C s'.heap h')(I:aJ s<=C)(U:∀o,s'.heap.get? C=some o->¬iS o)(hb:W.base.get? C=none)(V:¬W.loose C):Step W s {s' with heap:=h'}:=
 ⟨λb o e=>(z.2 b λq=>by rw[q,hb]at e;exact aZ e).trans (T.stays b o e),λb o Y e=>by
  exact au (T.slots b o Y e) λsl h1=>⟨sl,(z.2 b λq=>f3 _ (bk (ye e) (q▸I))).trans h1⟩,
  λl=>(T.tab l).qj λb o h e=>(z.2 b λq=>by clear z I hb;subst q;exact h.elim V (U o e)).trans e,bU T.size (Kj z.1.symm),T.os,T.gens⟩
theorem rF{fs:abw}(U:∀y∈scope.names,y.2≠.cell){x:Str}(h:(dZ fs scope).names.lookup x=some .cell):(x,aaQ)∈scope.names/\fs.names.lookup x=some .cell:=by
 have hm:=aaA h;refine ax (ab6.mp hm) λV I e=>?_;rcases V with⟨n,k⟩
 dsimp only at e;split at e
 ·rename_i z;refine dK ?_ e;clear e;intro e;cases e;simp only[v3,beq_iff_eq]at z;refine Ez z λh1 Z h3=>?_;clear z;subst h1;exact⟨I,h3⟩
 ·refine dK ?_ e;clear e;intro e;cases e;exact absurd rfl (U _ I)
def B'(fn:ek)(scope:abw)(names:List Str)(k:Nat)(ig:List Nat):Bool:=
 decide (names.length=k+ig.length)&&(ZK ig.length).all λj=>match names[k+j]?,ig[j]? with
  |some x,some c=>decide (fn.names[c]? =some x)&&decide ((dZ fn.scope scope).names.lookup x=some .cell)
  |_,_=>false
structure jF(fn:ek)(scope:abw)(names:List Str)(k:Nat)(ig:List Nat):Prop where
 kind:scope.kind= .function
 cell:∀y∈scope.names,y.2≠.cell
 locs:∀y∈scope.names,y.2= .local->scope.names.lookup y.1=some .local
 free:∀y∈scope.names,y.2= .free->fn.scope.names.lookup y.1=some .cell
 nodup:names.Nodup
 ig:B' fn scope names k ig=true
abbrev fnIn(fn:ek)(scope:abw)(names:List Str):ek:=⟨dZ fn.scope scope,names,fn.rank,true,fn.cd,fn.qual⟩
theorem qI{elt iter:u_}{ifs:List u_}{scope:abw}{ig:List Nat}{f:St->Rs (List AV)}{set:AV->St->Option St}{p:St->Rs Bool}{g:St->Rs AV}{use:Option (cz->Sem Unit)}(hi:mU W fn iter f)(fh:∀env x,foldedSetIterable iter env x=pure x)(cs:jF fn scope names k ig)(ht:tj W (fnIn fn scope names) target set)(zT:mF W (fnIn fn scope names) ifs p)(hg:aL W false (fnIn fn scope names) elt g){S:cj}{F:fF->Prop}{r:Except cz β}{w:List AV->Rs β}{Q:cz->ea->Prop}(I:S.Ok W fn false)(R:Rel W S fn F M cur J s)(V:bindR (bindR (f J) λxs=>if cq xs.length then cQ set p g xs (lZ k ig J)else none) w=some r)(hE:∀c x s',(∃y,r= .error y/\y=c)->PX W S s (.error c:Except cz β) x s'->E x s')(uL:∀C D F' ys vs s',w ys=some r->Step W s s'->bP s s' F F'->aJ s<=D->¬F' D->LstAt s'.heap D vs->bL s'.heap F' ys vs->D≠C->aJ s<=C->¬F' C->(∃m,s'.heap.Ns C m)->∀U:Env,U.locals=C->CompEnd (model W.prog W.w) S.A E use Q (.ref D) U (.ok .next) s'):wpAny (model W.prog W.w) S.A (comprehension (.ListComp elt [⟨target,iter,ifs,0⟩] scope pos) scope S.env (firstIterPos [⟨target,iter,ifs,0⟩] pos) (newList []) false (eval iter S.env) use) Q E s:=by
 have Kd:=cs.ig;simp only[B',v3,decide_eq_true_eq]at Kd;refine aX Kd λIe N1=>?_;clear Kd;have N2:∀j x,names[k+j]? =some x->∃c,ig[j]? =some c/\fn.names[c]? =some x/\(dZ fn.scope scope).names.lookup x=some .cell:=λj x hx=>by
  have hj:j<ig.length:=by have:=(gw.mp hx).1;rw[Ie]at this;exact Nat.lt_of_add_lt_add_left this
  have:=Y'.mp N1 j (ZO.mpr hj);rw[hx,AL hj]at this;simp only[v3,decide_eq_true_eq]at this;exact⟨_,AL hj,this.1,this.2⟩
 obtain⟨cl,yQ,Tf,Th⟩:=vJ (scope:=scope) (env:=S.env) λn hn=>by
  have hk:S.env.kindOf n=some .cell:=by show S.env.scope.names.lookup n=_;rw[I.scope];exact cs.free _ hn rfl
  refine e7 (R.cells n hk) λc o h1 Z=>?_;rw[h1];rfl
 refine yP rfl (fh _) yQ cs.kind cs.locs ?_;rcases N3:f J with _|(c|xs)
 ·rw[N3]at V;exfalso;cases V
 ·rw[N3]at V;simp only[gS,e4]at V;clear uL;subst V;exact fm (hi.run S F M cur J _ s I R N3) (λZ Z h=>fm h (λZ Z g=>g.no) λx s' hx=>hE c x s' ⟨_,rfl,rfl⟩ (hx.to yt)) λx s' hx=>hE c x s' ⟨_,rfl,rfl⟩ (hx.to yt)
 rw[N3]at V;simp only[e9]at V;split at V
 case isFalse=>exfalso;cases V
 rename_i mT;rcases Ca:cQ set p g xs (lZ k ig J)with _|r1
 ·rw[Ca]at V;exfalso;cases V
 rw[Ca]at V;refine fm (hi.run S F M cur J _ s I R N3) (λv af h=>fm h (λXC s₂ ⟨yu,sr,it,aB,ha,hw,hit,vg,aD,G,E1,hP⟩=>?_) λZ Z h=>h.no) λZ Z h=>h.no;cases ha;subst hw;have aM:=R.move I aD G;refine Xt ?_ (by size_fits);refine wpAny_newFunctionEnv cs.cell (by intro y hy;simp at hy) (λaF om oo=>?_) cs.kind;dsimp only at om oo⊢;generalize Ti:s₂.heap.push {cls:=.type "list",dict:=none,data:=.seq ([]:List cz).toArray}=Y at om oo⊢;have hC:Y.objs.size=s₂.heap.objs.size+1:=by rw[<-Ti,rW]
 have B9:s₂.heap.objs.size≠Y.objs.size:=by rw[hC];exact HA (rv _)
 have Fm:aF.objs.size=s₂.heap.objs.size+1+1:=by
  have:=oo.1;rw[rW,hC]at this;exact this
 have old:∀b o,s₂.heap.get? b=some o->aF.get? b=some o:=λb o e=>oo.extBut b o (by have:=ye e;rw[hC];exact HA (Z0 this)) (ml _ (Ti▸ml _ e));have Tj:LstAt aF s₂.heap.objs.size []:=⟨0,#[],oo.extBut _ _ B9 (ml _ (Ti▸w' _ rfl))⟩;have yR:aJ s<=Y.objs.size:=by rw[hC];exact Qt aD.size
 have Ke:aJ s<=s₂.heap.objs.size:=aD.size;generalize Ig:({s₂ with heap:=aF,toks:=s₂.toks+([]:List (Str×cz)).length}:ea)=dx;have mG:dx.heap=aF:=by rw[<-Ig]
 have eI:Step W s dx:=by rw[<-Ig];exact aD.trans (.of_keeps aD.stays old (by rw[Fm];exact bU (Tw _) (Tw _)))
 have pQ:bP s dx F aB:=⟨G.1,λa h=>(G.2 a h).imp id λh=>⟨h.1,bk h.2 (by rw[mG,Fm];exact bU (Tw _) (Tw _))⟩⟩;have iP:=R.move I eI pQ;generalize Cb:({newEnv scope Y.objs.size S.env.globals cl S.env.qual none .none (some S.env) builtinsNs with scope:=relabel scope S.env}:Env)=U;have Kf:U.locals=Y.objs.size:=by rw[<-Cb];rfl
 have N4:U.frame=some S.L:=by rw[<-Cb];exact I.frame
 have Kg:U.scope=dZ fn.scope scope:=by rw[<-Cb];exact vH I.scope
 have Cc:U.cells=cl:=by rw[<-Cb];rfl
 let SC:cj:=⟨s,F,xh,S.A,U,S.fe,S.outer,S.L,Y.objs.size⟩
 have h_:∀a,F a->a<aJ s:=λa h=>(R.bound I h).1;have VT:SC.Ok W (fnIn fn scope names) false:=by
  refine⟨Kg,cs.kind,Kf,N4,I.c6,I.nH,by show U.globals=3;rw[<-I.glob,<-Cb];rfl,by show U.builtins=0;rw[<-I.bi,<-Cb];rfl,I.frames,(R.frames I).2.2,λL hL h=>I.cW L hL (h.imp id λh=>h.elim),R.stays,I.hg,I.hb,I.room,λa h=>R.bound I h,λa h=>h.elim,
   λa h=>bk (I.lb a h) R.step.size,R.tab I,cs.nodup,I.hand,.inr (λZ h=>h),by show U.code=_/\U.qual=_;rw[<-Cb];exact I.EF⟩
 have hold:∀a,(M a\/S.Old W a)->SC.Old W a:=λa h=>by
  refine g' h (λh=>?_) λh=>?_
  ·exact⟨(R.mu a h).2.1,R.bS I h,λh=>h.elim,R.ql I h⟩
  ·exact⟨bk h.1 R.step.size,h.2.1,λh=>h.elim,h.2.2.2⟩
 have bC:∀a,aB a->a≠Y.objs.size:=λa h e=>by
  have:=(aM.bound I h).1;rw[e,hC]at this;exact f3 _ (ZP (rv _) this)
 have XD:Rel W SC (fnIn fn scope names) aB (λa=>a=Y.objs.size) (λy=>if(dZ fn.scope scope).names.lookup y=some .cell then cur y else none) (lZ k ig J) dx:=by
  refine⟨eI.x,⟨pQ.1,λa h=>(pQ.2 a h).imp id .inr⟩,λa ha=>?_,⟨.inr (hold _ R.frame.1),rfl⟩,iP.top,⟨_,by rw[mG];exact om,λy hy=>?_⟩,λy hy=>?_,by simp[lZ,Ie],λi y hi=>?_,λi j y z hi hj AG h1 h2=>?_,λa ha=>?_⟩
  ·subst ha;exact⟨.inl yR,by rw[mG,Fm,hC];exact rv _,λh=>bC _ h rfl⟩
  ·have Jr:(dZ fn.scope scope).names.lookup y=some .local:=by rw[<-Kg];exact hy
   simp[Jr]
  ·have Jr:(dZ fn.scope scope).names.lookup y=some .cell:=by rw[<-Kg];exact hy
   refine aX (rF cs.cell Jr) λXE XF=>?_;have hk:S.env.kindOf y=some .cell:=by show S.env.scope.names.lookup y=_;rw[I.scope];exact XF
   refine bF (iP.cells y hk) λc o h1 h2 h3 h4=>au (WE.mp (Th y XE)) λc' qE=>?_;have:c'=c:=by have:=Tf y c' qE;rw[h1]at this;revert this;refine bc λe=>?_;clear qE;subst e;rfl
   clear h1;subst this;refine⟨c',o,by rw[Cc];exact qE,.inr ⟨rfl,hold _ (h2.imp id And.right)⟩,h3,?_⟩;simp only[Jr,if_true];exact h4
  ·have gd:∀i,(lZ k ig J).getD i .un=if i<k then .un else match ig[i-k]? with|some c=>Fl J c|none=>.un:=λi=>by
    unfold lZ;by_cases h:i<k
    ·simp[h,ra,aav]
    ·simp only[h,if_false,ra,aav,Q_,Xv];cases ig[i-k]? <;>rfl
   rw[gd];split
   ·trivial
   ·rename_i XG;refine iQ (N2 (i-k) y (by rw[show k+(i-k)=i from aai (abJ XG)];exact hi)) λc XH XI XJ=>?_;rw[XH];have r:=iP.slots c y XI;simp only[Fl];cases Eh:J.getD c .un with
    |im a=>
     rw[Eh]at r;refine ax r λx e hx=>?_;clear r;exact⟨x,by simp only[XJ,if_true];exact e,hx⟩
    |_=>trivial
  ·exfalso;have N5:∀i,((lZ k ig J).getD i .un).bR=false:=λi=>by
    unfold lZ;simp only[ra,aav,Q_,Xv,abt];split
    ·first|rfl|(split<;>rfl)
    ·cases ig[i-k]? with
     |none=>rfl
     |some c=>simp only[aaq,aa3,Fl];split<;>rfl
   rw[N5]at h1;exact ng h1
  ·subst ha;refine dh om λo es ep h1 h2 Z=>?_;clear om;exact⟨o,by rw[mG];exact h1,by rintro⟨ws,h3,_⟩;rw[h2]at h3;exfalso;cases h3⟩
 have Tn:it≠Y.objs.size:=by rw[hC];exact HA (Z0 vg)
 have To:it≠s₂.heap.objs.size:=HA vg;have H_:¬aB s₂.heap.objs.size:=λh=>f3 _ (aM.bound I h).1;have tm:sr.P aB it 0 dx.heap:=by rw[mG];exact sr.keep hP (λZ h=>h) λb o Z e=>⟨o.slots,old b o e⟩
 have end_:∀F' aC ak s',Rel W SC (fnIn fn scope names) F' (λa=>a=Y.objs.size) aC ak s'->Step W s s'/\bP s s' F F'/\¬F' Y.objs.size/\∃m,s'.heap.Ns Y.objs.size m:=λF' aC ak s' R'=>by
  exact ax R'.ns λm hn Z=>⟨R'.step.none λZ h=>h,⟨R'.grow.1,λa h=>(R'.grow.2 a h).imp id λh=>h.elim (λh=>h.elim) id⟩,(R'.mu _ rfl).2.2,m,hn⟩
 have loop:codeAny (model W.prog W.w) S.A (.compLoop (.ListComp elt [⟨target,iter,ifs,0⟩] scope pos) 0 (.ref it) (.ref s₂.heap.objs.size) U) (CompEnd (model W.prog W.w) S.A E use Q (.ref s₂.heap.objs.size) U) dx:=by
  refine yO (S:=SC) (fnC:=fnIn fn scope names) sr (set:=set) (p:=p) (g:=g) (r:=r1) VT ht zT hg (cF mT) (s₀:=s) rfl (λZ h=>h) hit Ke B9 Tn To ?_ ?_ (xs.length-0) dx
   ⟨aB,_,_,0,[],[],XD,by rw[mG];exact Tj,by simp[zQ],H_,tm,E1,by show it<dx.heap.objs.size;rw[mG,Fm];exact Z0 (Z0 vg),by show s₂.heap.objs.size<dx.heap.objs.size;rw[mG,Fm];exact Z0 (rv _),rfl,t_ _,Z2 _,by
    simp only[aaX,Ca];clear V Ca;cases r1<;>rfl⟩
  ·intro F' aC ak s' ys vs R' E8 jA gv Tp;refine jJ (end_ F' aC ak s' R') λT' G' Mk hm=>?_;clear Ca;subst E8;exact uL _ _ F' ys vs s' V T' G' Ke Tp jA gv B9 yR Mk hm U Kf
  ·intro cls e F' aC ak s' R' E8 N6;refine Sk (end_ F' aC ak s' R') λT' G' Mk m hn=>?_;clear uL;subst E8;simp only[gS,e4]at V;subst V;have key:∃m,s'.heap.Ns U.locals m/\∀h',NC U.locals s'.heap h'->wpAny (model W.prog W.w) S.A (acP "comprehension.variables-let-go" (.ref e) U:Sem cz) (λZ Z=>False) E {s' with heap:=h'}:=by
    rw[Kf];refine⟨m,hn,λh' bO=>?_⟩;have eY:∀b,aJ s<=b->W.base.get? b=none:=λb hb=>VT.bh hb;have lJ:∀o,s'.heap.get? Y.objs.size=some o->¬iS o:=λo ho hB=>by
     refine dh hn λo' es ep et dg Z=>?_;clear hn;rw[ho]at et;revert et;refine bc λe=>?_;subst e;refine ax hB λws hw Z=>?_;clear hB;rw[dg]at hw;exfalso;cases hw
    have Tq:¬W.loose Y.objs.size:=λh=>f3 _ (bk (bk (I.lb _ h) R.step.size) yR);have cA:=T'.but bO yR lJ (eY _ yR) Tq;have N7:j0 W (S.fe::S.outer) S.L (aJ s) e cls h':=by
     obtain⟨f1,f2,oe,ws,g1,g2,g3,g4,T',oT,ts,k1,k2,k3,k4,k5,k6⟩:=N6;have ne:∀a oa us,s'.heap.get? a=some oa->oa.data= .fields us->a≠Y.objs.size:=λa oa us h1 h2 h3=>by
      refine dh hn λo' es ep et dg Z=>?_;clear hn;rw[h3,et]at h1;revert h1;refine bc λe=>?_;subst e;rw[dg]at h2;exfalso;cases h2
     have R5:=R.move I cA (.refl _ _ F);exact⟨R5.frames I,f2,oe,ws,(bO.2 e (ne e oe ws g1 g3)).trans g1,g2,g3,g4,T',oT,ts,k1,k2,k3,(bO.2 T' (ne T' oT ts k4 k5)).trans k4,k5,k6⟩
    refine aP (mj N4 cA.stays eY N7 λlW k1 k2 k3 XK=>?_);have eu:Step W s {s' with heap:=lW}:=⟨k1,λb o hb e=>by
     refine au (cA.slots b o hb e) λsl h1=>au (k3.1 b _ (.inl (ye e)) h1) λdH h2=>?_;exact⟨dH,h2⟩,λl=>(cA.tab l).keep (λb o h e=>k3.1 b o (h.imp (λh=>bk (I.lb b h) R.step.size) id) e) λb o vs h e d=>k3.2 b o vs (bk (I.lb b h) R.step.size) e d,bU cA.size XK,cA.os,cA.gens⟩
    exact hE cls _ _ ⟨_,rfl,rfl⟩ ⟨cls,e,rfl,rfl,eu,k2.Af⟩
   cases use<;>exact key
 refine codeAny_compStart_list loop (sr.self tm ?_);exact loop
theorem Kh{I iter:u_}{ifs:List u_}{ig:List Nat}{f:St->Rs (List AV)}{p:St->Rs Bool}{g:St->Rs AV}(hi:mU W fn iter f)(fh:∀env x,foldedSetIterable iter env x=pure x)(cs:jF fn scope names k ig)(ht:tj W (fnIn fn scope names) target set)(zT:mF W (fnIn fn scope names) ifs p)(hg:aL W false (fnIn fn scope names) I g):jK W false fn (.ListComp I [⟨target,iter,ifs,0⟩] scope pos) (λJ=>bindR (f J) λxs=>if cq xs.length then cQ set p g xs (lZ k ig J)else none):=.mk λS F M cur J r s V R z=>by
 rw[eval_ListComp];refine qI (use:=none) (β:=List AV) (w:=λys=>some (.ok ys)) (r:=r) hi fh cs ht zT hg V R ?_ (λc x s' ⟨y,h1,h2⟩ hx=>hx.to λc' h=>by cases h;rw[h1,h2]) ?_
 ·rcases h:(bindR (f J) λxs=>if cq xs.length then cQ set p g xs (lZ k ig J)else none)with _|(c|ys)
  ·rw[h]at z;exact aZ z
  ·rw[h]at z;exact z
  ·rw[h]at z;exact z
 ·intro C D F' ys vs s' hw T G Ke H_ jA gv B9 Y Mk hm ce Cb;simp only[e4]at hw;clear z;subst hw;refine au hm λm hn=>?_;show∃m,s'.heap.Ns ce.locals m/\∀h',NC ce.locals s'.heap h'->PN W F s (.ok ys) (.ref D) {s' with heap:=h'};refine ag Cb (⟨m,hn,λh' U=>?_⟩);have eY:W.base.get? C=none:=V.bh (bU R.step.size Y);have lJ:∀o,s'.heap.get? C=some o->¬iS o:=λo ho hB=>by
   refine dh hn λo' es ep et dg Z=>?_;rw[ho]at et;revert et;refine bc λe=>?_;subst e;refine ax hB λws hw Z=>?_;rw[dg]at hw;cases hw
  have Tq:¬W.loose C:=λh=>f3 _ (bk (bk (V.lb _ h) R.step.size) Y);obtain⟨kD,VS,Ej⟩:=jA;exact⟨ys,F',D,vs,rfl,T.but U Y lJ eY Tq,⟨G.1,λa h=>(G.2 a h).imp id λh=>⟨h.1,by show a<h'.objs.size;refine ag U.1 ?_;exact h.2⟩⟩,rfl,Ke,H_,⟨kD,VS,(U.2 D B9).trans Ej⟩,
   gv.mono (λb hb o e=>⟨o.slots,(U.2 b λq=>Mk (q▸hb)).trans e⟩) λZ h=>h⟩
noncomputable def Tr:Ou->Except cz Ou
 | .ex c _=>.error c
 |o=>.ok o
theorem pW{z iter:u_}{ifs:List u_}{Y Cd:Pos}{y:Str}{ig:List Nat}{f:St->Rs (List AV)}{p:St->Rs Bool}{g:St->Rs AV}(hn:dE fn i y)(hsw:∀env:Env,env.scope=fn.scope->swapsWith (.ListComp z [⟨target,iter,ifs,0⟩] scope pos) (some (.Name y Y)) Cd.line env=pure true)(hi:mU W fn iter f)(fh:∀env x,foldedSetIterable iter env x=pure x)(cs:jF fn scope names k ig)(ht:tj W (fnIn fn scope names) target set)(zT:mF W (fnIn fn scope names) ifs p)(hg:aL W false (fnIn fn scope names) z g):aR W false fn (.Assign [.Name y Y] (.ListComp z [⟨target,iter,ifs,0⟩] scope pos) Cd) (λJ=>aU (bindR (f J) λxs=>if cq xs.length then cQ set p g xs (lZ k ig J)else none) J λys=>some (.next (fZ i ys J))):=.mk λS F M cur J r s I R U=>by
 refine ag (exec_Assign_Name_used _ _ _ _ (hsw _ I.scope)) (az (IW (az ?_)));refine az (fm (qI (use:=some (assign (.Name y Y) S.env)) (β:=Ou) (w:=λys=>some (.ok (.next (fZ i ys J)))) (Q:=λZ s'=>PS W S fn F M s r .next s') (E:=i9 W S fn F M s r)
  (r:=Tr r) hi fh cs ht zT hg I R ?_ ?_ ?_) (λZ s' hq=>en (en hq)) λZ Z e=>e)
 ·refine pG (cg U) ?_ ?_;rotate_left;intro ys h1 h2;rotate_right;clear U;rintro c h1 rfl
  ·refine ag h1 ?_;rfl
  ·revert h2;refine bc λe=>?_;clear U;subst e;refine ag h1 ?_;rfl
 ·intro c x s' ⟨y',h1,h2⟩ hx;subst h2;refine pG (cg U) ?_ λys e1 e2=>?_;rintro c' e1 rfl
  ·simp only[Tr,Except.error.injEq]at h1;subst h1;exact hx.st I R sJ
  ·revert e2;refine bc λe=>?_;subst e;exfalso;cases h1
 ·intro C D F' ys vs s' hw T G Ke H_ jA gv B9 yR Mk hm ce Cb;have mE:r= .next (fZ i ys J):=by
   simp only[e4]at hw;cases r<;>simp only[Tr,Except.ok.injEq,reduceCtorEq]at hw<;>exact ag hw rfl
  clear hw;subst mE;have R':=R.move I T G;have old:∀b,M b->b<aJ s:=λb hb=>(R.mu b hb).2.1;refine wpAny_assign_Name (qA (s₀:=s) I R' hn Ke old R.step.size H_ jA gv λcR mB hz hk f_=>?_);refine ag Cb (au hm λm AD=>?_);clear hm;have VU:¬M C:=λh=>f3 _ (bk (old C h) yR);have Ce:cR.heap.Ns C m:=iC (λo e=>hk C o VU e) AD;refine⟨m,Ce,λh' V=>?_⟩;have VV:S.s₀.heap.objs.size<=C:=bU R.step.size yR;have lJ:∀o,cR.heap.get? C=some o->¬iS o:=λo ho hB=>by
   refine dh Ce λo' es ep et dg Z=>?_;clear Ce;rw[ho]at et;revert et;refine bc λe=>?_;subst e;refine ax hB λws hw Z=>?_;clear hB;rw[dg]at hw;exfalso;cases hw
  have B:∀b o,b≠C->cR.heap.get? b=some o->∃sl,h'.get? b=some {o with slots:=sl}:=λb o hb e=>⟨o.slots,(V.2 b hb).trans e⟩;have j1:aJ cR<=h'.objs.size:=by refine ag V.1 ?_;exact t_ _
  have cG:Rel W S fn F' (λb=>M b\/b=D) (i_ cur y (.ref D)) (fZ i ys J) {cR with heap:=h',toks:=cR.toks}:=mB.iter I Mk (λh=>h.elim VU λh=>B9 h.symm) VV lJ (λb o hb=>(V.2 b λe=>by rw[e,I.bh VV]at hb;exact aZ hb).trans (mB.stays b o hb)) (λb o hb e=>(V.2 b hb).trans e) j1;refine⟨F',_,_,_,cG,⟨λp o hp e=>?_,bU T.size (bU (Kj hz.symm) j1),λc hc=>hc.imp id λ(e:c=D)=>by refine ag e ?_;exact Ke,G.1,λc hc=>(G.2 c hc).imp id λh=>.inr h.1,by show GenStep s.gens cR.gens;refine ag f_ ?_;exact T.gens⟩,rfl⟩;exact au (T.slots p o (λh=>hp (.inl h)) e) λsl h1=>au (hk p _ (λh=>hp (.inr h)) h1) λdH h2=>au (B p _ (λq=>f3 _ (bk (ye e) (q▸yR))) h2) λM1 h3=>⟨M1,h3⟩
def Ts:List AV->Rs AV:=tC λa=>kP (aA (.int (if a<0 then-a else a)))
theorem Ih:dD W q fn "abs" Ts:=.mk λS F M cur J r s xs vs U R I z=>by
 refine ic z I λa t xs vs z I=>di z I λz=>?_;cases z;exact call_abs_int λu tk=>PE.done (.toks R.stays) (⟨_,rfl⟩)
noncomputable def ji:List AV->Option (List Int)
 |[]=>some []
 | .int i::r=>(ji r).map (i::·)
 |_::_=>none
theorem Q4:ji []=some []:=rfl
theorem Fo:ji (.int j::r)=(ji r).map (j::·):=rfl
theorem yS{x:AV}{ns:List Int}(e:ji (x::xs)=some ns):∃i ms,x= .int i/\ji xs=some ms/\i::ms=ns:=by
 cases x with
 |int i=>refine ax (r0.mp (show(ji xs).map (i::·)=some ns from e)) λms hm e=>?_;exact⟨i,ms,rfl,hm,e⟩
 |_=>exact aZ e
theorem xx{F:fF->Prop}:∀{xs:List AV}{vs:List cz}{ns:List Int},bL h F xs vs->ji xs=some ns->IntsAre vs ns:=by
 intro xs
 induction xs with
 |nil=>
  intro vs ns r e;subst r;obtain rfl:=gq e;exact .nil
 |cons x xs IH=>
  intro vs ns r e;refine bV r ?_;clear r;rintro v ws rfl z I;refine bV (yS e) ?_;clear e;rintro i V rfl U rfl;refine au z ?_;clear z;rintro t rfl;exact .cons _ _ (IH I U)
def N8:List AV->Rs AV:=BV λxs=>kP ((ji xs).map λns=>.ok (.int ns.sum))
theorem N9:dD W false fn "sum" N8:=.mk λS F M cur J r s xs vs V R I z=>by
 refine nt z I λys a Y xs vs z jA hr I=>di z I λz=>?_
 ·refine ax (Av z) ?_;clear z;clear z;rintro ns hn rfl;have Z:=xx hr hn;refine au Z.allInts.items λU hz=>?_;have hl:s.heap.IsList a (intItems U):=by rw[<-hz];exact jA.list
  refine aP (sum_intListG (V.hand rfl) hl λh' tk t' hk j1=>?_);have e:preSum (numAt U) U.size=ns.sum:=by
   rw[preSum_eq,Zk (by simp),<-nums_intItems,<-hz,show Y.toArray.toList=Y from rfl,Z.numsOf]
  rw[e];exact PE.done (R.kept V hk j1) (⟨_,rfl⟩)
noncomputable def l0:List AV->Option (List Bool)
 |[]=>some []
 | .bool i::r=>(l0 r).map (i::·)
 |_::_=>none
theorem vM{x:AV}{ns:List Bool}(e:l0 (x::xs)=some ns):∃i ms,x= .bool i/\l0 xs=some ms/\i::ms=ns:=by
 cases x with
 |bool i=>refine ax (r0.mp (show(l0 xs).map (i::·)=some ns from e)) λms hm e=>?_;exact⟨i,ms,rfl,hm,e⟩
 |_=>exact aZ e
theorem Cf{F:fF->Prop}:∀{xs:List AV}{vs:List cz}{ns:List Bool},bL h F xs vs->l0 xs=some ns->vs=ns.map .bool:=by
 intro xs
 induction xs with
 |nil=>
  intro vs ns r e;subst r;obtain rfl:=gq e;rfl
 |cons x xs z=>
  intro vs ns r e;refine bV r ?_;clear r;rintro v ws rfl I U;refine bV (vM e) ?_;clear e;rintro i Y rfl V rfl;refine ag I (ag (z U V) ?_);rfl
def Tu:List AV->Rs AV:=BV λxs=>kP ((l0 xs).map λns=>.ok (.bool (ns.all _root_.id)))
theorem range_all:∀(ns:List Bool),(ZK ns.length).all (λi=>ns.getD i true)=ns.all _root_.id:=by
 intro ns;rw[Bool.eq_iff_iff];simp only[Y',ZO,_root_.id];constructor
 ·intro h x I;refine au (List.getElem_of_mem I) λi y=>au y ?_;clear y;clear I;rintro z rfl;have:=h i z
  simpa[ra,z]using this
 ·intro h i z;simp only[ra,z,AL,aa3];exact h _ (aa4 z)
theorem N_:dD W false fn "all" Tu:=.mk λS F M cur J r s xs vs Y R U z=>by
 refine nt z U λys a us xs vs z V hr U=>di z U λz=>?_
 ·refine ax (Av z) ?_;clear z;clear z;rintro ns hn rfl;obtain rfl:=Cf hr hn;have gu:a≠s.heap.objs.size:=HA V.lt;have tI:(s.heap.push {cls:=.type "list_iterator",data:=.fields #[.ref a,.int 0 0]}).IsList a (ns.map abo).toArray:=by
   refine ax V.list λo ho r=>⟨o,ml _ ho,r⟩
  refine aP (call_all_walk (acs V.list ⟨_,_,_,_,_,_,λi=>ns.getD i true,rfl,Walks.list (A:=S.A.in1) (Y.hand rfl) s.heap.objs.size a gu (ns.map abo).toArray,
   ⟨⟨_,w' _ rfl,rfl,rfl⟩,tI⟩,?_,λh' tk hk hz=>?_⟩))
  ·intro i v s' Q E I hq;have I:(ns.map abo)[i]? =some v:=by simpa using I
   rw[Xv]at I;refine ax (r0.mp I) ?_;clear I;clear I;rintro b hb rfl;refine aat ?_;have:ns.getD i true=b:=by simp[ra,hb]
   have Z:Q (ns.getD i true) s':=hq;rw[this]at Z;exact Z
  ·have e:(ZK (ns.map abo).toArray.size).all (λi=>ns.getD i true)=ns.all _root_.id:=by
    rw[KG,ro];exact range_all ns
   refine ag e ?_;have kp:∀b o,s.heap.get? b=some o->h'.get? b=some o:=λb o e=>hk b o (by simp;exact HA (ye e)) (ml _ e);exact PE.done (R.kept Y kp hz) (rfl)
noncomputable def N':AV->Bool
 | .ty n=>n=="bytes"
 |_=>false
theorem Fp{a:AV}{G:AV->Prop}(h:N' a=true)(g:G (.ty "bytes")):G a:=by
 cases a with
 |ty n=>obtain rfl:=eq_of_beq h;exact g
 |_=>exact ng h
def Tv:List AV->Rs AV:=mV λZ=>yG λa=>kP (if N' a=true then aA (.bool true)else none)
theorem Oa:dD W q fn "isinstance" Tv:=.mk λS F' M cur J r s xs vs V R I z=>by
 refine dX z I λb t xs vs z I=>kR z I λa v xs vs z h2 I=>di z I λz=>?_
 ·refine aX (iE z) λU z=>?_;cases z;have h3:VH W s.heap F' (.ty "bytes") v:=Fp (G:=λa=>VH W s.heap F' a v->VH W s.heap F' (.ty "bytes") v) U (λx=>x) h2;have:=h3.vr (λZ e=>nomatch e);clear h2 h3;subst this;exact call_isinstance_yes (Tx:="bytes") (T:="bytes") rfl PySem.F.isi_meta_bytes PySem.F.bm_sub (PE.done (.refl R.stays) (rfl))
structure vO(W:Wd)(q:Bool)(fn:ek)(T:String)(h:List AV->Rs AV):Prop where
 run:∀S F M cur J r s xs vs,S.Ok W fn q->Rel W S fn F M cur J s->mq W s.heap F xs vs->h xs=some r->
 wpAny (model W.prog W.w) S.A (call (.type T) vs []) (PE W F s r) (PX W S s r) s
theorem Fq{x:Str}{es:List u_}{T:String}{g:St->Rs (List AV)}{h:List AV->Rs AV}(hn:aL W q fn (.Name x np) (λZ=>aA (.ty T)))(hg:gx W q fn es g)(U:a7 es=true)(hc:vO W q fn T h):aL W q fn (.Call (.Name x np) es [] pos) (λJ=>bindR (g J) h):=.mk λS F M cur J r s z R hr=>by
 refine ZY (iX (hn.run S F M cur J _ s z R rfl) rd λa v aB af ha T G hv=>?_);cases ha;subst hv;have V:=R.move z T G;refine acg (plain_any es S.env pos U) (bM U (PX.raise T ?_));exact gM hr (hg.run S aB M cur J · af pos z V) λxs h2 vs aQ s₂ I Y gA=>PX.raise (T.trans I) (fm (hc.run S aQ M cur J r s₂ xs vs z (V.move z I Y) gA h2) (λZ Z x=>(x.lift I Y).lift T G) λZ Z x=>x)
def Ki:List AV->Rs AV:=BV λxs=>kP ((ji xs).bind λns=>if cq ns.length/\ns.all (λn=>decide (0<=n/\n<256))then aA (.aa (ns.map λn=>n.toNat.toUInt8))else none)
theorem Ft:vO W false fn "bytes" Ki:=.mk λS F M cur J r s xs vs U R I z=>by
 refine nt z I λys a us xs vs z Z hr I=>di z I λz=>?_
 ·refine ax (z0.mp z) λns hn z=>?_
  ·refine aX (iE z) λV z=>?_;cases z;have Y:=xx hr hn;refine aP (call_bytes_ints Z.list Y (λn h=>by simpa using Y'.mp V.2 n h) (by refine ag Y.length ?_;exact cF V.1) (U.hand rfl) λh' t k hk hz=>PE.done (R.kept U hk hz) ?_);exact⟨t,by unfold byteArr;rfl⟩
theorem mH:Slot "bytes" "rindex" "bytes.rindex":=
 .of (owner:="bytes") (n:="rindex") (by rw[ZQ,S2];kernel_rfl) (by decide+kernel) (by decide+kernel) (by decide+kernel)
  (by first|exact .inl (by decide+kernel)|exact .inr (by decide+kernel)) (by rw[Ut];kernel_rfl)
theorem tM:typeOf (.builtin "bytes.rindex")=pure (.type "method_descriptor"):=by show builtinType _=_;refine ag aaj ?_;kernel_rfl
theorem rG:entryFor table "bytes.rindex"=some aaH.«bytes.rindex»:=Z7 (by kernel_rfl)
theorem pX(a b:cz):argsOk "bytes.rindex" ⟨[a,b],[]⟩:=by unfold argsOk;kernel_rfl
theorem vP(a b:Array UInt8)(t u:Tok):«bytes.rindex» ⟨[.bytes a t,.bytes b u],[]⟩=(match gX a b with
 |some i=>retInt i
 |none=>do rule "bytes.rindex.not-found";raiseErrorWords "ValueError" "subsection not found"):=by kernel_rfl!
theorem j9:Slot "bytes" "split" "bytes.split":=
 .of (owner:="bytes") (n:="split") (by rw[ZQ,S2];kernel_rfl) (by decide+kernel) (by decide+kernel) (by decide+kernel)
  (by first|exact .inl (by decide+kernel)|exact .inr (by decide+kernel)) (by rw[Ut];kernel_rfl)
theorem vQ:typeOf (.builtin "bytes.split")=pure (.type "method_descriptor"):=by show builtinType _=_;refine ag aaj ?_;kernel_rfl
theorem mI:entryFor table "bytes.split"=some aaH.«bytes.split»:=Z7 (by kernel_rfl)
theorem rH(a b:cz):argsOk "bytes.split" ⟨[a,b],[]⟩:=by unfold argsOk;kernel_rfl
theorem rI(a b c:cz):argsOk "bytes.split" ⟨[a,b,c],[]⟩:=by unfold argsOk;kernel_rfl
theorem mJ:Slot "bytes" "rsplit" "bytes.rsplit":=
 .of (owner:="bytes") (n:="rsplit") (by rw[ZQ,S2];kernel_rfl) (by decide+kernel) (by decide+kernel) (by decide+kernel)
  (by first|exact .inl (by decide+kernel)|exact .inr (by decide+kernel)) (by rw[Ut];kernel_rfl)
theorem tN:typeOf (.builtin "bytes.rsplit")=pure (.type "method_descriptor"):=by show builtinType _=_;refine ag aaj ?_;kernel_rfl
theorem rJ:entryFor table "bytes.rsplit"=some aaH.«bytes.rsplit»:=Z7 (by kernel_rfl)
theorem pY(a b c:cz):argsOk "bytes.rsplit" ⟨[a,b,c],[]⟩:=by unfold argsOk;kernel_rfl
noncomputable def d6(I:Bool)(a b:Array UInt8)(z:Nat):List Nat:=if I then ach a b z else(aag a b 0 a.size).take z
theorem yT(a b:Array UInt8)(t u:Tok)(hb:b.isEmpty=false):«bytes.split» ⟨[.bytes a t,.bytes b u],[]⟩=(do
  let z<-aaO "bytes.split" (.bytes b u)
  if z.isEmpty then do rule "bytes.split.empty-separator";raiseErrorWords "ValueError" "empty separator"
  let places:=(aag a z 0 a.size).take (a.size+1)
  if places.isEmpty then do rule "bytes.split.no-separator";return<-ret (<-newList [.bytes a t])
  ret (<-newList (<-(Z_ a z.size places).mapM λx=>mkBytes x))):=by kernel_rfl!
theorem yU(a b:Array UInt8)(t u v:Tok)(hb:b.isEmpty=false):«bytes.split» ⟨[.bytes a t,.bytes b u,.int 1 v],[]⟩=(do
  let z<-aaO "bytes.split" (.bytes b u)
  if z.isEmpty then do rule "bytes.split.empty-separator";raiseErrorWords "ValueError" "empty separator"
  let places:=(aag a z 0 a.size).take 1
  if places.isEmpty then do rule "bytes.split.no-separator";return<-ret (<-newList [.bytes a t])
  ret (<-newList (<-(Z_ a z.size places).mapM λx=>mkBytes x))):=by kernel_rfl!
theorem vR(a b:Array UInt8)(t u v:Tok)(hb:b.isEmpty=false):«bytes.rsplit» ⟨[.bytes a t,.bytes b u,.int 1 v],[]⟩=(do
  let z<-aaO "bytes.rsplit" (.bytes b u)
  if z.isEmpty then do rule "bytes.rsplit.empty-separator";raiseErrorWords "ValueError" "empty separator"
  let places:=ach a z 1
  if places.isEmpty then do rule "bytes.rsplit.no-separator";return<-ret (<-newList [.bytes a t])
  ret (<-newList (<-(Z_ a z.size places).mapM λx=>mkBytes x))):=by kernel_rfl!
theorem like_eq{id:String}{b:Array UInt8}{t:Tok}:aaO id (.bytes b t)=pure b:=by
 unfold aaO;refine ag abO ?_;rfl
theorem vS(a:Array UInt8)(w:Nat):∀(ps:List Nat)(acc:Array (Array UInt8))(last:Nat),(∀x∈acc,x.size<=a.size)->∀x∈(ps.foldl (λ(p:Array (Array UInt8)×Nat) q=>(p.1.push (a.extract p.2 q),q+w)) (acc,last)).1,x.size<=a.size:=by
 intro ps
 induction ps with
 |nil=>
  intro acc last h;exact h
 |cons q ps IH=>
  intro acc last h;exact IH _ _ λx z=>by
   refine g' (ade.mp z) ?_ ?_;rotate_left;clear z;rintro rfl;rotate_right;intro z
   ·exact h x z
   ·exact ag aci (bU (aaB _ _) (Nat.min_le_right _ _))
theorem pZ(a:Array UInt8)(w:Nat)(ps:List Nat):∀x∈Z_ a w ps,x.size<=a.size:=by
 intro x z;have e:Z_ a w ps=((ps.foldl (λ(p:Array (Array UInt8)×Nat) q=>(p.1.push (a.extract p.2 q),q+w)) ((#[]:Array (Array UInt8)),0)).1.push (a.extract (ps.foldl (λ(p:Array (Array UInt8)×Nat) q=>(p.1.push (a.extract p.2 q),q+w)) ((#[]:Array (Array UInt8)),0)).2 a.size)).toList:=rfl;rw[e]at z;refine g' (ade.mp (Array.mem_def.mpr z)) ?_ ?_;rotate_left;clear z;rintro rfl;rotate_right;intro z
 ·exact vS a w ps #[] 0 (by simp) x z
 ·exact ag aci (bU (aaB _ _) (Nat.min_le_right _ _))
theorem qJ{M:SW}(h:ZN)(F:fF->Prop):∀(xs:List (Array UInt8))(s:ea)(Q:List cz->ea->Prop),(∀x∈xs,x.size<=sizeLine)->(∀vs t,bL h F (xs.map λx=>.aa x.toList) vs->Q vs {s with toks:=t})->wpAny M A (xs.mapM λx=>mkBytes x) Q E s
 |[],s,Q,hz,z=>by
  exact ag List.mapM_nil (en (z [] s.toks (rfl)))
 |x::xs,s,Q,hz,z=>by
  refine ag List.mapM_cons ?_;have e:mkBytes x=(do return adf x (<-fresh)):=by unfold mkBytes;exact ag (if_neg (by have:=hz x (T4 ..);exact acI ‹_›)) rfl
  refine az (ag e (nd_fresh (en ?_)));refine az (qJ h F xs _ _ (λy I=>hz y (AM _ I)) λvs t U=>en ?_);refine z _ t ?_;simp only[G0,yo];exact⟨_,vs,rfl,by simp[lL,lM,lN,mh],U⟩
theorem Cg{F:fF->Prop}{t:Nat}(I:S.Ok W fn q)(R:Rel W S fn F M cur J s)(z:bL s.heap F xs vs)(hz:xs.length<=sizeLine):wpAny (model W.prog W.w) A (newList vs) (λv s'=>PN W F s (.ok xs) v s') E {s with toks:=t}:=by
 have U:¬F s.heap.objs.size:=λh=>f3 _ (R.bound I h).1;refine Xt ?_ (by show vs.toArray.size<=sizeLine;refine ag KG (ag z.length ?_);exact hz);have Y:s.heap.objs.size<(s.heap.push {cls:=.type "list",data:=.seq vs.toArray}).objs.size:=by rw[rW];exact rv _
 exact⟨xs,F,_,vs,rfl,.push R.stays,.refl _ _ _,rfl,t_ _,U,⟨0,#[],w' _ rfl⟩,z.mono (λa Z o V=>⟨o.slots,ml _ V⟩) λZ h=>h⟩
def gc(I:Bool)(a b:List UInt8)(z:Nat):List AV:=
 if(d6 I a.toArray b.toArray z).isEmpty then[.aa a]else(Z_ a.toArray b.toArray.size (d6 I a.toArray b.toArray z)).map λx=>.aa x.toList
def ij(I:Bool)(a b:List UInt8)(z:Nat):Rs (List AV):=
 if b.toArray.isEmpty=false/\cq a.length/\cq (gc I a b z).length then aA (gc I a b z)else none
theorem j_{F:fF->Prop}{r:Except cz (List AV)}{id:String}{a b:List UInt8}{t u:Tok}{U:Bool}{z:Nat}(hS:S.Ok W fn q)(R:Rel W S fn F M cur J s)
  (hr:ij U a b z=some r) {XM XN:String} {err:Sem PUnit} {Q:Fin->ea->Prop} (V:∀v s',PN W F s r v s'->Q (.done (.ret v)) s'):
  wpAny (model W.prog W.w) A (do
   let I<-aaO id (.bytes b.toArray u)
   if I.isEmpty then do rule XM;err
   let places:=d6 U a.toArray I z
   if places.isEmpty then do rule XN;return<-ret (<-newList [.bytes a.toArray t])
   ret (<-newList (<-(Z_ a.toArray I.size places).mapM λx=>mkBytes x))) Q E s:=by
 refine aX (iE hr) λY hr=>?_;cases hr;refine az (Uu like_eq ?_);dsimp only;refine cM (by refine ag Y.1 ?_;exact BA) ?_;by_cases hp:(d6 U a.toArray b.toArray z).isEmpty=true
 ·refine ag (if_pos hp) ?_;have e:gc U a b z=[.aa a]:=by unfold gc;exact ag (if_pos hp) rfl
  rw[e]at V;refine az (ZR ?_);exact az (fm (Cg (t:=s.toks) hS R (xs:=[.aa a]) (by simp[zQ,yo,lL,lM,lN,mh]) (by refine ag aau ?_;show 1<=16777216;decide)) (λv s' h=>en (V v s' h)) λZ Z x=>x)
 ·refine ag (if_neg hp) ?_;have e:gc U a b z=(Z_ a.toArray b.toArray.size (d6 U a.toArray b.toArray z)).map λx=>.aa x.toList:=by unfold gc;exact ag (if_neg hp) rfl
  rw[e]at V Y;have hz:a.toArray.size<=sizeLine:=by simpa using cF Y.2.1
  refine az (qJ s.heap F _ _ _ (λx hx=>bU (pZ _ _ _ x hx) hz) λvs t' hv=>?_);exact az (fm (Cg hS R hv (cF Y.2.2)) (λv s' h=>en (V v s' h)) λZ Z x=>x)
theorem m_split:MethAt "bytes" "split" "bytes.split":=⟨ZI,j9,vQ⟩
theorem Ci:MethAt "bytes" "rsplit" "bytes.rsplit":=⟨ZI,mJ,tN⟩
def vT:List AV->Rs (List AV):=mV λa=>mV λb=>yH (ij false a b (a.length+1)) (tC λi=>kP (if i=1 then ij false a b 1 else none))
theorem l4{d:Bool}{a b:List UInt8}{r:Except cz (List AV)}(h:ij d a b n=some r):b.toArray.isEmpty=false:=by
 exact(iE h).1.1
theorem rK:nq W q fn "bytes.split" vT:=.mk λS F M cur J r s xs vs U R I z=>by
 refine dX z I λa t xs vs z I=>dX z I λb u xs vs z I=>kT z I (λz=>?_) λxs z I=>ic z I λi w xs vs z I=>di z I λz=>?_
 ·refine Nh j9 rfl mI ?_ (rH _ _);exact ag (yT _ _ _ _ (l4 z)) (j_ (Q:=λfin s'=>∃v,fin= .done (.ret v)/\PN W F s r v s') U R z λv s' h=>⟨v,rfl,h⟩)
 ·refine aX (iE z) λV z=>?_;subst V;refine Nh j9 rfl mI ?_ (rI _ _ _);exact ag (yU _ _ _ _ _ (l4 z)) (j_ (Q:=λfin s'=>∃v,fin= .done (.ret v)/\PN W F s r v s') U R z λv s' h=>⟨v,rfl,h⟩)
def Fu:List AV->Rs (List AV):=mV λa=>mV λb=>tC λi=>kP (if i=1 then ij true a b 1 else none)
theorem Cj:nq W q fn "bytes.rsplit" Fu:=.mk λS F M cur J r s xs vs U R I z=>by
 refine dX z I λa t xs vs z I=>dX z I λb u xs vs z I=>ic z I λi w xs vs z I=>di z I λz=>aX (iE z) λV z=>?_;subst V;refine Nh mJ rfl rJ ?_ (pY _ _ _);exact ag (vR _ _ _ _ _ (l4 z)) (j_ (Q:=λfin s'=>∃v,fin= .done (.ret v)/\PN W F s r v s') U R z λv s' h=>⟨v,rfl,h⟩)
theorem Ck:MethAt "bytes" "rindex" "bytes.rindex":=⟨ZI,mH,tM⟩
def Fv:List AV->Rs AV:=tF λa b=>match gX a.toArray b.toArray with
  |some i=>aA (.int i)
  |none=>some (.error (.type "ValueError"))
theorem Cm:dD W false fn "bytes.rindex" Fv:=.mk λS F M cur J r s xs vs I R V z=>by
 refine kW z V λa t b u z=>gW (aP (Nh mH rfl rG ?_ (pX _ _)));rw[vP];cases U:gX a.toArray b.toArray with
 |some i=>
  rw[U]at z;refine dK ?_ z;clear z;intro z;cases z;exact az (abS (en ⟨_,rfl,λZ Z=>PE.done (.toks R.stays) (⟨_,rfl⟩)⟩))
 |none=>
  rw[U]at z;revert z;refine bc λe=>?_;clear z;subst e;exact az (ZR (wpAny_raiseErrorWords ab3 (I.hand rfl) λh' tk e Y hz gF=>B7 (s₂:=s) I R (.refl R.stays) Y hz gF))
theorem qK:Slot "bytes" "join" "bytes.join":=
 .of (owner:="bytes") (n:="join") (by rw[ZQ,S2];kernel_rfl) (by decide+kernel) (by decide+kernel) (by decide+kernel)
  (by first|exact .inl (by decide+kernel)|exact .inr (by decide+kernel)) (by rw[Ut];kernel_rfl)
theorem yV:typeOf (.builtin "bytes.join")=pure (.type "method_descriptor"):=by show builtinType _=_;refine ag aaj ?_;kernel_rfl
theorem vU:entryFor table "bytes.join"=some aaH.«bytes.join»:=Z7 (by kernel_rfl)
theorem yW(a b:cz):argsOk "bytes.join" ⟨[a,b],[]⟩:=by unfold argsOk;kernel_rfl
theorem jj:MethAt "bytes" "join" "bytes.join":=⟨ZI,qK,yV⟩
theorem Fw{b:Array UInt8}{t:Tok}:acV "bytes.join" (.bytes b t) 0=pure (some (b,none)):=by
 have h:=abO (b:=b) (t:=t) (id:="bytes.join");unfold acV Bytes.takeBuffer?;rw[KBy.special_eq KBy.look_buffer,KBy.own_buffer,pure_bind,pure_bind];rw[show(Bytes.buffer? "bytes.join" (.bytes b t) (full:=(0:Int)==Bytes.fullReadOnly))=pure (some b)from by first|exact h|kernel_rfl!]
 rfl
theorem vV{M:SW}{U:Type}(f:Nat->U->Sem (ForInStep U))(I:Nat->U->Prop)(n:Nat)(s:ea)(V:∀i st (Q:ForInStep U->ea->Prop),i<n->I i st->(∀z,I (i+1) z->Q (.yield z) s)->wpAny M A (f i st) Q E s):∀(k i:Nat)(st:U)(Q:U->ea->Prop),i+k=n->I i st->(∀z,I n z->Q z s)->wpAny M A (forIn (aac i k) st f) Q E s:=by
 intro k
 induction k with
 |zero=>
  intro i st Q h Y Z;rw[show i=n by assumption]at Y;exact en (Z st Y)
 |succ k IH=>
  intro i st Q h Y Z;rw[acJ,abi];refine az (V i st _ (by exact bk (Xw (ZW _)) (Kj ‹_›)) Y λz XO=>?_);exact IH (i+1) z Q (by exact(acz _ _).trans ‹_›) XO Z
theorem vW{M:SW}{Q:Unit->ea->Prop}{keep:List cz}:∀(z:List (cz×Option cz)),(∀p∈z,p.2=none)->Q () s->wpAny M A (Bytes.joinLetGo z keep) Q E s:=by
 intro z
 induction z with
 |nil=>
  intro _ h;exact en h
 |cons U rest IH=>
  intro I h;obtain⟨x,w⟩:=U;have:w=none:=I (x,w) (T4 ..);subst this;exact az (wpAny_letGo (IH (λp V=>I p (AM _ V)) h))
theorem m3(h:¬∃x,vs=[x])(f:cz->α)(g:Array cz->α):Bytes.joinM.match_1 (λZ=>α) vs.toArray f g=g vs.toArray:=by
 rcases vs with _|⟨x,_|⟨y,r⟩⟩
 ·rfl
 ·exact absurd ⟨x,rfl⟩ h
 ·rfl
theorem Cn(a:Array UInt8)(t:Tok)(l:fF)(M:SW)(A:XQ)(Q:adC->ea->Prop)(E)(s:ea)(ps:List (Array UInt8))(vs:List cz)(hl:LstAt s.heap l vs)(U:vs.length=ps.length)(Z:∀(i:Nat)(p:Array UInt8),ps[i]? =some p->∃u,vs[i]? =some (adf p u))(hz:Z' (ps.toArray.foldl (·+·.size) (a.size*(ps.length-1)))=false)(km:(abB a ps).size<=sizeLine)(h:∀u k,Q (.done (.ret (.bytes (abB a ps) u))) {s with toks:=k}):wpAny M A («bytes.join» ⟨[.bytes a t,.ref l],[]⟩) Q E s:=by
 obtain⟨n,sl,ho⟩:=hl;have seq:∀{Q:Option (Array cz)->ea->Prop},Q (some vs.toArray) s->wpAny M A (seqItems? (.ref l)) Q E s:=λhq=>ace ho rfl hq;show wpAny M A (Bytes.joinItems (.ref l)>>=_) Q E s;refine az (az (az (abn ho (en ?_))));refine cC (by rfl) (en (az (seq ?_)));dsimp only;refine cC (by rfl) ?_;by_cases h1:∃x,vs=[x]
 case pos=>
  clear hz km ho seq;obtain⟨x,rfl⟩:=h1;cases ps with
  |nil=>simp at U
  |cons p ps=>
   have:ps=[]:=by simpa using U
   clear U;subst this;refine au (Z 0 p rfl) λu V=>?_;have yD:x= .bytes p u:=by simpa using V
   clear Z V;subst yD;refine az (m:=typeOf _) (en ?_);refine cC (by rfl) (az (ZR (en ?_)));have:=h u s.toks;have e:abB a [p]=p:=by simp[abB]
   rw[e]at this;exact this
 case neg=>
  rw[m3 h1];refine az ?_;rw[Std.Legacy.Range.forIn_eq_forIn_range'];dsimp only[Std.Legacy.Range.size];rw[ady,aaK,Nat.div_one];refine vV _ (λi st=>st.1=(ps.take i).toArray/\∀p∈st.2,p.2=none/\p.1.onHeap=false) ps.length s (λi st Q hi I hQ=>?_) _ 0 _ _ (by rw[KG,U];simp) ⟨rfl,by simp⟩ λst I=>?_
  ·obtain⟨p,Y⟩:∃p,ps[i]? =some p:=⟨ps[i],AL hi⟩;refine au (Z i p Y) λu V=>az (seq ?_);dsimp only;have Kk:(st.2.any λx=>x.1.onHeap)=false:=by
    rw[abx];intro p' z;rw[(I.2 p' z).2];exact BA
   rw[Kk];refine cM (by decide) ?_;have hx:Array.getD (aak vs) i Tg=adf p u:=by rw[ab7];simp only[List.getElem?_toArray];rw[V];rfl
   rw[hx];refine az (n4 (Uu Fw ?_));dsimp only;refine az (seq ?_);dsimp only;refine cM (by simp) (en (hQ _ ⟨?_,?_⟩))
   ·dsimp only;rw[I.1,List.take_add_one,Y];simp
   ·intro p' z;refine g' (aar.mp z) (λz=>?_) λz=>?_
    ·exact I.2 p' z
    ·simp only[aan]at z;subst z;exact⟨rfl,rfl⟩
  ·rw[List.take_length]at I;refine az (m:=Bytes.payload _) (en ?_);rw[I.1];dsimp only;have j1:Z' (ps.toArray.foldl (λx1 x2=>x1+x2.size) (a.size*(ps.toArray.size-1)))=false:=hz;rw[j1,if_neg BA];refine az (m:=mkBytes _) (cM (by exact acI ‹_›) (nd_fresh (en ?_)));refine az (n4 (aaw ?_));refine az (vW _ (λp Y=>(I.2 p Y).1) (en ?_));exact h _ _
noncomputable def jk:List AV->Option (List (List UInt8))
 |[]=>some []
 | .aa i::r=>(jk r).map (i::·)
 |_::_=>none
theorem Q5:jk []=some []:=rfl
theorem Fx:jk (.aa j::r)=(jk r).map (j::·):=rfl
theorem yX{x:AV}{ns:List (List UInt8)}(e:jk (x::xs)=some ns):∃i ms,x= .aa i/\jk xs=some ms/\i::ms=ns:=by
 cases x with
 |aa i=>refine ax (r0.mp (show(jk xs).map (i::·)=some ns from e)) λms hm e=>?_;exact⟨i,ms,rfl,hm,e⟩
 |_=>exact aZ e
theorem Fy{F:fF->Prop}:∀{xs:List AV}{vs:List cz}{ns:List (List UInt8)},bL h F xs vs->jk xs=some ns->vs.length=(ns.map aak).length/\∀(i:Nat)(p:Array UInt8),(ns.map aak)[i]? =some p->∃u,vs[i]? =some (adf p u):=by
 intro xs
 induction xs with
 |nil=>
  intro vs ns r e;subst r;obtain rfl:=gq e;exact⟨rfl,λi p h=>nomatch h⟩
 |cons x xs U=>
  intro vs ns r e;refine bV r ?_;clear r;rintro v ws rfl I V;refine bV (yX e) ?_;clear e;rintro i Z rfl Y rfl;refine au I ?_;clear I;rintro t rfl;refine aX (U V Y) λh1 h2=>⟨by simp only[CV,h1,G0],λi p z=>?_⟩;cases i with
  |zero=>obtain rfl:=gq z;exact⟨t,rfl⟩
  |succ i=>simp only[G0,aae]at z⊢;exact h2 i p z
noncomputable def fj(a:List UInt8):List (List UInt8)->List UInt8
 |[]=>[]
 |[p]=>p
 |p::q::ps=>p++a++fj a (q::ps)
theorem nu:fj a []=[]:=rfl
theorem ny:fj a [p]=p:=rfl
theorem Fz:fj a (p::r::ps)=p++a++fj a (r::ps):=rfl
theorem qL(a:List UInt8):∀(ps:List (List UInt8)),(abB a.toArray (ps.map aak)).toList=fj a ps:=by
 have key:∀(ps:List (List UInt8))(k:Nat)(acc:Array UInt8),(((ps.map aak).zipIdx (k+1)).foldl (λout x=>(if x.2>0 then out++a.toArray else out)++x.1) acc).toList=acc.toList++(ps.map λp=>a++p).flatten:=by
  intro ps
  induction ps with
  |nil=>intro k acc;simp
  |cons p ps ih=>intro k acc;rw[G0,List.zipIdx_cons,abj,ih];simp
 have z:∀(ps:List (List UInt8))(p:List UInt8),fj a (p::ps)=p++(ps.map λp=>a++p).flatten:=by
  intro ps
  induction ps with
  |nil=>intro p;simp[nu,ny]
  |cons r ps ih=>
   intro p;rw[Fz,ih];simp
 intro ps;cases ps with
 |nil=>rfl
 |cons p ps=>rw[z];unfold abB;simp only[G0];rw[List.zipIdx_cons,abj,key];simp
def qM:List AV->Rs AV:=mV λa=>BV λxs=>kP ((jk xs).bind λps=>if Z' ((ps.map aak).toArray.foldl (·+·.size) (a.toArray.size*((ps.map aak).length-1)))=false/\cq (fj a ps).length then aA (.aa (fj a ps))else none)
theorem jl:dD W false fn "bytes.join" qM:=.mk λS F M cur J r s xs vs hS R I z=>by
 refine dX z I λa t xs vs z I=>nt z I λys l V xs vs z Y Z I=>di z I λz=>ax (z0.mp z) λps hn z=>aX (iE z) λU z=>?_;cases z;refine aX (Fy Z hn) λe1 e2=>Nh qK rfl vU ?_ (yW _ _);exact Cn a.toArray t l _ _ _ _ s (ps.map aak) V Y e1 e2 U.1 (by have:=cF U.2;rw[<-qL]at this;simpa using this) λu k=>⟨_,rfl,PE.done (.toks R.stays) (by exact⟨u,by rw[<-qL]⟩)⟩
theorem gg:typeLookup (.type "bytes") "__index__"=pure none:=by rw[ZQ,S2];kernel_rfl
theorem yY:typeNameOfCut 200 (.bytes c u)=pure "bytes":=by kernel_rfl!
theorem tO{M:SW}{Q:Int->ea->Prop}{c:Array UInt8}{u:Tok}(z:A.handled=none)(h:∀h' tk e,Heap.NewExc s.heap h' e "TypeError"->E (.ref e) {s with heap:=h',toks:=tk}):wpAny M A (asIndex (.bytes c u)) Q E s:=by
 have e:asIndex (.bytes c u)=(do match<-callSpecial? (.bytes c u) "__index__"with
  |some (.int i _)=>pure i
  |some r=>
   if let some i<-asInt? r then warnsOfNonInt "__index__" r;letGo [r];return i
   raiseErrorMade "TypeError" s!"__index__ returned non-int (type {← typeNameOfCut 200 r})"
  |none=>raiseErrorMade "TypeError" s!"'{← typeNameOfCut 200 (.bytes c u)}' object cannot be interpreted as an integer"):=by kernel_rfl!
 refine ag e (az (wpAny_callSpecial?_none (T:="bytes") rfl gg ?_));refine ag yY (az (en ?_));exact wpAny_raiseErrorMade plainExc_TypeError z h
theorem rL{M:SW}{Q:adC->ea->Prop}{b c:Array UInt8}{t u:Tok}(z:A.handled=none)(h:∀h' tk,(∀a o,s.heap.get? a=some o->h'.get? a=some o)->Q (.done (.ret (.bool (acv b c 0 b.size).isSome))) {s with heap:=h',toks:=tk}):wpAny M A («bytes.__contains__» ⟨[.bytes b t,.bytes c u],[]⟩) Q E s:=by
 have e:«bytes.__contains__» ⟨[.bytes b t,.bytes c u],[]⟩=(do ret (.bool (<-Bytes.containsIn "bytes.__contains__" (.bytes b t) (.bytes c u)))):=by kernel_rfl!
 refine ag e (az (az (abe (tO z λh' tk e I=>?_))));refine az (Uu abO ?_);refine az (Uu abO ?_);refine az (ZR (en ?_));exact en (h h' tk I.keeps)
def Ob(x c:AV):Rs AV:=Ja (λa=>Ja (λb=>aA (.bool (!(acv b.toArray a.toArray 0 b.toArray.size).isSome))) c) x
theorem tP:jQ W false fn (compareOp .NotIn) Ob:=.mk λS F M cur J r s a b v w z R I hw hg=>by
 refine n8 hg I λa u hg=>n8 hg hw λb V hg=>?_;cases hg;refine aP (az (wpAny_contains_slot (T:="bytes") rfl abA (Nh abA rfl acG ?_ (acx _ _))));refine rL (z.hand rfl) λh' tk U=>⟨_,rfl,?_⟩;refine aat (en λhz=>PE.done (R.kept z U hz) rfl)
noncomputable def oq(x:Str):Bool:=decide (x.length<=65536)
theorem kZ{x:Str}(h:oq x=true):x.length<=sizeLine:=by
 have:x.length<=65536:=by simpa[oq]using h
 exact ag aau (bU ‹_› (by decide))
structure Co(W:Wd)(q:Bool)(fn:ek)(e:u_)(f:St->Rs Str):Prop where
 run:∀S F M cur J r s,S.Ok W fn q->Rel W S fn F M cur J s->f J=some r->
 wpAny (model W.prog W.w) S.A (eval e S.env) (λv s'=>∃x t F',r= .ok x/\Step W s s'/\bP s s' F F'/\v= .str x t) (PX W S s r) s
def Tz:AV->Rs Str
 | .str x=>if oq x then aA x else none
 | .int i=>if i.natAbs.log2<1920 then aA (toString i)else none
 |_=>none
theorem FA(x k pos)(I:oq x=true):Co W q fn (.Constant (.str x) k pos) (λZ=>aA x):=.mk λS F M cur J r s U R z=>by
 cases z;exact wpAny_Constant_str ⟨_,_,F,rfl,.toks R.stays,.refl _ _ _,rfl⟩
theorem xy{e:u_}{g:St->Rs AV}(h:aL W q fn e g):Co W q fn (.FormattedValue e (-1) none pos) (λJ=>bindR (g J) Tz):=.mk λS F M cur J r s I R V=>by
 refine wpAny_FormattedValue_plain (gM V (h.run S F M cur J · s I R) λa h2 v aB af T G z=>?_);clear V;cases a with
 |str x=>
   refine aX (iE h2) λU h2=>?_;cases h2;refine au z ?_;clear z;rintro t rfl;exact wpAny_formatField_str ⟨_,_,aB,rfl,T,G,rfl⟩ ⟨_,_,aB,rfl,T.trans (.toks (R.move I T G).stays),G.trans T.size (t_ _) (.refl _ _ _),rfl⟩ (kZ U)
 |int i=>
   refine aX (iE h2) λU h2=>?_;cases h2;refine au z ?_;clear z;rintro t rfl;exact wpAny_formatField_int U ⟨_,_,aB,rfl,T.trans (.toks (R.move I T G).stays),G.trans T.size (t_ _) (.refl _ _ _),rfl⟩
 |_=>exact aZ h2
theorem vX:Slot "bytes" "__repr__" "bytes.__repr__":=
 .of (owner:="bytes") (n:="__repr__") (by rw[ZQ,S2];kernel_rfl) (by decide+kernel) (by decide+kernel) (by decide+kernel)
  (by first|exact .inl (by decide+kernel)|exact .inr (by decide+kernel)) (by rw[Ut];kernel_rfl)
theorem tQ:entryFor table "bytes.__repr__"=some aaH.«bytes.__repr__»:=Z7 (by kernel_rfl)
theorem vY(a:cz):argsOk "bytes.__repr__" ⟨[a],[]⟩:=by unfold argsOk;kernel_rfl
theorem tR(b:Array UInt8)(t:Tok)(hb:Z' (4*b.size+3)=false):Gives («bytes.__repr__» ⟨[.bytes b t],[]⟩) (.str (aal b)):=by
 have e:«bytes.__repr__» ⟨[.bytes b t],[]⟩=(do retStr (<-acj b)):=by kernel_rfl!
 have z:acj b=pure (aal b):=by
  unfold acj;refine ag (show Z' (4*b.size+3+0)=false from hb) ?_;rfl
 refine ag e (ag z ?_);exact .of_eq rfl
theorem ot{Q:cz->ea->Prop}{b:List UInt8}{t:Tok}(hb:Z' (4*b.toArray.size+3)=false)(z:oq (aal b.toArray)=true)(h:Q (.str (aal b.toArray) s.toks) {s with toks:=s.toks+1}):wpAny (model W.prog W.w) A (pyReprObj (.bytes b.toArray t)) Q E s:=
 wpAny_pyReprObj_gives (T:="bytes") rfl vX tQ (vY _) (tR _ _ hb) h rfl (kZ z)
def Oc:AV->Rs Str:=Ja λb=>if Z' (4*b.toArray.size+3)=false/\oq (aal b.toArray)=true then aA (aal b.toArray)else none
theorem Cp{e:u_}{g:St->Rs AV}(h:aL W q fn e g):Co W q fn (.FormattedValue e 114 none pos) (λJ=>bindR (g J) Oc):=.mk λS F M cur J r s I R U=>by
 refine wpAny_FormattedValue_repr (gM U (h.run S F M cur J · s I R) λa h2 v aB af T G V=>n8 h2 (VR.vh (W:=W) V) λb t h2=>aX (iE h2) λz h2=>?_);clear U;cases h2;refine ot z.1 z.2 ?_;have key:∀k,Step W s {af with toks:=k}:=λk=>T.trans (.toks (R.move I T G).stays);exact wpAny_formatField_str ⟨_,_,aB,rfl,key _,G.trans T.size (t_ _) (.refl _ _ _),rfl⟩ ⟨_,_,aB,rfl,key _,G.trans T.size (t_ _) (.refl _ _ _),rfl⟩ (kZ z.2)
structure xA(W:Wd)(q:Bool)(fn:ek)(es:List u_)(f:Str->St->Rs Str):Prop where
 run:∀S F M cur J r s acc fu (s₀:ea) Q (E:cz->ea->Prop),S.Ok W fn q->Rel W S fn F M cur J s->Step W s₀ s->bP s₀ s fu F->f acc J=some r->
  (∀x F' s',r= .ok x->Step W s₀ s'->bP s₀ s' fu F'->Rel W S fn F' M cur J s'->Q x s')->(∀v s',PX W S s₀ r v s'->E v s')->Joins (model W.prog W.w) S.A E (evalEach es S.env) acc Q s
theorem vZ:xA W q fn [] (λacc Z=>aA acc):=.mk λS F M cur J r s acc fu s₀ Q E V R T G z I U=>by
 clear U;cases z;exact I _ _ _ rfl T G R
theorem ik{e:u_}{es:List u_}{g:St->Rs Str}{f:Str->St->Rs Str}(h:Co W q fn e g)(hs:xA W q fn es f):xA W q fn (e::es) (λacc J=>bindR (g J) λx=>if oq (acc++x)then f (acc++x) J else none):=.mk λS F M cur J r s acc fu s₀ Q E z R T G V Y I=>by
 refine pG (bJ V) ?_ ?_;rotate_left;intro a h1 h2;rotate_right;clear V Y;rintro c h1 rfl
 ·exact fm (h.run S F M cur J _ s z R h1) (λ_ _ ⟨_,_,_,h,_⟩=>by cases h) λZ Z x=>I _ _ ((x.lift T).to yt)
 refine aX (iE h2) λhx h2=>fm (h.run S F M cur J _ s z R h1) (λv af ⟨x,t,aB,h3,U,BH,hv⟩=>?_) λZ Z x=>I _ _ ((x.lift T).to rd);cases h3;exact⟨a,t,hv,kZ hx,hs.run S aB M cur J r af _ fu s₀ Q E z (R.move z U BH) (T.trans U) (G.trans T.size U.size BH) h2 Y I⟩
theorem ow{e e':u_}{es:List u_}{f:Str->St->Rs Str}(hs:xA W q fn (e::e'::es) f):aL W q fn (.JoinedStr (e::e'::es) pos) (λJ=>bindR (f Str.empty J) λx=>if oq x then aA (.str x)else none):=.mk λS F M cur J r s I R z=>by
 refine wpAny_JoinedStr (pG (bJ z) ?_ ?_);rotate_left;intro a h1 h2;rotate_right;clear z;rintro c h1 rfl
 ·exact hs.run S F M cur J _ s Str.empty F s _ _ I R (.refl R.stays) (.refl _ _ _) h1 (λZ Z Z h=>by exfalso;cases h) λZ Z x=>x.to yt
 refine aX (iE h2) λU h2=>?_;clear z;cases h2;refine hs.run S F M cur J _ s Str.empty F s _ _ I R (.refl R.stays) (.refl _ _ _) h1 (λx F' s' h T G V=>?_) λZ Z x=>x.to rd;cases h;exact⟨kZ U,_,F',rfl,T.trans (.toks V.stays),G.trans T.size (t_ _) (.refl _ _ _),by exact⟨_,rfl⟩⟩
section
open PySem.NumText
theorem v5{a:fF}{m:Str->Option cz}(Z:h.Ns a m)(name:Str)(hash:Int)(t:Tok)(v:cz):(h.update a (adg name hash (.str name t) v)).Ns a (λx=>if x=name then some v else m x):=by
 refine Ex Z λo es I U hd V Y=>?_;obtain⟨c,d,dt,sl⟩:=o;subst hd;cases z:es.findIdx? (·.key.isStr name)with
 |some i=>
  refine⟨_,_,I,JP _ U (by simp only[aao,ZS,z];rfl),by simp only[aao,ZS,z];rfl,V.modify _ _,λx=>?_⟩;show _=if x=name then some v else m x
  rw[<-Y];exact findBy_modify (λn v=>v.isStr n) Value.isStr_inj es name x v i z
 |none=>
  refine⟨_,_,I+1,JP _ U (by simp only[aao,ZS,z];rfl),by simp only[aao,ZS,z];rfl,V.push _ _ _ _,λx=>?_⟩;show _=if x=name then some v else m x
  rw[<-Y];exact findBy_push (λn v=>v.isStr n) es name x _ _ v (λy=>by
   show(name==y)=decide (y=name);by_cases h:y=name
   ·clear z;subst h;simp
   ·have:¬name=y:=λe=>h e.symm;simp[h,this]) z
noncomputable def oy(b:List UInt8):Option Int:=
 (digits? 10 (core (b.map (·.toNat)))).map λds=>if(sign ((b.map (·.toNat)).dropWhile blank)).1 then-((ds.foldl (λacc d=>acc*10+d) 0:Nat):Int)else((ds.foldl (λacc d=>acc*10+d) 0:Nat):Int)
noncomputable def bX(b:List UInt8):Bool:=decide (b.length<=200)&&b.all λc=>decide (0<c.toNat/\c.toNat<128)
theorem bX.len{b:List UInt8}(h:bX b=true):b.length<=200:=by simp only[bX,v3,decide_eq_true_eq]at h;exact h.1
theorem bX.oct{b:List UInt8}(h:bX b=true):∀c∈b,0<c.toNat/\c.toNat<128:=by
 simp only[bX,v3,Y',decide_eq_true_eq]at h;exact h.2
theorem bX.seen{b:List UInt8}(h:bX b=true):(b.map (·.toNat)).takeWhile (· !=0)=b.map (·.toNat):=by
 have:=bX.oct h;clear h
 induction b with
 |nil=>rfl
 |cons c b ih=>
  have z:=this c (T4 ..);exact ag G0 (ag List.takeWhile_cons (ag (if_pos (by simp;lia)) (ag (ih λd hd=>this d (AM _ hd)) rfl)))
theorem yZ{b:List UInt8}{n:Int}(h:bX b=true)(z:oy b=some n):(int_private%"readNumeral") 0 10 (b.map (·.toNat))=(int_private%"Numeral.value") n:=by
 unfold oy at z;refine ax (r0.mp z) ?_;clear z;rintro ds hd rfl;rw[readNumeral_ten,hd];have hz:ds.size<=200:=bU (digits_size hd) (bU (core_length _) (by rw[ro];exact bX.len h));unfold judge;have h6:¬ds.size>6000:=by lia
 simp[h6]
theorem y7{b:List UInt8}(z:oy b=none):(int_private%"readNumeral") 0 10 (b.map (·.toNat))=(int_private%"Numeral.invalid"):=by
 unfold oy at z;rw[acW]at z;rw[readNumeral_ten,z];rfl
theorem qN:typeLookup (.type "bytes") "__int__"=pure none:=by rw[ZQ,S2];kernel_rfl
theorem mK:typeLookup (.type "bytes") "__trunc__"=pure none:=by rw[ZQ,S2];kernel_rfl
set_option maxHeartbeats 4000000 in
theorem y8{M:SW}{Q:adC->ea->Prop}{b:List UInt8}{t:Tok}(h:wpAny M A ((int_private%"intFromText") (.bytes b.toArray t) (b.map (·.toNat)) 10) (λv s'=>Q (.done (.ret v)) s') E s):wpAny M A (aaH.«int.__new__» ⟨[.type "int",.bytes b.toArray t],[]⟩) Q E s:=by
 obtain⟨I,g,d,tk,os⟩:=s;have U:=F.conv_sub_int;have V:=F.madeHere_int;have Y:=qN;have f4:=gg;have f5:=mK;have f6:typeOf (.bytes b.toArray t)=pure (.type "bytes"):=rfl;have z:=KIN.Hid.mk h;clear h
 repeat (any_goals (first
  |assumption
  |((with_reducible show wpAny _ _ ((int_private%"intFromText") _ _ _) _ _ _);refine fm z.out (λv s' hq=>?_) (λZ Z x=>x))
  |wp_step))
set_option maxHeartbeats 1000000 in
def TB:List AV->Rs AV:=mV λb=>kP (if bX b=true then(match oy b with
  |some n=>aA (.int n)
  |none=>if Z' (4*b.toArray.size+3)=false/\oq (aal b.toArray)=true then some (.error (.type "ValueError"))else none)else none)
theorem y9(b:List UInt8)(hb:bX b=true):((b.map (·.toNat)).takeWhile (· !=0)).length<=640:=by rw[bX.seen hb,ro];have:=bX.len hb;exact bU ‹_› (by decide)
end
theorem Cq:isSubtype (.type "ValueError") (.type "BaseException")=pure true:=by rw[Ut];kernel_rfl
theorem FC:isSubtype (.type "ValueError") (.type "type")=pure false:=by rw[Ut];kernel_rfl
section
variable {M:SW}
variable {nm q:Str} {C N:fF} {bs bm:List cz} {hdct:Bool} {sn:List Str} {sub:List cz} {ab:Bool} {col:Option Bool} {dd:Option fF} {k0 k1 k2 k3 k5:Option cz} {newId:String}
theorem v7{e:fF}{oe:Obj}{cm:String}{Q:cz->ea->Prop}(I:s.heap.get? e=some oe)(z:oe.cls= .type "ValueError"){vs:Array cz}(hd:oe.data= .fields vs)(U:Q (.ref e) s):wpAny M A (excFromValue (.ref e) cm) Q E s:=by
 have V:=Cq;have Y:=FC;obtain⟨h,g,d,t,os⟩:=s;obtain⟨Z,od,TC,Q6⟩:=oe;simp only at z hd;subst z hd;unfold excFromValue isExcClass
 repeat (any_goals (first|assumption|with_reducible refine aax I ?_|wp_step))
theorem tS{e:fF}{oe:Obj}{cm:String}{Q:cz->ea->Prop}(U:bm.contains (.type "BaseException")=true)(z:s.heap.get? C=some (excClassObj nm q C N bs bm hdct sn sub ab col dd k0 k1 k2 k3 k5 newId))(V:s.heap.get? e=some oe)(I:oe.cls= .ref C){vs:Array cz}(hd:oe.data= .fields vs)(Z:Q (.ref e) s):wpAny M A (excFromValue (.ref e) cm) Q E s:=by
 have Y:(V9 C::bm).contains (.type "BaseException")=true:=by rw[List.contains_cons,U,Bool.or_true]
 obtain⟨h,g,d,t,os⟩:=s;obtain⟨oc,od,TC,Q6⟩:=oe;simp only at I hd;subst I hd;unfold excFromValue isExcClass
 repeat (any_goals (first|assumption|with_reducible refine aax V ?_|with_reducible refine aax z ?_|(with_reducible refine wpAny_isSubtype_exc z ?_;refine ag Y ?_)|wp_step))
theorem oz{e:fF}{oe:Obj}{Q:cz->ea->Prop}(I:s.heap.get? C=some (excClassObj nm q C N bs bm hdct sn sub ab col dd k0 k1 k2 k3 k5 newId))(U:s.heap.get? e=some oe)(z:oe.cls= .ref C){vs:Array cz}(hd:oe.data= .fields vs)(V:Q (.ref e) s):wpAny M A (raisedInstance (.ref e)) Q E s:=by
 obtain⟨h,g,d,t,os⟩:=s;obtain⟨Y,Z,TC,Q6⟩:=oe;simp only at z hd;subst z hd;unfold raisedInstance
 repeat (any_goals (first|assumption|with_reducible refine aax U ?_|with_reducible refine aax I ?_|wp_step))
theorem Cr{e:fF}{oe:Obj}{vs:Array cz}{Q:Bool->ea->Prop}(z:s.heap.get? e=some oe)(hd:oe.data= .fields vs)(I:Q false s):wpAny M A (isType (.ref e)) Q E s:=by
 obtain⟨h,g,d,t,os⟩:=s;obtain⟨U,V,Y,Z⟩:=oe;simp only at hd;subst hd
 repeat (any_goals (first|assumption|with_reducible refine aax z ?_|wp_step))
end
theorem p3:entryFor table "proto.unchain"=some aaH.«proto.unchain»:=Z7 (by kernel_rfl)
section
variable {w:aab}
variable {nm q:Str} {C N:fF} {bs bm:List cz} {hdct:Bool} {sn:List Str} {sub:List cz} {ab:Bool} {col:Option Bool} {dd:Option fF} {k0 k1 k2 k3 k5:Option cz} {newId:String}
theorem rM{e:fF}{oe:Obj}{vs:Array cz}{v:cz}{Q:cz->ea->Prop}(z:s.heap.get? e=some oe)(hd:oe.data= .fields vs)(h2:vs[2]? =some .none)(I:Q .none s):wpAny (model prog w) A (runValue (.builtin "proto.unchain" ⟨[v,.ref e,.ref e,.bool false],[]⟩)) Q E s:=by
 refine wpAny_runValue (codeAny_builtin p3 ?_);unfold «proto.unchain»;refine az (m:=field _ _) (T9 z hd h2 ?_);exact cC (by rfl) (en I)
theorem v8{x c:Sem cz}{e:fF}{Q:Flow->ea->Prop}(dP:bm.contains (.type "BaseException")=true)(hh:A.handled=some (.ref e))(h:wpAny (model prog w) A x (λv af=>∃z,v= .ref z/\wpAny (model prog w) A c (λcv s₂=>cv= .ref e/\e≠z/\s₂.heap.get? C=some (excClassObj nm q C N bs bm hdct sn sub ab col dd k0 k1 k2 k3 k5 newId)/\(∃t,s₂.heap.get? z=some {cls:=.ref C,data:=.fields #[.ref t,.none,.none,.none,.bool false,.none]})/\(∃oe vs,s₂.heap.get? e=some oe/\oe.cls= .type "ValueError"/\oe.data= .fields vs/\vs[2]? =some .none)/\∀h' t,NC z s₂.heap h'->h'.get? z=some {cls:=.ref C,data:=.fields #[.ref t,.none,.ref e,.ref e,.bool true,.none]}->E (.ref z) {s₂ with heap:=h'}) E af) E s):wpAny (model prog w) A (raiseStmt env (some x) (some c)) Q E s:=by
 refine az (fm h (λv af I=>?_) λZ Z x=>x);refine ax I ?_;clear I;rintro z rfl I;refine az (n4 (fm I (λcv s₂ c7=>az (en ?_)) λZ Z x=>x));refine ML c7 ?_;clear c7;rintro rfl gu U y0 y1 hE;refine au y0 λt V=>?_;clear y0;refine bF y1 λoe vs he hc hd h2=>?_;clear y1;refine az (n4 (tS dP U V rfl rfl ?_));dsimp only;refine cM (by simp) (az (n4 (v7 he hc hd ?_)));refine az (ZX V rfl (by simp) ?_);have a1:=JP (OE (·.setIfInBounds 3 (V9 e))) V rfl;have b1:NC z s₂.heap (s₂.heap.update z (OE (·.setIfInBounds 3 (V9 e)))):=ZJ ..;generalize s₂.heap.update z (OE (·.setIfInBounds 3 (V9 e)))=Y at a1 b1;refine az (ZX a1 rfl (by simp) ?_);have a2:=JP (OE (·.setIfInBounds 4 (abo true))) a1 rfl;have b2:NC z Y (Y.update z (OE (·.setIfInBounds 4 (abo true)))):=ZJ ..;show wpAny _ _ _ _ _ {s₂ with heap:=Y.update z (OE (·.setIfInBounds 4 (abo true)))};generalize Y.update z (OE (·.setIfInBounds 4 (abo true)))=H2 at a2 b2;have b3:=b1.trans b2;have XR:C≠z:=λq=>by rw[q,V]at U;revert U;refine bc λe=>?_;cases e
 have XS:=(b3.2 C XR).trans U;refine az (Cr a2 rfl ?_);refine ag (if_neg BA) (az (oz XS a2 rfl rfl ?_));refine az (az (T9 a2 rfl (by rfl) ?_));refine cM (by simp) (en (az (wpAny_handled ?_)));refine ag hh ?_;dsimp only;refine cC (by simp[gu]) ?_;have XT:H2.get? e=some oe:=(b3.2 e gu).trans he;refine az (n4 (rM XT hd h2 ?_));refine az (ZX (a:=z) a2 rfl (by simp) (ac8 ?_));have a4:=JP (OE (·.setIfInBounds 2 (V9 e))) a2 rfl;exact hE _ t (b3.trans (ZJ ..)) a4
theorem mW{B initId:String}{BJ:List cz}(F:acT B newId initId BJ)(dP:bm.contains (.type "BaseException")=true){mN:Str->Option cz}{x:Str}{args:List u_}{ce:u_}{e:fF}{Q:Flow->ea->Prop}(hh:A.handled=some (.ref e))(gh:(backTo cB (starEach args env)).any (·.1)=false)(JW:mN "__init__"=none)(h:wpAny (model prog w) A (eval (.Name x np) env) (λf af=>f= .ref C/\wpAny (model prog w) A (evalArgs (.ref C) true (backTo cB (starEach args env)) []) (λa s₂=>a.kw=[]/\a.pos.length<=sizeLine/\s₂.heap.get? C=some (excClassObj nm q C N bs bm hdct sn sub ab col dd k0 k1 k2 k3 k5 newId)/\s₂.heap.Ns N mN/\OwnTail s₂.heap BJ bm/\∀h' z,Heap.MadeExcOf s₂.heap h' z (.ref C) a.pos->wpAny (model prog w) A (eval ce env) (λcv aK=>cv= .ref e/\e≠z/\aK.heap.get? C=some (excClassObj nm q C N bs bm hdct sn sub ab col dd k0 k1 k2 k3 k5 newId)/\(∃t,aK.heap.get? z=some {cls:=.ref C,data:=.fields #[.ref t,.none,.none,.none,.bool false,.none]})/\(∃oe vs,aK.heap.get? e=some oe/\oe.cls= .type "ValueError"/\oe.data= .fields vs/\vs[2]? =some .none)/\∀h' t,NC z aK.heap h'->h'.get? z=some {cls:=.ref C,data:=.fields #[.ref t,.none,.ref e,.ref e,.bool true,.none]}->E (.ref z) {aK with heap:=h'}) E {s₂ with heap:=h'}) E af) E s):wpAny (model prog w) A (exec (.Raise (some (.Call (.Name x np) args [] cB)) (some ce) pos) env) Q E s:=by
 rw[arm_exec_Raise];refine az (IW (v8 (C:=C) (nm:=nm) (q:=q) (N:=N) (bs:=bs) (bm:=bm) (hdct:=hdct) (sn:=sn) (sub:=sub) (ab:=ab) (col:=col) (dd:=dd) (k0:=k0) (k1:=k1) (k2:=k2) (k3:=k3) (k5:=k5) (newId:=newId) dP hh ?_));refine az (fm (ZY (fm h (λf af U=>?_) λZ Z x=>x)) (λv aK Y=>az (IW (en Y))) λZ Z x=>x);refine aX U ?_;clear U;rintro rfl U;refine az (n4 (fm U (λa s₂ V=>az (IW ?_)) λZ Z x=>x));obtain⟨apos,XU⟩:=a;refine ML V ?_;clear V;intro Kl I hC hn hT V;obtain rfl:XU=[]:=Kl;obtain⟨hp,g,d,tk,os⟩:=s₂;rw[gh];refine az (wpAny_keeperOf_exc hC ?_);refine az (wpAny_call_exc_subT (hrest:=I) F hT hC hn JW λh' z hm=>az (n4 (aaw (en ?_))));refine⟨z,rfl,?_⟩;exact az (fm (V h' z hm) (λv aK Y=>az (IW (en Y))) λZ Z x=>x)
end
theorem mX{B newId initId:String}{V bm:List cz}(X:acT B newId initId V)(Y:OwnTail W.base V bm){nm qn:Str}{C N:fF}{bs:List cz}{hdct:Bool}{sn:List Str}{sub:List cz}{ab:Bool}{col:Option Bool}{dd:Option fF}{k0 k1 k2 k3 k5:Option cz}{mN:Str->Option cz}{x n:Str}{Cs p1 p2:Pos}(hC:W.base.get? C=some (excClassObj nm qn C N bs bm hdct sn sub ab col dd k0 k1 k2 k3 k5 newId))(hN:W.base.Ns N mN)(JW:mN "__init__"=none)(hn:aL W true fn (.Name x np) (λZ=>aA (.ref C)))(hi:fn.names[i]? =some n)(hk:fn.scope.names.lookup n=some .local)(BQ:(n==("__debug__":Str))=false){F:fF->Prop}{e:fF}(z:S.Ok W fn true)(R:Rel W S fn F M cur J s)(hh:S.A.handled=some (.ref e))(ck:cur n=some (.ref e))(JY:¬W.loose e)(he:∃oe vs,s.heap.get? e=some oe/\oe.cls= .type "ValueError"/\oe.data= .fields vs/\vs[2]? =some .none):wpAny (model W.prog W.w) S.A (exec (.Raise (some (.Call (.Name x np) [.Name n p1] [] cB)) (some (.Name n p2)) Cs) S.env) (λZ Z=>False) (i9 W S fn F M s (.ex (.ref C) J)) s:=by
 have hp:a7 [Expr.Name n p1]=true:=rfl;refine gW (aP ?_);refine mW X (Y.hasType X.hasBase) (C:=C) (nm:=nm) (q:=qn) (N:=N) (bs:=bs) (bm:=bm) (hdct:=hdct) (sn:=sn) (sub:=sub) (ab:=ab) (col:=col) (dd:=dd) (k0:=k0) (k1:=k1) (k2:=k2) (k3:=k3) (k5:=k5) (newId:=newId) (e:=e)
  (mN:=mN) hh (plain_any _ S.env cB hp) JW ?_
 refine w8 (hn.run S F M cur J _ s z R rfl) λf aB af T G hv=>?_;subst hv;refine⟨rfl,bM hp ?_⟩;have aI:=R.move z T G;have EJ:S.env.scope.kind= .function:=by refine ag z.scope ?_;exact z.kind
 have nj:S.env.kindOf n=some .local:=by show S.env.scope.names.lookup n=_;exact ag z.scope hk
 have nm:∀{s₂:ea}{Q:cz->ea->Prop}{E:cz->ea->Prop}{p:Pos},(∀b o,af.heap.get? b=some o->s₂.heap.get? b=some o)->Q (.ref e) s₂->wpAny (model W.prog W.w) S.A (eval (.Name n p) S.env) Q E s₂:=λ{s₂ Q E p} k hq=>by
  refine ax aI.ns λm dG I=>?_;rw[<-z.locals]at dG;exact Z6 (wpAny_loadName_local EJ nj (iC (λo ho=>⟨o.slots,k _ o ho⟩) dG) ((I n nj).trans ck) hq) BQ
 refine acA (nm (λZ Z h=>h) (ac0 ?_)) rfl;refine⟨rfl,by refine ag aau ?_;show 1<=16777216;decide,T.stays _ _ hC,hN.keeps T.stays,Y.keeps T.stays,λh' U I=>?_⟩;have kp:∀b o,af.heap.get? b=some o->h'.get? b=some o:=I.keeps;refine nm kp (bF he λoe vs XW XX XY Mm=>au (T.slots e oe JY XW) λsl Ct=>?_);have gu:e≠U:=λh=>by have h1:af.heap.get? U=none:=I.new;rw[<-h,Ct]at h1;exact z9 h1
 refine iQ I.there λt ht Z Z=>⟨rfl,gu,kp _ _ (T.stays _ _ hC),⟨t,ht⟩,⟨_,vs,kp _ _ Ct,XX,XY,Mm⟩,λc7 S4 bO hg hz gF=>?_⟩;have Od:∀b o,af.heap.get? b=some o->c7.get? b=some o:=λb o hb=>(bO.2 b λh=>by have h1:af.heap.get? U=none:=I.new;rw[<-h,hb]at h1;exact z9 h1).trans (kp b o hb);exact(rx (α:=AV) (t:=af.toks) z R T Od hz I.new hg rfl rfl ⟨by simp,λZ h=>by exfalso;cases h⟩ rfl gF).st z R sJ
noncomputable def iK(J:St):St:=aaV J.length .un
theorem iq(J:St)(j:Nat):(iK J).getD j .un= .un:=by
 refine ag (ra) (ag (abt) ?_);split<;>rfl
theorem Rel.forget{F:fF->Prop}{t:Nat}{V:Str->Option cz}(hS:S.Ok W fn q)(R:Rel W S fn F M cur J s)(Y:h'.Ns S.C V)(bO:NC S.C s.heap h'):∃aC,Rel W S fn F M aC (iK J) {s with heap:=h',toks:=t}:=by
 refine ax R.ns λm hn hm=>dh (id hn) λo es ep ho hd Z=>⟨λy=>if S.env.kindOf y=some .cell then cur y else V y,(R.write hS R.frame.2 bO (λI e=>?_) (λZ h=>h) (λZ h=>.inl h) ?_ ⟨V,Y,λy U=>?_⟩ (λy U=>?_) (by simp[iK]) (λj y hj=>?_) (λj k y z hj hk EV h1 h2=>?_) (λZ h h'=>absurd h h') (by refine dh Y λo2 Q7 Q8 q1 q2 Z=>?_;exact⟨o2,q1,by rintro⟨ws,h3,_⟩;rw[q2]at h3;exfalso;cases h3⟩)).1⟩
 ·rw[ho]at e;revert e;refine bc λe=>?_;subst e;rintro⟨vs,h1,_⟩;rw[hd]at h1;exfalso;cases h1
 ·by_cases e:S.L=S.C
  ·exact dh Y λI pS rq h1 h2 Z=>⟨I,pS,rq,e▸h1,h2⟩
  ·exact ft R.top λI pS rq h1 h2=>⟨I,pS,rq,(bO.2 S.L e).trans h1,h2⟩
 ·rw[if_neg (by rw[U];intro h;revert h;refine bc λe=>?_;cases e)]
 ·refine bF (R.cells y U) λc I h1 h2 h3 h4=>⟨c,I,h1,h2,(bO.2 c λe=>?_).trans h3,by refine ag (if_pos U) ?_;exact h4⟩;rw[e,ho]at h3;revert h3;refine bc λe=>?_;subst e;rw[hd]at h4;exfalso;cases h4
 ·rw[iq];trivial
 ·rw[iq]at h1;exfalso;cases h1
def rN(g oe:St->Option Ou)(m:cz->Option Bool)(C:cz)(J:St):Option Ou:=
 match g J with
 |some (.next ak)=>oe ak
 |some (.ex c ak)=>if m c=some true/\c= .type "ValueError"then some (.ex C (iK ak))else none
 |r=>r
section
set_option backward.match.sparseCases true
section
variable {M:SW}
theorem oA{st:aaa}{rest:List aaa}{Q:Flow->ea->Prop}(h:bH M A (exec st env) (λf s'=>match f with| .next=>bH M A (execs rest env) Q E s'|f=>Q f s') E s):bH M A (execs (st::rest) env) Q E s:=by
 rw[execs_cons];refine aq (aV h (λf s' h'=>?_) λZ Z x=>x);cases f<;>first|exact h'|exact bf h'
theorem mY{e:u_}{Q:Flow->ea->Prop}(h:bH M A (eval e env) (λv=>Q (.ret v)) E s):bH M A (exec (.Return (some e) pos) env) Q E s:=by
 rw[exec_Return_some];exact aq (br (aq (aV h (λZ Z x=>bf x) λZ Z x=>x)))
theorem mZ{x:Str}{z:Pos}{Q:Flow->ea->Prop}(h:bH M A (eval value env) (λv af=>wpAny M A (storeName env x v) (λZ=>Q .next) E af) E s)(hs:swapsWith value (some (.Name x z)) pos.line env=pure false):bH M A (exec (.Assign [.Name x z] value pos) env) Q E s:=by
 refine ag (exec_Assign_Name env x z value pos hs) (aq (br (aq (aV h (λv af I=>aq (br (aq (.of (wpAny_bindName (fm I (λZ Z x=>?_) λZ Z x=>x)))))) λZ Z x=>x))));exact bf x
theorem l5{elts:List u_}{z:Pos}{Q:Flow->ea->Prop}(h:bH M A (eval value env) (λv af=>wpAny M A (assign (.Tuple elts k z) env v) (λZ=>Q .next) E af) E s)(hs:swapsWithSole [.Tuple elts k z] value pos.line env=pure false)(hw:swappedStores [.Tuple elts k z] value env=pure none):bH M A (exec (.Assign [.Tuple elts k z] value pos) env) Q E s:=by
 rw[exec_Assign];refine aq (br ?_);rw[hs];refine aq (bf ?_);rw[if_neg (by decide)];refine aq (aV h (λv af I=>?_) λZ Z x=>x);rw[hw];refine aq (bf (.of ?_));show wpAny M A (do assignAll v [assign (.Tuple elts k z) env];pure .next) Q E af;exact az (fm I (λZ Z x=>en x) λZ Z x=>x)
theorem y_{test body orelse:u_}{Q:cz->ea->Prop}(h:wpAny M A (isTrue test env (eval test env)) (λb af=>if b then bH M A (eval body env) Q E af else bH M A (eval orelse env) Q E af) E s):bH M A (eval (.IfExp test body orelse pos) env) Q E s:=by
 rw[arm_eval_IfExp];refine aq (.of (fm h (λb af z=>?_) λZ Z x=>x));cases b<;>exact z
theorem za{elts:List u_}{Q:cz->ea->Prop}(h:bH M A (spliced (backTo pos (starEach elts env))) (λvs af=>vs.length<=sizeLine/\Q (.ref af.heap.objs.size) {af with heap:=af.heap.push {cls:=.type "tuple",data:=.seq vs.toArray}}) E s):bH M A (eval (.Tuple elts k pos) env) Q E s:=by
 rw[arm_eval_Tuple];exact aq (br (aq (aV h (λvs af z=>.of (Xt z.2 (by show vs.toArray.size<=sizeLine;rw[KG];exact z.1))) λZ Z x=>x)))
theorem oE{e:u_}{rest:List u_}{Q:List cz->ea->Prop}(h:bH M A (eval e env) (λv af=>bH M A (spliced (backTo pos (starEach rest env))) (λvs s₂=>Q (v::vs) s₂) E af) E s)(I:starEach (e::rest) env=(false,eval e env)::starEach rest env):bH M A (spliced (backTo pos (starEach (e::rest) env))) Q E s:=by
 refine ag I ?_;show bH M A (do
  let v<-eval e env
  let z<-(pure [v]:Sem (List cz))
  return z++(<-holding z (spliced (backTo pos (starEach rest env))))) Q E s
 exact aq (aV h (λv af U=>aq (bf (aq (c8 (aV U (λvs s₂ V=>bf V) λZ Z x=>x))))) λZ Z x=>x)
theorem iL{x:Str}{args:List u_}{z:List Keyword}{Q:cz->ea->Prop}(h:wpAny M A (eval (.Name x np) env) (λf af=>bH M A (callWith pos f [] (backTo pos (starEach args env)) (backToKw pos (keywordEach z env))) Q E af) E s):bH M A (eval (.Call (.Name x np) args z pos) env) Q E s:=by
 exact aq (.of h)
end
section
variable {prog:abf} {w:aab} {A:XQ} {E:cz->ea->Prop} {R:aaR->ea->Prop} {s:ea} {env:Env}
theorem v9
  (h:bH (model prog w) (A.deeper env) (execs body env) (λf s'=>R (.ok (.ret (match f with| .ret v=>v|_=>.none))) s')
   (λe s'=>wpAny (model prog w) (A.deeper env) (leaving env e) (λZ cR=>R (.error e) cR) (λe' cR=>R (.error e') cR) s') s):ey (model prog w) A (.func body env) R s:=by
 refine cH ?_;show bH _ (A.deeper env) (do point;match<-(execs body env).onRaise (leaving env)with| .ret v=>ret v|_=>ret .none) _ _ s;refine aq (.of (aaw (aq (sV (aV h (λf s' h'=>?_) λZ Z h'=>.of h')))));cases f<;>exact bf h'
theorem jM{a:fF}{args:Args}(U:A.depth<recursionLimit)(V:s.heap.get? a=some o)(Y:o.data= .func fd)(mS:fd.scope.isCoroutine=false)(f_:fd.scope.isGenerator=false)(dS:fd.body= .stmts body)(jb:s.heap.CodeRec fd.code fd.qualname)(h:wpAny (model prog w) A.in1 (bindArgs fd args) (λbinds af=>wpAny (model prog w) A.in1 (newFunctionEnv fd.scope fd.globals fd.closure binds (fd.qualname++".<locals>.") (some a) fd.code none fd.builtins) (λenv s₂=>s₂.heap.NoLimit/\ey (model prog w) A (.func body env) R s₂) (λe s'=>R (.error e) s') af) (λe s'=>R (.error e) s') s):ey (model prog w) A (.call (.ref a) args) R s:=by
 refine cH ?_;show bH _ A.in1 (callAny (.ref a) args) _ _ s;refine aq (.of (abn V ?_));refine z6 jb λc oc vs tq z yq zR hq=>?_;rw[z]at h;rw[Y];show bH _ _ (callFunction _ _ _) _ _ _;unfold callFunction;rw[mS,f_,dS,z];refine aq (m:=field (.ref c) 1) (.of (T9 yq zR hq (aq (bf ?_))));exact aq (.of (fm h (λbinds af aF=>aq (.of (fm aF (λenv s₂ I=>aq (.of (wpAny_enterFrame I.1 U (bf (And.intro rfl I.2))))) λZ Z h'=>h'))) λZ Z h'=>h'))
theorem jm{z:ExceptHandler}{hs:List ExceptHandler}{Q:Flow->ea->Prop}
  (h:bH (model prog w) A (execs body env) (λf af=>match f with| .next=>wpAny (model prog w) A (execs orelse env) Q E af|f=>Q f af)
   (λe af=>wpAny (model prog w) A (noteFrame e env) (λZ s₂=>wpAny (model prog w) A (setFlight e none) (λZ aK=>wpAny (model prog w) A (handleBy e env (z::hs)) Q E aK) E s₂) E af) s):
  bH (model prog w) A (exec (.Try body (z::hs) orelse [] pos) env) Q E s:=by
 rw[arm_exec_Try];refine aq (br ?_);refine aq (iV (aV h (λf af I=>?_) λe af I=>.of ?_))
 ·cases f<;>first|exact .of I|exact bf I
 ·exact az (fm I (λZ Z U=>az U) λZ Z x=>x)
end
end
section
variable (W:Wd) (q:Bool) (fn:ek)
structure RE(e:u_)(f:St->Rs AV):Prop where
 run:∀S F M cur J r s,S.Ok W fn q->Rel W S fn F M cur J s->f J=some r->bH (model W.prog W.w) S.A (eval e S.env) (PE W F s r) (PX W S s r) s
structure RL(es:List u_)(f:St->Rs (List AV)):Prop where
 run:∀S F M cur J r s pos,S.Ok W fn q->Rel W S fn F M cur J s->f J=some r->bH (model W.prog W.w) S.A (spliced (backTo pos (starEach es S.env))) (PL W F s r) (PX W S s r) s
structure RS(st:aaa)(f:St->Option Ou):Prop where
 run:∀S F M cur J r s,S.Ok W fn q->Rel W S fn F M cur J s->f J=some r->bH (model W.prog W.w) S.A (exec st S.env) (PS W S fn F M s r) (i9 W S fn F M s r) s
structure RB(st:List aaa)(f:St->Option Ou):Prop where
 run:∀S F M cur J r s,S.Ok W fn q->Rel W S fn F M cur J s->f J=some r->bH (model W.prog W.w) S.A (execs st S.env) (PS W S fn F M s r) (i9 W S fn F M s r) s
end
theorem Oe{M:SW}{t:Sem α}{Q:α->ea->Prop}(h:∀(z:α->ea->Prop)(I:cz->ea->Prop),(∀a s',Q a s'->z a s')->(∀x s',E x s'->I x s')->bH M A t z I s):bH M A t Q E s:=h Q E (λZ Z h=>h) λZ Z h=>h
theorem Of{F:fF->Prop}{Rl:ZN->(fF->Prop)->α->β->Prop}{t:Sem β}{a:α}{Q:β->ea->Prop}{N:SW}(h:bH N A t (PG Rl W F s (.ok a)) (PX W S s (.ok a)) s)(k:∀v F' s',Step W s s'->bP s s' F F'->Rl s'.heap F' a v->Q v s'):bH N A t Q E s:=
 aV h (λv s' x=>by cases x with|mk a F' e T G z=>cases e;exact k v F' s' T G z) λZ Z x=>x.no
theorem Km{F:fF->Prop}{Rl:ZN->(fF->Prop)->α->β->Prop}{t:Sem β}{x:Rs α}{g:α->Rs γ}{r:Except cz γ}{Q:β->ea->Prop}{N:SW}(z:bindR x g=some r)(h:∀r1,x=some r1->bH N A t (PG Rl W F s r1) (PX W S s r1) s)(k:∀a,g a=some r->∀v F' s',Step W s s'->bP s s' F F'->Rl s'.heap F' a v->Q v s'):bH N A t Q (PX W S s r) s:=by
 rcases x with _|(c|a)
 ·exact aZ z
 ·exact aV (h _ rfl) (λZ Z h=>h.no) λZ Z x=>x.to λc h=>(gq z).symm.trans (yt c h)
 ·exact Of (h _ rfl) λv F' s' T G I=>k a z v F' s' T G I
theorem Kn{F:fF->Prop}{Rl:ZN->(fF->Prop)->α->β->Prop}{t:Sem β}{x:Rs α}{g:α->Option Ou}{r:Ou}{Q:β->ea->Prop}{N:SW}(I:S.Ok W fn q)(R:Rel W S fn F M cur J s)(z:aU x J g=some r)(h:∀r1,x=some r1->bH N A t (PG Rl W F s r1) (PX W S s r1) s)(k:∀a,g a=some r->∀v F' s',Step W s s'->bP s s' F F'->Rl s'.heap F' a v->Q v s'):bH N A t Q (i9 W S fn F M s r) s:=by
 rcases x with _|(c|a)
 ·exact aZ z
 ·exact aV (h _ rfl) (λZ Z h=>h.no) λZ Z x=>x.st I R λc h=>(gq z).symm.trans (sJ c h)
 ·exact Of (h _ rfl) λv F' s' T G U=>k a z v F' s' T G U
theorem aL.r{e:u_}{f:St->Rs AV}(h:aL W q fn e f):RE W q fn e f:=.mk λS F M cur J r s z R I=>.of (h.run S F M cur J r s z R I)
theorem fG.r{e:List u_}{f:St->Rs (List AV)}(h:fG W q fn e f):RL W q fn e f:=.mk λS F M cur J r s pos z R I=>.of (h.run S F M cur J r s pos z R I)
theorem aR.r{e:aaa}{f:St->Option Ou}(h:aR W q fn e f):RS W q fn e f:=.mk λS F M cur J r s z R I=>.of (h.run S F M cur J r s z R I)
theorem c5.r{e:List aaa}{f:St->Option Ou}(h:c5 W q fn e f):RB W q fn e f:=.mk λS F M cur J r s z R I=>.of (h.run S F M cur J r s z R I)
theorem Q9{F:fF->Prop}{t:Sem cz}{z:Except cz AV}{r:Except cz β}{Q:cz->ea->Prop}(h:bH (model W.prog W.w) A t (PE W F s z) (PX W S s z) s)(I:∀c,z= .error c->r= .error c)(k:∀a v F' s',z= .ok a->Step W s s'->bP s s' F F'->VR s'.heap F' a v->Q v s'):bH (model W.prog W.w) A t Q (PX W S s r) s:=
 aV h (λv s' ⟨a,F',h1,h2,h3,h4⟩=>k a v F' s' h1 h2 h3 h4) λZ Z x=>x.to I
theorem PX.oH{M:SW}{t:Sem α}{Q:α->ea->Prop}{r:Except cz β}(T:Step W s af)(h:bH M A t Q (PX W S af r) af):bH M A t Q (PX W S s r) af:=aV h (λZ Z x=>x) λZ Z x=>x.lift T
theorem aE{st:aaa}{rest:List aaa}{f g:St->Option Ou}(h:RS W q fn st f)(hs:RB W q fn rest g):RB W q fn (st::rest) (λJ=>bu (f J) g):=.mk λS F M cur J r s Y R z=>by
 refine oA ?_;rcases I:f J with _|o
 ·simp[I,bu]at z
 refine aV (h.run S F M cur J o s Y R I) (λfl s' hp=>?_) λx s' hx=>?_
 ·refine hp.el λF' M' aC ak V T' U=>?_;clear hp;cases fl with
  |next=>
   subst U;simp only[I,bu]at z;exact aV (hs.run S F' M' aC ak r s' Y V z) (λZ Z x=>x.lift T') λZ Z x=>x.lift T'
  |brk=>subst U;simp only[I,bu,e4]at z;subst z;exact⟨F',M',aC,ak,V,T',rfl⟩
  |cont=>subst U;simp only[I,bu,e4]at z;subst z;exact⟨F',M',aC,ak,V,T',rfl⟩
  |ret v=>refine ax U ?_;clear U;rintro a rfl hv;simp only[I,bu,e4]at z;subst z;exact⟨F',M',aC,ak,V,T',a,rfl,hv⟩
 ·refine hx.el λcls e n ak F' M' aC h1 h2 h3 h4 h5 h6 h7 h8=>?_;clear hx;subst h1;simp only[I,bu,e4]at z;subst z;exact⟨cls,e,n,ak,F',M',aC,rfl,h2,h3,h4,h5,h6,h7,h8⟩
theorem zb{x:Str}{p:Pos}{f:St->Rs AV}(h:RE W q fn value f)(U:dE fn i x)(hs:∀env,swapsWith value (some (.Name x p)) pos.line env=pure false):RS W q fn (.Assign [.Name x p] value pos) (λJ=>aU (f J) J λa=>some (.next (cy i a J))):=.mk λS F M cur J r s z R I=>by
 refine mZ ?_ (hs _);refine Kn z R I (h.run S F M cur J · s z R) λa h2 v aB af T G V=>?_;revert h2;refine bc λe=>?_;clear I;subst e;have Y:=R.move z T G;exact kJ z Y U V λs' R' T' Z=>⟨aB,M,_,_,R',(T.fY G).trans T',rfl⟩
theorem Ko{e:u_}{f:St->Rs AV}(h:RE W q fn e f):RS W q fn (.Return (some e) pos) (λJ=>aU (f J) J λa=>some (.ret a)):=.mk λS F M cur J r s z R I=>by
 refine mY (Kn z R I (h.run S F M cur J · s z R) λa h2 v aB af T G U=>?_);revert h2;refine bc λe=>?_;clear I;subst e;exact⟨aB,M,cur,J,R.move z T G,T.fY G,a,rfl,U⟩
theorem Ii{t a b:u_}{f:St->Rs Bool}{g h:St->Rs AV}(I:gL W q fn t f)(U:RE W q fn a g)(hb:RE W q fn b h):RE W q fn (.IfExp t a b pos) (λJ=>Jl (f J) (g J) (h J)):=.mk λS F M cur J r s z R V=>by
 refine y_ (Mb V (I.run S F M cur J · s z R) λx h2 s' T=>?_);cases x with
 |true=>exact PX.oH T (aV (U.run S F M cur J r s' z (R.move z T (.refl _ _ _)) h2) (λZ Z x=>x.lift T (.refl _ _ _)) λZ Z x=>x)
 |false=>exact PX.oH T (aV (hb.run S F M cur J r s' z (R.move z T (.refl _ _ _)) h2) (λZ Z x=>x.lift T (.refl _ _ _)) λZ Z x=>x)
theorem FD{e:u_}{es:List u_}{f:St->Rs AV}{g:St->Rs (List AV)}(h:RE W q fn e f)(hs:RL W q fn es g)(V:∀env,starEach (e::es) env=(false,eval e env)::starEach es env):RL W q fn (e::es) (λJ=>bindR (f J) λa=>bindR (g J) λas=>aA (a::as)):=.mk λS F M cur J r s pos z R Y=>by
 refine oE ?_ (V _);refine Km Y (h.run S F M cur J · s z R) λa h2 v aB af T G Z=>PX.oH T (Km h2 (hs.run S aB M cur J · af pos z (R.move z T G)) λas h4 vs aQ s₂ I U hr=>?_);refine⟨a::as,aQ,(gq h4).symm,T.trans I,G.trans T.size I.size U,?_⟩;exact⟨v,vs,rfl,(R.move z T G).vr z I U Z,hr⟩
theorem Cu{es:List u_}{f:St->Rs (List AV)}(h:RL W q fn es f):RE W q fn (.Tuple es k pos) (λJ=>uX (f J)):=.mk λS F M cur J r s U R z=>by
 refine za (Km z (h.run S F M cur J · s pos U R) λxs h2 vs aB af T G I=>?_);split at h2
 ·rename_i V;refine dK ?_ h2;clear h2;intro h2;clear z;cases h2;refine⟨by refine ag I.length ?_;exact cF V,.tup xs,λb=>aB b\/b=af.heap.objs.size,rfl,T.trans (.push T.stays),⟨λb hb=>.inl (G.1 b hb),λb hb=>?_⟩,?_⟩
  ·refine g' hb ?_ ?_;rotate_left;clear hb;rintro rfl;rotate_right;clear hb;intro hb
   ·exact(G.2 b hb).imp id λh=>⟨h.1,ZP h.2 (by rw[rW];exact rv _)⟩
   ·exact .inr ⟨T.size,by rw[rW];exact rv _⟩
  ·exact⟨_,vs,rfl,.inr rfl,⟨0,#[],w' _ rfl⟩,I.mono (λa Z o Y=>⟨o.slots,ml _ Y⟩) λb hb=>.inl hb⟩
 ·exact aZ h2
theorem zc{elts:List u_}{U:Pos}{f:St->Rs AV}{g:List AV->St->Option St}(V:RE W false fn value f)(Y:oj W fn elts g)(hs:∀env,swapsWithSole [.Tuple elts k U] value pos.line env=pure false)(hw:∀env,swappedStores [.Tuple elts k U] value env=pure none):RS W false fn (.Assign [.Tuple elts k U] value pos) (λJ=>tK elts.length (f J) g J):=.mk λS F M cur J r s z R I=>by
 refine l5 ?_ (hs _) (hw _);unfold tK at I;rw[mv]at I;exact Kn z R I (V.run S F M cur J · s z R) λa I v aB af T G hv=>tL Y z (R.move z T G) hv I (λaQ c₂ ak s₂ aM aD e=>⟨aQ,M,c₂,ak,aM,(T.fY G).trans aD,e⟩) λc x s' e h=>(h.lift T).st z R λZ h=>e.trans (sJ _ h)
section
variable {M:SW}
theorem oJ{m:Sem α}{Q:α->ea->Prop}(h:bH M A m Q E s):bH M A (m.keep vs) Q E s:=λz p I U=>by rw[Sem.wp_keep];exact h z p I U
theorem ez{a:fF}{first:List cz}{args:List (Bool×Sem cz)}{Q:cz->ea->Prop}(h:wpAny M A (evalArgs (.ref a) true args []) (λx af=>(af.heap.get? a=some o/\o.data= .func fd)/\bH M A (call (.ref a) (first++x.pos) x.kw) Q E af) E s):bH M A (callWith pos (.ref a) first args []) Q E s:=by
 refine aq (c8 (.of (fm h (λx af z=>?_) λZ Z x=>x)));refine aq (br ?_);have tail:∀{t:Sem cz},bH M A t Q E af->bH M A (t>>=λr=>holding [r] point>>=λZ=>pure r) Q E af:=
  λI=>aq (aV I (λr s₂ U=>.of (az (n4 (aaw (en U))))) λZ Z x=>x)
 rw[List.any_nil,adp];cases hs:args.any (·.1)<;>
  refine aq (m:=keeperOf (.ref a)) (.of ?_)<;>unfold keeperOf<;>
  refine az (abn z.1.1 ?_)<;>refine ag z.1.2 ?_<;>refine en ?_
 all_goals dsimp only
 ·split
  ·exact tail z.2
  ·exact tail (by unfold callMarked;exact oJ z.2)
 ·exact tail (by unfold callMarked;exact oJ z.2)
end
def Mn(W:Wd)(a:fF)(rk:Nat)(spec:List AV->Rs AV):Prop:=
 ∀A outer F s xs vs r,Ready W A outer F xh s rk->bL s.heap F xs vs->spec xs=some r->ey (model W.prog W.w) A (.call (.ref a) ⟨vs,[]⟩) (CR W outer F s r) s
theorem rP{F X:fF->Prop}{a:fF}{f:St->Option Ou}{dQ:St}{binds:List (Str×cz)}{args:Args}{ou:Ou}{R:aaR->ea->Prop}(z:Ready W A outer F X s rk)(ho:s.heap.get? a=some o)(dR:o.data= .func fd)(jb:s.heap.CodeRec fd.code fd.qualname)(dS:fd.body= .stmts body)(j4:fd.closure=[])(mw:fd.globals=3)(rt:fd.builtins=0)(dT:∀A' Q E,Q binds s->wpAny (model W.prog W.w) A' (bindArgs fd args) Q E s)(nW:∀x∈binds,fd.scope.names.lookup x.1=some .local\/fd.scope.names.lookup x.1=some .cell)(dp:names.Nodup)(hlen:dQ.length=names.length)(nT:∀i x,names[i]? =some x->jZ W xh s.heap F X (dQ.getD i .un) (binds.reverse.lookup x))(s8:∀i j x y,names[i]? =some x->names[j]? =some y->i≠j->(dQ.getD i .un).bR=true->(dQ.getD j .un).bR=true->binds.reverse.lookup x≠binds.reverse.lookup y)(hB:RB W false ⟨fd.scope,names,rk,false,fd.code,fd.qualname⟩ body f)(hf:f dQ=some ou)(uL:∀S:cj,S.s₀=s->S.X=X->S.fu=F->∀F' M' aC ak v s',Rel W S ⟨fd.scope,names,rk,false,fd.code,fd.qualname⟩ F' M' aC ak s'->((∃av,ou= .ret av/\VR s'.heap F' av v)\/(ou= .next ak/\v= .none))->R (.ok (.ret v)) s')(hex:∀S:cj,S.s₀=s->S.X=X->S.fu=F->∀F' M' aC ak cls e s',Rel W S ⟨fd.scope,names,rk,false,fd.code,fd.qualname⟩ F' M' aC ak s'->ou= .ex cls ak->nh W outer (aJ s) e cls s'.heap->R (.error (.ref e)) s')(f9:names.head? =some ("self":Str)\/∀a,¬X a)(JB:(∃av,ou= .ret av)\/(∃ak,ou= .next ak)\/∃c ak,ou= .ex c ak)(mS:autoParam (fd.scope.isCoroutine=false) gQ)(f_:autoParam (fd.scope.isGenerator=false) gQ)(hk:autoParam (fd.scope.kind= .function) gQ):ey (model W.prog W.w) A (.call (.ref a) args) R s:=by
 refine iQ z.lt.2 λmc nr AD Z=>?_;have vc:s.heap.NoLimit:=⟨mc,nr,AD⟩;have gH:∀x,fd.scope.names.lookup x=some .cell->((cellsFrom (s.heap.objs.size+1) fd.scope.names []).lookup x).isSome=true:=λx U=>cellsFrom_some _ _ _ _ (.inl (aaA U));refine jM (by have:=z.room.1;show A.depth<1000;lia) ho dR mS f_ dS jb (dT _ _ _ ?_);refine ag j4 (aaW hk (λx U=>(nW x U).imp id λh=>⟨h,gH _ h⟩) λenv he af hI=>⟨vc.keeps hI.toInCall.keep,v9 ?_⟩);refine jY hI.toInCall.same λaF te cO=>?_;have eL:env.locals=aJ s:=by refine ag he ?_;rfl
 have ef:env.frame=some (aJ s):=by refine ag he ?_;rfl
 have eg:env.globals=3:=by refine ag he ?_;exact mw
 have eb:env.builtins=0:=by refine ag he ?_;exact rt
 have es:env.scope=fd.scope:=by refine ag he ?_;rfl
 have ec:env.cells=cellsFrom (s.heap.objs.size+1) fd.scope.names []:=by refine ag he ?_;rfl
 have f':∀b o,s.heap.get? b=some o->aF.get? b=some o:=λb o e=>by have:=hI.toInCall.keep b o e;rw[cO]at this;exact this
 have dG:aF.Ns (aJ s) (bindL env.kindOf binds λZ=>none):=by have:=hI.toInCall.ns;rw[eL,cO]at this;exact this
 have sL:aJ s<aF.objs.size:=dG.lt;have ff:∀n c,env.cells.lookup n=some c->aF.IsCell c (bindC env.kindOf binds (λZ=>none) n):=λn c e=>by have:=hI.cell n c e;rw[cO]at this;exact this
 have jc:∀n c,env.cells.lookup n=some c->aJ s<c:=λn c e=>by have:=hI.above n c (aaA e);rw[eL]at this;exact this
 let S:cj:=⟨s,F,X,A.deeper env,env,env,outer,aJ s,aJ s⟩
 have hS:S.Ok W ⟨fd.scope,names,rk,false,fd.code,fd.qualname⟩ false:=by
  refine⟨es,hk,eL,ef,ef,(by refine ag es (ag hk ?_);intro x;cases x),eg,eb,abQ z.frames,z.dN,z.cW,z.stays,z.xg.hg,z.xg.hb,?_,z.sR,z.x0,z.lb,z.lt,dp,λZ=>z.hand,f9,by show env.code=_/\env.qual=_;refine ag he ?_;exact⟨rfl,rfl⟩⟩;have h1:=z.room.1;have h2:=z.room.2;show A.depth+1+3*rk<=600/\A.units+3+100*rk+100<=9000;constructor<;>lia
 have vd:Rel W S ⟨fd.scope,names,rk,false,fd.code,fd.qualname⟩ F (λb=>b=aJ s\/(∃n,env.cells.lookup n=some b)\/X b) (λx=>binds.reverse.lookup x) dQ af:=by
  refine ag cO (⟨(Step.of_keeps z.stays f' (Kt sL)).x,⟨λZ h=>h,λZ h=>.inl h⟩,λb hb=>?_,⟨.inl (.inl rfl),.inl rfl⟩,?_,⟨_,dG,λx U=>?_⟩,λx U=>?_,hlen,λi x hi=>?_,s8,λb hb=>?_⟩)
  ·rcases hb with rfl|⟨n,I⟩|hb
   ·exact⟨.inl (t_ _),sL,λh=>f3 _ (z.sR _ h).1⟩
   ·exact⟨.inl (Kt (jc n b I)),(ff n b I).lt,λh=>f3 _ (ZP (z.sR _ h).1 (jc n b I))⟩
   ·exact⟨.inr hb,ZP (z.x0 b hb).1 sL,z.xf b hb⟩
  ·refine dh dG λo es ep h1 h2 Z=>?_;clear dG;exact⟨o,es,ep,h1,h2⟩
  ·rw[j2 _ _ U];simp
  ·have w0:fd.scope.names.lookup x=some .cell:=by refine fP es ?_;exact U
   refine au (WE.mp (gH x w0)) λc hc=>?_;rw[<-ec]at hc;refine ax (ff x c hc) λoc h1 h2=>⟨c,oc,hc,.inl (.inr (.inl ⟨x,hc⟩)),h1,?_⟩;rw[h2,j3 _ _ U];simp
  ·have r:=nT i x hi;show jZ W S.uT aF F _ (dQ.getD i .un) _;have V:=r.up (F':=F) (M':=λb=>b=aJ s\/(∃n,env.cells.lookup n=some b)\/X b) (λZ h=>h) (λZ h=>.inr (.inr h)) (h':=aF) λb o e Z=>⟨o.slots,f' b o e⟩;cases hl:dQ.getD i .un with
   |ob C ks xs=>
    rw[hl]at r V;refine yn V ?_;clear V;intro y d vs e hy hd _ V;refine hJ r λAE ve Ni Y AF gI Z lT Z=>?_;clear r;refine⟨y,d,vs,e,hy,hd,λI=>?_,V⟩;have Nj:d<aJ s:=by
     have h1:=V.1.2.2.2;have h2:=lT.2.2.2;rw[e]at Y;have:y=AE:=by injection Y with Y;injection Y
     have:d=ve:=Z9 (h1.symm.trans (this.trans h2));exact ag this ((z.x0 ve gI).1)
    refine I7 I ?_ λ_ I=>?_;clear I;rintro(I|I)
    ·exact f3 _ (I▸Nj)
    ·exact f3 _ (I▸Nj)
    ·refine I ?_;have h1:=V.1.2.2.2;have h2:=lT.2.2.2;rw[e]at Y;have q1:y=AE:=by injection Y with Y;injection Y
     have q2:d=ve:=Z9 (h1.symm.trans (q1.trans h2));refine ag q2 (⟨gI,by refine fP h2 ?_;exact AF⟩)
   |_=>rw[hl]at V;exact V
  ·rcases hb with rfl|⟨n,I⟩|hb
   ·refine dh dG λo es ep h1 h2 Z=>?_;clear dG;exact⟨o,h1,by rintro⟨ws,h3,_⟩;rw[h2]at h3;cases h3⟩
   ·exact ax (ff n b I) λo h1 h2=>⟨o,h1,by rintro⟨ws,h3,_⟩;rw[h2]at h3;cases h3⟩
   ·exact ax (z.SV b hb) λo h1 h2=>⟨o,f' b o h1,h2⟩
 refine aV (hB.run S F _ _ _ ou _ hS vd hf) (λfl s' hp=>?_) λx s' U=>?_
 ·refine hp.el λF' M' aC ak R' T' hm=>?_;clear hp;have bad:∀{P:Prop},((∃r,ou= .brk r)\/∃r,ou= .cont r)->P:=λh=>by
   rcases JB with⟨_,e⟩|⟨_,e⟩|⟨_,_,e⟩<;>(refine MT h ?_ λ_ h=>?_;clear h;intro _ h)<;>rw[e]at h<;>(cases h)
  cases fl with
  |next=>exact uL S rfl rfl rfl F' M' aC ak _ s' R' (.inr ⟨hm,rfl⟩)
  |brk=>exact bad (.inl ⟨_,hm⟩)
  |cont=>exact bad (.inr ⟨_,hm⟩)
  |ret v=>exact uL S rfl rfl rfl F' M' aC ak _ s' R' (.inl hm)
 ·exact va (E:=λe s=>R (.error e) s) hS rfl U (hex S rfl rfl rfl)
theorem jG{a:fF}{f:St->Option Ou}{ps:List Str}(ho:W.base.get? a=some o)(dR:o.data= .func fd)(jb:W.base.CodeRec fd.code fd.qualname)(dS:fd.body= .stmts body)(j4:fd.closure=[])(mw:fd.globals=3)(rt:fd.builtins=0)(dT:∀vs:List cz,vs.length=ps.length->bindArgs fd ⟨vs,[]⟩=pure (ps.zip vs))(b9:∃rest,names=ps++rest)(dp:names.Nodup)(lU:∀x∈ps,fd.scope.names.lookup x=some .local\/fd.scope.names.lookup x=some .cell)(hB:RB W false ⟨fd.scope,names,rk,false,fd.code,fd.qualname⟩ body f)(mS:autoParam (fd.scope.isCoroutine=false) gQ)(f_:autoParam (fd.scope.isGenerator=false) gQ)(hk:autoParam (fd.scope.kind= .function) gQ):Mn W a rk (λxs=>if xs.length=ps.length then bg (f (aO names.length xs))else none):=λA outer F s xs vs r U hv z=>by
 simp only at z;split at z
 case isFalse=>exact aZ z
 rename_i mT;have EY:vs.length=ps.length:=hv.length.trans mT;refine au b9 λrest hrest=>?_;clear b9;have td:ps.Nodup:=by rw[hrest]at dp;exact(ZZ.mp dp).1
 rcases V:f (aO names.length xs)with _|ou
 ·rw[V]at z;simp[bg]at z
 rw[V]at z;refine rP U (U.stays _ _ ho) dR (jb.keeps U.stays) dS j4 mw rt (binds:=ps.zip vs) (λA' Q E h=>by refine ag (dT vs EY) ?_;exact en h) (λx I=>lU x.1 (Z3 I).1) dp ?_ (λi x hi=>?_) (λi j x y hi hj AG h1 h2=>?_)
  hB V (λS hs hX hF F' M' aC ak v s' Y h=>?_) (λS hs hX hF F' M' aC ak cls e s' Y h1 h2=>?_) (.inr λZ h=>h) ?_ mS f_ hk
 ·simp only[aO,nx,ro,Q_];have:xs.length<=names.length:=by refine ag hrest (ag nx (ag mT ?_));exact xm _ _
  lia
 ·refine ag bI ?_;cases I:xs[i]? with
  |none=>trivial
  |some a=>
   refine ax (hv.get I) λv yB gv=>?_;have th:i<xs.length:=(gw.mp I).1;have yC:ps[i]? =some x:=by rw[hrest,R0 (by refine fP mT ?_;exact th)]at hi;exact hi
   exact⟨v,cY td yC yB,gv⟩
 ·rw[bI]at h1;cases I:xs[i]? <;>rw[I]at h1<;>(exfalso;cases h1)
 ·clear U hv V;subst hs hF;have T:Step W S.s₀ s':=Y.step.none λp h=>by rw[hX]at h;exact h
  have G:bP S.s₀ s' S.fu F':=⟨Y.grow.1,λa h=>(Y.grow.2 a h).imp id λh=>h.elim (λh=>by rw[hX]at h;exact h.elim) id⟩;refine MR h ?_ ?_;rotate_left;clear h;rintro rfl rfl;rotate_right;clear h;rintro av rfl gv
  ·simp only[bg,e4]at z;subst z;exact⟨av,F',rfl,T,G,gv⟩
  ·simp only[bg,e4]at z;subst z;exact⟨.none,F',rfl,T,G,by first|rfl|exact⟨_,rfl⟩|simp[lL,lM,lN,mh,ED]⟩
 ·clear U hv V;subst hs h1;simp only[bg,e4]at z;subst z;exact⟨cls,e,rfl,rfl,Y.step.none λp h=>by rw[hX]at h;exact h,h2⟩
 ·cases ou with
  |next J=>exact .inr (.inl ⟨J,rfl⟩)
  |ret a=>exact .inl ⟨a,rfl⟩
  |ex c J=>exact .inr (.inr ⟨c,J,rfl⟩)
  |brk J=>simp[bg]at z
  |cont J=>simp[bg]at z
theorem Cv{F:fF->Prop}{a:fF}{r:Except cz AV}(z:S.Ok W fn false)(R:Rel W S fn F M cur J s)(V:Mn W a rk spec)(jC:rk+1<=fn.rank)(Y:bL s.heap F xs vs)(hr:spec xs=some r):bH (model W.prog W.w) S.A (call (.ref a) vs []) (PE W F s r) (PX W S s r) s:=by
 have cZ:Ready W S.A (S.fe::S.outer) F xh s rk:=by
  refine⟨⟨z.hg,z.hb⟩,z.hand rfl,z.frames,R.frames z,λL I=>?_,R.stays,λb hb=>R.bound z hb,λZ h=>h.elim,λZ h=>h.elim,λb hb=>bk (z.lb b hb) R.step.size,R.tab z,?_,λZ h=>h.elim⟩
  ·rw[aaF,z.c6]at I;refine g' (QX.mp I) ?_ ?_;rotate_left;intro I;rotate_right;clear I;rintro rfl
   ·exact λh=>h.elim (R.ku z).2 id
   ·exact λh=>h.elim (λh=>z.cW L I (.inl h)) id
  ·have h1:=z.room.1;have h2:=z.room.2;constructor<;>lia
 refine gR (hU (V S.A (S.fe::S.outer) F s xs vs r cZ Y hr) λres s' U=>?_);cases res with
 |ok fl=>
  cases fl with
  |ret v=>exact U
  |_=>exact U
 |error x=>
  exact bF U λcls e h1 h2 h3 h4=>⟨cls,e,h1,h2,h3,h4.Af⟩
theorem Cw{x:Str}{es:List u_}{a:fF}{g:St->Rs (List AV)}{o:Obj}{fd:aba}(hn:aL W false fn (.Name x np) (λZ=>aA (.ref a)))(hg:fG W false fn es g)(hp:a7 es=true)(ho:W.base.get? a=some o)(hd:o.data= .func fd)(hf:Mn W a rk spec)(jC:rk+1<=fn.rank):RE W false fn (.Call (.Name x np) es [] pos) (λJ=>bindR (g J) spec):=.mk λS F M cur J r s z R hr=>by
 refine iL (iX (hn.run S F M cur J _ s z R rfl) rd λa' v aB af ha T G hv=>?_);cases ha;subst hv;have U:=R.move z T G;refine ez (o:=o) (fd:=fd) (bM hp (PX.raise T ?_));refine gM hr (hg.run S aB M cur J · af pos z U) λxs h2 vs aQ s₂ I V gA=>?_;have Y:=U.move z I V;exact⟨⟨Y.stays _ _ ho,hd⟩,PX.oH (T.trans I) (aV (Cv z Y hf jC gA h2) (λZ Z x=>(x.lift I V).lift T G) λZ Z x=>x)⟩
theorem Kp{t:u_}{BL:aaa}{mz:List aaa}{je:Pos}{g h oe:St->Option Ou}{m:cz->Option Bool}(hg:RB W false fn body g)(ho:c5 W false fn orelse oe)(ht:jd W fn t m)(hh:c5 W true fn (BL::mz) h):RS W false fn (.Try body [.ExceptHandler (some t) none (BL::mz) je] orelse [] pos) (tv g h oe m):=.mk λS F M cur J r s U R z=>by
 refine jm ?_;unfold tv at z;rcases V:g J with _|o
 ·exact aZ (V▸z)
 rw[V]at z;refine aV (hg.run S F M cur J o s U R V) (λfl af hp=>?_) λx af Y=>?_
 ·clear V;obtain⟨F',M',aC,ak,R',T',I⟩:=hp;cases fl with
  |next=>simp only at I;subst I;simp only at z;exact fm (ho.run S F' M' aC ak r af U R' z) (λZ Z x=>x.lift T') λZ Z x=>x.lift T'
  |brk=>simp only at I;subst I;simp only[e4]at z;subst z;exact⟨F',M',aC,ak,R',T',rfl⟩
  |cont=>simp only at I;subst I;simp only[e4]at z;subst z;exact⟨F',M',aC,ak,R',T',rfl⟩
  |ret v=>refine ax I ?_;clear I;rintro a rfl hv;simp only[e4]at z;subst z;exact⟨F',M',aC,ak,R',T',a,rfl,hv⟩
 refine jY Y.ou ?_;clear V;rintro cls ak rfl;simp only at z;split at z
 case isFalse=>exact aZ z
 rename_i nr;refine j5 U ht Y nr λe n F' M' aC cJ yD dM cA h3 h5 mA=>?_;clear Y;subst yD;have eY:∀b,n<=b->W.base.get? b=none:=λb hb=>U.bh (bU h3.2 hb);have JZ:=U.marked e;refine codeAny_handlers_suite (aP (lQ dM.stays eY mA λlW BM BN tw iI=>?_));have rz:=dM.below U h5 h3.2 BM tw iI;have eu:fI W F M F' M' s {cJ with heap:=lW}:=cA.below h3.1 tw iI;rcases BO:h ak with _|oh
 ·exact aZ (BO▸z)
 rw[BO]at z;refine fm (hh.run (S.marked e) F' M' aC ak oh _ JZ (rz.marked e) BO) (λfl pU hp=>?_) λx pU Y=>?_
 ·clear BO;obtain⟨q9,s7,gV,gU,mB,S_,I⟩:=hp;have Tt:=eu.trans S_;cases fl with
  |next=>simp only at I;subst I;simp only[e4]at z;subst z;exact⟨q9,s7,gV,gU,mB.unmarked,Tt,rfl⟩
  |brk=>simp only at I;subst I;simp only[e4]at z;subst z;exact⟨q9,s7,gV,gU,mB.unmarked,Tt,rfl⟩
  |cont=>simp only at I;subst I;simp only[e4]at z;subst z;exact⟨q9,s7,gV,gU,mB.unmarked,Tt,rfl⟩
  |ret v=>refine ax I ?_;clear I;rintro a rfl hv;simp only[e4]at z;subst z;exact⟨q9,s7,gV,gU,mB.unmarked,Tt,a,rfl,hv⟩
 ·clear BO;obtain⟨_,_,_,_,_,_,_,Jz,_⟩:=Y;subst Jz;simp only at z;exact aZ z
theorem tT{B newId initId:String}{BJ bm:List cz}(X:acT B newId initId BJ)(hT:OwnTail W.base BJ bm){nm qn:Str}{C N:fF}{bs:List cz}{hdct:Bool}{sn:List Str}{sub:List cz}{ab:Bool}{col:Option Bool}{dd:Option fF}{k0 k1 k2 k3 k5:Option cz}{mN:Str->Option cz}{x n:Str}{Cs p1 p2 je:Pos}{t:u_}{g oe:St->Option Ou}{m:cz->Option Bool}(hC:W.base.get? C=some (excClassObj nm qn C N bs bm hdct sn sub ab col dd k0 k1 k2 k3 k5 newId))(hN:W.base.Ns N mN)(JW:mN "__init__"=none)(hn:aL W true fn (.Name x np) (λZ=>aA (.ref C)))(hi:dE fn i n)(hk:fn.scope.names.lookup n=some .local)(BQ:(n==("__debug__":Str))=false)(hg:RB W false fn body g)(ho:c5 W false fn orelse oe)(ht:jd W fn t m):RS W false fn (.Try body [.ExceptHandler (some t) (some n) [.Raise (some (.Call (.Name x np) [.Name n p1] [] cB)) (some (.Name n p2)) Cs] je] orelse [] pos) (rN g oe m (.ref C)):=.mk λS F M cur J r s z R I=>Oe λQ E kQ kE=>by
 refine jm ?_;unfold rN at I;rcases ia:g J with _|o
 ·exact aZ (ia▸I)
 rw[ia]at I;refine aV (hg.run S F M cur J o s z R ia) (λfl af hp=>?_) λx af hx=>?_
 ·clear ia;obtain⟨F',M',aC,ak,R',T',U⟩:=hp;cases fl with
  |next=>simp only at U;subst U;simp only at I;exact fm (ho.run S F' M' aC ak r af z R' I) (λZ Z x=>kQ _ _ (x.lift T')) λZ Z x=>kE _ _ (x.lift T')
  |brk=>simp only at U;clear kE;subst U;simp only[e4]at I;subst I;exact kQ _ _ ⟨F',M',aC,ak,R',T',rfl⟩
  |cont=>simp only at U;clear kE;subst U;simp only[e4]at I;subst I;exact kQ _ _ ⟨F',M',aC,ak,R',T',rfl⟩
  |ret v=>refine ax U ?_;clear U;rintro a rfl hv;simp only[e4]at I;subst I;exact kQ _ _ ⟨F',M',aC,ak,R',T',a,rfl,hv⟩
 refine jY hx.ou ?_;clear kQ;clear ia;rintro cls ak rfl;simp only at I;split at I
 case isFalse=>exact aZ I
 rename_i nr;refine aX nr ?_;clear nr;rintro nr rfl;revert I;refine bc λe=>?_;subst e;refine j5 z ht hx nr λe n' F' M' aC cJ yD dM cA h3 h5 mA=>?_;clear hx;subst yD;have eY:∀b,n'<=b->W.base.get? b=none:=λb hb=>z.bh (bU h3.2 hb);have JZ:=z.marked e;have Hj:=h3.2;have L_:n'<=e:=mA.le;have JY:¬W.loose e:=λhl=>f3 _ (bk (z.lb e hl) (bU Hj L_));refine codeAny_handlers_suite_as (aP (lQ dM.stays eY mA λlW BM BN tw iI=>?_));have rz:=dM.below z h5 Hj BM tw iI;have eu:fI W F M F' M' s {cJ with heap:=lW}:=cA.below h3.1 tw iI;refine kJ (a:=.ref e) z rz hi (by first|rfl|exact⟨_,rfl⟩|simp[lL,lM,lN,mh,ED]) λpU Cx jN Z=>?_;have Og:∃oe vs,pU.heap.get? e=some oe/\oe.cls= .type "ValueError"/\oe.data= .fields vs/\vs[2]? =some .none:=by
  obtain⟨_,_,Ag,vs,he,qE,hd,pH,_⟩:=BN;exact au (jN.keep e _ (λh=>h.elim JY λh=>f3 _ (bk (h5 e (.inr h)) L_)) he) λsl aF=>⟨_,vs,aF,qE,hd,pH.2 _ rfl⟩
 have Tt:=eu.trans jN;refine wpAny_execs_cons (fm (mX X hT hC hN JW hn hi.1 hk BQ JZ (Cx.marked e) rfl (by simp[i_]) JY Og) (λZ Z h=>h.elim) λXZ Y Oh=>?_);obtain⟨cls,e2,Cy,VW,Kq,Kr,TF,h1,rfl,TH,TJ,g3,g4,g5,g6⟩:=Oh;cases h1;have Ru:=TH.unmarked;have Cz:S.s₀.heap.objs.size<=Cy:=g3.2;have CA:∀b,Cy<=b->W.base.get? b=none:=λb hb=>z.bh (bU Cz hb);refine aP (iT z.frames z.c6 z.frame Ru.stays CA g6 λKs TK Oi Oj CB=>?_);have Ku:=Ru.below z g5 Cz TK Oj CB;have TL:aJ s<=Cy:=bU Tt.size g3.1;have TM:=(Tt.trans TJ).below TL Oj CB;refine ax Ku.ns λX0 v_ Z=>?_;have EJ:S.env.scope.kind= .function:=by refine ag z.scope ?_;exact z.kind
 have nj:S.env.kindOf n=some .local:=by show S.env.scope.names.lookup n=_;exact ag z.scope hk
 refine wpAny_nameGoes (s:={Y with heap:=Ks}) nj (by refine ag z.locals ?_;exact v_) (by refine ag EJ ?_;rfl) λiJ Zn Ij V=>?_;rw[z.locals]at Ij V;refine au (Ku.forget (t:=Y.toks+1) z Ij V) λIk Ol=>?_;replace Ol:Rel W S fn Kq Kr Ik (iK ak) {Y with heap:=iJ,toks:=Y.toks+1}:=by refine ag (show iK ak=iK (cy i (AV.ref e) ak)from(by unfold iK cy;rw[abh])) ?_;exact Ol
 have Om:∀b o vs,Ks.get? b=some o->o.data= .fields vs->b≠S.C:=λb o vs e1 e2 e=>by
  refine dh v_ λo' es ep et dg Z=>?_;clear v_;rw[e,show Ks.get? S.C=some o' from et]at e1;revert e1;refine bc λe=>?_;subst e;rw[dg]at e2;cases e2
 have TN:j0 W (S.fe::S.outer) S.L Cy e2 (.ref C) iJ:=by
  obtain⟨f1,f2,Ag,vs,he,qE,hd,pH,T,oT,ts,q1,q2,q3,q4,q5,q',q6⟩:=Oi;exact⟨Ol.frames z,f2,Ag,vs,(V.2 e2 (Om _ _ _ he hd)).trans he,qE,hd,pH,T,oT,ts,q1,q2,q3,(V.2 T (Om _ _ _ q4 q5)).trans q4,q5,q',q6⟩
 have X3:fI W F M Kq Kr s {Y with heap:=iJ,toks:=Y.toks+1}:=TM.trans ⟨λp o hp e=>⟨o.slots,(V.2 p λh=>hp (.inr (h▸Ku.frame.2))).trans e⟩,Kj V.1.symm,λZ h=>.inl h,λZ h=>h,λZ h=>.inl h,.refl _⟩;refine aP (mj z.frame Ol.stays CA TN λQ1 X4 TO VX Kv=>?_);refine kL (nU (A₁:=S.A.mark (some (.ref e))) z.frames z ?_) kE;exact⟨_,e2,Cy,_,Kq,Kr,Ik,rfl,rfl,Ol.below z g5 Cz X4 VX Kv,X3.below TL VX Kv,⟨TL,g3.2⟩,bU g4 (bU CB (bU (Kj V.1.symm) Kv)),g5,TO.Af⟩
section
variable {w:aab}
theorem k_{M:SW}{t z:Sem α}{Q:α->ea->Prop}(h1:∀(M:SW)(A:XQ)(Q:α->ea->Prop)(E:cz->ea->Prop)(s:ea),wpAny M A z Q E s->wpAny M A t Q E s)(h2:z=t)(h:bH M A z Q E s):bH M A t Q E s:=h2▸h
theorem d7{c:Prop}[Decidable c]{a b:Sem α}{Q:α->ea->Prop}(z:c)(h:bH (model prog w) A a Q E s):bH (model prog w) A (if c then a else b) Q E s:=by refine ag (if_pos z) ?_;exact h
theorem cK{c:Prop}[Decidable c]{a b:Sem α}{Q:α->ea->Prop}(z:¬c)(h:bH (model prog w) A b Q E s):bH (model prog w) A (if c then a else b) Q E s:=by refine ag (if_neg z) ?_;exact h
theorem p4{id:String}{args:Args}{b:aaH}{R:aaR->ea->Prop}(hb:entryFor table id=some b)
  (h:bH (model prog w) (A.under (.builtin id args)) (b args) (λfin s'=>match fin with| .done f=>R (.ok f) s'| .again z=>z.quiet=true/\ey (model prog w) A z R s') (λe s'=>R (.error e) s') s):
  ey (model prog w) A (.builtin id args) R s:=by
 refine cH ?_;show bH _ _ (match entryFor table id with|some b=>b args|none=>unsupported ((withoutEnding? id "#data").getD id)) _ _ s;exact ag hb h
theorem j'{id:String}{args:Args}{b:aaH}{R:aaR->ea->Prop}(z:plainId id=true)(hb:entryFor table id=some b)(U:checkBuiltinCall id args=pure ())(h:bH (model prog w) A.in1 (b args) (λfin s'=>match fin with| .done f=>R (.ok f) s'| .again I=>I.quiet=true/\ey (model prog w) A I R s') (λe s'=>R (.error e) s') s):ey (model prog w) A (.call (.builtin id) args) R s:=by
 refine cH ?_;show bH _ A.in1 (do checkBuiltinCall id args;again (.builtin id args)) _ _ s;refine ag U (aq (bf (bf (And.intro (plainId_quiet z args) (cH ?_)))));show bH _ _ (match entryFor table id with|some b=>b args|none=>unsupported ((withoutEnding? id "#data").getD id)) _ _ s;refine ag hb (ag (Around.under_plainId z args) ?_);exact h
theorem p5{v:cz}{Q:cz->ea->Prop}(h:bH (model prog w) A.in1.in1 (aaH.«int.__new__» ⟨[.type "int",v],[]⟩) (λZ Z=>False) E s):bH (model prog w) A (call (.type "int") [v]) Q E s:=by
 refine gR (cH ?_);show bH _ _ (callAny (.type "int") _) _ _ _;refine bf ⟨Code.quiet_builtin _ (by decide+kernel),p4 F.entry_type_call ?_⟩;refine ag (Around.under_plain (weight_type_call_type "int" [v] []) (units_type_call_type "int" [v] [])) ?_;have h1:=acX.notType;have h2:=acX.canCreate;have h3:=F.typeCall_int_1 v;have h4:=F.mro_int;have h5:=acX.made;show bH _ _ (aaH.«type.__call__» ⟨[.type "int",v],[]⟩) _ _ s;unfold aaH.«type.__call__»;refine cK (by rw[h1];exact BA) (cK (by rw[h2];exact BA) (aq (.of (Uu h3 ?_))));refine aq (.of (Uu h4 (cK BA (aq (.of (Uu h5 (aq (bf ?_))))))));refine aq (c8 (gR (j' acX.plain F.entry_int_new (F.newCall_int_1 v) (aV h (λZ Z h=>h.elim) λZ Z h=>h))))
set_option maxHeartbeats 4000000 in
theorem CC{b:List UInt8}{t:Tok}{Q:adC->ea->Prop}(h:bH (model prog w) A ((int_private%"intFromText") (.bytes b.toArray t) (b.map (·.toNat)) 10) (λv s'=>Q (.done (.ret v)) s') E s):bH (model prog w) A (aaH.«int.__new__» ⟨[.type "int",.bytes b.toArray t],[]⟩) Q E s:=by
 have I:=F.conv_sub_int;have U:=F.madeHere_int;have V:=qN;have Y:=gg;have f5:=mK;have f6:typeOf (.bytes b.toArray t)=pure (.type "bytes"):=rfl;have z:=KIN.Hid.mk h;clear h
 repeat (any_goals (first
  |assumption
  |((with_reducible show bH _ _ ((int_private%"intFromText") _ _ _) _ _ _);refine aV z.out (λv s' hq=>?_) (λZ Z x=>x))
  |with_reducible (first
   |refine bf ?_|refine aq ?_|refine c8 ?_|refine br ?_|refine bH.of (aaw ?_)|refine bH.of (ZR ?_)
   |refine bH.of (Uu (by assumption) ?_)|refine bH.of (wpAny_typeOf (by assumption) ?_)
   |refine bH.of (wpAny_specialOf_val (by assumption) (by assumption) ?_)|refine bH.of (abg (by assumption) (by assumption) ?_)
   |refine iV ?_)
  |((with_reducible apply cK);focus (rfl;done))
  |((with_reducible apply d7);focus (rfl;done))
  |((with_reducible apply cK);focus (simp[*];done))
  |((with_reducible apply d7);focus (simp[*];done))
  |((with_reducible apply k_);(focus (intro M A Q E s h;wp_delta;exact h));(focus rfl))
  |with_reducible_and_instances refine bf ?_
  |with_reducible_and_instances refine aq ?_))
theorem ze{b:List UInt8}{t:Tok}{Q:cz->ea->Prop}(hb:bX b=true)(U:oy b=none)(V:A.handled=none)(Y:Z' (4*b.toArray.size+3)=false)(Z:oq (aal b.toArray)=true)(h:∀I e args k,Heap.MadeExc s.heap I e "ValueError" args->E (.ref e) {s with heap:=I,toks:=k}):bH (model W.prog W.w) A ((int_private%"intFromText") (.bytes b.toArray t) (b.map (·.toNat)) 10) Q E s:=by
 have hs:((b.map (·.toNat)).takeWhile (· !=0)).length<=640:=by rw[bX.seen hb,ro];have:=bX.len hb;exact bU ‹_› (by decide)
 have hr:(int_private%"readNumeral") 0 10 ((b.map (·.toNat)).takeWhile (· !=0))=(int_private%"Numeral.invalid"):=by rw[bX.seen hb];exact y7 U
 have z:(List.take 200 ((b.map (·.toNat)).takeWhile (· !=0))).any (λx=>decide (x>=128))=false:=by
  rw[bX.seen hb,abx];intro x z;refine ax (ab6.mp (adb z)) ?_;clear z;rintro c hc rfl;have:=(bX.oct hb c hc).2;simp;assumption
 have hex:b.toArray.extract 0 200=b.toArray:=by
  have:=bX.len hb;rw[Array.extract_eq_self_iff];simp;lia
 repeat (any_goals (first
  |assumption
  |with_reducible (first
   |refine bf ?_|refine aq ?_|refine c8 ?_|refine br ?_|refine bH.of (aaw ?_)|refine bH.of (ZR ?_)
   |refine bH.of (Uu (by assumption) ?_)|refine bH.of (wpAny_typeOf (by assumption) ?_)
   |refine bH.of (wpAny_specialOf_val (by assumption) (by assumption) ?_)|refine bH.of (abg (by assumption) (by assumption) ?_)
   |refine iV ?_)
  |((with_reducible apply cK);focus (rfl;done))
  |((with_reducible apply d7);focus (rfl;done))
  |((with_reducible apply cK);focus (simp[*];done))
  |((with_reducible apply d7);focus (simp[*];done))
  |(with_reducible refine d7 (decide_eq_true hs) ?_)
  |((with_reducible apply k_);(focus (intro M A Q E s h;wp_delta;exact h));(focus rfl))
  |with_reducible_and_instances refine bf ?_
  |with_reducible_and_instances refine aq ?_))
 all_goals (try rw[hr])
 all_goals (try dsimp only)
 refine aq ?_
 (apply k_);(focus (intro M A Q E s h;wp_delta;exact h));(focus rfl)
 refine bf ?_;rw[z,aap,if_neg BA];refine aq (.of (ZR ?_));refine aq ?_
 (apply k_);(focus (intro M A Q E s h;wp_delta;exact h));(focus rfl)
 refine bf ?_;dsimp only;rw[hex];refine aq (m:=mkBytes _) (.of ?_);refine cM (by have:=bX.len hb;rw[aau,KG];lia) ?_;refine nd_fresh (en ?_);refine aq (.of ?_);refine az (ot Y Z ?_);refine en ?_;refine aq (.of (wpAny_mkStr ?_ ?_))
 ·refine aq (.of (wpAny_newExc_plain ab3 λI e z=>?_));refine aq (Aj ?_);exact .of (wpAny_raiseNew_none V (h _ _ _ _ z))
 ·rw[strLen_append];have h1:(oK (toString "invalid literal for int() with base "++toString 10++toString ": ")).length=40:=by decide+kernel
  have h2:Str.length ⟨(aal b.toArray).cps.extract 0 200⟩<=200:=by
   show(Array.extract _ 0 200).size<=200;rw[aci];exact Nat.min_le_left _ _
  rw[h1,aau];lia
end
section
open PySem.NumText
section
variable {M:SW}
theorem FE{t:Sem α}{Q:α->ea->Prop}(h:bH M A t (λa s'=>(∀b o,s.heap.get? b=none->s'.heap.get? b=some o->aJ s<=b)->Q a s') (λe s'=>(∀b o,s.heap.get? b=none->s'.heap.get? b=some o->aJ s<=b)->E e s') s):bH M A t Q E s:=
 λz p U V=>by
  have key:∀s':ea,Dd s.heap s'.heap->∀b o,s.heap.get? b=none->s'.heap.get? b=some o->aJ s<=b:=λs' hd b o h1 h2=>by
   refine g' (adx b (aJ s)) (λI=>?_) λI=>?_
   ·have:=(hd b ⟨I,h1⟩).2;rw[h2]at this;exact z9 this
   ·exact I
  exact aaJ M z t (λZ Z s' x=>x.2 (key s' x.1)) (λZ Z s' x=>x.2 (key s' x.1)) p s (wp_dead M z s.heap t _ _ p s (λZ h=>h) (h z p U V))
theorem FF{t:Sem α}{Q:α->ea->Prop}(h:bH M A t (λa s'=>aJ s<=aJ s'->Q a s') (λe s'=>aJ s<=aJ s'->E e s') s):bH M A t Q E s:=
 λz p I U=>aaJ M z t (λZ Z Z x=>x.2 x.1) (λZ Z Z x=>x.2 x.1) p s (Ae M z (aJ s) t _ _ p s (t_ _) (h z p I U))
theorem lg{T:String}{first:List cz}{args:List (Bool×Sem cz)}{Q:cz->ea->Prop}(z:args.any (·.1)=false)(h:wpAny M A (evalArgs (.type T) true args []) (λa af=>bH M A (call (.type T) (first++a.pos) a.kw) Q E af) E s):bH M A (callWith pos (.type T) first args []) Q E s:=by
 refine aq (c8 (.of (fm h (λa af I=>?_) λZ Z x=>x)));refine aq (br ?_);rw[z];refine aq (bf ?_);exact aq (aV I (λr s₂ U=>.of (az (n4 (aaw (en U))))) λZ Z x=>x)
end
structure rQ(W:Wd)(q:Bool)(fn:ek)(T:String)(h:List AV->Rs AV):Prop where
 run:∀S F M cur J r s xs vs,S.Ok W fn q->Rel W S fn F M cur J s->mq W s.heap F xs vs->h xs=some r->bH (model W.prog W.w) S.A (call (.type T) vs []) (PE W F s r) (PX W S s r) s
theorem CD{x:Str}{es:List u_}{T:String}{g:St->Rs (List AV)}{h:List AV->Rs AV}(hn:aL W q fn (.Name x np) (λZ=>aA (.ty T)))(hg:gx W q fn es g)(U:a7 es=true)(hc:rQ W q fn T h):RE W q fn (.Call (.Name x np) es [] pos) (λJ=>bindR (g J) h):=.mk λS F M cur J r s z R hr=>by
 refine iL (iX (hn.run S F M cur J _ s z R rfl) rd λa v aB af ha T G hv=>?_);cases ha;subst hv;have V:=R.move z T G;refine lg (plain_any es S.env pos U) (bM U (PX.raise T ?_));exact gM hr (hg.run S aB M cur J · af pos z V) λxs h2 vs aQ s₂ I Y gA=>PX.oH (T.trans I) (aV (hc.run S aQ M cur J r s₂ xs vs z (V.move z I Y) gA h2) (λZ Z x=>(x.lift I Y).lift T G) λZ Z x=>x)
theorem CE:rQ W false fn "int" TB:=.mk λS F M cur J r s xs vs V R Y z=>by
 refine dX z Y λb t xs vs z Y=>di z Y λz=>aX (iE z) λI z=>?_;cases U:oy b with
 |some n=>
  rw[U]at z;cases z;refine .of (call_int_1 (S:=λA R s=>∀prog w,wpAny (model prog w) A.in1 (aaH.«int.__new__» ⟨[.type "int",.bytes b.toArray t],[]⟩) (λfin s'=>match fin with| .done f=>R (.ok f) s'| .again c'=>c'.quiet=true/\codeAny (model prog w) A c' R s') (λe s'=>R (.error e) s') s) (λprog w A R s h=>h prog w) λprog w=>y8 ?_);refine KIN.wp_text (n:=n) (y9 b I) (by refine ag (bX.seen I) ?_;exact yZ I U) (by refine ag (bX.seen I) ?_;exact beq_self_eq_true _) ?_;exact⟨rfl,PE.done (.toks R.stays) (by exact⟨_,rfl⟩)⟩
 |none=>
  rw[U]at z;refine aX (iE z) λhl z=>?_;revert z;refine bc λe=>?_;clear z;clear z;subst e;refine FE (FF (p5 (CC (ze (W:=W) I U (V.hand rfl) hl.1 hl.2 λaF e args k hx hz gF=>?_))));have T:Step W s {s with heap:=aF,toks:=k}:=.of_keeps R.stays hx.keeps hz;have R':=R.move V T (.refl _ _ F);exact ax hx.there λtt he Z=>⟨_,e,rfl,rfl,T,R'.frames V,gF e _ hx.new he,_,_,he,rfl,rfl,⟨by simp,λZ Z=>rfl⟩,.inl rfl⟩
end
noncomputable def eM(K:abd)(C:fF)(name:Str):Bool:=(clsIn K C).any (·.hasDict)&&(findIn K (.ref C) name==some none)&&(findIn K (.ref C) "__getattribute__"==some (some (.builtin "object.__getattribute__")))
theorem eM.find{K:abd}{C:fF}{v:cz}(h:eM K C name=true)(z:lookIn name o=some (some v)):findObj K C (some o) name=some (.value v):=by
 simp only[eM,v3,beq_iff_eq]at h;refine Ez h λh1 h2 h3=>ax (any_some h1) λcd I hd=>?_;unfold findObj;rw[I,Mr,h2,Mr];show(W.ownOf cd (some o) name).bind _=_;unfold W.ownOf;rw[hd,if_pos rfl];show(lookIn name o).bind _=_;rw[z];rfl
theorem eM.ga{K:abd}{C:fF}(h:eM K C name=true):findIn K (.ref C) "__getattribute__"=some (some (.builtin "object.__getattribute__")):=by
 simp only[eM,v3,beq_iff_eq]at h;exact h.2
theorem wd{es:Array ab9}{V:Nat}{d:fF}{m:Str->Option cz}(Y:h.get? d=some o)(hd:o.data= .dict es V)(Z:h.Ns d m):lookIn name o=some (m name):=by
 refine Ex Z λo' pS rq U z hk hm=>?_;rw[Y]at U;revert U;refine bc λe=>?_;subst e;rw[hd]at z;refine dK ?_ z;clear z;intro z;cases z;have hm:=hm name;unfold lookIn;rw[hd];dsimp only;unfold nsFind findBy at hm;rw[<-Array.find?_toList]at hm;cases I:es.toList.find? (·.key.isStr name)with
 |some e=>rw[I]at hm;rw[<-hm];rfl
 |none=>
  rw[I]at hm;rw[<-hm];have:es.toList.any (·.refKey)=false:=by
   rw[abx];intro e I;refine jY (hk e (by simpa using I)) λn t h=>?_;simp[adD,h]
  simp[this]
theorem dm.inst{x d C:fF}(r:dm h x d C ks vs):∃ox od,ox.dict=some d/\h.get? d=some od/\InstAt h x ox C (some od)/\(∀name,lookIn name od=some ((ks.zip vs).lookup name))/\∃es z,od.data= .dict es z/\od.dict=none/\es.size<=ks.length:=by
 exact MM r λsl U o es z I hd hz V Y=>⟨_,o,rfl,I,⟨U,rfl,rfl,I⟩,λname=>wd I hd V,es,z,hd,hz⟩
noncomputable def eP(ks:List Str)(xs:List AV)(name:Str):Option AV:=(ks.zip xs).lookup name
theorem bL.attr{F:fF->Prop}:∀{ks:List Str}{xs:List AV}{vs:List cz}{a:AV},bL h F xs vs->eP ks xs name=some a->∃v,(ks.zip vs).lookup name=some v/\VR h F a v
 |[],_,_,_,_,e=>by exfalso;cases e
 |_::_,[],_,_,_,e=>by exfalso;cases e
 |k::ks,x::xs,vs,a,r,e=>by
  refine bV r ?_;clear r;rintro v ws rfl z I;unfold eP at e;rw[P8,zd]at e⊢;split at e
  ·revert e;refine bc λe=>?_;subst e;exact⟨v,rfl,z⟩
  ·exact bL.attr (ks:=ks) I e
theorem bL.oM{F:fF->Prop}:∀{ks:List Str}{xs:List AV}{vs:List cz},bL h F xs vs->eP ks xs name=none->(ks.zip vs).lookup name=none
 |[],_,_,_,e=>by simp
 |_::_,[],vs,r,e=>by subst r;simp
 |k::ks,x::xs,vs,r,e=>by
  refine bV r ?_;clear r;rintro v ws rfl I z;unfold eP at e;rw[P8,zd]at e⊢;split at e
  ·exact z9 e
  ·exact bL.oM (ks:=ks) z e
section
variable {K:abd}
def qO(i:Nat)(J:St):Option (fF×List Str×List AV):=match J.getD i .un with
 | .ob C ks xs=>some (C,ks,xs)
 | .im (.obj C ks xs)=>some (C,ks,xs)
 |_=>none
theorem qO.el{C:fF}(h:qO i J=some (C,ks,xs))(K:J.getD i .un= .ob C ks xs->G)(z:J.getD i .un= .im (.obj C ks xs)->G):G:=by
 unfold qO at h;generalize J.getD i .un=v at h K z;cases v with
 |ob C' AB yu=>clear z;cases h;exact K rfl
 |im a=>clear K;cases a<;>first|exact aZ h|(cases h;exact z rfl)
 |_=>exact aZ h
theorem Rel.obj{F:fF->Prop}{x:Str}{C:fF}(R:Rel W S fn F M cur J s)(I:fn.names[i]? =some x)(U:qO i J=some (C,ks,xs)):∃a d vs,cur x=some (.ref a)/\dm s.heap a d C ks vs/\bL s.heap F xs vs:=by
 have r:=R.slots i x I;refine qO.el U (λz=>?_) λz=>?_
 ·rw[z]at r;refine hJ r λa d vs e Z Z Z h1 h2=>?_;clear r;exact⟨a,d,vs,e,h1,h2⟩
 ·rw[z]at r;refine ax r ?_;clear r;intro v e r;refine yn r ?_;clear r;rintro a d vs rfl _ _ h1 h2;exact⟨a,d,vs,e,h1,h2⟩
def Il(i:Nat)(C:fF)(name:Str)(J:St):Rs AV:=(qO i J).bind λo=>if o.1=C then(eP o.2.1 o.2.2 name).bind λa=>aA a else none
theorem CF{a d C:fF}{v:cz}{Q:cz->ea->Prop}{z:Bool}(X:K.In s.heap)(U:eM K C name=true)(r:dm s.heap a d C ks vs)(V:(ks.zip vs).lookup name=some v)(Y:handedIn v=true)(hQ:Q v {s with toks:=s.toks+1}):wpAny (model W.prog W.w) A (getAttr (.ref a) name z) Q E s:=by
 exact zY r.inst λox od Z Z I hl Z=>get_value X I (eM.ga U) (eM.find U ((hl name).trans (congrArg some V))) Y hQ
noncomputable def AV.handed:AV->Bool
 | .bi i=>(withoutEnding? i "#data").isNone
 |_=>true
set_option tactic.hygienic true in
theorem VR.handed{F:fF->Prop}{a:AV}{v:cz}(r:VR h F a v)(z:a.handed=true):handedIn v=true:=by
 cases a
 case bi i=>subst r;exact z
 all_goals first
  |(subst r;rfl)
  |(refine au r ?_;clear r;rintro _ rfl;rfl)
  |(refine e7 r ?_;clear r;rintro _ _ rfl _;rfl)
  |(refine ft r ?_;clear r;rintro _ _ _ rfl _;rfl)
theorem Kx{x:Str}(i:Nat)(C:fF)(U:K.In W.base)(V:eM K C name=true)(Y:fn.names[i]? =some x)(Z:fn.scope.names.lookup x=some .local\/fn.scope.names.lookup x=some .cell)(hd:(x==("__debug__":Str))=false):aL W q fn (.Attribute (.Name x np) name pos) (λJ=>(Il i C name J).bind λr=>match r with| .ok a=>if a.handed then some (.ok a)else none|e=>some e):=.mk λS F M cur J r s hS R z=>by
 refine ax (z0.mp z) λTQ h1 h2=>ax (z0.mp h1) λy0 ho h3=>?_;clear z h1;rcases y0 with⟨C',ks,xs⟩
 dsimp only at h3;split at h3
 case isFalse=>exact aZ h3
 rename_i hC;refine ax (z0.mp h3) λa ha h4=>?_;clear h3;subst hC;obtain rfl:TQ= .ok a:=(gq h4).symm;simp only at h2;split at h2
 case isFalse=>exact aZ h2
 rename_i hh;revert h2;refine bc λe=>?_;subst e;refine dh (R.obj Y ho) λp d vs hc ei hr=>ax (hr.attr ha) λv hv I=>?_;rw[arm_eval_Attribute];have base:attributeBase (.Name x np) name S.env (eval (.Name x np) S.env)=eval (.Name x np) S.env:=rfl;rw[base];refine az (Z6 (cD hS R Z hc ?_) hd);refine az (IW (az (n4 ?_)));exact CF (U.keeps R.stays) V ei hv (I.handed hh) (az (en (en (PE.done (.toks R.stays) I))))
noncomputable def eQ{α:Type}(name:Str)(v:α):List Str->List α->List Str×List α
 |k::ks,x::xs=>if k=name then(k::ks,v::xs)else(k::(eQ name v ks xs).1,x::(eQ name v ks xs).2)
 |[],_=>([name],[v])
 |k::ks,[]=>(name::k::ks,[v])
theorem wg:eQ name u [] zs=([name],[u]):=rfl
theorem wh:eQ name u (c::ks) []=(name::c::ks,[u]):=rfl
theorem oN:eQ name u (c::ks) (y::zs)=if c=name then(c::ks,u::zs)else(c::(eQ name u ks zs).1,y::(eQ name u ks zs).2):=rfl
theorem qP{v:α}{y:Str}:∀{ks:List Str}{vs:List α},((eQ name v ks vs).1.zip (eQ name v ks vs).2).lookup y=if y=name then some v else(ks.zip vs).lookup y
 |[],vs=>by
  simp only[wg,P8,zd];by_cases h:y=name
  ·simp[h]
  ·have:(y==name)=false:=by simpa using h
   simp[h,this]
 |k::ks,[]=>by
  simp only[wh,P8,zd];by_cases h:y=name
  ·simp[h]
  ·have:(y==name)=false:=by simpa using h
   simp[h,this]
 |k::ks,x::xs=>by
  rw[oN];split
  ·rename_i z;subst z;refine ag P8 (ag P8 (ag zd (ag zd ?_)));by_cases h:y=k
   ·simp[h]
   ·have:(y==k)=false:=by simpa using h
    simp[h,this]
  ·rename_i z;refine ag P8 (ag P8 (ag zd (ag zd (ag (qP (ks:=ks) (vs:=xs)) ?_))));by_cases h:y=k
   ·have h2:¬y=name:=λe=>z (h.symm.trans e);have h3:(y==k)=true:=by simpa using h
    simp[h3,h2]
   ·have:(y==k)=false:=by simpa using h
    exact ag this rfl
theorem tU{name:Str}{v:α}:∀{ks:List Str}{vs:List α},ks.length<=(eQ name v ks vs).1.length/\((ks.zip vs).lookup name=none->ks.length+1<=(eQ name v ks vs).1.length)
 |[],vs=>by simp[wg]
 |k::ks,[]=>by simp[wh]
 |k::ks,x::xs=>by
  refine aX (tU (name:=name) (v:=v) (ks:=ks) (vs:=xs)) λh1 h2=>?_;rw[oN];split
  ·rename_i z;refine⟨t_ _,λh=>?_⟩;rw[P8,zd,z]at h;simp at h
  ·rename_i z;refine⟨by simpa using h1,λh=>?_⟩;rw[P8,zd]at h;have:(name==k)=false:=by simpa using λe=>z e.symm
   rw[this]at h
   simpa using h2 h
theorem tV{F:fF->Prop}{name:Str}{a:AV}{v:cz}:∀{ks:List Str}{xs:List AV}{vs:List cz},bL h F xs vs->VR h F a v->bL h F (eQ name a ks xs).2 (eQ name v ks vs).2/\(eQ name a ks xs).1=(eQ name v ks vs).1
 |[],xs,vs,r,z=>⟨⟨v,[],rfl,z,rfl⟩,rfl⟩
 |k::ks,[],vs,r,z=>by
  subst r;exact⟨⟨v,[],rfl,z,rfl⟩,rfl⟩
 |k::ks,x::xs,vs,r,z=>by
  refine bV r ?_;clear r;rintro w ws rfl U I;rw[oN,oN];refine aX (tV (name:=name) (ks:=ks) I z) λV Y=>?_;split
  ·exact⟨by exact⟨v,ws,rfl,z,I⟩,rfl⟩
  ·exact⟨by exact⟨w,_,rfl,U,V⟩,by exact ag Y rfl⟩
theorem CG{es:Array ab9}{z:Nat}(h:o.data= .dict es z):o.isFreed=false:=by
 obtain⟨c,d,I,sl⟩:=o;subst h;rfl
def ka(K:abd)(C:fF)(name:Str):Bool:=eM K C name&&plainOver K C&&(findIn K (.ref C) "__setattr__"==some (some (.builtin "object.__setattr__")))
theorem CH{s:ea}{a d C:fF}{ks:List Str}{vs:List cz}{name:Str}{v:cz}{Q:Unit->ea->Prop}(X:K.In s.heap)(V:ka K C name=true)(r:dm s.heap a d C ks vs)(hz:ks.length<=1000)(hQ:∀h' k,NC d s.heap h'->dm h' a d C (eQ name v ks vs).1 (eQ name v ks vs).2->Q () {s with heap:=h',toks:=k}):wpAny (model W.prog W.w) A (setAttr (.ref a) name v) Q E s:=by
 simp only[ka,v3,beq_iff_eq]at V;refine Ez V ?_;clear V;intro V hp X6;have TR:=V;simp only[eM,v3,beq_iff_eq]at TR;refine Ez TR λOo Oq Z=>?_;clear TR;have ht:takerIn K C name=some none:=by unfold takerIn;rw[Oq];rfl
 refine zY r.inst λox od VY z I hl y4=>bV y4 λes ep Y VZ Zo=>?_;clear y4;refine set_plain X I X6 (osa_open (s:={s with toks:=s.toks+1}) X I hp ht λb=>ax (any_some Oo) λcd hc dg=>?_);have hx:=I.at_;clear hl;obtain⟨oc,Zp,Zq,Q6⟩:=ox;have yQ:=I.cls;dsimp only at yQ VY;clear I;subst yQ VY;refine az (en (az (az (wpAny_loadPart hx (az (Looks.here (s:={s with toks:=s.toks+1}) (looks_clsIn X hc) ?_))))));rw[dg];refine en (a:=some d) (az (en (az ?_)));unfold nsSet;refine az (az (wpAny_askSetting (en (az (wpAny_mkText (az (wpAny_loadPart z ?_)))))));rw[Y];dsimp only;refine jJ r λy5 y6 dG gu=>?_;clear r;refine au y5 λsl TU=>?_;clear y5;refine Ex y6 λFH Ot Ov kU mC Ow kK=>?_;clear y6;rw[z]at kU;revert kU;refine bc λe=>?_;clear Ow;subst e;rw[Y]at mC;cases mC;refine Ex (id dG) λoO Ox Oy jg gI Oz Im=>?_;rw[z]at jg;revert jg;refine bc λe=>?_;subst e;rw[Y]at gI;cases gI;have c:aRefKeyMayBeTheName name es=false:=by
  rw[aRefKeyMayBeTheName_eq];unfold aRefKeyMayBeTheNameByArray;have Kk:es.any (·.refKey)=false:=by
   rw[Array.any_eq_false'];intro e he;refine jY (Oz e he) λn t h=>?_;simp[adD,h]
  rw[Kk,aap]
 rw[c,if_neg BA];have X7:=v5 dG name (if name.cps.isEmpty=true then 0 else reduceHash (W.w.params.strHash name.cps)) (s.toks+1) v;have TV:d≠a:=by rw[gu];exact HA (rv _)
 have size:∀hash key,∃pS rq,(adg name hash key v od).data= .dict pS rq/\(adg name hash key v od).dict=none/\pS.size<=(eQ name v ks vs).1.length:=λhash key=>by
  clear z;obtain⟨Zr,Zs,X8,X9⟩:=od;dsimp only at Y VZ;subst Y VZ;refine aX (tU (name:=name) (v:=v) (ks:=ks) (vs:=vs)) λl1 l2=>?_;cases U:es.findIdx? (·.key.isStr name)with
  |some i=>exact⟨_,ep,by simp only[aao,ZS,U];rfl,by simp only[aao,ZS,U],by simp;exact bU ‹_› ‹_›⟩
  |none=>
   refine⟨_,ep+1,by simp only[aao,ZS,U];rfl,by simp only[aao,ZS,U],?_⟩;have:(ks.zip vs).lookup name=none:=by
    have AD:nsFind es name=(ks.zip vs).lookup name:=Im name;rw[<-AD];unfold nsFind findBy;rw[show es.find? (λe=>e.key.isStr name)=none from by
     rw[Array.findIdx?_eq_none_iff]at U;rw[Array.find?_eq_none];intro e he
     simpa using U e he]
    rfl
   have:=l2 this;simp;exact aam ‹_› ‹_›
 refine wpAny_updatePart z (bV (size (if name.cps.isEmpty=true then 0 else reduceHash (W.w.params.strHash name.cps)) (.str name (s.toks+1))) λpS rq z1 z2 z3=>?_);have V0:=JP (adg name (if name.cps.isEmpty=true then 0 else reduceHash (W.w.params.strHash name.cps)) (.str name (s.toks+1)) v) z (CG z1);have hlen:(eQ name v ks vs).1.length<=1001:=by
  have:∀(ks:List Str)(vs:List cz),(eQ name v ks vs).1.length<=ks.length+1:=by
   intro ks
   induction ks with
   |nil=>intro vs;simp[wg]
   |cons k ks ih=>intro vs;cases vs with
    |nil=>simp[wh]
    |cons x xs=>rw[oN];split<;>simp;exact ih xs
  exact bU (this ks vs) (by exact Nat.lt_succ_of_le ‹_›)
 refine az (wpAny_lookBehind V0 (by rw[z1];exact pastItsLine_dict (by rw[aau];exact bU (bU ‹_› ‹_›) (by decide))) ?_);refine en (hQ _ _ (ZJ ..) ⟨⟨sl,(Vp _ _ TV).trans TU⟩,⟨_,pS,rq,V0,z1,z2,z3⟩,?_,gu⟩);have e:(λk=>((eQ name v ks vs).1.zip (eQ name v ks vs).2).lookup k)=λx=>if x=name then some v else(ks.zip vs).lookup x:=by
  funext y;exact qP
 rw[e];exact X7
end
section
variable {K:abd}
theorem Rel.tW{F:fF->Prop}(R:Rel W S fn F M cur J s){x:Str}{a d C:fF}(hi:fn.names[i]? =some x)(dW:(J.getD i .un).bR=true)(ck:cur x=some (.ref a))(ei:dm s.heap a d C ks vs):∀j y,fn.names[j]? =some y->j≠i->¬nS d (J.getD j .un) (cur y):=λj y hj fL I=>by
 refine MM (id ei) λOA Zt OB OC OD Y TX Z Z X_=>?_;have U:=R.slots j y hj;cases V:J.getD j .un with
 |un=>rw[V]at I;exact I
 |im c=>rw[V]at I;exact I
 |own ys=>
  rw[V]at I U;refine bF U λb us hb Z y5 Z=>?_;clear U;rcases y5 with⟨n,sl,ho⟩
  have I:cur y=some (.ref d):=I;rw[hb]at I;have e:b=d:=by injection I with I;injection I
  rw[e,Y]at ho;revert ho;refine bc λe=>?_;clear Y;subst e;cases TX
 |ob C' AB ys=>
  rw[V]at I U;refine hJ U λz d' us hz hx hd hn y5 Z=>?_;clear U;refine jJ y5 λy6 y0 Z h4=>?_;clear y5;refine au y6 λsl h1=>?_;clear y6;refine dh y0 λo es ep h2 h3 Z=>?_;clear y0;refine g' I (λI=>?_) λI=>?_
  ·rw[hz]at I;have e:z=d:=by injection I with I;injection I
   rw[e,Y]at h1;revert h1;refine bc λe=>?_;clear Y;subst e;cases TX
  ·exact R.dist j i y x hj hi fL (by refine ag V ?_;rfl) dW (I.trans (by exact ag ck (ag X_ rfl)))
 |fn df=>
  rw[V]at I U;refine ax U λv hv y1=>?_;clear U;refine nG y1 ?_;clear y1;rintro b o pm cd doc rfl _ ho hd _;have I:cur y=some (.ref d):=I;rw[hv]at I;have e:b=d:=by injection I with I;injection I
  rw[e,Y]at ho;revert ho;refine bc λe=>?_;subst e;rw[TX]at hd;cases hd
def jn(i:Nat)(C:fF)(name:Str)(a:AV)(J:St):Option St:=yv i (λz ks xs=>if z=C/\ks.length<=1000 then some (J.set i (.ob C (eQ name a ks xs).1 (eQ name a ks xs).2))else none) J
theorem qQ{F:fF->Prop}{x name:Str}{C:fF}{a:AV}{v:cz}{Q:Unit->ea->Prop}{b:fF}(sN:K.In W.base)(hK:ka K C name=true)(hS:S.Ok W fn q)(R:Rel W S fn F M cur J s)(hi:fn.names[i]? =some x)(ck:cur x=some (.ref b))(hv:VR s.heap F a v)(h:jn i C name a J=some ak)(hQ:∀s',Rel W S fn F M cur ak s'->fI W F M F M s s'->(∀x v,VR s.heap F x v->VR s'.heap F x v)->Q () s'):wpAny (model W.prog W.w) A (setAttr (.ref b) name v) Q E s:=by
 refine yv.el h ?_;clear h;intro C' ks xs hl h;split at h
 case isFalse=>exact aZ h
 rename_i z;refine aX z ?_;clear z;rintro rfl hz;revert h;refine bc λe=>?_;subst e;have r:=R.slots i x hi;rw[hl]at r;refine hJ r λp d vs El p6 U fK ei hr=>?_;clear r;rw[ck]at El;obtain rfl:b=p:=by injection El with El;injection El
 refine CH (sN.keeps R.stays) hK ei hz λh' k V wi=>?_;have dW:(J.getD i .un).bR=true:=by refine ag hl ?_;rfl
 refine MP (id ei) λZ o es ep I hd Z Z=>aX (tV (name:=name) (ks:=ks) hr hv) λr1 r2=>?_;have up:∀{a v},VR s.heap F a v->VR h' F a v:=λr=>r.mono (λc z o I=>⟨o.slots,(V.2 c λe=>(R.mu d U).2.2 (e▸z)).trans I⟩) λZ h=>h;have ups:∀{a v},bL s.heap F a v->bL h' F a v:=λr=>r.mono (λc z o I=>⟨o.slots,(V.2 c λe=>(R.mu d U).2.2 (e▸z)).trans I⟩) λZ h=>h;obtain⟨aM,Y⟩:=R.BP (lv:=.ob C' (eQ name a ks xs).1 (eQ name a ks xs).2) (t:=k) hS hi U V (λo' e=>by rw[I]at e;revert e;refine bc λe=>?_;subst e;rintro⟨ws,h1,_⟩;rw[hd]at h1;cases h1) (λh=>fK (.inl h))
  (λo' c e h1=>by rw[I]at e;revert e;refine bc λe=>?_;subst e;rw[hd]at h1;cases h1) dW ⟨b,d,(eQ name v ks vs).2,ck,p6,U,fK,by refine ag r2 ?_;exact wi,ups r1⟩ (R.tW hi dW ck ei) (by refine MP wi λZ o2 Q7 Q8 q1 q2 Z Z=>?_;clear wi;exact⟨o2,q1,by rintro⟨ws,h3,_⟩;rw[q2]at h3;cases h3⟩)
 exact hQ _ aM ⟨λp o hp e=>⟨o.slots,(V.2 p λe=>hp (.inr (e▸U))).trans e⟩,Kj V.1.symm,λZ h=>.inl h,λZ h=>h,λZ h=>.inl h,.refl _⟩ Y
theorem Ky{x:Str}(i:Nat)(C:fF)(sN:K.In W.base)(hK:ka K C name=true)(I:fn.names[i]? =some x)(hk:fn.scope.names.lookup x=some .local\/fn.scope.names.lookup x=some .cell)(hd:(x==("__debug__":Str))=false):tj W fn (.Attribute (.Name x np) name pos) (λa J=>jn i C name a J):=.mk λS F M cur J ak s a v U R hv h=>by
 have z:∃V ks xs,J.getD i .un= .ob V ks xs:=by
  refine yv.el h λZ Z Z z Z=>⟨_,_,_,z⟩
 refine zZ z ?_;intro V ks xs z;have r:=R.slots i x I;rw[z]at r;refine ft r λp d vs Y Z=>?_;rw[arm_assign_Attribute];refine az (n4 (Z6 (cD U R hk Y ?_) hd));refine az (IW (az (n4 ?_)));exact qQ sN hK U R I Y hv h λs' R' T' k'=>wpAny_release ⟨F,cur,R',T',k'⟩
theorem FJ{x:Str}{U:Pos}{f:St->Rs AV}(i:Nat)(C:fF)(h:aL W q fn value f)(sN:K.In W.base)(hK:ka K C name=true)(V:fn.names[i]? =some x)(hk:fn.scope.names.lookup x=some .local\/fn.scope.names.lookup x=some .cell)(hd:(x==("__debug__":Str))=false)(hs:∀env,swapsWith value (some (.Attribute (.Name x np) name U)) pos.line env=pure false):aR W q fn (.Assign [.Attribute (.Name x np) name U] value pos) (λJ=>aU (f J) J λa=>(jn i C name a J).map .next):=.mk λS F M cur J r s I R Y=>by
 refine plainObj_wpAny_Assign_Attribute ?_ (hs _);refine Nd I R Y (h.run S F M cur J · s I R) λa h2 v aB af T G hv=>ax (r0.mp h2) ?_;clear Y h2;rintro ak h3 rfl;have aI:=R.move I T G;have z:∃C' ks xs,J.getD i .un= .ob C' ks xs:=by
  refine yv.el h3 λZ Z Z z Z=>⟨_,_,_,z⟩
 refine zZ z ?_;clear z;intro C' ks xs z;have r:=R.slots i x V;rw[z]at r;refine ft r λp d vs El Z=>?_;clear r;refine Z6 (cD I aI hk El ?_) hd;exact qQ sN hK I aI V El hv h3 λs' R' T' k'=>⟨aB,M,cur,ak,R',(T.fY G).trans T',rfl⟩
end
def Kz(W:Wd)(outer:List Env)(F:fF->Prop)(s:ea)(x d C:fF)(r:Except cz (List Str×List AV))(res:aaR)(s':ea):Prop:=
 match res with
 | .ok (.ret v)=>∃ks xs vs F',r= .ok (ks,xs)/\v= .none/\fD W (λb=>b=x\/b=d) s s'/\bP s s' F F'/\dm s'.heap x d C ks vs/\bL s'.heap F' xs vs
 | .ok _=>False
 | .error y=>∃cls e,r= .error cls/\y= .ref e/\fD W (λb=>b=x\/b=d) s s'/\nh W outer (aJ s) e cls s'.heap
def KA(W:Wd)(a:fF)(rk:Nat)(C:fF)(spec:List Str->List AV->List AV->Option (Except cz (List Str×List AV))):Prop:=
 ∀A outer F s x d ks xs vs ys ws r,Ready W A outer F (λb=>b=x\/b=d) s rk->dm s.heap x d C ks vs->bL s.heap F xs vs->bL s.heap F ys ws->spec ks xs ys=some r->
  codeAny (model W.prog W.w) A (.call (.ref a) ⟨.ref x::ws,[]⟩) (Kz W outer F s x d C r) s
def eR(C:fF):Option Ou->Option (Except cz (List Str×List AV))
 |some (.next J)=>yv 0 (λz ks xs=>if z=C then some (.ok (ks,xs))else none) J
 |some (.ex c _)=>some (.error c)
 |some (.brk _)=>none
 |some (.cont _)=>none
 |some (.ret _)=>none
 |none=>none
section
variable {K:abd}
theorem rR{F:fF->Prop}{aC:Str->Option cz}{x d C:fF}{ou:Ou}{r:Except cz (List Str×List AV)}{v:cz}(h0:fn.names[0]? =some ("self":Str))(hs:S.s₀=s)(U:S.X=λb=>b=x\/b=d)(hF:S.fu=F)(Z:dm s.heap x d C ks vs)(z:eR C (some ou)=some r)(V:Rel W S fn F' M' aC ak s')(h:(∃av,ou= .ret av/\VR s'.heap F' av v)\/(ou= .next ak/\v= .none)):Kz W outer F s x d C r (.ok (.ret v)) s':=by
 subst hs hF;refine MR h ?_ ?_;rotate_left;clear h;rintro rfl rfl;rotate_right;clear h;rintro av rfl _
 ·simp[eR]at z
 ·simp only[eR]at z;refine yv.el z ?_;clear z;intro C' AB yu hl z;split at z
  case isFalse=>exact aZ z
  rename_i hC;subst hC;revert z;refine bc λe=>?_;subst e;have r:=V.slots 0 _ h0;rw[hl]at r;refine hJ r λx' I pK hc p6 m2 fK wi Ek=>?_;clear r;have Y:S.X I/\S.X (I+1):=by
   refine Classical.byContradiction λhn=>fK (.inr ⟨⟨x,?_⟩,hn⟩);exact ag U (.inl rfl)
  rw[U]at Y;have V1:x=d+1:=Z.2.2.2;have Mo:I=d:=by
   refine aX Y λh h2=>?_;clear Y;have h:I=x\/I=d:=h;have h2:I+1=x\/I+1=d:=h2;refine g' h (λh=>?_) λh=>?_
   ·exfalso;rw[h]at h2;refine g' h2 (λh2=>?_) λh2=>?_
    ·exact Nat.succ_ne_self x h2
    ·rw[V1]at h2;exact Nat.ne_of_gt (bk (rv d) (Tw (d+1))) h2
   ·exact h
  have TU:x'=x:=by exact ag wi.2.2.2 (ag Mo (ag Z.2.2.2 rfl))
  clear Z hc fK Y V1;subst Mo TU;refine⟨AB,yu,pK,F',rfl,rfl,by refine fP U ?_;exact V.step,⟨V.grow.1,λa h=>?_⟩,wi,Ek⟩;clear wi;rcases V.grow.2 a h with h'|h'|h'
  ·exact .inl h'
  ·rw[U]at h';exact absurd h (by refine g' h' ?_ ?_;rotate_left;clear h';clear U;rintro rfl;rotate_right;clear h';clear U;rintro rfl;exact(V.mu _ p6).2.2;exact(V.mu _ m2).2.2)
  ·exact .inr h'
theorem FK{a:fF}{f:St->Option Ou}{ps:List Str}(C:fF)(ho:W.base.get? a=some o)(dR:o.data= .func fd)(jb:W.base.CodeRec fd.code fd.qualname)(dS:fd.body= .stmts body)(j4:fd.closure=[])(mw:fd.globals=3)(rt:fd.builtins=0)(dT:∀vs:List cz,vs.length=ps.length+1->bindArgs fd ⟨vs,[]⟩=pure ((("self":Str)::ps).zip vs))(b9:∃rest,names=("self":Str)::ps++rest)(dp:names.Nodup)(lU:∀x∈("self":Str)::ps,fd.scope.names.lookup x=some .local\/fd.scope.names.lookup x=some .cell)(hB:c5 W false ⟨fd.scope,names,rk,false,fd.code,fd.qualname⟩ body f)(mS:autoParam (fd.scope.isCoroutine=false) gQ)(f_:autoParam (fd.scope.isGenerator=false) gQ)(hk:autoParam (fd.scope.kind= .function) gQ):KA W a rk C (λks xs ys=>if ys.length=ps.length then eR C (f (.ob C ks xs::aO (names.length-1) ys))else none):=λA outer F s x d ks xs vs ys ws r Y ei hv hw I=>by
 simp only at I;split at I
 case isFalse=>exact aZ I
 rename_i Mp;have TY:ws.length=ps.length:=hw.length.trans Mp;refine au b9 λrest hrest=>?_;have td:(("self":Str)::ps).Nodup:=by rw[hrest]at dp;exact(ZZ.mp dp).1
 have Mq:names.length=ps.length+rest.length+1:=by refine ag hrest ?_;simp
 rcases U:f (.ob C ks xs::aO (names.length-1) ys)with _|ou
 ·rw[U]at I;simp[eR]at I
 rw[U]at I;have tX:((("self":Str)::ps).zip (V9 x::ws)).reverse.lookup ("self":Str)=some (.ref x):=cY td (i:=0) rfl rfl;have h0:names[0]? =some ("self":Str):=by refine ag hrest ?_;rfl
 have tY:∀i,(adE (.ob C ks xs::aO (names.length-1) ys) i LV.un).bR=true->i=0:=λi h=>by
  cases i with
  |zero=>rfl
  |succ i=>
   rw[Uq,bI]at h;cases Z:ys[i]? <;>rw[Z]at h<;>(exfalso;cases h)
 refine vb Y (Y.stays _ _ ho) dR (jb.keeps Y.stays) dS j4 mw rt (binds:=(("self":Str)::ps).zip (.ref x::ws)) (dQ:=.ob C ks xs::aO (names.length-1) ys) (λA' Q E h=>by refine ag (dT _ (by simp[TY])) ?_;exact en h) (λy hy=>lU y.1 (Z3 hy).1) dp ?_ (λi y V=>?_)
  (λi j y z V hj AG h1 h2=>absurd ((tY i h1).trans (tY j h2).symm) AG)
  hB U (λS hs hX hF F' M' aC ak v s' R' h=>?_) (λS hs hX hF F' M' aC ak cls e s' R' h1 h2=>?_) (.inl (by refine ag (abC) ?_;exact h0)) ?_ mS f_ hk
 ·simp only[aO,CV,nx,ro,Q_];exact Vu Mp Mq
 ·cases i with
  |zero=>
   rw[h0]at V;revert V;refine bc λe=>?_;subst e;exact⟨x,d,vs,tX,.inl rfl,.inr rfl,id,ei,hv⟩
  |succ i=>
   refine ag Uq (ag bI ?_);cases Z:ys[i]? with
   |none=>trivial
   |some b=>
    refine ax (hw.get Z) λv yB gv=>?_;have th:i<ps.length:=by refine fP Mp ?_;exact(gw.mp Z).1
    have yC:(("self":Str)::ps)[i+1]? =some y:=by rw[hrest,R0 (by simp;exact th)]at V;exact V
    exact⟨v,cY td yC yB,gv⟩
 ·exact rR h0 hs hX hF ei I R' h
 ·clear Y ei hv hw U;subst hs h1;simp only[eR,e4]at I;subst I;exact⟨cls,e,rfl,rfl,by refine fP hX ?_;exact R'.step,h2⟩
 ·clear U;cases ou with
  |next J=>exact .inr (.inl ⟨J,rfl⟩)
  |ret a=>exact .inl ⟨a,rfl⟩
  |ex c J=>exact .inr (.inr ⟨c,J,rfl⟩)
  |brk J=>simp[eR]at I
  |cont J=>simp[eR]at I
end
def KC(W:Wd)(a:fF)(rk:Nat)(C:fF)(spec:List Str->List AV->List AV->Option (Except cz (List Str×List AV))):Prop:=
 ∀A outer F s x d ks xs vs ys ws r,Ready W A outer F (λb=>b=x\/b=d) s rk->dm s.heap x d C ks vs->bL s.heap F xs vs->bL s.heap F ys ws->spec ks xs ys=some r->
  ey (model W.prog W.w) A (.call (.ref a) ⟨.ref x::ws,[]⟩) (Kz W outer F s x d C r) s
section
variable {K:abd}
theorem oQ{a:fF}{f:St->Option Ou}{ps:List Str}(C:fF)(ho:W.base.get? a=some o)(dR:o.data= .func fd)(jb:W.base.CodeRec fd.code fd.qualname)(dS:fd.body= .stmts body)(j4:fd.closure=[])(mw:fd.globals=3)(rt:fd.builtins=0)(dT:∀vs:List cz,vs.length=ps.length+1->bindArgs fd ⟨vs,[]⟩=pure ((("self":Str)::ps).zip vs))(b9:∃rest,names=("self":Str)::ps++rest)(dp:names.Nodup)(lU:∀x∈("self":Str)::ps,fd.scope.names.lookup x=some .local\/fd.scope.names.lookup x=some .cell)(hB:RB W false ⟨fd.scope,names,rk,false,fd.code,fd.qualname⟩ body f)(mS:autoParam (fd.scope.isCoroutine=false) gQ)(f_:autoParam (fd.scope.isGenerator=false) gQ)(hk:autoParam (fd.scope.kind= .function) gQ):KC W a rk C (λks xs ys=>if ys.length=ps.length then eR C (f (.ob C ks xs::aO (names.length-1) ys))else none):=λA outer F s x d ks xs vs ys ws r Y ei hv hw I=>by
 simp only at I;split at I
 case isFalse=>exact aZ I
 rename_i Mp;have TY:ws.length=ps.length:=hw.length.trans Mp;refine au b9 λrest hrest=>?_;clear b9;have td:(("self":Str)::ps).Nodup:=by rw[hrest]at dp;exact(ZZ.mp dp).1
 have Mq:names.length=ps.length+rest.length+1:=by refine ag hrest ?_;simp
 rcases U:f (.ob C ks xs::aO (names.length-1) ys)with _|ou
 ·rw[U]at I;simp[eR]at I
 rw[U]at I;have tX:((("self":Str)::ps).zip (V9 x::ws)).reverse.lookup ("self":Str)=some (.ref x):=cY td (i:=0) rfl rfl;have h0:names[0]? =some ("self":Str):=by refine ag hrest ?_;rfl
 have tY:∀i,(adE (.ob C ks xs::aO (names.length-1) ys) i LV.un).bR=true->i=0:=λi h=>by
  cases i with
  |zero=>rfl
  |succ i=>
   rw[Uq,bI]at h;cases Z:ys[i]? <;>rw[Z]at h<;>(exfalso;cases h)
 refine rP Y (Y.stays _ _ ho) dR (jb.keeps Y.stays) dS j4 mw rt (binds:=(("self":Str)::ps).zip (.ref x::ws)) (dQ:=.ob C ks xs::aO (names.length-1) ys) (λA' Q E h=>by refine ag (dT _ (by simp[TY])) ?_;exact en h) (λy hy=>lU y.1 (Z3 hy).1) dp ?_ (λi y V=>?_)
  (λi j y z V hj AG h1 h2=>absurd ((tY i h1).trans (tY j h2).symm) AG)
  hB U (λS hs hX hF F' M' aC ak v s' R' h=>?_) (λS hs hX hF F' M' aC ak cls e s' R' h1 h2=>?_) (.inl (by refine ag (abC) ?_;exact h0)) ?_ mS f_ hk
 ·simp only[aO,CV,nx,ro,Q_];lia
 ·cases i with
  |zero=>
   rw[h0]at V;revert V;refine bc λe=>?_;subst e;exact⟨x,d,vs,tX,.inl rfl,.inr rfl,id,ei,hv⟩
  |succ i=>
   refine ag Uq (ag bI ?_);cases Z:ys[i]? with
   |none=>trivial
   |some b=>
    refine ax (hw.get Z) λv yB gv=>?_;have th:i<ps.length:=by refine fP Mp ?_;exact(gw.mp Z).1
    have yC:(("self":Str)::ps)[i+1]? =some y:=by rw[hrest,R0 (by simp;exact th)]at V;exact V
    exact⟨v,cY td yC yB,gv⟩
 ·exact rR h0 hs hX hF ei I R' h
 ·clear Y ei hv hw U;subst hs h1;simp only[eR,e4]at I;subst I;exact⟨cls,e,rfl,rfl,by refine fP hX ?_;exact R'.step,h2⟩
 ·clear U;cases ou with
  |next J=>exact .inr (.inl ⟨J,rfl⟩)
  |ret a=>exact .inl ⟨a,rfl⟩
  |ex c J=>exact .inr (.inr ⟨c,J,rfl⟩)
  |brk J=>simp[eR]at I
  |cont J=>simp[eR]at I
end
section
variable {K:abd}
theorem jZ.past{N F Z:fF->Prop}{lv:LV}{v:Option cz}(hF:∀a,F a->F' a)(X':∀a,Z a->¬F a)(hB:∀a,Z a->∀o,h.get? a=some o->¬iS o)(I:∀b,Z b->¬nS b lv v)(Y:∀a,M a->¬Z a->M' a)(k:∀b o,¬W.loose b->¬Z b->h.get? b=some o->∃sl,h'.get? b=some {o with slots:=sl})(Yb:∀a,F a->¬W.loose a)(Ra:∀a,M a->¬W.loose a)(r:jZ W N h F M lv v):jZ W N h' F' M' lv v:=by
 have kq:Ab F h h':=λa U o z=>k a o (Yb a U) (λhz=>X' a hz U) z;cases lv with
 |un=>trivial
 |im a=>refine ax r λx e V=>?_;clear r;exact⟨x,e,V.mono kq hF⟩
 |own xs=>
  refine bF r ?_;clear r;rintro a vs rfl hm y0 hr;rcases y0 with⟨n,sl,z⟩
  exact au (k a _ (Ra a hm) (λhz=>I a hz rfl) z) λdH hs=>⟨a,vs,rfl,Y a hm (λhz=>I a hz rfl),⟨n,dH,hs⟩,hr.mono kq hF⟩
 |ob C ks xs=>
  refine hJ r ?_;clear r;rintro x d vs rfl V hd hn z hr;refine⟨x,d,vs,rfl,Y x V (λhz=>I x hz (.inl rfl)),Y d hd (λhz=>I d hz (.inr (by exact ag z.2.2.2 rfl))),hn,z.up (λb o hb e=>k b o (by refine g' hb ?_ ?_;rotate_left;clear hb;clear hn z;rintro rfl;rotate_right;clear hb;clear I;clear z;rintro rfl;exact Ra _ V;exact Ra _ hd) (λhz=>I b hz ?_) e),hr.mono kq hF⟩;refine g' hb ?_ ?_;rotate_left;clear hb;clear hd;clear hn;rintro rfl;rotate_right;clear hb;clear V;clear I;rintro rfl
  ·exact .inl rfl
  ·exact .inr (by exact ag z.2.2.2 rfl)
 |fn d=>
  refine ax r ?_;clear r;rintro x rfl y2;refine nG y2 ?_;clear y2;rintro a o pm cd doc rfl U z hd y3;refine q8 y3 ?_;clear y3;rintro c oc vs t rfl hc yq zR hz hv;exact au (k a _ (Ra a U) (λhz=>I a hz rfl) z) λsl hs=>au (k c _ hc (λj1=>hB c j1 _ yq ⟨vs,zR,hz⟩) yq) λdH uS=>⟨_,rfl,a,_,pm,.ref c,doc,rfl,Y a U (λhz=>I a hz rfl),hs,hd,c,_,vs,t,rfl,hc,uS,zR,hz,hv⟩
theorem Rel.xB{F:fF->Prop}{n:Str}{x d C:fF}{lv:LV}(hS:S.Ok W fn q)(R:Rel W S fn F M cur J s)(hi:fn.names[i]? =some n)(dW:(J.getD i .un).bR=true)(ck:cur n=some (.ref x))(ei:dm s.heap x d C ks vs)(p6:M x)(m2:M d)(fK:¬S.uT d)(T:fD W (λb=>b=x\/b=d) s s')(G:bP s s' F F')(Eh:jZ W S.uT s'.heap F' M' lv (cur n))(TZ:∀b,M' b->M b)(zf:∀b,M b->¬(b=x\/b=d)->M' b)(KD:∀b,M' b->(b=x\/b=d)->∃o,s'.heap.get? b=some o/\¬iS o):Rel W S fn F' M' cur (J.set i lv) s':=by
 refine MM (id ei) λOA hx OB OC OD hd uU Z Z V2=>?_;have U:i<J.length:=by refine ag R.len ?_;exact(gw.mp hi).1
 have kp:∀b o,¬W.loose b->¬(b=x\/b=d)->s.heap.get? b=some o->∃sl,s'.heap.get? b=some {o with slots:=sl}:=λb o hl hb e=>T.slots b o (λh=>h.elim hl hb) e;have OF:∀a,M a->∀o,S.s₀.heap.get? a=some o->S.X a:=λa h o e=>(R.mu a h).1.elim (λh=>absurd (ye e) (aca.mpr h)) id;have ne:∀b o es ep,s.heap.get? b=some o->o.data= .dict es ep->¬S.uT d->S.nm b->¬(b=x\/b=d):=λb o es ep e1 e2 hn hb h=>by
  refine g' h ?_ ?_;rotate_left;clear h;clear ei m2 fK T zf KD hx hd V2 kp;rintro rfl;rotate_right;clear h;clear ck p6;clear ei T zf KD V2 kp;rintro rfl
  ·rw[hx]at e1;revert e1;refine bc λe=>?_;subst e;cases e2
  ·exact hn (.inl hb)
 refine⟨⟨T.stays,λp o hp e=>?_,λh=>T.tab (R.step.tab h),bU R.step.size T.size,T.os.trans R.step.os,R.step.gens.trans T.gens⟩,⟨λa h=>G.1 a (R.grow.1 a h),λa h=>?_⟩,λa ha=>?_,?_,?_,?_,λy hy=>?_,by refine ag abh ?_;exact R.len,λj y V=>?_,λj k y z V hk EV h1 h2=>?_,λb hb=>?_⟩
 ·refine au (R.step.slots p o hp e) λsl h1=>?_;clear ne;clear ck fK hx hd;obtain⟨dH,h2⟩:=kp p _ (λh=>hp (.inl h)) (λh=>by refine g' h ?_ ?_;rotate_left;clear h;rintro rfl;rotate_right;clear h;rintro rfl;exact hp (.inr (OF _ p6 _ e));exact hp (.inr (OF _ m2 _ e))) h1;exact⟨dH,h2⟩
 ·refine I7 (G.2 a h) (λh=>?_) λh1 h2=>?_
  ·rcases R.grow.2 a h with h|h|h
   ·exact .inl h
   ·exact .inr (.inl h)
   ·exact .inr (.inr ⟨h.1,bk h.2 T.size⟩)
  ·exact .inr (.inr ⟨bU R.step.size h1,h2⟩)
 ·exact fQ (R.mu a (TZ a ha)) λh1 h2 h3=>⟨h1,bk h2 T.size,λh=>(G.2 a h).elim h3 λh=>f3 _ (bk h2 h.1)⟩
 ·exact ft R.top λo es ep h1 h2=>EA R.ns λm o' pS rq Jz SS Z Z=>⟨R.frame.1.imp (λh=>zf _ h (ne _ _ _ _ h1 h2 fK (.inl rfl))) id,zf _ R.frame.2 (ne _ _ _ _ Jz SS fK (.inr rfl))⟩
 ·exact ft R.top λo es ep h1 h2=>au (kp _ _ (R.ku hS).2 (ne _ _ _ _ h1 h2 fK (.inl rfl)) h1) λsl h3=>⟨_,es,ep,h3,h2⟩
 ·refine ax R.ns λm hn hm=>⟨m,iC (λo e=>?_) hn,hm⟩;refine dh hn λo' es ep h1 h2 Z=>?_;clear hn;rw[h1]at e;revert e;refine bc λe=>?_;subst e;exact kp _ _ (R.bS hS R.frame.2) (ne _ _ _ _ h1 h2 fK (.inr rfl)) h1
 ·refine bF (R.cells y hy) λc o h1 h2 h3 h4=>?_;have V3:¬(c=x\/c=d):=λh=>by
   refine g' h ?_ ?_;rotate_left;clear h;clear m2 ne;rintro rfl;rotate_right;clear h;clear p6;rintro rfl
   ·rw[hx]at h3;revert h3;refine bc λe=>?_;subst e;cases h4
   ·rw[hd]at h3;revert h3;refine bc λe=>?_;subst e;rw[uU]at h4;cases h4
  exact au (kp c o (h2.elim (λh=>R.bS hS h) λh=>h.2.2.1) V3 h3) λsl hs=>⟨c,_,h1,h2.imp (λh=>zf c h V3) id,hs,h4⟩
 ·refine ag (fc _ _ _ _ U) ?_;by_cases Y:j=i
  ·clear dW U;subst Y;rw[hi]at V;revert V;refine bc λe=>?_;subst e;simp only[if_true];exact Eh
  ·simp only[Y,if_false];refine(R.slots j y V).past (Z:=λb=>b=x\/b=d) G.1 (λa h=>by refine g' h ?_ ?_;rotate_left;clear h;rintro rfl;rotate_right;clear h;rintro rfl;exact(R.mu _ p6).2.2;exact(R.mu _ m2).2.2) (λa h o ho=>?_) (λb h=>?_) zf kp (λa h=>(R.bound hS h).2) (λa h=>R.bS hS h)
   ·rintro⟨ws,h1,_⟩;refine g' h ?_ ?_;rotate_left;clear h;rintro rfl;rotate_right;clear h;rintro rfl
    ·rw[hx]at ho;revert ho;refine bc λe=>?_;subst e;cases h1
    ·rw[hd]at ho;revert ho;refine bc λe=>?_;subst e;rw[uU]at h1;cases h1
   ·refine g' h ?_ ?_;rotate_left;clear h;rintro rfl;rotate_right;clear h;rintro rfl
    ·intro I;have rj:=R.slots j y V;cases iH:J.getD j .un with
     |un=>rw[iH]at I;exact I
     |im c=>rw[iH]at I;exact I
     |own ys=>rw[iH]at I;exact R.dist j i y n V hi Y (by refine ag iH ?_;rfl) dW (abU I ck.symm)
     |ob C' AB ys=>
      rw[iH]at I rj;refine hJ rj λz d' us hz w0 dg hn y4 Z=>?_;clear rj;refine jJ y4 λy5 y6 Z h4=>?_;clear y4;refine au y5 λsl h1=>?_;clear y5;refine dh y6 λo es ep h2 h3 Z=>?_;clear y6;refine g' I (λI=>?_) λI=>?_
      ·exact R.dist j i y n V hi Y (by refine ag iH ?_;rfl) dW (I.trans ck.symm)
      ·rw[hz]at I;have e:z=b+1:=by injection I with I;injection I
       have e2:d'=b:=Z9 (h4.symm.trans e);rw[e2,hx]at h2;revert h2;refine bc λe=>?_;subst e;cases h3
     |fn df=>
      rw[iH]at I rj;refine ax rj λv hv y0=>?_;clear rj;refine nG y0 ?_;clear y0;rintro b' o pm cd doc rfl _ ho dg _;have I:cur y=some (.ref b):=I;rw[hv]at I;have e:b'=b:=by injection I with I;injection I
      rw[e,hx]at ho;revert ho;refine bc λe=>?_;subst e;cases dg
    ·exact R.tW hi dW ck ei j y V Y
 ·rw[fc _ _ _ _ U]at h1 h2;have own:∀{j},(if j=i then lv else J.getD j .un).bR=true->(J.getD j .un).bR=true:=λ{j} h=>by
   by_cases Y:j=i
   ·clear hi h1 h2 h;clear U;subst Y;exact dW
   ·simp only[Y,if_false]at h;exact h
  exact R.dist j k y z V hk EV (own h1) (own h2)
 ·by_cases hz:b=x\/b=d
  ·exact KD b hb hz
  ·exact ax (R.small b (TZ b hb)) λo h1 h2=>au (kp b o (R.bS hS (TZ b hb)) hz h1) λsl h3=>⟨_,h3,h2⟩
theorem gi{F X:fF->Prop}(z:S.Ok W fn false)(R:Rel W S fn F M cur J s)(V:A.handled=S.A.handled/\A.frames=S.A.frames/\A.depth<=S.A.depth+3/\A.units<=S.A.units+50)(U:∀a,X a->M a)(hL:¬X S.L)(Y:rk+2<=fn.rank):Ready W A (S.fe::S.outer) F X s rk:=by
 refine⟨⟨z.hg,z.hb⟩,V.1.trans (z.hand rfl),V.2.1.trans z.frames,R.frames z,λL I=>?_,R.stays,λb hb=>R.bound z hb,λa h=>⟨(R.mu a (U a h)).2.1,R.bS z (U a h),R.ql z (U a h)⟩,λa h=>(R.mu a (U a h)).2.2,λb hb=>bk (z.lb b hb) R.step.size,R.tab z,?_,λa h=>R.small a (U a h)⟩
 ·rw[aaF,z.c6]at I;refine g' (QX.mp I) ?_ ?_;rotate_left;intro I;rotate_right;clear I;rintro rfl
  ·exact λh=>h.elim (R.ku z).2 hL
  ·rintro(h|h)
   ·exact z.cW L I (.inl h)
   ·refine L9 (z.dN.mem I) λZ o ho Z=>g' ((R.mu L (U L h)).1) (λh1=>?_) λh1=>?_
    ·exact absurd (ye ho) (aca.mpr h1)
    ·exact z.cW L I (.inr h1)
 ·have h1:=z.room.1;have h2:=z.room.2;exact⟨WZ h1 V.2.2.1 Y,W0 h2 V.2.2.2 Y⟩
end
noncomputable def mL(K:abd)(C:fF)(name:Str)(f:fF):Bool:=(findIn K (.ref C) name==some (some (.ref f)))&&(typeIn K (.ref f)==some (.type "function"))&&(findIn K (.ref C) "__getattribute__"==some (some (.builtin "object.__getattribute__")))&&(findIn K (.ref C) "__getattr__"==some none)
section
variable {K:abd}
theorem tZ{x:Str}{es:List u_}{a d C f:fF}{Q:cz->ea->Prop}{o:Obj}{fd:aba}(z:a7 es=true)(Y:es.length<30)(fb:(apos.endLine==pos.line)=true)(X:K.In s.heap)(U:mL K C name f=true)(ei:dm s.heap a d C ks vs)(t4:(ks.zip vs).lookup name=none)(he:∀Q E,Q (.ref a) s->wpAny (model W.prog W.w) A (eval (.Name x np) env) Q E s)(h:wpAny (model W.prog W.w) A (spliced (backTo pos (starEach es env))) (λws af=>(af.heap.get? f=some o/\o.data= .func fd)/\wpAny (model W.prog W.w) A (call (.ref f) (.ref a::ws) []) Q E af) E s):wpAny (model W.prog W.w) A (eval (.Call (.Attribute (.Name x np) name apos) es [] pos) env) Q E s:=by
 simp only[mL,v3,beq_iff_eq]at U;refine EB U λk1 k2 k3 k4=>?_;rw[arm_eval_Call];have base:attributeBase (.Name x np) name env (eval (.Name x np) env)=eval (.Name x np) env:=rfl;rw[base];refine az (he _ _ (az (IW ?_)));have t5:methodCallForm (es.length+([]:List Keyword).length) (backTo pos (starEach es env)) (backToKw pos (keywordEach [] env))=true:=i8 z Y env pos;have je:methodCallPos true (.Name x np) env apos pos=pure pos:=by unfold methodCallPos;simp[fb]
 unfold methodCall;rw[t5];refine zY ei.inst λox V Z FG I xC Z=>az (n4 (method_fn X I k3 k4 k1 k2 (by show(lookIn name V).map (·.isSome)=some false;rw[show lookIn name V=some none from(xC name).trans (congrArg some t4)];rfl) ?_));refine az (Uu je ?_);exact abu (o:=o) (fd:=fd) (bM z h)
def l6(i:Nat)(C:fF)(name:Str)(g:St->Rs (List AV))(spec:List Str->List AV->List AV->Option (Except cz (List Str×List AV)))(J:St):Option Ou:=yv i (λz ks xs=>if z=C/\eP ks xs name=none then aU (g J) J λys=>match spec ks xs ys with
   |some (.ok r)=>some (.next (J.set i (.ob C r.1 r.2)))
   |some (.error c)=>some (.ex c (J.set i .un))
   |none=>none
  else none) J
noncomputable def KH{β:Type}(i:Nat)(k:fF->List Str->List AV->Option β)(J:St):Option β:=match J.getD i .un with
 | .im (.obj C ks xs)=>k C ks xs
 |_=>none
theorem xD{k:fF->List Str->List AV->Option β}{r:β}(h:KH i k J=some r):∃C ks xs,J.getD i .un= .im (.obj C ks xs)/\k C ks xs=some r:=by
 unfold KH at h;cases z:J.getD i .un with
 |im a=>cases a with
  |obj C ks xs=>rw[z]at h;exact⟨C,ks,xs,rfl,h⟩
  |_=>exact aZ (z▸h)
 |_=>exact aZ (z▸h)
def FL(y:Rs AV):Rs AV:=match y with
 |some (.ok a)=>if a.handed then aA a else none
 |_=>none
theorem CJ{y:Rs AV}{r:Except cz AV}(h:FL y=some r):∃a,y=some (.ok a)/\a.handed=true/\r= .ok a:=by
 rcases y with _|(_|a)
 ·exfalso;cases h
 ·exfalso;cases h
 ·exact aX (iE h) λh1 h2=>⟨a,rfl,h1,(gq h2).symm⟩
theorem FN{x:Str}{es:List u_}{g:St->Rs (List AV)}{f:Nat}{o:Obj}{fd:aba}(i:Nat)(C:fF)(sN:K.In W.base)(hK:mL K C name f=true)(hi:fn.names[i]? =some x)(hk:fn.scope.names.lookup x=some .local\/fn.scope.names.lookup x=some .cell)(hd:(x==("__debug__":Str))=false)(hg:fG W false fn es g)(hp:a7 es=true)(hl:es.length<30)(fb:(apos.endLine==pos.line)=true)(ho:W.base.get? f=some o)(OG:o.data= .func fd)(hf:Fn W f rk spec)(jC:rk+1<=fn.rank):aL W false fn (.Call (.Attribute (.Name x np) name apos) es [] pos) (λJ=>KH i (λI ks xs=>if I=C/\eP ks xs name=none then bindR (g J) λys=>spec (.obj I ks xs::ys)else none) J):=.mk λS F M cur J r s z R U=>by
 refine ft (xD U) λI ks xs iY Ca=>?_;clear U;refine aX (iE Ca) λhc U=>?_;clear Ca;refine aX hc ?_;clear hc;rintro rfl t4;have Y:=R.slots i x hi;rw[iY]at Y;refine ax Y λv ck gv=>?_;clear Y;have KI:=gv;refine yn gv ?_;clear gv;rintro a d vs rfl _ _ ei hv;refine tZ (o:=o) (fd:=fd) hp hl fb (sN.keeps R.stays) hK ei (hv.oM t4) (λQ E hq=>Z6 (cD z R hk ck hq) hd) (gM U (hg.run S F M cur J · s pos z R) λys h2 ws aQ s₂ V a_ gA=>?_);have aM:=R.move z V a_;have Yc:VR s₂.heap aQ (.obj I ks xs) (.ref a):=KI.mono (R.kq z V) a_.1;exact⟨⟨aM.stays _ _ ho,OG⟩,PX.raise V (fm (xi z aM hf jC (by exact⟨_,_,rfl,Yc,gA⟩) h2) (λZ Z x=>x.lift V a_) λZ Z x=>x)⟩
end
section
variable {K:abd}
theorem rS{x:Str}{es:List u_}{a d C f:fF}{Q:cz->ea->Prop}{o:Obj}{fd:aba}(z:a7 es=true)(Y:es.length<30)(fb:(apos.endLine==pos.line)=true)(X:K.In s.heap)(U:mL K C name f=true)(ei:dm s.heap a d C ks vs)(t4:(ks.zip vs).lookup name=none)(he:∀Q E,Q (.ref a) s->wpAny (model W.prog W.w) A (eval (.Name x np) env) Q E s)(h:wpAny (model W.prog W.w) A (spliced (backTo pos (starEach es env))) (λws af=>(af.heap.get? f=some o/\o.data= .func fd)/\bH (model W.prog W.w) A (call (.ref f) (.ref a::ws) []) Q E af) E s):bH (model W.prog W.w) A (eval (.Call (.Attribute (.Name x np) name apos) es [] pos) env) Q E s:=by
 simp only[mL,v3,beq_iff_eq]at U;refine EB U λk1 k2 k3 k4=>?_;rw[arm_eval_Call];have base:attributeBase (.Name x np) name env (eval (.Name x np) env)=eval (.Name x np) env:=rfl;rw[base];refine aq (.of (he _ _ (aq (br ?_))));have t5:methodCallForm (es.length+([]:List Keyword).length) (backTo pos (starEach es env)) (backToKw pos (keywordEach [] env))=true:=i8 z Y env pos;have je:methodCallPos true (.Name x np) env apos pos=pure pos:=by unfold methodCallPos;simp[fb]
 unfold methodCall;rw[t5];refine zY ei.inst λox V Z FG I xC Z=>aq (.of (n4 (method_fn X I k3 k4 k1 k2 (by show(lookIn name V).map (·.isSome)=some false;rw[show lookIn name V=some none from(xC name).trans (congrArg some t4)];rfl) ?_)));refine aq (.of (Uu je ?_));exact ez (o:=o) (fd:=fd) (bM z h)
theorem CK{x:Str}{es:List u_}{g:St->Rs (List AV)}{spec:List Str->List AV->List AV->Option (Except cz (List Str×List AV))}{f:Nat}{o:Obj}{fd:aba}(i:Nat)(C:fF)(sN:K.In W.base)(hK:mL K C name f=true)(hi:fn.names[i]? =some x)(hk:fn.scope.names.lookup x=some .local\/fn.scope.names.lookup x=some .cell)(hd:(x==("__debug__":Str))=false)(hg:fG W false fn es g)(hp:a7 es=true)(hl:es.length<30)(fb:(apos.endLine==cB.line)=true)(ho:W.base.get? f=some o)(OG:o.data= .func fd)(hf:KC W f rk C spec)(jC:rk+2<=fn.rank)(hint:∀env:Env,env.scope=fn.scope->interactive env=false)(hs:∀env,swapsWith (.Call (.Attribute (.Name x np) name apos) es [] cB) none pos.line env=pure false):RS W false fn (.Expr (.Call (.Attribute (.Name x np) name apos) es [] cB) pos) (l6 i C name g spec):=.mk λS F M cur J r s z R V=>Oe λQ E kQ kE=>by
 refine ag (exec_Expr S.env _ pos (hint _ z.scope) (hs _)) (aq (br (aq ?_)));refine yv.el V ?_;clear V;intro C' ks xs iY V;split at V
 case isFalse=>exact aZ V
 rename_i I;refine aX I ?_;clear I;rintro rfl t4;have rr:=R.slots i x hi;rw[iY]at rr;refine hJ rr λa d vs ck p6 m2 fK ei hv=>?_;clear rr;have dW:(J.getD i .un).bR=true:=by refine ag iY ?_;rfl
 refine rS (o:=o) (fd:=fd) hp hl fb (sN.keeps R.stays) hK ei (hv.oM t4) (λZ Z hq=>Z6 (cD z R hk ck hq) hd) (Jx kE z R V (hg.run S F M cur J · s cB z R) λys h2 ws aQ s₂ aD a_ gA=>?_);have Y:=R.move z aD a_;refine⟨⟨Y.stays _ _ ho,OG⟩,?_⟩;have d8:dm s₂.heap a d C' ks vs:=ei.up λb o hb e=>aD.slots b o (by refine g' hb ?_ ?_;rotate_left;clear hb;clear fK ei;rintro rfl;rotate_right;clear hb;clear ck;clear ei;rintro rfl;exact R.bS z p6;exact R.bS z m2) e;have dO:=R.Ma z aD a_ hv;have KJ:¬(S.L=a\/S.L=d):=λh=>by
  refine g' h (λh=>?_) λh=>?_
  ·refine ft R.top λo' pS rq h1 h2=>z7 (id ei) λsl h3 Z=>?_;rw[h,h3]at h1;revert h1;refine bc λe=>?_;subst e;cases h2
  ·exact fK (.inl (.inl h.symm))
 have cZ:Ready W S.A (S.fe::S.outer) aQ (λb=>b=a\/b=d) s₂ rk:=gi z Y ⟨rfl,rfl,xm _ _,xm _ _⟩ (λb h=>by(refine g' h ?_ ?_;rotate_left;clear h;clear d8 KJ;clear fK;rintro rfl;rotate_right;clear h;clear ck d8 KJ;rintro rfl)<;>assumption) KJ jC
 clear V;rcases l7:spec ks xs ys with _|r'
 ·exact aZ (l7▸h2)
 rw[l7]at h2;refine gR (hU (hf S.A (S.fe::S.outer) aQ s₂ a d ks xs vs ys ws r' cZ d8 dO gA l7) λres aK I=>?_);have fY:∀{cx},fD W (λb=>b=a\/b=d) s₂ aK->bP s₂ aK aQ cx->fI W F M cx M s aK:=λ{cx} T G=>(aD.fY a_).trans ⟨T.slots.mono λb h=>h.imp id λh=>by(refine g' h ?_ ?_;rotate_left;clear h;clear cZ I T h;rintro rfl;rotate_right;clear h;clear cZ I T h;rintro rfl)<;>assumption,T.size,λZ h=>.inl h,G.1,λa h=>(G.2 a h).imp id λh=>.inr h.1,T.gens⟩
 clear l7;cases res with
 |ok fl=>
  clear kE;cases fl with
  |ret v=>
   refine q8 I ?_;clear I;rintro AB yu pK cx rfl rfl U fU fy t6;revert h2;refine bc λe=>?_;subst e;refine bH.of (ac1 (kQ _ _ ⟨cx,M,cur,_,Y.xB (lv:=.ob C' AB yu) z hi dW ck d8 p6 m2 fK U fU ⟨a,d,pK,ck,p6,m2,fK,fy,t6⟩ (λZ h=>h) (λZ h Z=>h) (λb Z hb=>by refine I6 (id fy) λsl q1 o2 Q7 Q8 q2 q3 Z Z=>?_;refine g' hb ?_ ?_;rotate_left;clear hb;clear m2 fY U fy q1;rintro rfl;rotate_right;clear hb;clear p6;clear fY U fy;rintro rfl;exact⟨_,q1,by rintro⟨ws,h3,_⟩;cases h3⟩;exact⟨o2,q2,by rintro⟨ws,h3,_⟩;rw[q3]at h3;cases h3⟩),fY U fU,rfl⟩))
  |_=>exact I
 |error y=>
  refine bF I ?_;clear I;clear kQ;rintro cls e rfl rfl U fw;revert h2;refine bc λe=>?_;subst e;exact kE _ _ ⟨cls,e,aJ s₂,_,aQ,λb=>M b/\¬(b=a\/b=d),cur,rfl,rfl,Y.xB (M':=λb=>M b/\¬(b=a\/b=d)) (lv:=.un) z hi dW ck d8 p6 m2 fK U (.refl _ _ _) trivial (λZ h=>h.1) (λZ h h'=>⟨h,h'⟩) (λb h h'=>absurd h' h.2),(let q:=fY U (.refl _ _ _);⟨q.keep,q.size,λb h=>q.grow b h.1,q.more,q.fE,q.gens⟩),⟨aD.size,Y.step.size⟩,U.size,λb h=>h.elim (λh=>(Y.bound z h).1) λh=>(Y.mu b h.1).2.1,fw.Af⟩
end
section
variable {K:abd}
theorem wj(A:XQ)(C:fF)(vals:List cz):(A.under (.builtin "type.__call__" ⟨.ref C::vals,[]⟩)).handled=A.handled/\(A.under (.builtin "type.__call__" ⟨.ref C::vals,[]⟩)).frames=A.frames/\(A.under (.builtin "type.__call__" ⟨.ref C::vals,[]⟩)).depth=A.depth+1/\(A.under (.builtin "type.__call__" ⟨.ref C::vals,[]⟩)).units<=A.units+50:=by
 refine⟨rfl,rfl,rfl,Xs (oC rfl) _⟩
noncomputable def CL(K:abd)(C f:fF):Bool:=keepIn K (.ref C)&&makesIn K C&&(findIn K (.ref C) "__init__"==some (some (.ref f)))&&(typeIn K (.ref f)==some (.type "function"))
noncomputable def Rb{β:Type}(l:LV)(k:fF->Option β):Option β:=match l with
 | .im (.ref C)=>k C
 |_=>none
theorem Rb.el{l:LV}{k:fF->Option β}{r:β}(h:Rb l k=some r)(K:∀C,l= .im (.ref C)->k C=some r->G):G:=by
 cases l with
 |im a=>cases a<;>first|exact K _ rfl h|exact aZ h
 |_=>exact aZ h
def Io(c i:Nat)(C:fF)(spec:List Str->List AV->List AV->Option (Except cz (List Str×List AV)))(J:St):Option Ou:=Rb (J.getD c .un) λz=>if z=C then(match spec [] [] []with
  |some (.ok r)=>some (.next (J.set i (.ob C r.1 r.2)))
  |some (.error e)=>some (.ex e J)
  |none=>none)else none
theorem FP{y c:Str}{yp cp:Pos}{spec:List Str->List AV->List AV->Option (Except cz (List Str×List AV))}{f ci:Nat}(C:fF)(sN:K.In W.base)(hK:CL K C f=true)(hc:fn.names[ci]? =some c)(Ip:fn.scope.names.lookup c=some .local\/fn.scope.names.lookup c=some .cell)(jb:(c==("__debug__":Str))=false)(hn:dE fn i y)(f9:fn.names.head? ≠some ("self":Str))(hf:KA W f rk C spec)(jC:rk+2<=fn.rank)(hs:∀env,swapsWith (.Call (.Name c cp) [] [] cB) (some (.Name y yp)) pos.line env=pure false):aR W false fn (.Assign [.Name y yp] (.Call (.Name c cp) [] [] cB) pos) (Io ci i C spec):=.mk λS F M cur J r s V R I=>cps λQ E kQ kE=>by
 refine Rb.el I ?_;clear I;intro U iY I;split at I
 case isFalse=>exact aZ I
 rename_i Yd;subst Yd;have rr:=R.slots ci c hc;rw[iY]at rr;refine ax rr λv ck gv=>?_;clear rr;subst gv;simp only[CL,v3,beq_iff_eq]at hK;refine EB hK λk1 k2 k3 k4=>?_;clear hK;have X:=sN.keeps R.stays;refine acq ?_ (hs _);refine ZY (Z6 (cD V R Ip ck ?_) jb);refine callWith_K0 X k1 ?_;rcases l7:spec [] [] []with _|r'
 ·exact aZ (l7▸I)
 rw[l7]at I;obtain⟨z,g,dr,tk,os⟩:=s;refine abK (make_core (makes_of X k2) (looks_findIn X k3) (λself=>bind_fn X self k4) (.inl rfl) ?_);have gB:Step W ⟨z,g,dr,tk,os⟩ ⟨(z.push emptyDict).push (instObj U z.objs.size),g,dr,tk,os⟩:=
  (Step.push (s:=⟨z,g,dr,tk,os⟩) (t:=tk) (o:=emptyDict) R.stays).trans (Step.push (s:=⟨z.push emptyDict,g,dr,tk,os⟩) (t:=tk) (o:=instObj U z.objs.size) λb o e=>ml _ (R.stays b o e))
 have aI:=R.move V gB (.refl _ _ F);have hx:((z.push emptyDict).push (instObj U z.objs.size)).get? (z.objs.size+1)=some (instObj U z.objs.size):=by refine fP (rW z emptyDict) ?_;exact w' _ rfl
 have Mo:((z.push emptyDict).push (instObj U z.objs.size)).get? z.objs.size=some emptyDict:=ml _ (w' _ rfl);have ei:dm ((z.push emptyDict).push (instObj U z.objs.size)) (z.objs.size+1) z.objs.size U [] []:=
  ⟨⟨_,hx⟩,⟨_,_,_,Mo,rfl,rfl,t_ _⟩,⟨_,_,_,Mo,rfl,(λe he=>by simp at he),λname=>rfl⟩,rfl⟩
 have KL:((z.push emptyDict).push (instObj U z.objs.size)).objs.size=z.objs.size+2:=by rw[rW,rW]
 refine jJ (wj S.A U []) λu1 u2 u3 u4=>?_;have p7:∀a,a=z.objs.size+1\/a=z.objs.size->S.s₀.heap.objs.size<=a/\a<z.objs.size+2/\z.objs.size<=a:=λa h=>by
  have:=R.step.size;refine g' h ?_ ?_;rotate_left;clear h;rintro rfl;rotate_right;clear h;rintro rfl
  ·exact⟨bU this (Tw _),rv _,Tw _⟩
  ·exact⟨this,bk (rv _) (Tw _),t_ _⟩
 have jS:∀a,a=z.objs.size+1\/a=z.objs.size->¬F a:=λa h hF=>f3 _ (bk (R.bound V hF).1 (p7 a h).2.2);have cZ:Ready W (S.A.under (.builtin "type.__call__" ⟨[.ref U],[]⟩)) (S.fe::S.outer) F (λb=>b=z.objs.size+1\/b=z.objs.size) ⟨(z.push emptyDict).push (instObj U z.objs.size),g,dr,tk,os⟩ rk:=by
  have I:=gi (A:=S.A.under (.builtin "type.__call__" ⟨[.ref U],[]⟩)) (X:=xh) V aI ⟨u1,u2,by refine ag u3 ?_;exact Xs (by decide) _,u4⟩ (λZ h=>h.elim) id jC;refine⟨I.xg,I.hand,I.frames,I.dN,λL hL h=>?_,I.stays,I.sR,λa h=>⟨by show a<((z.push emptyDict).push (instObj U z.objs.size)).objs.size;refine ag KL ?_;exact(p7 a h).2.1,λhl=>f3 _ (bk (V.lb a hl) (p7 a h).1),V.bh (p7 a h).1⟩,λa h=>jS a h,I.lb,I.lt,I.room,λa h=>by refine g' h ?_ ?_;rotate_left;clear h;rintro rfl;rotate_right;clear h;rintro rfl;exact⟨_,hx,by rintro⟨ws,h3,_⟩;cases h3⟩;exact⟨_,Mo,by rintro⟨ws,h3,_⟩;cases h3⟩⟩;refine g' h (λh=>?_) λh=>?_
  ·exact I.cW L hL (.inl h)
  ·exact L9 ((R.frames V).mem hL) λZ o ho Z=>f3 _ (bk (ye ho) (p7 L h).2.2)
 refine aaM (hf _ _ F _ _ _ [] [] [] [] [] r' cZ ei (rfl) (rfl) l7) λres aK hc=>?_;have Iq:∀{aK:ea},fD W (λb=>b=z.objs.size+1\/b=z.objs.size) ⟨(z.push emptyDict).push (instObj U z.objs.size),g,dr,tk,os⟩ aK->Step W ⟨z,g,dr,tk,os⟩ aK:=λ{aK} Y=>
  ⟨Y.stays,λb o hb e=>by
   refine au (gB.slots b o hb e) λsl h1=>au (Y.slots b _ (λh=>h.elim hb λh=>f3 _ (bk (ye e) (p7 b h).2.2)) h1) λdH h2=>?_;exact⟨dH,h2⟩,λl=>Y.tab (gB.tab l),bU gB.size Y.size,Y.os.trans gB.os,gB.gens.trans Y.gens⟩
 clear l7;cases res with
 |error y=>
  refine bF hc ?_;clear hc;clear kQ;rintro cls e rfl rfl Y fw;revert I;refine bc λe=>?_;subst e;have T:=Iq Y;exact kE _ _ ((show PX W S ⟨z,g,dr,tk,os⟩ (Except.error cls:Except cz AV) (.ref e) aK from⟨cls,e,rfl,rfl,T,fw.Af.less gB.size⟩).st V R sJ)
 |ok fl=>
  clear kE;cases fl with
  |brk=>exact hc
  |cont=>exact hc
  |next=>exact hc
  |ret v=>
   refine q8 hc ?_;clear hc;rintro AB yu pK cx rfl rfl Y fU fy t6;revert I;refine bc λe=>?_;subst e;refine⟨rfl,?_⟩;have T:=Iq Y;have G:bP ⟨z,g,dr,tk,os⟩ aK F cx:=⟨fU.1,λa h=>(fU.2 a h).imp id λh=>⟨bU gB.size h.1,h.2⟩⟩;have cG:=R.move V T G;have rD:∀a,a=z.objs.size+1\/a=z.objs.size->¬cx a:=λa h hF=>(fU.2 a hF).elim (jS a h) λh'=>by
    have h1:((z.push emptyDict).push (instObj U z.objs.size)).objs.size<=a:=h'.1;rw[KL]at h1;exact f3 _ (bk (p7 a h).2.1 h1)
   refine hY (lv:=.ob U AB yu) (M':=λb=>M b\/(b=z.objs.size+1\/b=z.objs.size)) V cG hn (λZ h=>.inl h) (λb h=>h.imp id λh=>⟨(p7 b h).1,?_,rD b h⟩) ⟨_,_,pK,rfl,.inr (.inl rfl),.inr (.inr rfl),?_,fy,t6⟩ (λZ y' j hj fL j1 he=>?_) (λb h h'=>by
    refine I6 (id fy) λsl q1 o2 Q7 Q8 q2 q3 Z Z=>?_;rcases h with h|rfl|rfl
    ·exact absurd h h'
    ·exact⟨_,q1,by rintro⟨ws,h3,_⟩;cases h3⟩
    ·exact⟨o2,q2,by rintro⟨ws,h3,_⟩;rw[q3]at h3;cases h3⟩) λs' R' hz hk ho hg=>?_
   ·have h1:((z.push emptyDict).push (instObj U z.objs.size)).objs.size<=aJ aK:=Y.size;rw[KL]at h1;exact bk (p7 b h).2.1 h1
   ·rintro((h|h)|⟨⟨b,hb⟩,_⟩)
    ·refine ft R.top λo Z Z ho Z=>?_;have:=ye ho;rw[<-h]at this;exact f3 _ this
    ·refine ax R.ns λm dG Z=>?_;have:=dG.lt;rw[<-h]at this;exact f3 _ this
    ·exact V.Ad.elim f9 λh=>h b hb
   ·refine ax ((cG.slots j y' hj).Ng j1) λb hb hm=>?_;rw[hb]at he;have he:b=z.objs.size+1:=by injection he with he;injection he
    clear hb;subst he;exact f3 _ (bk (R.mu _ hm).2.1 (Tw _))
   ·refine kQ _ _ ⟨cx,_,_,_,R',⟨λp o hp e=>?_,bU T.size (Kj hz.symm),λb h=>h.imp id λh=>(p7 b h).2.2,G.1,λa h=>(G.2 a h).imp id λh=>.inr h.1,by refine ag hg ?_;exact T.gens⟩,rfl⟩;exact au (T.slots p o (λh=>hp (.inl h)) e) λsl h1=>au (hk p _ (λh=>hp (.inr h)) h1) λdH h2=>⟨dH,h2⟩
end
noncomputable def CM(K:abd)(C:fF)(name:Str)(p f:fF):Bool:=(clsIn K C).isSome&&(findIn K (.ref C) name==some (some (.ref p)))&&(specialIn K (.ref p) "__get__"==some (some (.builtin "property.__get__")))&&(takesIn K (.ref p)==some true)&&
 (findIn K (.ref C) "__getattribute__"==some (some (.builtin "object.__getattribute__")))&&(findIn K (.ref C) "__getattr__"==some none)&&((recIn K p "property").bind (·.head?)==some (.ref f))
def wk(K:abd)(C:fF)(name:Str)(p f:fF):Bool:=(specialIn K (.ref C) "__getattribute__"==some (some (.builtin "type.__getattribute__")))&&(typeIn K (.ref C)==some (.type "type"))&&(findIn K (.type "type") "__getattribute__"==some (some (.builtin "type.__getattribute__")))&&
 (subIn K (.type "type") (.type "type")==some true)&&(match findCls K (.ref C) (.type "type") name with|some (.get g a o t)=>g== .builtin "classmethod.__get__"&&a== .ref p&&o== .none&&t== .ref C|_=>false)&&((recIn K p "classmethod").bind (·.head?)==some (.ref f))&&acY K f
section
variable {K:abd}
theorem KN{x:Str}{p f rk:Nat}(i:Nat)(C:fF)(sN:K.In W.base)(Y:CM K C name p f=true)(hi:fn.names[i]? =some x)(hk:fn.scope.names.lookup x=some .local\/fn.scope.names.lookup x=some .cell)(hd:(x==("__debug__":Str))=false)(hf:Fn W f rk spec)(jC:rk+2<=fn.rank):aL W false fn (.Attribute (.Name x np) name pos) (λJ=>KH i (λz ks xs=>if z=C then FL (spec [.obj z ks xs])else none) J):=.mk λS F M cur J r s hS R U=>by
 refine ft (xD U) λz ks xs iY Ca=>?_;clear U;refine aX (iE Ca) λhC U=>?_;clear Ca;subst hC;refine iQ (CJ U) ?_;clear U;rintro a l7 hh rfl;have rr:=R.slots i x hi;rw[iY]at rr;refine ax rr λv ck gv=>?_;clear rr;have KI:=gv;refine yn gv ?_;clear gv;rintro b d vs rfl _ _ ei hv;simp only[CM,v3,beq_iff_eq]at Y;refine MQ Y λk1 k2 k3 k4 k5 k6 k7=>?_;clear Y;refine au (WE.mp k1) λcd jb=>ax (z0.mp k7) λrec k8 k9=>?_;obtain⟨rest,rfl⟩:∃rest,rec= .ref f::rest:=by clear k8;cases rec with|nil=>exfalso;cases k9|cons y r=>cases k9;exact⟨r,rfl⟩
 refine zY ei.inst λox od Z FG I xC Z=>?_;have X:=sN.keeps R.stays;have OH:findObj K z (some od) name=some (.bind (.builtin "property.__get__") (.ref p)):=by
  unfold findObj;rw[jb,Mr,k2,Mr];show(specialIn K (.ref p) "__get__").bind _=_;rw[k3];show(takesIn K (.ref p)).bind _=_;rw[k4];rfl
 rw[arm_eval_Attribute];have base:attributeBase (.Name x np) name S.env (eval (.Name x np) S.env)=eval (.Name x np) S.env:=rfl;rw[base];refine az (Z6 (cD hS R hk ck ?_) hd);refine az (IW (az (n4 ?_)));refine get_bind X I k5 OH k6 (abK (prop_get (s:={s with toks:=s.toks+1}) X k8 ?_));have gB:Step W s {s with toks:=s.toks+1}:=.toks R.stays;have aI:=R.move hS gB (.refl _ _ F);have cZ:=gi (A:=S.A.in1) (X:=xh) (rk:=rk) hS aI ⟨rfl,rfl,xm _ _,by show S.A.units+1<=_;lia⟩ (λZ h=>h.elim) id jC;refine aaM (hf _ _ F _ [.obj z ks xs] [.ref b] (.ok a) cZ (by exact⟨_,_,rfl,KI,rfl⟩) l7) λres s₂ V=>?_;cases res with
 |error y=>refine e7 V λZ Z h Z=>?_;clear V;exfalso;cases h
 |ok fl=>
  cases fl with
  |ret v=>
   refine V.el λav aQ h aD a_ dO=>?_;clear V;cases h;show wpAny _ _ (handedOut v) _ _ _;rw[handedOut_of (dO.handed hh)];refine en (az (en (en ?_)));exact⟨a,aQ,rfl,gB.trans aD,⟨a_.1,λc h=>(a_.2 c h).imp id λh=>h⟩,dO⟩
  |_=>exact V
theorem jV{M:SW}{C:fF}(z:Ac h):Looks M h (opaqueClassAbove (.ref C)) none:=by
 refine iQ z λI U Z V=>?_;have L:Looks M h (nsGet cStatics "thirdparty.any") none:=λA Q E s k Y=>by
  have T1:s.heap.Ns cStatics I:=iC (λo ho=>⟨o.slots,k _ o ho⟩) U;exact abP T1 (by refine ag V ?_;exact Y)
 exact Looks.andThen (a:=false) (L.andThen .now) (by show Looks M h (if(!false)=true then pure none else _) none;refine ag (if_pos (show(!false)=true from rfl)) ?_;exact .now)
def rT(K:abd)(q f C:fF)(h:ZN):Prop:=(∃sl,h.get? q=some {methodObj (.ref f) (.ref C)with slots:=sl})/\K.In h
theorem t7{M:SW}{K:abd}{q f C:fF}(z:acY K f=true)(h:ZN)(X:rT K q f C h):∃k,(k=Keeper.frame\/k=Keeper.machine\/k=adz)/\Looks M h (keeperOf (.ref q)) k:=by
 unfold acY at z;rcases e:K.lookup f with _|⟨_,_,d,_⟩<;>rw[e]at z
 ·exact ng z
 cases d with
 |func _=>
  refine z7 X λsl I U=>⟨.boundFrame,.inr (.inr rfl),(Looks.ld (part:=none) I).andThen ?_⟩;exact(Looks.ld (part:=none) (U _ _ e)).andThen .now
 |_=>exact ng z
theorem rU{w:aab}{p f C:fF}{pos:List cz}{R:aaR->ea->Prop}(z:∃sl,s.heap.get? p=some {methodObj (.ref f) (.ref C)with slots:=sl})(h:codeAny (model prog w) A (.call (.ref f) ⟨.ref C::pos,[]⟩) R s):codeAny (model prog w) A (.call (.ref p) ⟨pos,[]⟩) R s:=by
 obtain⟨I,g,U,t,os⟩:=s;refine au z ?_;intro sl z;refine codeAny_of_tree ?_;dsimp only at z;exact nd_load z (en ⟨rfl,h⟩)
end
theorem rV{M:SW}{f:cz}{first:List cz}{Q:cz->ea->Prop}{P:ZN->Prop}{args:List (Bool×Sem cz)}{z:List (Option Str×Sem cz)}(U:(args.any (·.1)||z.any (·.1.isNone))=false)(V:∀h,P h->∃k,(k=Keeper.frame\/k=Keeper.machine\/k=adz)/\Looks M h (keeperOf f) k)(h:wpAny M A (evalArgs f true args z) (λa af=>P af.heap/\bH M A (call f (first++a.pos) a.kw) Q E af) E s):bH M A (callWith pos f first args z) Q E s:=by
 refine aq (c8 (.of (fm h (λa af I=>?_) λZ Z x=>x)));refine aq (br ?_);refine ax (V _ I.1) λk Y L=>?_;rw[U];refine aq (.of (L.here ?_));have tail:∀{t:Sem cz},bH M A t Q E af->bH M A (t>>=λr=>holding [r] point>>=λZ=>pure r) Q E af:=
  λht=>aq (aV ht (λr s₂ hr=>.of (az (n4 (aaw (en hr))))) λZ Z x=>x)
 have marked (mk:cz):bH M A (callMarked mk f (first++a.pos) a.kw) Q E af:=by unfold callMarked;exact oJ I.2
 clear L;rcases Y with rfl|rfl|rfl<;>dsimp only<;>first|exact tail I.2|(split<;>first|exact tail I.2|exact tail (marked _))
section
variable {K:abd}
theorem p8{w:aab}{p f C:fF}{pos:List cz}{R:aaR->ea->Prop}(z:∃sl,s.heap.get? p=some {methodObj (.ref f) (.ref C)with slots:=sl})(h:ey (model prog w) A (.call (.ref f) ⟨.ref C::pos,[]⟩) R s):ey (model prog w) A (.call (.ref p) ⟨pos,[]⟩) R s:=by
 obtain⟨I,g,U,t,os⟩:=s;refine au z ?_;intro sl z;refine cH ?_;dsimp only at z;refine aq (.of (abn z ?_));exact bf ⟨rfl,h⟩
theorem wm{x:Str}{es:List u_}{g:St->Rs (List AV)}{p f rk:Nat}(C:fF)(sN:K.In W.base)(hK:wk K C name p f=true)(hn:aL W false fn (.Name x np) (λZ=>aA (.ref C)))(hg:fG W false fn es g)(hp:a7 es=true)(hl:es.length<30)(fb:(apos.endLine==pos.line)=true)(hf:Mn W f rk spec)(jC:rk+2<=fn.rank):RE W false fn (.Call (.Attribute (.Name x np) name apos) es [] pos) (λJ=>bindR (g J) λys=>spec (.ref C::ys)):=.mk λS F M cur J r s z R hr=>by
 simp only[wk,v3,beq_iff_eq]at hK;refine MQ hK λk1 k2 k3 k4 k5 k6 k7=>?_;clear hK;refine ax (z0.mp k6) λrec k8 k9=>?_;obtain⟨rest,rfl⟩:∃rest,rec= .ref f::rest:=by clear k8;cases rec with|nil=>cases k9|cons y r=>cases k9;exact⟨r,rfl⟩
 have Ye:findCls K (.ref C) (.type "type") name=some (.get (.builtin "classmethod.__get__") (.ref p) .none (.ref C)):=by
  split at k5
  ·rename_i I;simp only[v3,beq_iff_eq]at k5;refine EB k5 ?_;clear k5;rintro rfl rfl rfl rfl;exact I
  ·exact ng k5
 rw[arm_eval_Call];have base:attributeBase (.Name x np) name S.env (eval (.Name x np) S.env)=eval (.Name x np) S.env:=rfl;rw[base];refine aq (.of (w8 (hn.run S F M cur J _ s z R rfl) λfv aB af T G hv=>?_));subst hv;have V:=R.move z T G;have X:=sN.keeps V.stays;refine aq (br ?_);have t5:methodCallForm (es.length+([]:List Keyword).length) (backTo pos (starEach es S.env)) (backToKw pos (keywordEach [] S.env))=true:=i8 hp hl S.env pos;have je:methodCallPos true (.Name x np) S.env apos pos=pure pos:=by unfold methodCallPos;simp[fb]
 unfold methodCall;refine ag t5 (aq (.of (n4 (method_cls X k1 (cls_open (hook:=none) X (jV (V.tab z).2) (looks_typeIn X k2) k3 (looks_hook X rfl) k4 Ye ?_)))));refine az (n4 (abK (cm_get (s:={af with toks:=af.toks+1}) X k8 (en (handed_on rfl ?_)))));refine aq (.of (Uu je ?_));have U:Step W af {af with heap:=af.heap.push (methodObj (.ref f) (.ref C)),toks:=af.toks+1}:=.push V.stays;have aM:=V.move z U (.refl _ _ aB);have hq:(af.heap.push (methodObj (.ref f) (.ref C))).get? af.heap.objs.size=some (methodObj (.ref f) (.ref C)):=w' _ rfl;show bH _ _ (callWith pos (.ref af.heap.objs.size) [] _ _) _ _ {af with heap:=af.heap.push (methodObj (.ref f) (.ref C)),toks:=af.toks+1};generalize tu:({af with heap:=af.heap.push (methodObj (.ref f) (.ref C)),toks:=af.toks+1}:ea)=s₂ at U aM;have OI:s₂.heap.get? af.heap.objs.size=some (methodObj (.ref f) (.ref C)):=by refine fP tu ?_;exact hq
 refine rV (P:=rT K af.heap.objs.size f C) (by refine ag (plain_any es S.env pos hp) ?_;rfl) (λh=>t7 k7 h) (bM hp (PX.raise (T.trans U) ?_));refine gM hr (hg.run S aB M cur J · s₂ pos z aM) λys h2 ws cx aK Y fU gA=>?_;have cG:=aM.move z Y fU;have p9:¬W.loose af.heap.objs.size:=λhl=>f3 _ (bk (z.lb _ hl) V.step.size);refine au (Y.slots _ _ p9 OI) λsl Ir=>⟨⟨⟨sl,Ir⟩,sN.keeps cG.stays⟩,?_⟩;have TT:=(T.trans U).trans Y;have cZ:=gi (A:=S.A) (X:=xh) (rk:=rk) z cG ⟨rfl,rfl,xm _ _,xm _ _⟩ (λZ h=>h.elim) id jC;have GG:bP s aK F cx:=G.trans T.size (bU U.size Y.size) (⟨fU.1,λa h=>(fU.2 a h).imp id λh=>⟨bU U.size h.1,h.2⟩⟩:bP af aK aB cx);refine gR (p8 ⟨sl,Ir⟩ (hU (hf S.A _ cx aK (.ref C::ys) (.ref C::ws) r cZ (by exact⟨_,_,rfl,by simp[lL,lM,lN,ED],gA⟩) h2) λres dx I=>?_));cases res with
 |ok fl=>
  cases fl with
  |ret v=>
   refine I.el λav AH h eI pQ xc=>?_;clear I;exact⟨av,AH,h,TT.trans eI,GG.trans TT.size eI.size pQ,xc⟩
  |_=>exact I
 |error x=>
  refine bF I λcls e h1 h2 h3 h4=>?_;clear I;exact⟨cls,e,h1,h2,TT.trans h3,h4.Af.less TT.size⟩
end
section
variable {K:abd}
def FQ(i:Nat)(C:fF)(J:St):Option (Except cz (List Str×List AV))->Option Ou
 |some (.ok r)=>some (.next (J.set i (.ob C r.1 r.2)))
 |some (.error c)=>some (.ex c (J.set i .un))
 |none=>none
theorem CN{F:fF->Prop}{s₂:ea}{x:Str}{a d C f:Nat}{ws:List cz}{spec:List Str->List AV->List AV->Option (Except cz (List Str×List AV))}{r:Ou}(hS:S.Ok W fn false)(I:Rel W S fn F M cur J s₂)(hi:fn.names[i]? =some x)(dW:(J.getD i .un).bR=true)(ck:cur x=some (.ref a))(p6:M a)(m2:M d)(V:¬S.uT d)(Y:dm s₂.heap a d C ks vs)(dO:bL s₂.heap F xs vs)(gA:bL s₂.heap F ys ws)(hf:KA W f rk C spec)(jC:rk+2<=fn.rank)(h2:FQ i C J (spec ks xs ys)=some r):codeAny (model W.prog W.w) S.A (.call (.ref f) ⟨.ref a::ws,[]⟩) (λres s'=>match res with| .ok (.ret v)=>v= .none/\PS W S fn F M s₂ r .next s'| .ok _=>False| .error e=>i9 W S fn F M s₂ r e s') s₂:=by
 have KJ:¬(S.L=a\/S.L=d):=λh=>by
  refine g' h (λh=>?_) λh=>?_
  ·refine ft I.top λo' pS rq h1 h2=>z7 (id Y) λsl h3 Z=>?_;rw[h,h3]at h1;revert h1;refine bc λe=>?_;subst e;exfalso;cases h2
  ·exact V (.inl (.inl h.symm))
 have cZ:Ready W S.A (S.fe::S.outer) F (λb=>b=a\/b=d) s₂ rk:=gi hS I ⟨rfl,rfl,xm _ _,xm _ _⟩ (λb h=>by(refine g' h ?_ ?_;rotate_left;clear h;clear V Y KJ;rintro rfl;rotate_right;clear h;clear ck;clear Y KJ;rintro rfl)<;>assumption) KJ jC
 rcases l7:spec ks xs ys with _|r'
 ·rw[l7]at h2;exfalso;cases h2
 rw[l7]at h2;refine aaM (hf S.A (S.fe::S.outer) F s₂ a d ks xs vs ys ws r' cZ Y dO gA l7) λres aK U=>?_;have fY:∀{cx},fD W (λb=>b=a\/b=d) s₂ aK->bP s₂ aK F cx->fI W F M cx M s₂ aK:=λ{cx} T G=>⟨T.slots.mono λb h=>h.imp id λh=>by(refine g' h ?_ ?_;rotate_left;clear h;clear cZ U T h;clear V;rintro rfl;rotate_right;clear h;clear ck cZ U T h;rintro rfl)<;>assumption,T.size,λZ h=>.inl h,G.1,λa h=>(G.2 a h).imp id λh=>.inr h.1,T.gens⟩
 clear l7;cases res with
 |ok fl=>
  cases fl with
  |ret v=>
   refine q8 U ?_;clear U;rintro AB yu pK cx rfl rfl z fU fy t6;cases h2;exact⟨rfl,cx,M,cur,_,I.xB (lv:=.ob C AB yu) hS hi dW ck Y p6 m2 V z fU ⟨a,d,pK,ck,p6,m2,V,fy,t6⟩ (λZ h=>h) (λZ h Z=>h) (λb Z hb=>by refine I6 (id fy) λsl q1 o2 Q7 Q8 q2 q3 Z Z=>?_;refine g' hb ?_ ?_;rotate_left;clear hb;clear m2 fY z fy q1;rintro rfl;rotate_right;clear hb;clear p6;clear fY z fy;rintro rfl;exact⟨_,q1,by rintro⟨ws,h3,_⟩;exfalso;cases h3⟩;exact⟨o2,q2,by rintro⟨ws,h3,_⟩;rw[q3]at h3;exfalso;cases h3⟩),fY z fU,rfl⟩
  |_=>exact U
 |error y=>
  refine bF U ?_;clear U;rintro cls e rfl rfl z fw;cases h2;exact⟨cls,e,aJ s₂,_,F,λb=>M b/\¬(b=a\/b=d),cur,rfl,rfl,I.xB (M':=λb=>M b/\¬(b=a\/b=d)) (lv:=.un) hS hi dW ck Y p6 m2 V z (.refl _ _ _) trivial (λZ h=>h.1) (λZ h h'=>⟨h,h'⟩) (λb h h'=>absurd h' h.2),(let q:=fY z (.refl _ _ _);⟨q.keep,q.size,λb h=>q.grow b h.1,q.more,q.fE,q.gens⟩),⟨t_ _,I.step.size⟩,z.size,λb h=>h.elim (λh=>(I.bound hS h).1) λh=>(I.mu b h.1).2.1,fw.Af⟩
structure xE(W:Wd)(K:abd)(fd:aba)(a D C cc:fF)(name:Str)(f:fF):Prop where
 kb:K.In W.base
 fn:∃o,W.base.get? a=some o/\o.data= .func fd
 arg:∃ar,(fd.params.posonlyargs++fd.params.args).head? =some ar/\ar.arg=("self":Str)
 code:∃cd oc vs file tf,fd.code= .ref cd/\W.base.get? cd=some oc/\oc.data= .fields vs/\vs[2]? =some (.str file tf)/\((W.prog.main.file:Str)==file)=true
 cell:∃o,W.base.get? cc=some o/\o.data= .cell (some (.ref D))
 QZ:fd.closure=[(("__class__":Str),cc)]
 cls:∃oD V4,W.base.get? D=some oD/\oD.data= .cls V4
 sub:mroIn K C (.ref D)=some true
 mg:W.mg "super"=none
 mb:W.mb "super"=some (.type "super")
 top:(W.prog.main.scope.names.lookup ("super":Str)).isSome=false
 kS:fd.scope.names.lookup ("super":Str)=some .globalImplicit
 kC:fd.scope.names.lookup ("__class__":Str)=some .free
 kA:fd.scope.names.lookup ("self":Str)=some .local
 kk:fd.scope.kind= .function
 OJ:ks_superIn K C D name=some (some (.ref f))
 OK:typeIn K (.ref f)=some (.type "function")
 fin:acY K f=true
 nm:(name==("__class__":Str))=false
theorem wo{OL D C cc f rk:fF}(H:xE W K fd OL D C cc name f){p0 p1:Pos}{spec:List Str->List AV->List AV->Option (Except cz (List Str×List AV))}
  {F:fF->Prop} {r:Ou} (I:S.Ok W fn false) (R:Rel W S fn F M cur J s) (CO:fn.scope=fd.scope) (OM:S.env.func=some OL) (qR:S.env.code=fd.code) (lR:S.env.cells.lookup ("__class__":Str)=some cc)
  (h0:fn.names[0]? =some ("self":Str)) (iY:J.getD 0 .un= .ob C ks xs) (hf:KA W f rk C spec) (jC:rk+2<=fn.rank) (hr:FQ 0 C J (spec ks xs [])=some r) (hint:interactive S.env=false)
  (hs:swapsWith (.Call (.Attribute (.Call (.Name "super" p0) [] [] p1) name apos) [] [] cB) none pos.line S.env=pure false)
  (he:eval (.Call (.Attribute (.Call (.Name "super" p0) [] [] p1) name apos) [] [] cB) S.env=(do
   let ov<-attributeBase (.Call (.Name "super" p0) [] [] p1) name S.env (eval (.Call (.Name "super" p0) [] [] p1) S.env)
   standAt apos.atName
   let(f,first)<-holding [ov] (getMethod ov name (do return (<-importBound (.Call (.Name "super" p0) [] [] p1) S.env).getD true))
   callWith cB f first (backTo cB (starEach [] S.env)) [])):
  PySem.wpAt (model W.prog W.w) S.A (.func body S.env) (exec (.Expr (.Call (.Attribute (.Call (.Name "super" p0) [] [] p1) name apos) [] [] cB) pos) S.env) (PS W S fn F M s r) (i9 W S fn F M s r) s:=by
 obtain⟨kb,⟨OB,ON,KO⟩,⟨ar,Yg,KP⟩,⟨cd,oc,vs,file,tf,jb,yq,T5,gA,OO⟩,⟨Zu,yQ,T6⟩,QZ,⟨oD,V4,hD,V5⟩,sub,mg,mb,top,kS,kC,kA,kk,OJ,OK,fin,nm⟩:=H;have X:=kb.keeps R.stays;have eS:S.env.scope=fd.scope:=I.scope.trans CO;have kf:∀y,S.env.kindOf y=fd.scope.names.lookup y:=λy=>by show S.env.scope.names.lookup y=_;exact ag eS rfl
 have V6:S.env.scope.kind= .function:=by refine ag eS ?_;exact kk
 have rr:=R.slots 0 _ h0;rw[iY]at rr;refine hJ rr λa d ws ck p6 m2 fK ei hv=>?_;clear rr;have dW:(J.getD 0 .un).bR=true:=by refine ag iY ?_;rfl
 have Yh:∀Y cd,s.heap.get? C=some Y->Y.data= .cls cd->a≠C:=λY cd h1 h2 h=>by
  refine z7 ei λsl h3 Z=>?_;clear ei;rw[h,h1]at h3;revert h3;refine bc λe=>?_;clear h1;subst e;cases h2
 refine ks_wpAt_Expr_any (ks_wpAt_MethodCall ?_ he) hint hs;refine ks_wpAt_super_base (by rw[kf];exact kS) (by rw[kf];exact kC) nm OM (R.stays _ _ ON) KO Yg (qR.trans jb) (R.stays _ _ yq) T5 gA OO top (ks_loadName_global V6 (by rw[kf];exact kS) (Calls.loadGlobal_builtin (by rw[I.glob];exact I.hg.keeps R.stays) mg (by rw[I.bi];exact I.hb.keeps R.stays) mb ⟨rfl,?_⟩));refine wpAny_loadName_free V6 (by rw[kf];exact kC) lR ⟨_,R.stays _ _ yQ,T6⟩ (ag KP (cD I R (.inl (by refine ag CO ?_;exact kA)) ck ?_));refine ks_wpAny_isType_cls (R.stays _ _ hD) V5 ⟨rfl,?_⟩;refine z7 (id ei) λZv Yi Z=>ks_wpAny_call_super (R.stays _ _ hD) V5 Yi rfl (λc h=>by cases h) (looks_mroIn X sub) λU zU z=>ax (z0.mp OJ) λYj OP hm=>?_;obtain⟨Y,Yk,FR⟩:∃Y,s.heap.get? C=some Y/\∃c,Y.data= .cls c:=by
  unfold clsIn at OP;rcases ho:K.lookup C with _|⟨_,_,d,_⟩<;>rw[ho]at OP
  ·exact aZ OP
  cases d with
  |cls _=>exact⟨_,X _ _ ho,_,rfl⟩
  |_=>exact aZ OP
 refine au FR ?_;clear FR;intro Yl FR;have Ym:a≠C:=Yh _ _ Yk FR;refine ax (r0.mp OK) λof Yn T7=>?_;have FT:K.In U:=X.keeps z;have FU:Ac U:=by
  exact ax ((R.tab I).2) λmc dG Q3=>⟨mc,iC (λo ho=>⟨o.slots,z _ o ho⟩) dG,Q3⟩
 refine ks_wpAny_getMethod_super (K:=K) (l₀:=Yj.mro) zU (jV FU) ((looks_clsIn FT OP).andThen .now) rfl FT hm (FT _ _ Yn) T7 Ym nm ?_;have hq:(U.push (methodObj (.ref f) (.ref a))).get? U.objs.size=some (methodObj (.ref f) (.ref a)):=w' _ rfl;have V:∀b o,s.heap.get? b=some o->(U.push (methodObj (.ref f) (.ref a))).get? b=some o:=λb o e=>ml _ (z b o e);have hz:s.heap.objs.size<=(U.push (methodObj (.ref f) (.ref a))).objs.size:=by
  rw[rW];exact bU (Kt (ye zU)) (Tw _)
 have aD:Step W s {s with heap:=U.push (methodObj (.ref f) (.ref a)),toks:=s.toks+1}:=.of_keeps R.stays V hz;have aM:=R.move I aD (.refl _ _ F);have d8:=ei.up (h':=U.push (methodObj (.ref f) (.ref a))) λb o Z e=>⟨o.slots,V b o e⟩;have dO:=R.Ma I aD (.refl _ _ F) hv;refine callWith_of (P:=rT K U.objs.size f a) rfl (λh=>t7 fin h) (evalArgs_nil3 ⟨⟨⟨_,hq⟩,FT.keeps λb o e=>ml _ e⟩,?_⟩);refine abK (rU ⟨_,hq⟩ (aaM (CN (ys:=[]) (ws:=[]) I aM h0 dW ck p6 m2 fK d8 dO (rfl) hf jC hr) λres aK hc=>?_));have TT:fI W F M F M s {s with heap:=U.push (methodObj (.ref f) (.ref a)),toks:=s.toks+1}:=aD.fY (.refl _ _ _);cases res with
 |error e=>exact i9.lift TT hc
 |ok fl=>
  cases fl with
  |ret v=>exact PS.lift TT hc.2
  |_=>exact hc.elim
end
section
set_option backward.match.sparseCases true
section
variable {K:abd}
def oR(C:fF)(z:List Str->List AV->List AV->Option (Except cz (List Str×List AV)))(f:St->Option Ou)(ks:List Str)(xs:List AV)(J:St):Option Ou:=match FQ 0 C J (z ks xs [])with
 |some (.next I)=>f I
 |r=>r
theorem CP{M:SW}{c:Code}{t:Sem α}{z:α->ea->Prop}{I:cz->ea->Prop}(P:α->ea->Prop)(X:cz->ea->Prop)(U:∀a s,P a s->z a s)(V:∀e s,X e s->I e s)(k:∀(Q:α->ea->Prop)(E:cz->ea->Prop),(∀a s,P a s->Q a s)->(∀e s,X e s->E e s)->PySem.wpAt M A c t Q E s):PySem.wpAt M A c t z I s:=
 PySem.wpAt_mono (k P X (λZ Z h=>h) λZ Z h=>h) U V
theorem p_{a D C cc fS rkS rk:fF}(H:xE W K fd a D C cc name fS){p0 p1:Pos}{rest:List aaa}{f:St->Option Ou}{qS:List Str->List AV->List AV->Option (Except cz (List Str×List AV))}
  (jb:W.base.CodeRec fd.code fd.qualname) (dS:fd.body= .stmts (.Expr (.Call (.Attribute (.Call (.Name "super" p0) [] [] p1) name apos) [] [] cB) pos::rest)) (mw:fd.globals=3) (rt:fd.builtins=0)
  (dT:∀v:cz,bindArgs fd ⟨[v],[]⟩=pure [(("self":Str),v)])
  (b9:names[0]? =some ("self":Str)) (dp:names.Nodup) (ff:∀x∈fd.scope.names,x.2≠.cell)
  (hf:KA W fS rkS C qS) (jC:rkS+2<=rk)
  (hB:c5 W false ⟨fd.scope,names,rk,false,fd.code,fd.qualname⟩ rest f) (hint:∀env:Env,env.scope=fd.scope->interactive env=false)
  (hs:∀env,swapsWith (.Call (.Attribute (.Call (.Name "super" p0) [] [] p1) name apos) [] [] cB) none pos.line env=pure false)
  (he:∀env,eval (.Call (.Attribute (.Call (.Name "super" p0) [] [] p1) name apos) [] [] cB) env=(do
   let ov<-attributeBase (.Call (.Name "super" p0) [] [] p1) name env (eval (.Call (.Name "super" p0) [] [] p1) env)
   standAt apos.atName
   let(f,first)<-holding [ov] (getMethod ov name (do return (<-importBound (.Call (.Name "super" p0) [] [] p1) env).getD true))
   callWith cB f first (backTo cB (starEach [] env)) []))
  (mS:autoParam (fd.scope.isCoroutine=false) gQ) (f_:autoParam (fd.scope.isGenerator=false) gQ):
  KA W a rk C (λks xs ys=>match ys with|[]=>eR C (oR C qS f ks xs (.ob C ks xs::aO (names.length-1) []))|_=>none):=λA outer F s x d ks xs vs ys ws r I ei hv hw Y=>by
 cases ys with
 |cons y ys=>exact aZ Y
 |nil=>
 subst hw;simp only at Y;refine ax H.fn λo ho dR=>?_;have hk:=H.kk;have Mq:1<=names.length:=(gw.mp b9).1;rcases V:oR C qS f ks xs (.ob C ks xs::aO (names.length-1) [])with _|ou
 ·rw[V]at Y;simp[eR]at Y
 rw[V]at Y;refine iQ I.lt.2 λmc nr AD Z=>?_;have vc:s.heap.NoLimit:=⟨mc,nr,AD⟩;refine ks_codeAny_call_defAt (So I.room.1) (I.stays _ _ ho) dR vc (jb.keeps I.stays) dS (binds:=[(("self":Str),.ref x)]) (λM' A' E Q hq=>by rw[dT];exact en hq) ff (λy hy=>?_) (λaF dG f'=>?_) mS f_ hk
 ·simp only[aan]at hy;subst hy;exact H.kA
 have sL:aJ s<aF.objs.size:=dG.lt
 let env:=callEnv fd (aJ s) a
 let S:cj:=⟨s,F,λb=>b=x\/b=d,A.deeper env,env,env,outer,aJ s,aJ s⟩
 have hX:∀b,b=x\/b=d->b<aJ s:=λb h=>(I.x0 b h).1;have hS:S.Ok W ⟨fd.scope,names,rk,false,fd.code,fd.qualname⟩ false:=by
  refine⟨rfl,hk,rfl,rfl,rfl,(by show fd.scope.kind≠_;refine ag hk ?_;intro x;exfalso;cases x),mw,rt,abQ I.frames,I.dN,I.cW,I.stays,I.xg.hg,I.xg.hb,?_,I.sR,I.x0,I.lb,I.lt,dp,λZ=>I.hand,.inl (by refine ag (abC) ?_;exact b9),⟨rfl,rfl⟩⟩;have h1:=I.room.1;have h2:=I.room.2;exact⟨MW h1,MX h2⟩
 have tX:([(("self":Str),V9 x)]:List (Str×cz)).reverse.lookup ("self":Str)=some (.ref x):=rfl;have tY:∀i,(adE (.ob C ks xs::aO (names.length-1) []) i LV.un).bR=true->i=0:=λi h=>by
  cases i with
  |zero=>rfl
  |succ i=>
   rw[Uq,bI]at h;simp[LV.bR]at h
 have vd:Rel W S ⟨fd.scope,names,rk,false,fd.code,fd.qualname⟩ F (λb=>b=aJ s\/(b=x\/b=d)) (λy=>([(("self":Str),V9 x)]:List (Str×cz)).reverse.lookup y) (.ob C ks xs::aO (names.length-1) []) {s with heap:=aF,toks:=s.toks+1}:=by
  refine⟨(Step.of_keeps I.stays f' (Kt sL)).x,⟨λZ h=>h,λZ h=>.inl h⟩,λb hb=>?_,⟨.inl (.inl rfl),.inl rfl⟩,?_,⟨_,dG,λy hy=>rfl⟩,λy hy=>?_,?_,λi y hi=>?_,λi j y z hi hj AG h1 h2=>absurd ((tY i h1).trans (tY j h2).symm) AG,λb hb=>?_⟩
  ·refine g' hb ?_ λhb=>?_;clear hb;rintro rfl
   ·exact⟨.inl (t_ _),sL,λh=>f3 _ (I.sR _ h).1⟩
   ·exact⟨.inr hb,ZP (hX b hb) sL,I.xf b hb⟩
  ·refine dh dG λo es ep h1 h2 Z=>?_;clear dG;exact⟨o,es,ep,h1,h2⟩
  ·exact absurd rfl (ff (y,.cell) (aaA hy))
  ·simp only[aO,CV,nx,ro,Q_,Z5];exact(congrArg (·+1) (aay _)).trans (abl Mq)
  ·cases i with
   |zero=>
    rw[b9]at hi;revert hi;refine bc λe=>?_;subst e;refine⟨x,d,vs,tX,.inr (.inl rfl),.inr (.inr rfl),?_,ei.up λb o Z e=>⟨o.slots,f' b o e⟩,hv.mono (λb Z o e=>⟨o.slots,f' b o e⟩) λZ h=>h⟩;rintro((h|h)|⟨_,h⟩)
    ·exact f3 _ (h▸hX d (.inr rfl))
    ·exact f3 _ (h▸hX d (.inr rfl))
    ·exact h ⟨.inr rfl,.inl ei.2.2.2.symm⟩
   |succ i=>
    refine ag Uq (ag bI ?_);trivial
  ·refine g' hb ?_ λhb=>?_;clear hb;rintro rfl
   ·refine dh dG λo es ep h1 h2 Z=>?_;clear dG;exact⟨o,h1,by rintro⟨ws,h3,_⟩;rw[h2]at h3;exfalso;cases h3⟩
   ·exact ax (I.SV b hb) λo h1 h2=>⟨o,f' b o h1,h2⟩
 have T8:∀fl s',PS W S ⟨fd.scope,names,rk,false,fd.code,fd.qualname⟩ F (λb=>b=aJ s\/(b=x\/b=d)) {s with heap:=aF,toks:=s.toks+1} ou fl s'->Kz W outer F s x d C r (.ok (.ret (match fl with| .ret v=>v|_=>.none))) s':=λfl s' hp=>by
  refine hp.el λF' M' aC ak R' T' U=>?_;clear hp;have ok:=λv h=>rR (v:=v) (outer:=outer) b9 rfl rfl rfl ei Y R' h;clear V;cases fl with
  |brk=>clear ok;cases (show ou= .brk ak from U);exfalso;cases Y
  |cont=>clear ok;cases (show ou= .cont ak from U);exfalso;cases Y
  |ret v=>exact ok v (.inl U)
  |next=>exact ok .none (.inr ⟨U,rfl⟩)
 have V7:∀y s',i9 W S ⟨fd.scope,names,rk,false,fd.code,fd.qualname⟩ F (λb=>b=aJ s\/(b=x\/b=d)) {s with heap:=aF,toks:=s.toks+1} ou y s'->wpAny (model W.prog W.w) (A.deeper env) (leaving env y) (λZ cR=>Kz W outer F s x d C r (.error y) cR) (λe' cR=>Kz W outer F s x d C r (.error e') cR) s':=λy s' hx=>by
  refine va (E:=λe s'=>Kz W outer F s x d C r (.error e) s') hS rfl hx λF' M' aC ak cls e s' R' h1 h2=>?_;clear T8 hx;clear V;subst h1;cases Y;exact⟨cls,e,rfl,rfl,R'.step,h2⟩
 refine CP (λfl s'=>PS W S ⟨fd.scope,names,rk,false,fd.code,fd.qualname⟩ F (λb=>b=aJ s\/(b=x\/b=d)) {s with heap:=aF,toks:=s.toks+1} ou fl s') (λy s'=>i9 W S ⟨fd.scope,names,rk,false,fd.code,fd.qualname⟩ F (λb=>b=aJ s\/(b=x\/b=d)) {s with heap:=aF,toks:=s.toks+1} ou y s') T8 V7 λQ E kQ kE=>?_;have yQ:S.env.cells.lookup ("__class__":Str)=some cc:=by show fd.closure.lookup _=_;refine ag H.QZ ?_;rfl
 unfold oR at V;clear Y V7;clear T8;rcases zU:FQ 0 C (.ob C ks xs::aO (names.length-1) []) (qS ks xs [])with _|FH
 ·exact aZ (zU▸V)
 rw[zU]at V;have main:=wo (body:=.Expr (.Call (.Attribute (.Call (.Name "super" p0) [] [] p1) name apos) [] [] cB) pos::rest) H hS vd rfl rfl rfl yQ b9 rfl hf jC zU (hint _ rfl) (hs _) (he _);refine ks_wpAt_execs_cons (PySem.wpAt_mono main (λfl s' hp=>?_) λy s' hx=>?_)
 ·have OQ:=hp;refine hp.el λF' M' aC ak R' T' U=>?_;clear hp;clear zU main;cases FH with
  |next a6=>
   clear OQ;cases fl with
   |next=>
    simp only at U;cases U;exact PySem.wpAt_of_wpAny (fm (hB.run S F' M' aC _ ou s' hS R' V) (λZ Z x=>kQ _ _ (PS.lift T' x)) λZ Z x=>kE _ _ (i9.lift T' x))
   |brk=>simp only at U;exfalso;cases U
   |cont=>simp only at U;exfalso;cases U
   |ret v=>refine ax U λZ h Z=>?_;clear U;exfalso;cases h
  |brk _=>revert V;refine bc λe=>?_;clear kE;subst e;cases fl with
   |next=>simp only at U;exfalso;cases U
   |_=>exact kQ _ _ OQ
  |cont _=>revert V;refine bc λe=>?_;clear kE;subst e;cases fl with
   |next=>simp only at U;exfalso;cases U
   |_=>exact kQ _ _ OQ
  |ret _=>revert V;refine bc λe=>?_;subst e;cases fl with
   |next=>simp only at U;exfalso;cases U
   |_=>exact kQ _ _ OQ
  |ex _ _=>revert V;refine bc λe=>?_;subst e;cases fl with
   |next=>simp only at U;exfalso;cases U
   |_=>exact kQ _ _ OQ
 ·clear kQ;clear zU main;cases FH with
  |next a6=>refine hx.el λZ Z Z Z Z Z Z h Z=>?_;clear hx;exfalso;cases h
  |_=>revert V;refine bc λe=>?_;subst e;exact kE _ _ hx
end
def Sg(M:SW)(A:XQ)(T:End->ea->Prop)(c:Code)(t:Sem Fin)(fs:List Frame)(s:ea):Prop:=
 ∀Γ p,Γ.code=c->Γ.Woken A->∃e s',Runs M Γ p t fs s e s'/\T e s'
section
variable {M:SW} {T T':End->ea->Prop} {c:Code} {fs:List Frame}
theorem ir{m:Sem α}{K:α->Sem Fin}{H:cz->Sem Fin}{gd lv}(h:wpAny M (A.over c fs) m (λa s'=>Sg M A T c (K a) fs s') (λx s'=>Sg M A T c (H x) fs s') s):Sg M A T c (m.wrap K H gd lv) fs s:=by
 rintro z p rfl I;exact runs_wrap_of_wp K H gd lv m (h (z.over fs) p (I.over fs)) (λa U s' h'=>h' z U rfl I) (λx U s' h'=>h' z U rfl I)
theorem xF{z:Pos}{k:Unit->Sem Fin}(h:Sg M A T c (k ()) fs s):Sg M A T c (.at z k) fs s:=
 ir (m:=standAt z) (K:=k) (H:=.raise) (gd:=id) (lv:=id) (IW h)
theorem CQ{l:List cz}{k:Unit->Sem Fin}(h:Sg M A T c (k ()) fs s):Sg M A T c (.point l k) fs s:=
 ir (m:=point) (K:=k) (H:=.raise) (gd:=id) (lv:=λZ=>l) (aaw h)
theorem FV{z:Code}{h g l}{k:aaR->Sem Fin}(I:∀p,Sg M A T z (M.den z) (.ret k h g l c p []::fs) s):Sg M A T c (.call z h g l k) fs s:=by
 rintro U p rfl V;exact e7 (I p (U.goto z) p rfl (V.goto z)) λe s' Y Z=>⟨e,s',runs_call_seg Y,Z⟩
theorem FW{k h g l c₁ z kp}(r:aaR)(I:Sg M A T c₁ (k r) fs s):Sg M A T c (leafOf r) (.ret k h g l c₁ z kp::fs) s:=by
 rintro U p rfl V;exact e7 (I (U.goto c₁) z rfl (V.goto c₁)) λe s' Y Z=>⟨e,s',Runs.pop r Y,Z⟩
theorem CS{z:Code}(I:z.quiet=true)(U:Sg M A T z (M.den z) fs s):Sg M A T c (.pure (.again z)) fs s:=by
 rintro V p rfl Y;exact e7 (U (V.goto z) p rfl (Y.goto z)) λe s' hr he=>⟨e,s',Runs.head (c₁:=z) (λZ Z x=>.again I x) hr,he⟩
theorem KQ(r:aaR)(h:T (.ret r) s):Sg M A T c (leafOf r) [] s:=by
 rintro z p rfl _;exact⟨.ret r,s,Runs.leaf r,h⟩
theorem CT{v g l}{k:Resume->Sem Fin}(z:splitAtGen fs=none)(h:∀p,T (.susp v g l k c p fs) s):Sg M A T c (.yield v g l k) fs s:=by
 rintro I p rfl _;exact⟨_,s,Runs.yield' fs z,h p⟩
variable {K:Flow->Sem Fin} {H:cz->Sem Fin} {gd:Bool->Bool} {lv:List cz->List cz}
theorem lh(h:Sg M A T c (K .next) fs s):Sg M A T c ((execs [] env).wrap K H gd lv) fs s:=h
theorem qa{st:aaa}{rest:List aaa}(h:Sg M A T c ((exec st env).wrap (λf=>match f with| .next=>(execs rest env).wrap K H gd lv|f=>K f) H gd lv) fs s):
  Sg M A T c ((execs (st::rest) env).wrap K H gd lv) fs s:=by rw[execs_cons_wrap];exact h
theorem qb{e:u_}{z:Pos}(I:splitAtGen fs=none)(h:wpAny M (A.over c fs) (eval e env) (λv s'=>∀(l:List cz) p (k:Resume->Sem Fin),(∀T' cR,Sg M A T' c (K .next) fs cR->Sg M A T' c (k (.send .none)) fs cR)->T (.susp v (gd false) l k c p fs) s') (λx s'=>Sg M A T c (H x) fs s') s)(U:env.scope.isCoroutine=false)(V:interactive env=false)(hs:swapsWith (.Yield (some e) z) none pos.line env=pure false):Sg M A T c ((exec (.Expr (.Yield (some e) z) pos) env).wrap K H gd lv) fs s:=by
 refine ag (exec_Expr env _ pos V hs) ?_;show Sg M A T c (.at pos λZ=>((eval e env>>=λv=>(standAt z>>=λZ=>yieldOut env v))>>=λx=>dropValue (.Yield (some e) z) pos x).wrap K H gd lv) fs s;have Y:∀v,yieldOut env v=yieldValue v:=λv=>by simp only[yieldOut,U,F3,if_false]
 simp only[Y];refine xF ?_;rw[aah,aah,aaC,aaC];refine ir (fm h (λv s' h'=>?_) λZ Z x=>x);refine xF (CT I λp=>?_);exact h' _ p _ λT' cR hk=>hk
theorem CU{test:u_}
  (h:∀p,Sg M A T (.whileLoop test body orelse env) (M.den (.whileLoop test body orelse env))
   (.ret (λr=>((match r with| .ok f=>(.pure f:Sem Flow)| .error e=>.raise e).onRaise λ(x:cz)=>do
    if(<-field x 1)==Tg then unsupported "frame.own-activation:exception-without-traceback"
    setFlight x env.frame).wrap K H gd lv) none (gd false) (lv []) c p []::fs) s):
  Sg M A T c ((exec (.While test body orelse pos) env).wrap K H gd lv) fs s:=xF (FV h)
end
section
variable {prog:abf} {w:aab} {A:XQ} {T:End->ea->Prop} {fs:List Frame} {s:ea} {env:Env}
theorem rX{test:u_}
  (h:wpAny (model prog w) (A.over (.whileLoop test body orelse env) fs) (isTrue test env (eval test env)) (λb s'=>
    if b=true then
     Sg (model prog w) A T (.whileLoop test body orelse env) ((execs body env).wrap (λf=>match f with
      | .next| .cont=>.pure (.again (.whileLoop test body orelse env))
      | .brk=>.pure (.done .next)
      | .ret v=>.pure (.done (.ret v))) (λe=>(do noteFrame e env;theTreesLotGoes e:Sem Unit).wrap (λZ=>.raise e) .raise id id) id id) fs s'
    else Sg (model prog w) A T (.whileLoop test body orelse env) ((execs orelse env).wrap (λf=>.pure (.done f)) (λe=>(do noteFrame e env;theTreesLotGoes e:Sem Unit).wrap (λZ=>.raise e) .raise id id) id id) fs s')
   (λx s'=>False) s):
  Sg (model prog w) A T (.whileLoop test body orelse env) ((model prog w).den (.whileLoop test body orelse env)) fs s:=by
 show Sg _ A T _ ((whileTurn test body orelse env).onRaise (λx=>do noteFrame x env;theTreesLotGoes x)) fs s;unfold whileTurn;rw[Sem.onRaise_eq_wrap,aah,aaC];refine ir (fm h (λb s' hb=>?_) λx s' z=>z.elim);cases b with
 |true=>
  rw[if_pos rfl]at hb;show Sg _ A T _ (Sem.wrap _ _ _ _ (if true=true then _ else _)) fs s';rw[if_pos rfl,aah,aaC];rw[ack (execs body env) _ _ (K':=λf=>match f with
     | .next| .cont=>.pure (.again (.whileLoop test body orelse env))
     | .brk=>.pure (.done .next)
     | .ret v=>.pure (.done (.ret v))) (H':=(λe=>(do noteFrame e env;theTreesLotGoes e:Sem Unit).wrap (λZ=>.raise e) .raise id id))
   (λf=>by cases f<;>rfl)
   (λe=>by first|exact aa5 _ _|(show(do noteFrame e env;theTreesLotGoes e:Sem Unit).bind (λZ=>.raise e)=_;rw[aa5]))]
  exact hb
 |false=>
  rw[if_neg BA]at hb;show Sg _ A T _ (Sem.wrap _ _ _ _ (if false=true then _ else _)) fs s';rw[if_neg BA,aah,aaC];rw[ack (execs orelse env) _ _ (K':=λf=>(.pure (.done f):Sem Fin)) (H':=(λe=>(do noteFrame e env;theTreesLotGoes e:Sem Unit).wrap (λZ=>.raise e) .raise id id))
   (λf=>by rfl)
   (λe=>by first|exact aa5 _ _|(show(do noteFrame e env;theTreesLotGoes e:Sem Unit).bind (λZ=>.raise e)=_;rw[aa5]))]
  exact hb
theorem FX
  (h:Sg (model prog w) A T (.func body env) ((execs body env).wrap (λf=>.pure (.done (.ret (match f with| .ret v=>v|_=>.none))))
   (λe=>(leaving env e).wrap (λZ=>.raise e) .raise id id) id id) fs s):
  Sg (model prog w) A T (.func body env) ((model prog w).den (.func body env)) fs s:=by
 show Sg _ A T _ (.point [] λZ=>((execs body env).onRaise (leaving env))>>=_) fs s;refine CQ ?_;rw[Sem.onRaise_eq_wrap,aah,aaC];rw[ack (execs body env) _ _ (K':=λf=>.pure (.done (.ret (match f with| .ret v=>v|_=>.none))))
  (H':=λe=>(leaving env e).wrap (λZ=>.raise e) .raise id id) (λf=>by cases f<;>rfl)
  (λe=>by rw[aa5,aaC];rfl)]
 exact h
theorem rY{K:Flow->Sem Fin}{H:cz->Sem Fin}{gd lv}{test:u_}:(exec (.If test body orelse pos) env).wrap K H gd lv= .at pos λZ=>(isTrue test env (eval test env)).wrap (λb=>if b=true then(execs body env).wrap K H gd lv else(execs orelse env).wrap K H gd lv) H gd lv:=by
 rw[exec_If];show Sem.at pos (λZ=>(isTrue test env (eval test env)>>=λb=>if b=true then execs body env else execs orelse env).wrap K H gd lv)=_;congr 1;funext u;rw[aah,aaC];exact ack (isTrue test env (eval test env)) _ _ (λb=>by cases b<;>rfl) (λZ=>rfl)
end
structure fA(A₀:XQ)(outer:List Env)(env:Env)(c:Code)(fs:List Frame):Prop where
 hand:(A₀.over c fs).handled=none
 frames:(A₀.over c fs).frames=some (env::outer)
 depth:(A₀.over c fs).depth<=A₀.depth+2
 units:(A₀.over c fs).units<=A₀.units+10
 split:splitAtGen fs=none
 quiet:fs.any adq=false
theorem fA.KR{A₀:XQ}{c:Code}{fs:List Frame}{test:u_}{e:Env}{k l p kp}(h:fA A₀ outer env c fs):fA A₀ outer env (.whileLoop test body orelse e) (.ret k none false l c p kp::fs):=by
 obtain⟨h1,h2,h3,h4,h5,h6⟩:=h;refine⟨h1,?_,?_,?_,?_,?_⟩
 ·refine fP h2 ?_;show pushEnvs (Code.envs (.whileLoop test body orelse e)) (pushEnvs (envsOf ((c,p)::fs.map aa6)) A₀.frames)=pushEnvs c.envs (pushEnvs (envsOf (fs.map aa6)) A₀.frames);rw[envsOf_cons,show(Code.whileLoop test body orelse e).envs=[]from rfl];simp only[pushEnvs_eq];cases A₀.frames<;>simp
 ·refine bU (Kj ?_) h3;show A₀.depth+frameCount ((c,p)::fs.map aa6)+0=A₀.depth+frameCount (fs.map aa6)+c.weight;rw[frameCount_cons];lia
 ·refine bU (Kj ?_) h4;show A₀.units+unitsOf ((c,p)::fs.map aa6)+0=A₀.units+unitsOf (fs.map aa6)+c.cUnits;rw[unitsOf_cons];lia
 ·show abp _ (splitAtGen fs)=none;refine ag h5 ?_;rfl
 ·simp[adq,h6]
theorem fA.func{A₀:XQ}(z:A₀.handled=none)(I:A₀.frames=some outer):fA A₀ outer env (.func body env) []:=
 ⟨z,by show pushEnvs (Code.envs (.func body env)) (pushEnvs (envsOf (List.map aa6 [])) A₀.frames)=_;refine ag I ?_;rfl,by show A₀.depth+0+1<=_;exact Tw _,by show A₀.units+0+3<=_;lia,rfl,rfl⟩
structure zg(W:Wd)(fn:ek)(A₀:XQ)(outer:List Env)(env:Env)(L:fF):Prop where
 xg:W.Ok
 scope:env.scope=fn.scope
 kind:fn.scope.kind= .function
 locals:env.locals=L
 frame:env.frame=some L
 glob:env.globals=3
 bi:env.builtins=0
 room:A₀.depth+3*fn.rank+6<=600/\A₀.units+100*fn.rank+110<=9000
 nodup:fn.names.Nodup
 self:fn.names.head? =some ("self":Str)
 inner:fn.inner=false
 EF:env.code=fn.cd/\env.qual=fn.qual++".<locals>."
structure Later(W:Wd)(outer:List Env)(F M:fF->Prop)(s aK:ea):Prop where
 dN:aK.heap.FunFrames W.base outer
 cW:∀L,L∈outer.filterMap (·.frame)->¬(W.loose L\/M L)
 stays:W.base.StaysIn aK.heap
 kept:∀b o,F b\/M b\/(iS o/\¬W.loose b)->s.heap.get? b=some o->∃sl,aK.heap.get? b=some {o with slots:=sl}
 size:aJ s<=aJ aK
 lb:∀a,W.loose a->a<aJ aK
 lt:LT W aK.heap
def xG(W:Wd)(fn:ek)(A₀:XQ)(outer:List Env)(env:Env)(L:fF)(c:Code)(fs:List Frame)(S:cj):Prop:=
 S.Ok W fn false/\S.A=A₀.over c fs/\S.env=env/\S.fe=env/\S.outer=outer/\S.L=L/\S.C=L
section
variable {A₀:XQ} {L:fF}
def TG(W:Wd)(A₀:XQ)(outer:List Env)(env:Env)(L:fF):List AV->cj->End->ea->Prop
 |[],S,e,s₂=>e= .ret (.ok (.ret .none))/\fD W S.X S.s₀ s₂
 |y::ys,S,e,s₂=>∃v l k c p fs F' M',e= .susp v false l k c p fs/\e.quiet=true/\fD W S.X S.s₀ s₂/\(∀a,S.fu a->F' a)/\(∀a,F' a->S.fu a\/S.X a\/(aJ S.s₀<=a/\a<aJ s₂))/\
   (∀a,M' a->(S.X a\/aJ S.s₀<=a)/\a<aJ s₂/\¬F' a)/\VR s₂.heap F' y v/\
   ∀aK,Later W outer F' M' s₂ aK->Sg (model W.prog W.w) A₀ (TG W A₀ outer env L ys ⟨aK,F',M',A₀.over c fs,env,env,outer,L,L⟩) c (k (.send .none)) fs aK
theorem t8{c:Code}{fs:List Frame}{F:fF->Prop}{aK:ea}(I:zg W fn A₀ outer env L)(hO:fA A₀ outer env c fs)(hS:xG W fn A₀ outer env L c fs S)(R:Rel W S fn F M cur J s)(T:Later W outer F M s aK):xG W fn A₀ outer env L c fs ⟨aK,F,M,A₀.over c fs,env,env,outer,L,L⟩/\Rel W ⟨aK,F,M,A₀.over c fs,env,env,outer,L,L⟩ fn F M cur J aK:=by
 refine sQ hS λV eA eE eF eO eL U=>?_;have hM:∀a,M a->a<aJ aK:=λa h=>bk (R.mu a h).2.1 T.size;refine⟨⟨⟨I.scope,I.kind,I.locals,I.frame,I.frame,(by refine ag I.scope (ag I.kind ?_);intro x;cases x),I.glob,I.bi,hO.frames,T.dN,λL' hL h=>T.cW L' hL h,T.stays,I.xg.hg,I.xg.hb,?_,λa h=>⟨bk (R.bound V h).1 T.size,(R.bound V h).2⟩,
  λa h=>⟨hM a h,R.bS V h,R.ql V h⟩,T.lb,T.lt,I.nodup,λZ=>hO.hand,.inl I.self,I.EF⟩,rfl,rfl,rfl,rfl,rfl,rfl⟩,?_⟩
 ·have h1:=I.room.1;have h2:=I.room.2;have h3:=hO.depth;have h4:=hO.units;exact⟨Vs h1 h3,Vt h2 h4⟩
 ·have kf:∀y,S.env.kindOf y=env.kindOf y:=λy=>by exact ag eE rfl
  refine⟨(Step.refl T.stays).x,⟨λZ h=>h,λZ h=>.inl h⟩,λa h=>⟨.inr h,hM a h,(R.mu a h).2.2⟩,?_,?_,?_,λy hy=>?_,R.len,λi x hi=>?_,R.dist,λa h=>?_⟩
  ·have:=R.frame.2;rw[U]at this;exact⟨.inl this,this⟩
  ·refine ft R.top λo es ep h1 h2=>?_;rw[eL]at h1;have hm:=R.frame.2;rw[U]at hm;exact au (T.kept L o (.inr (.inl hm)) h1) λsl h3=>⟨_,es,ep,h3,h2⟩
  ·refine ax R.ns λm Y hm=>?_;rw[U]at Y;have V8:=R.frame.2;rw[U]at V8;exact⟨m,iC (λo e=>T.kept L o (.inr (.inl V8)) e) Y,λy hy=>hm y (by rw[kf];exact hy)⟩
  ·refine bF (R.cells y (by rw[kf];exact hy)) λcc o h1 h2 h3 h4=>?_;have nr:M cc:=h2.elim id λh=>by rw[I.inner]at h;cases h.1
   refine au (T.kept cc o (.inr (.inl nr)) h3) λsl h5=>⟨cc,_,by refine fP eE ?_;exact h1,.inl nr,h5,h4⟩
  ·have r:=(R.slots i x hi).up (F':=F) (M':=M) (λZ h=>h) (λZ h=>h) (h':=aK.heap) λb o e h=>T.kept b o h e;cases hl:J.getD i .un with
   |ob C ks xs=>
    rw[hl]at r;refine hJ r λz d vs e hz hd Y ei hv=>⟨z,d,vs,e,hz,hd,?_,ei,hv⟩;rintro(h|⟨_,h⟩)
    ·exact Y (.inl (by unfold cj.nm;refine ag eL (ag U ?_);exact h))
    ·exact h ⟨hd,by refine fP ei.2.2.2 ?_;exact hz⟩
   |_=>rw[hl]at r;exact r
  ·exact ax (R.small a h) λo h1 h2=>au (T.kept a o (.inr (.inl h)) h1) λsl h3=>⟨_,h3,h2⟩
end
def eT(ou:Ou)(ak:St)(h:ZN)(F:fF->Prop):Flow->Prop
 | .next=>ou= .next ak
 | .brk=>ou= .brk ak
 | .cont=>ou= .cont ak
 | .ret v=>∃a,ou= .ret a/\VR h F a v
abbrev dj:=Option (List AV×Ou)
structure qT(W:Wd)(fn:ek)(st:aaa)(f:St->dj):Prop where
 run:∀A₀ outer env L c fs K H gd lv S F M cur J ys ou s rest,zg W fn A₀ outer env L->fA A₀ outer env c fs->gd false=false->xG W fn A₀ outer env L c fs S->Rel W S fn F M cur J s->f J=some (ys,ou)->
  (∀S' F' M' aC ak s' fl,xG W fn A₀ outer env L c fs S'->Rel W S' fn F' M' aC ak s'->eT ou ak s'.heap F' fl->Sg (model W.prog W.w) A₀ (TG W A₀ outer env L rest S') c (K fl) fs s')->
  Sg (model W.prog W.w) A₀ (TG W A₀ outer env L (ys++rest) S) c ((exec st env).wrap K H gd lv) fs s
structure rZ(W:Wd)(fn:ek)(st:List aaa)(f:St->dj):Prop where
 run:∀A₀ outer env L c fs K H gd lv S F M cur J ys ou s rest,zg W fn A₀ outer env L->fA A₀ outer env c fs->gd false=false->xG W fn A₀ outer env L c fs S->Rel W S fn F M cur J s->f J=some (ys,ou)->
  (∀S' F' M' aC ak s' fl,xG W fn A₀ outer env L c fs S'->Rel W S' fn F' M' aC ak s'->eT ou ak s'.heap F' fl->Sg (model W.prog W.w) A₀ (TG W A₀ outer env L rest S') c (K fl) fs s')->
  Sg (model W.prog W.w) A₀ (TG W A₀ outer env L (ys++rest) S) c ((execs st env).wrap K H gd lv) fs s
noncomputable def lj(f:St->Option Ou)(J:St):dj:=match f J with
 |some (.next ak)=>some ([],.next ak)
 |some (.brk ak)=>some ([],.brk ak)
 |some (.cont ak)=>some ([],.cont ak)
 |some (.ret a)=>some ([],.ret a)
 |some (.ex _ _)=>none
 |none=>none
theorem wq{f:St->Option Ou}{ou:Ou}(h:lj f J=some (ys,ou)):ys=[]/\f J=some ou/\∀c ak,ou≠.ex c ak:=by
 unfold lj at h;rcases z:f J with _|o
 ·exact aZ (z▸h)
 rw[z]at h;cases o with
 |ex _ _=>exact aZ h
 |_=>revert h;refine bc λe=>?_;cases e;exact⟨rfl,rfl,λc ak e=>Ou.noConfusion e⟩
theorem d9{st:aaa}{f:St->Option Ou}(h:aR W false fn st f):qT W fn st (lj f):=⟨λA₀ outer env L c fs K H gd lv S F M cur J ys ou s rest hF hO uO z R I hK=>by
 refine fQ (wq I) ?_;clear I;rintro rfl eG JA;refine sQ (id z) λiu eA eE eF eO eL eC=>?_;have U:=h.run S F M cur J ou s iu R eG;rw[eA,eE]at U;refine ir (fm U (λfl s' V=>?_) λx s' Y=>?_)
 ·refine V.el λF' M' aC ak R' T' hm=>?_;clear V;exact hK S F' M' aC ak s' fl z R' (by cases fl<;>exact hm)
 ·refine Y.el λcls Z Z ak Z Z Z h1 Z=>?_;clear Y;exact absurd h1 (JA cls ak)⟩
theorem iM:rZ W fn [] (λJ=>some ([],.next J)):=⟨λA₀ outer env L c fs K H gd lv S F M cur J ys ou s rest V hO Y z R I U=>by
 revert I;refine bc λe=>?_;cases e;exact lh (U S F M cur J s .next z R rfl)⟩
noncomputable def kc(g h:St->dj)(J:St):dj:=match g J with
 |some (ys,.next ak)=>(h ak).map λp=>(ys++p.1,p.2)
 |r=>r
theorem b_{st:aaa}{Y:List aaa}{g h:St->dj}(hg:qT W fn st g)(hh:rZ W fn Y h):rZ W fn (st::Y) (kc g h):=⟨λA₀ outer env L c fs K H gd lv S F M cur J ys ou s rest hF hO uO hS R I hK=>by
 refine qa ?_;unfold kc at I;rcases V:g J with _|⟨zs,o⟩
 ·exact aZ (V▸I)
 rw[V]at I;have z:(∀ak,o≠.next ak)->(zs,o)=(ys,ou)->Sg (model W.prog W.w) A₀ (TG W A₀ outer env L (ys++rest) S) c ((exec st env).wrap (λf=>match f with| .next=>(execs Y env).wrap K H gd lv|f=>K f) H gd lv) fs s:=λt4 he=>by
  clear I;cases he;refine hg.run A₀ outer env L c fs _ H gd lv S F M cur J _ _ s rest hF hO uO hS R V λS' F' M' aC ak s' fl m4 R' U=>?_;cases fl with
  |next=>exact absurd U (t4 ak)
  |_=>exact hK S' F' M' aC ak s' _ m4 R' U
 cases o with
 |next a6=>
  simp only at I;refine ax (r0.mp I) λy2 h2 he=>?_;clear z;clear I;rcases y2 with⟨ws,oO⟩
  cases he;rw[SF];refine hg.run A₀ outer env L c fs _ H gd lv S F M cur J zs (.next a6) s (ws++rest) hF hO uO hS R V λS' F' M' aC ak s' fl m4 R' U=>?_;cases fl with
  |next=>
   have:a6=ak:=by injection U
   clear U;subst this;exact hh.run A₀ outer env L c fs K H gd lv S' F' M' aC a6 ws oO s' rest hF hO uO m4 R' h2 hK
  |brk=>exfalso;cases U
  |cont=>exfalso;cases U
  |ret v=>refine ax U λZ h Z=>?_;clear U;exfalso;cases h
 |brk _=>exact z (λZ h=>by exfalso;cases h) (by simpa using I)
 |cont _=>exact z (λZ h=>by exfalso;cases h) (by simpa using I)
 |ret _=>exact z (λZ h=>by exfalso;cases h) (by simpa using I)
 |ex _ _=>exact z (λZ h=>by exfalso;cases h) (by simpa using I)⟩
noncomputable def oV(f:St->Rs AV)(J:St):dj:=match f J with
 |some (.ok a)=>some ([a],.next J)
 |some (.error _)=>none
 |none=>none
set_option tactic.hygienic true in
theorem FY{e:u_}{V:Pos}{f:St->Rs AV}(h:aL W false fn e f)(mS:fn.scope.isCoroutine=false)(hi:∀env:Env,env.scope=fn.scope->interactive env=false)(hs:∀env,swapsWith (.Yield (some e) V) none pos.line env=pure false):qT W fn (.Expr (.Yield (some e) V) pos) (oV f):=⟨λA₀ outer env L c fs K H gd lv S F M cur J ys ou s rest U hO Y Z R I hK=>by
 unfold oV at I;split at I
 case h_2=>exact aZ I
 case h_3=>exact aZ I
 rename_i a ha;revert I;refine bc λe=>?_;cases e;refine sQ (id Z) λiu eA eE eF eO eL eC=>?_;have hr:=h.run S F M cur J _ s iu R ha;rw[eA,eE]at hr;refine qb hO.split (w8 hr λv F' s' T G hv=>?_) (by refine ag U.scope ?_;exact mS) (hi _ U.scope) (hs _);intro l p k hk;have z:=R.move iu T G;refine⟨v,l,k,c,p,fs,F',M,by exact ag Y rfl,?_,z.step,λa h=>z.grow.1 a h,λa h=>z.grow.2 a h,λa h=>⟨(z.mu a h).1.symm,(z.mu a h).2⟩,hv,λaK bp=>?_⟩
 ·show(!(gd false||fs.any adq))=true;refine ag Y (ag hO.quiet ?_);rfl
 refine aX (t8 U hO Z z bp) λCW cG=>?_;exact hk _ aK (hK _ F' M cur J aK .next CW cG rfl)⟩
section
variable {A₀:XQ} {L:fF}
noncomputable def It(f:St->Rs Bool)(g h:St->dj)(J:St):dj:=match f J with
 |some (.ok true)=>g J
 |some (.ok false)=>h J
 |some (.error _)=>none
 |none=>none
theorem CX{t:u_}{f:St->Rs Bool}{g h:St->dj}(Y:gL W false fn t f)(hg:rZ W fn body g)(hh:rZ W fn orelse h):qT W fn (.If t body orelse pos) (It f g h):=⟨λA₀ outer env L c fs K H gd lv S F M cur J ys ou s rest Z hO uO V R z hK=>by
 refine ag rY (xF (sQ (id V) λU eA eE eF eO eL eC=>?_));unfold It at z;split at z
 ·rename_i hb;have I:=Y.run S F M cur J _ s U R hb;rw[eA,eE]at I;refine ir (Mc I λs' T=>?_);exact ag (if_pos rfl) (hg.run A₀ outer env L c fs K H gd lv S F M cur J ys ou s' rest Z hO uO V (R.move U T (.refl _ _ _)) z hK)
 ·rename_i hb;have I:=Y.run S F M cur J _ s U R hb;rw[eA,eE]at I;refine ir (Mc I λs' T=>?_);exact ag (if_neg BA) (hh.run A₀ outer env L c fs K H gd lv S F M cur J ys ou s' rest Z hO uO V (R.move U T (.refl _ _ _)) z hK)
 ·exact aZ z
 ·exact aZ z⟩
noncomputable def cj.re(S:cj)(B:XQ):cj:={S with A:=B}
theorem Iu(ys:List AV)(S:cj)(B:XQ):TG W A₀ outer env L ys (S.re B)=TG W A₀ outer env L ys S:=by cases ys<;>rfl
theorem Rel.re{F:fF->Prop}(R:Rel W S fn F M cur J s)(B:XQ):Rel W (S.re B) fn F M cur J s:=
 ⟨R.step,R.grow,R.mu,R.frame,R.top,R.ns,R.cells,R.len,R.slots,R.dist,R.small⟩
theorem xG.re{c z:Code}{fs I:List Frame}(U:zg W fn A₀ outer env L)(hO:fA A₀ outer env z I)(hS:xG W fn A₀ outer env L c fs S):xG W fn A₀ outer env L z I (S.re (A₀.over z I)):=by
 refine sQ hS λh eA eE V Y eL eC=>⟨⟨h.scope,h.kind,h.locals,h.frame,h.c6,h.nH,h.glob,h.bi,?_,h.dN,h.cW,h.e8,h.hg,h.hb,?_,h.sR,h.x0,h.lb,h.SA,h.nodup,λZ=>hO.hand,h.Ad,h.EF⟩,rfl,eE,V,Y,eL,eC⟩
 ·show(A₀.over z I).frames=some (S.fe::S.outer);refine ag V (ag Y ?_);exact hO.frames
 ·have h1:=U.room.1;have h2:=U.room.2;have h3:=hO.depth;have h4:=hO.units;show(A₀.over z I).depth+3*fn.rank<=600/\(A₀.over z I).units+100*fn.rank+100<=9000;constructor<;>lia
noncomputable def eU(f:St->Rs Bool)(g:St->dj):Nat->St->dj
 |0,_=>none
 |n+1,J=>match f J with
  |some (.ok false)=>some ([],.next J)
  |some (.ok true)=>(match g J with
   |some (ys,.next ak)=>(eU f g n ak).map λp=>(ys++p.1,p.2)
   |some (ys,.cont ak)=>(eU f g n ak).map λp=>(ys++p.1,p.2)
   |some (ys,.brk ak)=>some (ys,.next ak)
   |some (ys,.ret a)=>some (ys,.ret a)
   |some (_,.ex _ _)=>none
   |none=>none)
  |some (.error _)=>none
  |none=>none
theorem jo:eU f g (n+1) J=match f J with
  |some (.ok false)=>some ([],.next J)
  |some (.ok true)=>(match g J with
   |some (ys,.next ak)=>(eU f g n ak).map λp=>(ys++p.1,p.2)
   |some (ys,.cont ak)=>(eU f g n ak).map λp=>(ys++p.1,p.2)
   |some (ys,.brk ak)=>some (ys,.next ak)
   |some (ys,.ret a)=>some (ys,.ret a)
   |some (_,.ex _ _)=>none
   |none=>none)
  |some (.error _)=>none
  |none=>none:=rfl
set_option tactic.hygienic true in
theorem t9{t:u_}{f:St->Rs Bool}{g:St->dj}(ht:gL W false fn t f)(hg:rZ W fn body g)(hF:zg W fn A₀ outer env L){fs:List Frame}(hO:fA A₀ outer env (.whileLoop t body [] env) fs):∀(n:Nat)(S:cj)(F M:fF->Prop)(cur:Str->Option cz)(J:St)(ys:List AV)(ou:Ou)(s:ea)(rest:List AV),xG W fn A₀ outer env L (.whileLoop t body [] env) fs S->Rel W S fn F M cur J s->eU f g n J=some (ys,ou)->(∀V F' M' aC ak s' fl,xG W fn A₀ outer env L (.whileLoop t body [] env) fs V->Rel W V fn F' M' aC ak s'->eT ou ak s'.heap F' fl->Sg (model W.prog W.w) A₀ (TG W A₀ outer env L rest V) (.whileLoop t body [] env) (.pure (.done fl)) fs s')->Sg (model W.prog W.w) A₀ (TG W A₀ outer env L (ys++rest) S) (.whileLoop t body [] env) ((model W.prog W.w).den (.whileLoop t body [] env)) fs s:=by
 intro n
 induction n with
 |zero=>
  intro S F M cur J ys ou s rest hS R I hK;exfalso;cases I
 |succ n IH=>
  intro S F M cur J ys ou s rest hS R I hK;refine sQ (id hS) λiu eA eE eF eO eL eC=>rX ?_;rw[jo]at I;split at I
  ·rename_i hb;have hr:=ht.run S F M cur J _ s iu R hb;rw[eA,eE]at hr;refine Mc hr λs' T=>?_;rw[if_neg BA];revert I;refine bc λe=>?_;cases e;exact lh (hK S F M cur J s' .next hS (R.move iu T (.refl _ _ _)) rfl)
  ·rename_i hb;have hr:=ht.run S F M cur J _ s iu R hb;rw[eA,eE]at hr;refine Mc hr λs' T=>?_;rw[if_pos rfl];have aI:=R.move iu T (.refl _ _ F);have again:∀ak (o:Ou) Y,g J=some (Y,o)->(o= .next ak\/o= .cont ak)->((eU f g n ak).map λp=>(Y++p.1,p.2))=some (ys,ou)->
     Sg (model W.prog W.w) A₀ (TG W A₀ outer env L (ys++rest) S) (.whileLoop t body [] env) ((execs body env).wrap (λf=>match f with
      | .next| .cont=>.pure (.again (.whileLoop t body [] env))
      | .brk=>.pure (.done .next)
      | .ret v=>.pure (.done (.ret v))) (λe=>(do noteFrame e env;theTreesLotGoes e:Sem Unit).wrap (λZ=>.raise e) .raise id id) id id) fs s':=λak o Y ia U hm=>by
    refine ax (r0.mp hm) λy3 h2 he=>?_;clear I hm;rcases y3 with⟨ws,oO⟩
    cases he;rw[SF];refine hg.run A₀ outer env L _ fs _ _ id id S F M cur J Y o s' (ws++rest) hF hO rfl hS aI ia λV F' M' aC gU cR fl m4 R' z=>?_;have step:gU=ak->Sg (model W.prog W.w) A₀ (TG W A₀ outer env L (ws++rest) V) (.whileLoop t body [] env) (.pure (.again (.whileLoop t body [] env))) fs cR:=λe=>by
     clear U;subst e;exact CS rfl (IH V F' M' aC gU ws oO cR rest m4 R' h2 hK)
    clear ia R';cases fl with
    |next=>exact step (by(refine g' U ?_ ?_;rotate_left;clear U;rintro rfl;rotate_right;clear U;clear step;rintro rfl)<;>simp only[eT]at z<;>(first|(exfalso;cases z;done)|(cases z));rfl)
    |cont=>exact step (by(refine g' U ?_ ?_;rotate_left;clear U;clear step;rintro rfl;rotate_right;clear U;rintro rfl)<;>simp only[eT]at z<;>(first|(exfalso;cases z;done)|(cases z));rfl)
    |brk=>exact absurd z (by(refine g' U ?_ ?_;rotate_left;clear U;clear z;rintro rfl;rotate_right;clear U;clear z;rintro rfl)<;>simp[eT])
    |ret v=>exact absurd z (by(refine g' U ?_ ?_;rotate_left;clear U;rintro rfl;rotate_right;clear U;rintro rfl)<;>simp[eT])
   split at I
   ·rename_i Y ak ia;exact again ak _ Y ia (.inl rfl) I
   ·rename_i Y ak ia;exact again ak _ Y ia (.inr rfl) I
   ·rename_i Y ak ia;revert I;refine bc λe=>?_;clear again;cases e;refine hg.run A₀ outer env L _ fs _ _ id id S F M cur J _ _ s' rest hF hO rfl hS aI ia λV F' M' aC gU cR fl m4 R' z=>?_;cases fl with
    |brk=>exact hK V F' M' aC gU cR .next m4 R' (by simp only[eT]at z⊢;clear R';cases z;rfl)
    |next=>simp only[eT]at z;exfalso;cases z
    |cont=>simp only[eT]at z;exfalso;cases z
    |ret v=>refine ax z λZ h Z=>?_;clear z;exfalso;cases h
   ·rename_i Y a ia;revert I;refine bc λe=>?_;clear again;cases e;refine hg.run A₀ outer env L _ fs _ _ id id S F M cur J _ _ s' rest hF hO rfl hS aI ia λV F' M' aC gU cR fl m4 R' z=>?_;cases fl with
    |ret v=>exact hK V F' M' aC gU cR (.ret v) m4 R' z
    |next=>simp only[eT]at z;exfalso;cases z
    |cont=>simp only[eT]at z;exfalso;cases z
    |brk=>simp only[eT]at z;exfalso;cases z
   ·exact aZ I
   ·exact aZ I
  ·exact aZ I
  ·exact aZ I
theorem FZ{t:u_}{body:List aaa}{f:St->Rs Bool}{g:St->dj}(n:Nat)(V:gL W false fn t f)(hg:rZ W fn body g):qT W fn (.While t body [] pos) (eU f g n):=⟨λA₀ outer env L c fs K H gd lv S F M cur J ys ou s rest z hO Y Z R hf hK=>by
 refine CU λp=>ag Y ?_;have I:=fA.KR (test:=t) (body:=body) (orelse:=[]) (e:=env) (k:=λr=>((match r with| .ok f=>(.pure f:Sem Flow)| .error e=>.raise e).onRaise λ(x:cz)=>do
    if(<-field x 1)==Tg then unsupported "frame.own-activation:exception-without-traceback"
    setFlight x env.frame).wrap K H gd lv) (l:=lv []) (p:=p) (kp:=[]) hO
 have m4:=xG.re z I Z;rw[<-Iu (ys++rest) S (A₀.over (.whileLoop t body [] env) (.ret (λr=>((match r with| .ok f=>(.pure f:Sem Flow)| .error e=>.raise e).onRaise λ(x:cz)=>do
    if(<-field x 1)==Tg then unsupported "frame.own-activation:exception-without-traceback"
    setFlight x env.frame).wrap K H gd lv) none false (lv []) c p []::fs))]
 refine t9 V hg z I n _ F M cur J ys ou s rest m4 (R.re _) hf λU F' M' aC ak s' fl OS aM fw=>fP (Iu rest U (A₀.over c fs)) ?_;have hk:=hK (U.re (A₀.over c fs)) F' M' aC ak s' fl (xG.re z hO OS) (aM.re _) fw;exact FW (.ok fl) hk⟩
end
def KS(M:SW)(A:XQ)(T:End->ea->Prop)(gs:aas)(s:ea):Prop:=match gs with
 | .fresh c=>Sg M A T c (M.den c) [] s
 | .suspended k _ c _ fs _=>Sg M A T c (k (.send .none)) fs s
 |_=>False
theorem m5{M:SW}{T:End->ea->Prop}{g:Nat}{gs:aas}{l:List cz}{k:GenResult->Sem α}{Q:α->ea->Prop}(hg:s.gens[g]? =some gs)(U:KS M A T gs (s.setGen g .running))(hT:∀e af,T e af->e.quiet=true/\wpAny M A (k e.result) Q E (af.setGen g e.genState)):wpAny M A (.resume g (.send .none) l k) Q E s:=by
 intro z p V;rw[Sem.wp_resume];have hB:∀c,(z.wake c p).Woken A:=λc=>V.wake c p;cases gs with
 |fresh c=>
  exact e7 (U (z.wake c p) p rfl (hB c)) λI af Y Z=>aX (hT I af Z) λhq hw=>⟨_,_,by unfold Wakes;rw[hg];exact⟨I,af,Y,hq,rfl,rfl⟩,hw z p V⟩
 |suspended BG l₀ c₀ OT OU cl=>
  exact e7 (U (z.wake c₀ p) OT rfl (hB c₀)) λI af Y Z=>aX (hT I af Z) λhq hw=>⟨_,_,by unfold Wakes;rw[hg];exact⟨I,af,Y,hq,rfl,rfl⟩,hw z p V⟩
 |running=>exact U.elim
 |finished=>exact U.elim
def Got(g:Nat)(Q:Option cz->ea->Prop)(e:End)(af:ea):Prop:=e.quiet=true/\match e with
 | .ret x=>x= .ok (.ret .none)/\∀h',(∀b o,af.heap.get? b=some o->h'.get? b=some o)->af.heap.objs.size<=h'.objs.size->Q none {af.setGen g .finished with heap:=h'}
 | .susp v zh l k c p fs=>Q (some v) (af.setGen g (acm v zh l k c p fs).genState)
theorem m6{w:aab}{a:fF}{g:Nat}{gs:aas}{T:End->ea->Prop}{Q:Option cz->ea->Prop}(Z:A.handled=none)(hl:s.heap.NoLimit)(oG:A.depth<recursionLimit)(hg:s.heap.IsGen a g)(U:s.gens[g]? =some gs)(z:KS (model prog w) A.in1 T gs (s.setGen g .running))(hT:∀e af,T e af->Got g Q e af):wpAny (model prog w) A (pyNext (.ref a)) Q E s:=by
 refine az (abe (aaf (name:=oK "__next__") hg.typeIs slot_gen_next
  (Nh slot_gen_next hg.typeIs entry_gen_next ?_ (args_gen_next _))))
 show wpAny _ _ (Builtin.Generator.genWake (.ref a) (.send .none)) _ _ s;refine az (n4 (wpAny_genNumber hg (az (wpAny_genState U ?_))));cases gs with
 |running=>exact z.elim
 |finished=>exact z.elim
 |_=>
  refine az (wpAny_roomToWake hl oG ?_);show wpAny _ _ (.resume g (.send .none) [] _) _ _ s;refine m5 U z λe af V=>aX (hT e af V) λY I=>⟨Y,?_⟩;clear V Y;cases e with
  |ret x=>
   refine aX I ?_;clear I;rintro rfl hp;show wpAny _ _ (newExc (.type "StopIteration") []>>=_) _ _ _;refine az ?_;unfold newExc newTuple;refine az (Xt ?_ (by size_fits));refine az (m:=firstArgMember _ _) (Uu (a:=Tg) (by first|rfl|(simp only[firstArgMember];rfl)) ?_);refine Xt ?_ (by size_fits);refine az (az (wpAny_handled ?_));refine ag (show A.in1.handled=none from Z) (ac8 (az (ZT (T:="StopIteration") (b:=true) ⟨_,w' _ rfl,rfl⟩ isSubtype_stop ?_)));exact en (hp _ (λb o hb=>ml _ (ml _ hb)) (by rw[rW,rW];exact Qt (Tw _)))
  |susp v zh l₀ BG c₀ OT OU=>exact en ⟨v,rfl,en I⟩
abbrev Wd.up(W:Wd)(b:ZN):Wd:={W with base:=b}
structure Ext(W W':Wd)(it:fF)(o:Obj):Prop where
 eq:∃b',W'=W.up b'
 old:∀b o',W.base.get? b=some o'->W'.base.get? b=some o'
 at_:W'.base.get? it=some o
 only:∀b o',W'.base.get? b=some o'->W.base.get? b=some o'\/b=it
theorem Ext.loose{W':Wd}(h:Ext W W' it o)(a:fF):W'.loose a↔W.loose a:=by refine au h.eq ?_;clear h;rintro b' rfl;exact Iff.rfl
theorem Ext.lt{W':Wd}(h:Ext W W' it o)(z:ZN):LT W' z↔LT W z:=by refine au h.eq ?_;clear h;rintro b' rfl;exact Iff.rfl
theorem Ext.none{W':Wd}(h:Ext W W' it o){b:fF}(hb:W'.base.get? b=none):W.base.get? b=none:=by
 cases z:W.base.get? b with
 |none=>rfl
 |some o'=>rw[h.old b o' z]at hb;exact z9 hb
theorem KU{h:ZN}(hs:W.base.StaysIn h)(Y:h.get? it=some o):∃W',Ext W W' it o:=by
 let l:List fF:=(ZK h.objs.size).filter λb=>(W.base.get? b).isNone&&b !=it
 have z:∀b,b∈l↔b<h.objs.size/\W.base.get? b=none/\b≠it:=λb=>by
  simp only[l,ac2,ZO,v3,Option.isNone_iff_eq_none,bne_iff_ne]
 refine⟨W.up (hideAll h l),⟨_,rfl⟩,λb I e=>hideAll_get l (hs b I e) λU=>?_,hideAll_get l Y λU=>((z it).mp U).2.2 rfl,λb I e=>?_⟩
 ·have:=((z b).mp U).2.1;exact aZ (this▸e)
 ·have e':=of_hideAll l e;by_cases hb:b=it
  ·exact .inr hb
  ·left
   cases V:W.base.get? b with
   |some oO=>rw[hs b oO V]at e';exact e'
   |none=>
    have:=hideAll_none l (h:=h) ((z b).mpr ⟨ye e',V,hb⟩);rw[show(hideAll h l).get? b=some I from e]at this;exact z9 this
theorem FunFrames.base{base z:ZN}(k:∀b,base.get? b=none->z.get? b=none):∀{l:List Env},h.FunFrames base l->h.FunFrames z l
 |[],_=>trivial
 |env::rest,⟨hk,⟨L,o,hf,hn,ho,hd⟩,hr⟩=>⟨hk,⟨L,o,hf,k L hn,ho,hd⟩,FunFrames.base k hr⟩
theorem FunFrames.CY{base I:ZN}{vs:Array cz}(U:h.get? it=some o)(hd:o.data= .fields vs)(k:∀b,b≠it->base.get? b=none->I.get? b=none):∀{l:List Env},h.FunFrames base l->h.FunFrames I l
 |[],_=>trivial
 |env::rest,⟨hk,⟨L,o',hf,hn,z,dg⟩,hr⟩=>⟨hk,⟨L,o',hf,k L (λe=>by rw[e,U]at z;revert z;refine bc λe=>?_;subst e;exact dg vs hd) hn,z,dg⟩,FunFrames.CY U hd k hr⟩
section
variable {W':Wd}
noncomputable def cj.at(S:cj)(s:ea)(F M Z:fF->Prop):cj:={S with s₀:={s with gens:=S.s₀.gens},fu:=F,X:=λa=>M a\/Z a}
theorem KV{F Z:fF->Prop}{vs:Array cz}(E:Ext W W' it o)(z:S.Ok W fn false)(R:Rel W S fn F M cur J s)(hi:s.heap.get? it=some o)(hd:o.data= .fields vs)(uM:¬M it)(f9:fn.names.head? =some ("self":Str))(KW:∀i C ks xs,J.getD i .un≠.ob C ks xs)(hC:fn.inner=false)(U:∀a,Z a->S.s₀.heap.objs.size<=a/\a<aJ s/\a≠it)(Yo:¬Z S.L):(S.at s F M Z).Ok W' fn false/\Rel W' (S.at s F M Z) fn F M cur J s:=by
 refine au E.eq ?_;rintro b' rfl;have hb:∀b,b≠it->W.base.get? b=none->b'.get? b=none:=λb rt hn=>by
  cases hq:b'.get? b with
  |none=>rfl
  |some V=>exact(E.only b V hq).elim (λh=>by rw[hn]at h;exact aZ h) λh=>absurd h rt
 have stays:b'.StaysIn s.heap:=λb V e=>by
  refine g' (E.only b V e) ?_ ?_;rotate_left;clear uM U hb;rintro rfl;rotate_right;intro h
  ·exact R.stays b V h
  ·rw[E.at_]at e;revert e;refine bc λe=>?_;subst e;exact hi
 refine fQ (R.frames z) λZ Z T_=>?_;refine⟨⟨z.scope,z.kind,z.locals,z.frame,z.c6,z.nH,z.glob,z.bi,z.frames,FunFrames.CY hi hd hb T_,λY hL h=>?_,stays,z.hg.keeps E.old,?_,z.room,λa h=>⟨(R.bound z h).1,λI=>(R.bound z h).2 ((E.loose a).mp I)⟩,
  λa h=>h.elim (λh=>⟨(R.mu a h).2.1,λI=>R.bS z h ((E.loose a).mp I),hb a (λe=>uM (e▸h)) (R.ql z h)⟩) λh=>⟨(U a h).2.1,λI=>f3 _ (bk (z.lb a ((E.loose a).mp I)) (U a h).1),hb a (U a h).2.2 (z.bh (U a h).1)⟩,λa h=>bk (z.lb a ((E.loose a).mp h)) R.step.size,(E.lt s.heap).mpr (R.tab z),z.nodup,z.hand,.inl f9,z.EF⟩,?_⟩
 ·refine g' h (λh=>?_) λh=>?_
  ·exact z.cW Y hL (.inl ((E.loose _).mp h))
  ·refine L9 (z.dN.mem hL) λZ V et Z=>?_;rcases h with(h|h)
   case inr=>exact f3 _ (bk (ye et) (U Y h).1)
   refine g' ((R.mu Y h).1) (λh1=>?_) λh1=>?_
   ·exact f3 _ (bk (ye et) h1)
   ·exact z.cW Y hL (.inr h1)
 ·exact z.hb.keeps E.old
 ·refine ft R.top λV es ep ht V_=>?_;have Ua:S.L≠it:=λe=>by rw[e,hi]at ht;revert ht;refine bc λe=>?_;subst e;rw[hd]at V_;cases V_
  refine⟨⟨stays,.refl _ _,_root_.id,t_ _,rfl,R.step.gens⟩,⟨λZ h=>h,λZ h=>.inl h⟩,λa h=>⟨.inr (.inl h),(R.mu a h).2⟩,⟨?_,R.frame.2⟩,R.top,R.ns,λy hy=>?_,R.len,λi x hx=>?_,R.dist,R.small⟩
  ·exact(Classical.em (M S.L)).imp id λhn=>⟨ye ht,(R.ku z).2,λh=>h.elim hn Yo,hb _ Ua (R.ku z).1⟩
  ·exact bF (R.cells y hy) λc oc h1 h2 h3 h4=>⟨c,oc,h1,.inl (h2.elim id λh=>by rw[hC]at h;cases h.1),h3,h4⟩
  ·have r:=R.slots i x hx;cases I:J.getD i .un with
   |ob C ks xs=>exact absurd I (KW i C ks xs)
   |un=>trivial
   |im a=>rw[I]at r;exact r
   |own xs=>rw[I]at r;exact r
   |fn d=>rw[I]at r;exact r
theorem KX{F Z:fF->Prop}{aC:Str->Option cz}(E:Ext W W' it o)(hS:S.Ok W fn false)(R:Rel W S fn F M cur J s)(z:Rel W' (S.at s F M Z) fn F' M' aC ak s')(KW:∀i C ks xs,ak.getD i .un≠.ob C ks xs)(hC:fn.inner=false)(Y:∀a,Z a->S.s₀.heap.objs.size<=a/\a<aJ s):Rel W S fn F' M' aC ak s':=by
 refine au E.eq ?_;rintro b' rfl;have fY:fD (W.up b') (λa=>M a\/Z a) {s with gens:=S.s₀.gens} s':=z.step;have old:∀a,(M a\/Z a)->(S.s₀.heap.objs.size<=a\/S.X a)/\a<aJ s:=λa h=>h.elim (λh=>⟨(R.mu a h).1,(R.mu a h).2.1⟩) λh=>⟨.inl (Y a h).1,(Y a h).2⟩;refine⟨⟨λb I e=>fY.stays b I (E.old b I e),λp I V e=>?_,λh=>fY.tab (R.step.tab h),bU R.step.size fY.size,fY.os.trans R.step.os,fY.gens⟩,⟨λa h=>z.grow.1 a (R.grow.1 a h),λa h=>?_⟩,λa h=>?_,⟨?_,z.frame.2⟩,z.top,z.ns,λy hy=>?_,z.len,λi x hx=>?_,z.dist,z.small⟩
 ·exact au (R.step.slots p I V e) λsl h1=>au (fY.slots p _ (λh=>h.elim (λh=>V (.inl h)) λh=>(old p h).1.elim (λh=>f3 _ (bk (ye e) h)) λh=>V (.inr h)) h1) λdH h2=>⟨dH,h2⟩
 ·rcases z.grow.2 a h with h|h|h
  ·rcases R.grow.2 a h with h|h|h
   ·exact .inl h
   ·exact .inr (.inl h)
   ·exact .inr (.inr ⟨h.1,bk h.2 fY.size⟩)
  ·exact aX (old a h) λh1 h2=>h1.elim (λh1=>.inr (.inr ⟨h1,bk h2 fY.size⟩)) λh1=>.inr (.inl h1)
  ·exact .inr (.inr ⟨bU R.step.size h.1,h.2⟩)
 ·exact aX (z.mu a h) λh1 h2=>⟨h1.elim (λh1=>.inl (bU R.step.size h1)) λh1=>(old a h1).1,h2⟩
 ·exact z.frame.1.imp id λh=>R.frame.1.elim (λh1=>absurd (.inl h1) h.2.2.1) id
 ·exact bF (z.cells y hy) λc oc h1 h2 h3 h4=>⟨c,oc,h1,.inl (h2.elim id λh=>by rw[hC]at h;cases h.1),h3,h4⟩
 ·have r:=z.slots i x hx;cases U:ak.getD i .un with
  |ob C ks xs=>exact absurd U (KW i C ks xs)
  |un=>trivial
  |im a=>rw[U]at r;exact r
  |own xs=>rw[U]at r;exact r
  |fn d=>rw[U]at r;exact r
theorem qm.back{l:List Env}{L:Nat}{e:fF}{cls:cz}(E:Ext W W' it o)(x:qm W' l L n e cls h):qm W l L n e cls h:=by
 exact x.el λz I oe vs h3 h4 h5 h6 h7=>⟨FunFrames.base (λb hb=>E.none hb) z,I,oe,vs,h3,h4,h5,h6,h7⟩
end
def Up(W W':Wd):Prop:=∃it o,Ext W W' it o/\¬W.loose it
def kd(g:Nat)(nm z:cz):Obj:={cls:=.type "generator",data:=.fields #[.int g 0,nm,z]}
inductive ua(W:Wd)(rk:Nat)(F:fF->Prop)(s:ea)(ys:List AV)(res:aaR)(s':ea):Prop
 |mk (it:fF) (g:Nat) (nm qn:cz) (env:Env) (L:fF) (body:List aaa) (Mg:fF->Prop) (h1:res= .ok (.ret (.ref it))) (h2:aJ s<=it) (h3:it<aJ s') (h4:Step W s s') (h5:s.gens.size<=g) (h6:s'.gens[g]? =some (.fresh (.func body env))) (h7:s'.heap.get? it=some (kd g nm qn)) (h8:∀a,Mg a->aJ s<=a/\a<aJ s'/\a≠it)
  (h9:∀W',Ext W W' it (kd g nm qn)->¬W.loose it->∀A₀ d_,A₀.handled=none->A₀.frames=some d_->(A₀.depth+3*rk+6<=600/\A₀.units+100*rk+110<=9000)->∀aK,Later W' d_ F Mg s' aK->
   Sg (model W.prog W.w) A₀ (TG W' A₀ d_ env L ys ⟨aK,F,Mg,A₀.over (.func body env) [],env,env,d_,L,L⟩) (.func body env) ((model W.prog W.w).den (.func body env)) [] aK):ua W rk F s ys res s'
theorem ua.el{F:fF->Prop}{res:aaR}(I:ua W rk F s ys res s')(U:∀(it:fF)(g:Nat)(nm z:cz)(env:Env)(L:fF)(body:List aaa)(Mg:fF->Prop)(h1:res= .ok (.ret (.ref it)))(h2:aJ s<=it)(h3:it<aJ s')(h4:Step W s s')(h5:s.gens.size<=g)(h6:s'.gens[g]? =some (.fresh (.func body env)))(h7:s'.heap.get? it=some (kd g nm z))(h8:∀a,Mg a->aJ s<=a/\a<aJ s'/\a≠it)(h9:∀W',Ext W W' it (kd g nm z)->¬W.loose it->∀A₀ d_,A₀.handled=none->A₀.frames=some d_->(A₀.depth+3*rk+6<=600/\A₀.units+100*rk+110<=9000)->∀aK,Later W' d_ F Mg s' aK->Sg (model W.prog W.w) A₀ (TG W' A₀ d_ env L ys ⟨aK,F,Mg,A₀.over (.func body env) [],env,env,d_,L,L⟩) (.func body env) ((model W.prog W.w).den (.func body env)) [] aK),G):G:=ua.rec (motive:=λZ=>G) U I
def Gn(W:Wd)(a:fF)(rk:Nat)(spec:List AV->Option (List AV)):Prop:=
 ∀A outer F s xs vs ys,Ready W A outer F xh s rk->bL s.heap F xs vs->spec xs=some ys->codeAny (model W.prog W.w) A (.call (.ref a) ⟨vs,[]⟩) (ua W rk F s ys) s
theorem KY{a:fF}{body:List aaa}{gb:St->dj}{ps:List Str}(ho:W.base.get? a=some o)(dR:o.data= .func fd)(jb:W.base.CodeRec fd.code fd.qualname)(dS:fd.body= .stmts body)(j4:fd.closure=[])(mw:fd.globals=3)(rt:fd.builtins=0)(dT:∀vs:List cz,vs.length=ps.length->bindArgs fd ⟨vs,[]⟩=pure (ps.zip vs))(b9:∃rest,names=("self":Str)::(ps++rest))(dp:names.Nodup)(lU:∀x∈ps,fd.scope.names.lookup x=some .local\/fd.scope.names.lookup x=some .cell)(hB:∀W',Up W W'->rZ W' ⟨fd.scope,names,rk,false,fd.code,fd.qualname⟩ body gb)(mS:fd.scope.isCoroutine=false)(f_:fd.scope.isGenerator=true)(hk:fd.scope.kind= .function):Gn W a rk (λxs=>if xs.length=ps.length then(match gb (.un::aO (names.length-1) xs)with|some (ys,.next _)=>some ys|_=>none)else none):=λA outer F s xs vs ys V hv hr=>by
 simp only at hr;split at hr
 case isFalse=>exact aZ hr
 rename_i mT;rcases Iv:gb (.un::aO (names.length-1) xs)with _|⟨OV,o⟩<;>rw[Iv]at hr
 ·exact aZ hr
 obtain⟨Ub,rfl⟩:∃Ub,o= .next Ub:=by cases o<;>first|exact⟨_,rfl⟩|exact aZ hr
 revert hr;refine bc λe=>?_;subst e;have EY:vs.length=ps.length:=hv.length.trans mT;refine au b9 λrest hrest=>?_;have td:ps.Nodup:=by rw[hrest]at dp;exact(ZZ.mp (abW.mp dp).2).1
 have Mq:names.length=ps.length+rest.length+1:=by rw[hrest];simp
 refine iQ V.lt.2 λmc nr AD Z=>?_;have vc:s.heap.NoLimit:=⟨mc,nr,AD⟩;have gH:∀x,fd.scope.names.lookup x=some .cell->((cellsFrom (s.heap.objs.size+1) fd.scope.names []).lookup x).isSome=true:=λx Y=>cellsFrom_some _ _ _ _ (.inl (aaA Y));refine codeAny_call_generator (So V.room.1) (V.stays _ _ ho) dR mS f_ dS (jb.keeps V.stays) ?_;rw[dT vs EY,j4];refine en (aaW hk (λx Y=>(lU x.1 (Z3 Y).1).imp id λh=>⟨h,gH _ h⟩) λenv he af hI=>⟨vc.keeps hI.toInCall.keep,?_⟩);refine jY hI.toInCall.same λI te cO=>?_;have eL:env.locals=aJ s:=by rw[he];rfl
 have f':∀b o,s.heap.get? b=some o->I.get? b=some o:=λb o e=>by have:=hI.toInCall.keep b o e;rw[cO]at this;exact this
 have dG:I.Ns (aJ s) (bindL env.kindOf (ps.zip vs) λZ=>none):=by have:=hI.toInCall.ns;rw[eL,cO]at this;exact this
 have sL:aJ s<I.objs.size:=dG.lt;have ff:∀n c,env.cells.lookup n=some c->I.IsCell c (bindC env.kindOf (ps.zip vs) (λZ=>none) n):=λn c e=>by have:=hI.cell n c e;rw[cO]at this;exact this
 have jc:∀n c,env.cells.lookup n=some c->aJ s<c:=λn c e=>by have:=hI.above n c (aaA e);rw[eL]at this;exact this
 have es:env.scope=fd.scope:=by rw[he];rfl
 have ec:env.cells=cellsFrom (s.heap.objs.size+1) fd.scope.names []:=by rw[he];rfl
 rw[cO];have Uc:∀(ob:Obj) b o,s.heap.get? b=some o->(I.push ob).get? b=some o:=λob b o e=>ml _ (f' b o e);refine⟨I.objs.size,s.gens.size,_,_,env,aJ s,body,λb=>b=aJ s\/∃n,env.cells.lookup n=some b,rfl,Kt sL,by show _<(I.push _).objs.size;rw[rW];exact rv _,?_,t_ _,Array.getElem?_push_size ..,w' _ rfl,λb hb=>?_,?_⟩
 ·refine⟨λb o e=>Uc _ b o (V.stays b o e),.of_keeps (Uc _),λl=>l.qj λb o Z e=>Uc _ b o e,?_,rfl,?_⟩
  ·show _<=(I.push _).objs.size;rw[rW];exact Qt (Kt sL)
  ·refine⟨λh=>AllBare.push h rfl,by show s.gens.size<=(s.gens.push _).size;rw[Array.size_push];exact Tw _,λi hi=>?_⟩;rw[Array.getElem?_push,if_neg (HA hi)]
 ·show _/\b<(I.push _).objs.size/\_;rw[rW];refine QQ hb ?_ λn hn=>?_;clear hb;rintro rfl
  ·exact⟨t_ _,Z0 sL,HA sL⟩
  ·have:=(ff n b hn).lt;exact⟨Kt (jc n b hn),Z0 this,HA this⟩
 intro W' E hit A₀ d_ OW OX oG aK T;refine au E.eq ?_;rintro b' rfl
 let KZ:cj:=⟨aK,F,λb=>b=aJ s\/∃n,env.cells.lookup n=some b,A₀.over (.func body env) [],env,env,d_,aJ s,aJ s⟩
 have z:zg (W.up b') ⟨fd.scope,names,rk,false,fd.code,fd.qualname⟩ A₀ d_ env (aJ s):=
  ⟨⟨V.xg.hg.keeps E.old,V.xg.hb.keeps E.old⟩,es,hk,eL,by rw[he];rfl,by rw[he];exact mw,by rw[he];exact rt,oG,dp,by rw[hrest];rfl,rfl,by rw[he];exact⟨rfl,rfl⟩⟩
 have hO:=fA.func (env:=env) (body:=body) OW OX;have Ms:∀b,(b=aJ s\/∃n,env.cells.lookup n=some b)->aJ s<=b/\b<I.objs.size:=λb hb=>by
  refine QQ hb ?_ λn hn=>?_;clear hb;rintro rfl
  ·exact⟨t_ _,sL⟩
  ·exact⟨Kt (jc n b hn),(ff n b hn).lt⟩
 have nK:I.objs.size+1<=aK.heap.objs.size:=by
  have:=T.size;have h2:(I.push (kd s.gens.size (.str fd.name te) (.str fd.qualname (te+1)))).objs.size<=aK.heap.objs.size:=this;rw[rW]at h2;exact h2
 have NJ:aJ s<=aK.heap.objs.size:=bU (Qt (Kt sL)) nK;have U:∀{b o},(F b\/(b=aJ s\/∃n,env.cells.lookup n=some b))->I.get? b=some o->∃sl,aK.heap.get? b=some {o with slots:=sl}:=λ{b o} hb e=>T.kept b o (hb.imp id .inl) (ml _ e);have CW:xG (W.up b') ⟨fd.scope,names,rk,false,fd.code,fd.qualname⟩ A₀ d_ env (aJ s) (.func body env) [] KZ:=by
  refine⟨⟨z.scope,z.kind,z.locals,z.frame,z.frame,(by rw[z.scope,z.kind];intro x;exfalso;cases x),z.glob,z.bi,hO.frames,T.dN,λL' hL h=>T.cW L' hL h,T.stays,z.xg.hg,z.xg.hb,?_,λa h=>⟨bk (V.sR a h).1 NJ,(V.sR a h).2⟩,
   λa h=>⟨ZP (Ms a h).2 nK,λhl=>f3 _ (bk (V.lb a hl) (Ms a h).1),?_⟩,T.lb,T.lt,z.nodup,λZ=>hO.hand,.inl z.self,z.EF⟩,rfl,rfl,rfl,rfl,rfl,rfl⟩
  ·have h1:=oG.1;have h2:=oG.2;have h3:=hO.depth;have h4:=hO.units;exact⟨Vs h1 h3,Vt h2 h4⟩
  ·cases hq:b'.get? a with
   |none=>rfl
   |some o'=>
    refine g' (E.only a o' hq) (λh'=>?_) λh'=>?_
    ·exact absurd (ye (V.stays a o' h')) (aca.mpr (Ms a h).1)
    ·exact absurd (Ms a h).2 (by rw[h'];exact f3 _)
 have OY:∀i,(adE (.un::aO (names.length-1) xs) i LV.un).bR=false:=λi=>by
  cases i with
  |zero=>rfl
  |succ i=>
   rw[Uq,bI];cases xs[i]? <;>rfl
 have vd:Rel (W.up b') KZ ⟨fd.scope,names,rk,false,fd.code,fd.qualname⟩ F (λb=>b=aJ s\/∃n,env.cells.lookup n=some b) (λx=>(ps.zip vs).reverse.lookup x) (.un::aO (names.length-1) xs) aK:=by
  refine⟨(Step.refl T.stays).x,⟨λZ h=>h,λZ h=>.inl h⟩,λa h=>⟨.inr h,ZP (Ms a h).2 nK,λhf=>f3 _ (bk (V.sR a hf).1 (Ms a h).1)⟩,⟨.inl (.inl rfl),.inl rfl⟩,?_,?_,λx Y=>?_,?_,λi x hi=>?_,λi j x y Z Z Z h1 Z=>(by rw[OY]at h1;exact ng h1),λa h=>?_⟩
  ·exact dh dG λo es ep h1 h2 Z=>au (U (.inr (.inl rfl)) h1) λsl h3=>⟨_,es,ep,h3,h2⟩
  ·exact⟨_,iC (λo e=>U (.inr (.inl rfl)) e) dG,λy hy=>by rw[j2 _ _ hy];simp⟩
  ·have w0:fd.scope.names.lookup x=some .cell:=by rw[<-es];exact Y
   refine au (WE.mp (gH x w0)) λc hc=>?_;rw[<-ec]at hc;refine ax (ff x c hc) λoc h1 h2=>au (U (.inr (.inr ⟨x,hc⟩)) h1) λsl h3=>⟨c,_,hc,.inl (.inr ⟨x,hc⟩),h3,?_⟩;rw[h2,j3 _ _ Y];simp
  ·simp only[aO,CV,nx,ro,Q_];exact Vu mT Mq
  ·cases i with
   |zero=>trivial
   |succ i=>
    rw[Uq,bI];cases Y:xs[i]? with
    |none=>trivial
    |some b=>
     refine ax (hv.get Y) λv yB gv=>?_;have th:i<ps.length:=by rw[<-mT];exact(gw.mp Y).1
     have yC:ps[i]? =some x:=by
      have OZ:names[i+1]? =some x:=hi;rw[hrest,aae,R0 th]at OZ;exact OZ
     exact⟨v,cY td yC yB,gv.mono (λc hc o e=>U (.inl hc) (f' c o e)) λZ h=>h⟩
  ·refine QQ h ?_ λn hn=>?_;clear h;rintro rfl
   ·exact dh dG λo es ep h1 h2 Z=>au (U (.inr (.inl rfl)) h1) λsl h3=>⟨_,h3,by rintro⟨ws,h4,_⟩;rw[show o.data=_ from h2]at h4;exfalso;cases h4⟩
   ·exact ax (ff n a hn) λoc h1 h2=>au (U (.inr (.inr ⟨n,hn⟩)) h1) λsl h3=>⟨_,h3,by rintro⟨ws,h4,_⟩;rw[show oc.data=_ from h2]at h4;exfalso;cases h4⟩
 refine FX ?_;have:=(hB (W.up b') ⟨_,_,E,hit⟩).run A₀ d_ env (aJ s) (.func body env) [] (λf=>.pure (.done (.ret (match f with| .ret v=>v|_=>.none))))
   (λe=>(leaving env e).wrap (λZ=>.raise e) .raise id id) id id KZ F _ _ _ _ (.next Ub) aK [] z hO rfl CW vd Iv λS' F' M' aC ak s' fl m4 R' fw=>by
  cases fl with
  |next=>exact KQ (.ok (.ret .none)) ⟨rfl,R'.step⟩
  |brk=>exfalso;cases fw
  |cont=>exfalso;cases fw
  |ret v=>refine ax fw λZ h Z=>?_;exfalso;cases h
 rw[X5]at this;exact this
def bQ(J:St):Bool:=J.all fun| .ob .. =>false| .fn _=>false|_=>true
theorem bQ.at(h:bQ J=true)(i:Nat):(∀C ks xs,J.getD i .un≠.ob C ks xs)/\∀d,J.getD i .un≠.fn d:=by
 refine ag (ra) ?_;cases z:J[i]? with
 |none=>exact⟨(λZ Z Z e=>by cases e),(λZ e=>by cases e)⟩
 |some lv=>
  have I:lv∈J:=aaz z;have:=Y'.mp h lv I;clear z I;cases lv with
  |ob C ks xs=>exact absurd this BA
  |fn d=>exact absurd this BA
  |un=>exact⟨(λZ Z Z e=>by cases e),(λZ e=>by cases e)⟩
  |im a=>exact⟨(λZ Z Z e=>by cases e),(λZ e=>by cases e)⟩
  |own xs=>exact⟨(λZ Z Z e=>by cases e),(λZ e=>by cases e)⟩
theorem Rel.gen{F aB Mg:fF->Prop}{t:ea}(Y:S.Ok W fn false)(R:Rel W S fn F M cur J s)(T:fD W Mg t af)(Z:t.heap=s.heap)(Yp:t.os=s.os)(z:∀a,Mg a->(S.X a\/S.s₀.heap.objs.size<=a)/\a<aJ s/\¬F a/\¬M a)(OY:bQ J=true)(hC:fn.inner=false)(hL:¬Mg S.L)(hF:∀a,F a->aB a)(Iw:∀a,aB a->F a\/Mg a\/(aJ s<=a/\a<aJ af))(U:s'.heap=af.heap)(ho:s'.os=af.os)(hg:GenStep S.s₀.gens s'.gens):Rel W S fn aB M cur J s':=by
 have hz:aJ s<=aJ s':=by show s.heap.objs.size<=s'.heap.objs.size;refine ag U (fP Z ?_);exact T.size
 have Fm:aJ af=aJ s':=by show af.heap.objs.size=s'.heap.objs.size;exact ag U rfl
 have kp:∀b o,¬W.loose b->¬Mg b->s.heap.get? b=some o->∃sl,s'.heap.get? b=some {o with slots:=sl}:=λb o I hb e=>by
  refine ag U (T.slots b o (λh=>h.elim I hb) (by refine ag Z ?_;exact e))
 have kq:Ab F s.heap s'.heap:=λa ha o e=>kp a o (R.bound Y ha).2 (λh=>(z a h).2.2.1 ha) e;have V:∀b o,M b->s.heap.get? b=some o->∃sl,s'.heap.get? b=some {o with slots:=sl}:=λb o hb e=>kp b o (R.bS Y hb) (λh=>(z b h).2.2.2 hb) e;refine⟨⟨λb o e=>by refine ag U ?_;exact T.stays b o e,λp o hp e=>?_,λh=>by refine ag U ?_;exact T.tab (by refine ag Z ?_;exact R.step.tab h),bU R.step.size hz,ho.trans (T.os.trans (Yp.trans R.step.os)),hg⟩,⟨λa h=>hF a (R.grow.1 a h),λa h=>?_⟩,λa h=>?_,R.frame,?_,?_,λy hy=>?_,R.len,λi x hx=>?_,R.dist,λa h=>?_⟩
 ·exact au (R.step.slots p o hp e) λsl h1=>au (kp p _ (λh=>hp (.inl h)) (λh=>(z p h).1.elim (λh=>hp (.inr h)) λh=>f3 _ (bk (ye e) h)) h1) λdH h2=>⟨dH,h2⟩
 ·rcases Iw a h with h|h|h
  ·rcases R.grow.2 a h with h|h|h
   ·exact .inl h
   ·exact .inr (.inl h)
   ·exact .inr (.inr ⟨h.1,bk h.2 hz⟩)
  ·exact(z a h).1.elim (λh'=>.inr (.inl h')) λh'=>.inr (.inr ⟨h',bk (z a h).2.1 hz⟩)
  ·exact .inr (.inr ⟨bU R.step.size h.1,bk h.2 (Kj Fm)⟩)
 ·exact fQ (R.mu a h) λh1 h2 h3=>⟨h1,bk h2 hz,λhf=>(Iw a hf).elim h3 λq=>q.elim (λq=>(z a q).2.2.2 h) λq=>f3 _ (bk h2 q.1)⟩
 ·exact ft R.top λo es ep h1 h2=>au (kp _ _ (R.ku Y).2 hL h1) λsl h3=>⟨_,es,ep,h3,h2⟩
 ·exact ax R.ns λm hn hm=>⟨m,iC (λo e=>V _ o R.frame.2 e) hn,hm⟩
 ·refine bF (R.cells y hy) λc o h1 h2 h3 h4=>?_;have nr:M c:=h2.elim id λh=>by rw[hC]at h;cases h.1
  exact au (V c o nr h3) λsl h5=>⟨c,_,h1,.inl nr,h5,h4⟩
 ·have r:=R.slots i x hx;refine aX (bQ.at OY i) λn1 n2=>?_;cases I:J.getD i .un with
  |un=>trivial
  |im a=>rw[I]at r;refine ax r λv e hv=>?_;exact⟨v,e,hv.mono kq hF⟩
  |own xs=>
   rw[I]at r;refine bF r λa vs e hm y1 hr=>?_;rcases y1 with⟨n,sl,et⟩
   exact au (V a _ hm et) λdH h1=>⟨a,vs,e,hm,⟨n,dH,h1⟩,hr.mono kq hF⟩
  |ob C ks xs=>exact absurd I (n1 C ks xs)
  |fn d=>exact absurd I (n2 d)
 ·exact ax (R.small a h) λo h1 h2=>au (V a o h h1) λsl h3=>⟨_,h3,h2⟩
theorem Rel.blank{F:fF->Prop}(R:Rel W S fn F M cur J s):Rel W S fn F M cur (iK J) s:=
 ⟨R.step,R.grow,R.mu,R.frame,R.top,R.ns,R.cells,by unfold iK;rw[Q_];exact R.len,λi x Z=>by rw[iq];trivial,λi j x y Z Z Z h Z=>(by rw[iq]at h;exfalso;cases h),R.small⟩
theorem mM{I a b:Array aas}{g:Nat}{x:aas}(h:GenStep I a)(hb:GenStep (a.setIfInBounds g .running) b)(hg:I.size<=g)(Y:x.bare=true):GenStep I (b.setIfInBounds g x):=by
 refine⟨λZ=>?_,?_,λi U=>?_⟩
 ·have h1:acO (a.setIfInBounds g .running):=λy z=>by
   refine g' (aa9 z) ?_ ?_;rotate_left;clear z;rintro rfl;rotate_right;intro z
   ·exact h.1 Z y z
   ·rfl
  have h2:=hb.1 h1;intro y z;refine g' (aa9 z) ?_ ?_;rotate_left;clear z;rintro rfl;rotate_right;intro z
  ·exact h2 y z
  ·exact Y
 ·refine ag aaD ?_;have:=hb.2.1;rw[aaD]at this;exact bU h.2.1 this
 ·have V:g≠i:=λe=>f3 _ (bk (e▸U) hg);have Yq:i<a.size:=bk U h.2.1;rw[abD V,hb.2.2 i (by rw[aaD];exact Yq),abD V];exact h.2.2 i U
def Iy(W':Wd)(A₀:XQ)(outer:List Env)(env:Env)(L:fF)(ys:List AV)(gs:aas)(Fg Mg:fF->Prop)(sg:ea):Prop:=
 gs.bare=true/\∀dx,Later W' outer Fg Mg sg dx->∃B,KS (model W'.prog W'.w) A₀ (TG W' A₀ outer env L ys ⟨dx,Fg,Mg,B,env,env,outer,L,L⟩) gs dx
theorem zi{M:SW}{g:Nat}{nm I v:cz}{Q:Unit->ea->Prop}(h:s.heap.get? it=some (kd g nm I))(z:Q () s):wpAny M A (letOwnedTupleGo target (.ref it) v) Q E s:=by
 have key:∀a,wpAny M A (do
   let o<-load it
   match o.cls,o.data with
   | .type n,.fields vs=>
    if["enumerate","zip","dict_itemiterator","dict_reverseitemiterator","odict_iterator","itertools.zip_longest","itertools.pairwise"].contains n&&vs[0]? ==some (rawInt a)then
     rule "for.unpacks-the-owned-tuple"
     updateField it 0 .none
   |_,_=>pure ():Sem Unit) Q E s:=λa=>by
  refine az (abn h ?_);show wpAny M A (if(["enumerate","zip","dict_itemiterator","dict_reverseitemiterator","odict_iterator","itertools.zip_longest","itertools.pairwise"].contains "generator"&&_)=true then _ else _) Q E s;rw[if_neg (by
   intro h;rw[show(["enumerate","zip","dict_itemiterator","dict_reverseitemiterator","odict_iterator","itertools.zip_longest","itertools.pairwise"].contains "generator")=false from by decide,aaI]at h;exact ng h)]
  exact en z
 cases target<;>first|exact en z|(cases v<;>first|exact en z|exact key _)
def iv(set:AV->St->Option St)(g:St->Option Ou):List AV->St->Option Ou
 |[],J=>if bQ J then some (.next J)else none
 |y::ys,J=>if bQ J then(set y J).bind λI=>match g I with
   |some (.next z)=>iv set g ys z
   |some (.cont z)=>iv set g ys z
   |some (.brk z)=>if bQ z then some (.next z)else none
   |some (.ex c z)=>if bQ z then some (.ex c z)else none
   |some (.ret a)=>some (.ret a)
   |none=>none
  else none
theorem ke:iv set g [] J=if bQ J then some (.next J)else none:=rfl
theorem kg:iv set g (y::ys) J=if bQ J then(set y J).bind λI=>match g I with
   |some (.next z)=>iv set g ys z
   |some (.cont z)=>iv set g ys z
   |some (.brk z)=>if bQ z then some (.next z)else none
   |some (.ex c z)=>if bQ z then some (.ex c z)else none
   |some (.ret a)=>some (.ret a)
   |none=>none else none:=rfl
theorem oW{g:St->Option Ou}{r:Ou}(h:iv set g ys J=some r):bQ J=true:=by
 cases ys<;>((first|rw[ke]at h|rw[kg]at h);split at h<;>first|assumption|exact aZ h)
inductive FI(W W':Wd)(S S':cj)(fn:ek)(aQ M:fF->Prop)(s₂ aK:ea)(gn:Nat)(wu:Env)(Lg:fF)(set:AV->St->Option St)(gb:St->Option Ou)(r:Ou)(n:Nat)(cR:ea):Prop
 |mk (F' M':fF->Prop) (aC:Str->Option cz) (ak:St) (ys:List AV) (gs:aas) (Fg uP:fF->Prop) (sg:ea) (h1:Rel W' S' fn F' M' aC ak cR) (h2:fI W aQ M F' M' s₂ cR) (h3:cR.gens[gn]? =some gs) (h4:Iy W' S.A.in1 (S.fe::S.outer) wu Lg ys gs Fg uP sg) (h5:∀a,Fg a->F' a)
   (h6:∀a,uP a->(S'.X a\/aJ aK<=a)/\aJ s₂<=a/\a<aJ cR/\¬F' a/\¬M' a) (h7:∀b o,Fg b\/uP b\/(iS o/\¬W.loose b)->sg.heap.get? b=some o->∃sl,cR.heap.get? b=some {o with slots:=sl}) (h8:aJ sg<=aJ cR) (h9:n=ys.length) (iJ:iv set gb ys ak=some r):FI W W' S S' fn aQ M s₂ aK gn wu Lg set gb r n cR
theorem FI.el{W':Wd}{z:cj}{aQ:fF->Prop}{s₂ aK:ea}{gn:Nat}{wu:Env}{Lg:fF}{gb:St->Option Ou}{r:Ou}{cR:ea}(U:FI W W' S z fn aQ M s₂ aK gn wu Lg set gb r n cR)(V:∀(F' M':fF->Prop)(aC:Str->Option cz)(ak:St)(ys:List AV)(gs:aas)(Fg I:fF->Prop)(sg:ea)(h1:Rel W' z fn F' M' aC ak cR)(h2:fI W aQ M F' M' s₂ cR)(h3:cR.gens[gn]? =some gs)(h4:Iy W' S.A.in1 (S.fe::S.outer) wu Lg ys gs Fg I sg)(h5:∀a,Fg a->F' a)(h6:∀a,I a->(z.X a\/aJ aK<=a)/\aJ s₂<=a/\a<aJ cR/\¬F' a/\¬M' a)(h7:∀b o,Fg b\/I b\/(iS o/\¬W.loose b)->sg.heap.get? b=some o->∃sl,cR.heap.get? b=some {o with slots:=sl})(h8:aJ sg<=aJ cR)(h9:n=ys.length)(iJ:iv set gb ys ak=some r),G):G:=FI.rec (motive:=λZ=>G) V U
theorem zj{x:Str}{es:List u_}{a rk:Nat}{o:Obj}{fd:aba}{g:St->Rs (List AV)}{spec:List AV->Option (List AV)}{gb:St->Option Ou}(hn:aL W false fn (.Name x np) (λZ=>aA (.ref a)))(hg:fG W false fn es g)(hp:a7 es=true)(ho:W.base.get? a=some o)(OG:o.data= .func fd)(Ue:Gn W a rk spec)(jC:rk+2<=fn.rank)(ht:∀W',Up W W'->tj W' fn target set)(hb:∀W',Up W W'->c5 W' false fn body gb)(f9:fn.names.head? =some ("self":Str))(hC:fn.inner=false)(fh:∀env v,foldedSetIterable (.Call (.Name x np) es [] cB) env v=pure v):aR W false fn (.For target (.Call (.Name x np) es [] cB) body [] pos) (λJ=>aU (g J) J λxs=>(spec xs).bind λys=>iv set gb ys J):=.mk λS F M cur J r s V R hf=>cps λQ E kQ kE=>by
 refine wpAny_For ?_ (fh _);refine ZY (w8 (hn.run S F M cur J _ s V R rfl) λfv aB af T G hv=>?_);subst hv;have aI:=R.move V T G;refine abu (o:=o) (fd:=fd) (bM hp ?_);refine pG (cg hf) (λc h1 er=>?_) λxs h1 h2=>?_
 ·exact fm (hg.run S aB M cur J _ af cB V aI h1) (λZ Z h=>h.no) λZ Z x=>kE _ _ ((x.lift T).st V R λZ h=>er.trans (sJ _ h))
 refine ax (z0.mp h2) λCZ O0 r_=>w8 (hg.run S aB M cur J _ af cB V aI h1) λvs aQ s₂ aD a_ gA=>?_;have aM:=aI.move V aD a_;refine⟨⟨aM.stays _ _ ho,OG⟩,?_⟩;have cZ:=gi (A:=S.A) (X:=xh) (rk:=rk) V aM ⟨rfl,rfl,xm _ _,xm _ _⟩ (λZ h=>h.elim) _root_.id jC;refine abK (aaM (Ue S.A (S.fe::S.outer) aQ s₂ xs vs CZ cZ gA O0) λres aK hc=>?_);clear hf h2;obtain⟨it,gn,nm,qn,wu,Lg,V',Mg,rfl,hit,vg,bp,Mj,Yr,zV,wt,O1⟩:=hc;refine wpAny_pyIter_gen ⟨_,nm,qn,zV,rfl,rfl,rfl⟩ ?_;have cG:=aM.move V bp (.refl _ _ aQ);have O2:S.s₀.heap.objs.size<=aJ s₂:=aM.step.size;have O4:¬W.loose it:=λe=>f3 _ (bk (V.lb it e) (bU O2 hit));refine au (KU cG.stays zV) λW' E=>?_;have K0:∀a,Mg a->S.s₀.heap.objs.size<=a/\a<aJ aK/\a≠it:=λa h=>⟨bU O2 (wt a h).1,(wt a h).2.1,(wt a h).2.2⟩;have Ys:S.L<aJ s₂:=by refine ft aM.top λo' pS rq h1 Z=>?_;exact ye h1
 have Wa:∀{Z:fF->Prop},(∀a,Z a->aJ s₂<=a)->¬Z S.L:=λhZ h=>f3 _ (bk Ys (hZ _ h));have zk:=oW r_;refine aX (KV (Z:=Mg) E V cG zV rfl (λh=>f3 _ (bk (aM.mu it h).2.1 hit)) f9 (λi=>(bQ.at zk i).1) hC K0 (Wa λa h=>(wt a h).1)) λm4 R'=>?_;have up:Up W W':=⟨it,_,E,O4⟩;have Yt:=ht W' up;have Yu:=hb W' up;refine au E.eq ?_;clear up;rintro b' rfl;have Yv:∀a,aQ a->a<aJ s₂:=λa h=>(aM.bound V h).1;have zf:∀a,M a->a<aJ s₂:=λa h=>(aM.mu a h).2.1;have TS:fI W F M aQ M s s₂:=(T.trans aD).fY (G.trans T.size aD.size a_);have back:∀{F' M':fF->Prop}{aC:Str->Option cz}{ak:St}{s':ea},Rel (W.up b') (S.at aK aQ M Mg) fn F' M' aC ak s'->bQ ak=true->Rel W S fn F' M' aC ak s':=λR' h=>KX E V cG R' (λi=>(bQ.at h i).1) hC λa h=>⟨(K0 a h).1,(K0 a h).2.1⟩;refine SR (FI W (W.up b') S (S.at aK aQ M Mg) fn aQ M s₂ aK gn wu Lg set gb r) λI I1 I2=>codeAny_forLoop_any I
  (λn cR hI=>?_) CZ.length (I1 _ _ ⟨aQ,M,cur,J,CZ,_,aQ,Mg,aK,R',bp.fY (.refl _ _ _),Yr,⟨rfl,λdx L=>⟨_,O1 _ E O4 S.A.in1 (S.fe::S.outer) (V.hand rfl) V.frames ?_ dx L⟩⟩,λZ h=>h,
   λa h=>⟨.inl (.inr h),(wt a h).1,(wt a h).2.1,λh'=>f3 _ (bk (Yv a h') (wt a h).1),λh'=>f3 _ (bk (zf a h') (wt a h).1)⟩,λb o Z e=>⟨o.slots,e⟩,t_ _,rfl,r_⟩)
 case refine_2=>
  have h1:=V.room.1;have h2:=V.room.2;show S.A.depth+3*rk+6<=600/\S.A.units+1+100*rk+110<=9000;constructor<;>lia
 clear r_;obtain⟨F',M',aC,ak,ys,gs,Fg,uP,sg,mB,TT,Iz,⟨Wb,O5⟩,Yw,m7,O6,Ug,rfl,U⟩:=I2 _ _ hI;have gh:=oW U;have O7:cR.heap.get? it=some (kd gn nm qn):=mB.stays it _ E.at_;have O8:s₂.gens.size<=gn:=Mj;have Uh:¬uP S.L:=Wa λa h=>(m7 a h).2.1;have later:Later (W.up b') (S.fe::S.outer) Fg uP sg (cR.setGen gn .running):=by
  have gF:cR.heap.FunFrames b' (S.fe::S.outer):=mB.frames m4;have F0:LT (W.up b') cR.heap:=mB.tab m4;refine⟨gF,λL hL h=>?_,mB.stays,O6,Ug,λa h=>bk (m4.lb a h) mB.step.size,F0⟩;rw[aaF,V.c6]at hL;refine g' (QX.mp hL) ?_ ?_;rotate_left;intro hL;rotate_right;clear hL;rintro rfl
  ·exact h.elim (mB.ku m4).2 Uh
  ·refine g' h (λh=>?_) λh=>?_
   ·exact V.cW L hL (.inl h)
   ·exact L9 (V.dN.mem hL) λZ o' et Z=>f3 _ (bk (ye et) (bU O2 (m7 L h).2.1))
 refine au (O5 _ later) λB IA=>?_;have IB:∀a,uP a->((S.at aK aQ M Mg).X a\/(S.at aK aQ M Mg).s₀.heap.objs.size<=a)/\a<aJ cR/\¬F' a/\¬M' a:=λa h=>⟨(m7 a h).1,(m7 a h).2.2.1,(m7 a h).2.2.2.1,(m7 a h).2.2.2.2⟩;have notM:∀p o',s₂.heap.get? p=some o'->¬uP p:=λp o' e h=>f3 _ (bk (ye e) (m7 p h).2.1);refine m6 (V.hand rfl) (mB.M5 m4) (by have:=V.room.1;show S.A.depth<1000;lia) ⟨_,nm,qn,O7,rfl,rfl,rfl⟩ Iz IA λe af he=>?_;have Wc:∀(K1:aas)(gC:fF->Prop),K1.bare=true->(∀a,F' a->gC a)->(∀a,gC a->F' a\/uP a\/aJ cR<=a)->fD (W.up b') uP (cR.setGen gn .running) af->fI W aQ M gC M' s₂ (af.setGen gn K1):=λK1 gC uN h5 SU Y=>
  ⟨λp o' hp e=>by
   exact au (TT.keep p o' hp e) λsl h1=>au (Y.slots p _ (λh=>h.elim (λh=>hp (.inl h)) (notM p _ e)) h1) λdH h2=>⟨dH,h2⟩,bU TT.size Y.size,TT.grow,λa h=>h5 a (TT.more a h),λa h=>by
   rcases SU a h with h|h|h
   ·exact TT.fE a h
   ·exact .inr (.inr (m7 a h).2.1)
   ·exact .inr (.inr (bU TT.size h)),mM TT.gens Y.gens O8 uN⟩
 have xH:∀(K1:aas),K1.bare=true->fD (W.up b') uP (cR.setGen gn .running) af->GenStep (S.at aK aQ M Mg).s₀.gens (af.setGen gn K1).gens:=λK1 uN Y=>mM mB.step.gens Y.gens (bU aM.step.gens.2.1 O8) uN;clear I2 O5 hI IA;cases ys with
 |nil=>
  refine aX he ?_;clear he;clear kE I1;rintro rfl Y;refine⟨rfl,rfl,λh' hk hz=>abV ?_⟩;rw[ke]at U;rw[if_pos gh]at U;revert U;refine bc λe=>?_;subst e;have Rg:Rel (W.up b') (S.at aK aQ M Mg) fn F' M' aC ak (af.setGen gn .finished):=mB.gen m4 Y rfl rfl IB gh hC Uh (λZ h=>h) (λZ h=>.inl h) rfl rfl (xH _ rfl Y);have Tk:Step (W.up b') (af.setGen gn .finished) {af.setGen gn .finished with heap:=h'}:=.of_keeps (t:=af.toks) Rg.stays hk hz;exact kQ _ _ ⟨F',M',aC,ak,back (Rg.move m4 Tk (.refl _ _ _)) gh,TS.trans ((Wc .finished F' rfl (λZ h=>h) (λZ h=>.inl h) Y).trans (show fI W F' M' F' M' (af.setGen gn .finished) {af.setGen gn .finished with heap:=h'}from⟨λp o' Z e=>⟨o'.slots,hk p o' e⟩,hz,λZ h=>.inl h,λZ h=>h,λZ h=>.inl h,.refl _⟩)),rfl⟩
 |cons y OV=>
  refine uR he λv l k c p y2=>?_;clear he;refine R9 y2 ?_;clear y2;rintro fs Mt oX rfl hq Y Yx Ui zl Yy O9;refine⟨hq,?_⟩;have uN:(acm v false l k c p fs).genState.bare=true:=End.bare_of_quiet hq;have We:∀a,(F' a\/Mt a)->F' a\/uP a\/(aJ cR<=a/\a<aJ af):=λa h=>by
   refine g' h (λh=>?_) λh=>?_
   ·exact .inl h
   ·exact(Ui a h).imp (Yw a) _root_.id
  have dM:Rel (W.up b') (S.at aK aQ M Mg) fn (λa=>F' a\/Mt a) M' aC ak (af.setGen gn (acm v false l k c p fs).genState):=mB.gen m4 Y rfl rfl IB gh hC Uh (λZ h=>.inl h) We rfl rfl (xH _ uN Y);have cA:=Wc _ (λa=>F' a\/Mt a) uN (λZ h=>.inl h) (λa h=>(We a h).imp _root_.id λh=>h.imp _root_.id λh=>h.1) Y;have C0:(af.setGen gn (acm v false l k c p fs).genState).gens[gn]? =some (acm v false l k c p fs).genState:=by
   have h1:gn<cR.gens.size:=(P9.mp Iz).1;have h2:cR.gens.size<=af.gens.size:=by
    have:=Y.gens.2.1;rw[show(cR.setGen gn .running).gens=cR.gens.setIfInBounds gn .running from rfl,aaD]at this;exact this
   show(af.gens.setIfInBounds gn _)[gn]? =_;exact Array.getElem?_setIfInBounds_self_of_lt (bk h1 h2)
  show wpAny _ _ (letOwnedTupleGo target (.ref it) v) _ _ (af.setGen gn (acm v false l k c p fs).genState);generalize Yz:af.setGen gn (acm v false l k c p fs).genState=cJ at dM cA C0⊢;have Uj:cJ.heap=af.heap:=by refine fP Yz ?_;rfl
  refine zi (dM.stays it _ E.at_) ?_;rw[kg]at U;rw[if_pos gh]at U;refine ax (z0.mp U) λa6 jL U=>vf (Yt.run (S.at aK aQ M Mg) _ M' aC ak a6 cJ y v m4 dM (Yy.mono (λb Z o e=>⟨o.slots,by refine ag Uj ?_;exact e⟩) λZ h=>.inr h) jL) λvv yI Uk rz eu Z=>?_;rcases Iv:gb a6 with _|ou
  ·exact aZ (Iv▸U)
  rw[Iv]at U;have C1:fI W (λa=>F' a\/Mt a) M' yI M' cJ vv:=⟨eu.keep,eu.size,eu.grow,eu.more,eu.fE,eu.gens⟩;refine fm (Yu.run (S.at aK aQ M Mg) yI M' Uk a6 ou vv m4 rz Iv) (λfl pU O_=>?_) λz pU hz=>?_
  ·clear Iv;clear kE;obtain⟨F1,F2,K2,xI,Cx,jN,hm⟩:=O_;have O':fI W yI M' F1 F2 vv pU:=⟨jN.keep,jN.size,jN.grow,jN.more,jN.fE,jN.gens⟩;have TA:=(cA.trans C1).trans O';have Pa:aJ af=aJ cJ:=by show af.heap.objs.size=cJ.heap.objs.size;exact ag Uj rfl
   have Wf:∀a,oX a->aJ s₂<=a:=λa h=>(zl a h).1.elim (λh=>(m7 a h).2.1) λh=>bU TT.size h;have nM:∀a,oX a->¬M' a:=λa h hm=>(zl a h).1.elim (λh=>(m7 a h).2.2.2.2 hm) λh=>f3 _ (bk (mB.mu a hm).2.1 h);have Wg:∀a,oX a->a<aJ cJ:=λa h=>by refine fP Pa ?_;exact(zl a h).2.1
   have YA:∀a,oX a->¬(F' a\/Mt a):=λa h hf=>hf.elim (λhf=>(zl a h).1.elim (λh=>(m7 a h).2.2.2.1 hf) λh=>f3 _ (bk (mB.bound m4 hf).1 h)) (zl a h).2.2;have YB:∀a,oX a->¬yI a:=λa h hf=>(eu.fE a hf).elim (YA a h) λq=>q.elim (nM a h) λq=>f3 _ (bk (Wg a h) q);have Ul:∀a,oX a->a<aJ vv:=λa h=>bk (Wg a h) eu.size;have next:iv set gb OV xI=some r->∃m,m<(y::OV).length/\I m pU:=λh=>by
    have g5:gn<cJ.gens.size:=(P9.mp C0).1;refine⟨OV.length,rv _,I1 _ _ ⟨F1,F2,K2,xI,OV,(acm v false l k c p fs).genState,Mt,oX,af,Cx,TA,(jN.gens.2.2 gn (bk g5 eu.gens.2.1)).trans ((eu.gens.2.2 gn g5).trans C0),⟨uN,λdx L=>⟨_,O9 dx L⟩⟩,
     λa h=>jN.more a (eu.more a (.inr h)),λa h=>⟨?_,Wf a h,bk (Ul a h) jN.size,λhf=>?_,λhf=>?_⟩,λb o' hb e=>?_,bU (Kj Pa) (bU eu.size jN.size),rfl,h⟩⟩
    ·exact(zl a h).1.elim (λh=>(m7 a h).1) λh=>.inr (bU mB.step.size h)
    ·exact(jN.fE a hf).elim (YB a h) λq=>q.elim (nM a h) λq=>f3 _ (bk (Ul a h) q)
    ·exact(jN.grow a hf).elim (nM a h) λq=>f3 _ (bk (Ul a h) q)
    ·have e5:cJ.heap.get? b=some o':=by refine ag Uj ?_;exact e
     have t4:¬(W.loose b\/M' b):=by
      rcases hb with hb|hb|hb
      ·exact λq=>q.elim (dM.bound m4 (.inr hb)).2 λq=>(dM.mu b q).2.2 (.inr hb)
      ·exact λq=>q.elim (λq=>f3 _ (bk (V.lb b q) (bU O2 (Wf b hb)))) (nM b hb)
      ·refine λq=>q.elim hb.2 λq=>ax (dM.small b q) λoO q1 q2=>?_;rw[e5]at q1;revert q1;refine bc λe=>?_;subst e;exact q2 hb.1
     exact au (eu.keep b o' t4 e5) λsl h6=>au (jN.keep b _ t4 h6) λdH h7=>⟨dH,h7⟩
   clear I1;cases fl with
   |next=>simp only at hm;subst hm;simp only at U;exact next U
   |cont=>simp only at hm;subst hm;simp only at U;exact next U
   |brk=>
    simp only at hm;clear next;subst hm;simp only at U;split at U
    ·rename_i EI;revert U;refine bc λe=>?_;clear U;subst e;exact kQ _ _ ⟨F1,F2,K2,xI,back Cx EI,TS.trans TA,rfl⟩
    ·exact aZ U
   |ret Um=>
    refine ax hm ?_;clear hm;clear next;rintro av rfl gv;simp only at U;revert U;refine bc λe=>?_;clear U;subst e;exact kQ _ _ ⟨F1,F2,K2,iK xI,back Cx.blank (by simp[bQ,iK]),TS.trans TA,av,rfl,gv⟩
  ·refine kL (jB V ?_) kE;clear kQ;clear Iv;obtain⟨cls,e,n',gU,q9,s7,gV,g1,rfl,Rx,Tx,g3,g4,g5,g6⟩:=hz;subst g1;simp only at U;split at U
   ·rename_i EI;revert U;refine bc λe=>?_;subst e;have YC:fI W yI M' q9 s7 vv pU:=⟨Tx.keep,Tx.size,Tx.grow,Tx.more,Tx.fE,Tx.gens⟩;have Wh:aJ s₂<=aJ vv:=(cA.trans C1).size;exact⟨cls,e,n',gU,q9,s7,gV,rfl,rfl,back Rx EI,TS.trans ((cA.trans C1).trans YC),⟨bU TS.size (bU Wh g3.1),bU O2 (bU Wh g3.1)⟩,g4,g5,g6.back E⟩
   ·exact aZ U
end
def l8(W:Wd)(c P:fF):Prop:=W.tabs P/\∃o vs file tf flags tg Rc text tt,W.base.get? c=some o/\o.data= .fields vs/\vs.getD 11 .none= .ref P/\vs.getD 18 .none= .str file tf/\
  vs.getD 7 .none= .int flags tg/\vs.getD 9 .none= .bool Rc/\vs.getD 10 .none= .int text tt/\c≠P/\o.cls= .type "code"/\vs[11]? =some (.ref P)
theorem l8.is{c P:fF}(x:l8 W c P)(hs:W.base.StaysIn h)(l:LT W h):∃ps,h.IsCode c P ps/\h.TableAt c P ps/\(∃more,ps=W.ref P++more)/\∀pos cv,codeAmong pos ps.toList=some cv->∃a o vs t,cv= .ref a/\¬W.loose a/\h.get? a=some o/\o.data= .fields vs/\18<vs.size/\vs[1]? =some (.str (W.EE P pos) t):=by
 exact aX x λI U=>uR U λo vs file V flags Y=>Sd Y λZ Rc text tt h1 h2 h3 h4 h5 h6 h7 y1=>fQ y1 λh8 h9 iJ=>bF (l.1 P I) λps more z g2 g3 g4=>⟨ps,⟨o,vs,file,V,flags,Z,Rc,text,tt,_,hs _ _ h1,h2,h3,h4,h5,h6,h7,z,rfl,g3,h8⟩,⟨⟨o,vs,hs _ _ h1,h9,h2,iJ⟩,z⟩,⟨more,g2⟩,g4⟩
theorem qc{a b:Int}{c I:cz}(l:List cz)(U:TriplesOk l)(h:codeAmong pos (l++[rawInt a,rawInt b,c])=some I):codeAmong pos l=some I\/(I=c/\a=pos.line/\b=pos.col):=by
 fun_induction TriplesOk l with
 |case1=>
  right
  simp only[Z4,codeAmong,rawInt]at h;split at h
  ·rename_i z;simp only[v3,beq_iff_eq]at z;revert h;refine bc λe=>?_;subst e;exact⟨rfl,z⟩
  ·exact aZ h
 |case2 a' t b' u x rest ih=>
  simp only[Xm,codeAmong]at h⊢;split at h
  ·rename_i z;exact ag (if_pos z) (.inl h)
  ·rename_i z;exact ag (if_neg z) (ih U h)
 |case3 l h1 h2=>exact U.elim
theorem xJ{vs:Array cz}{x:PySem.Str}{t:Tok}(h:vs.getD i .none= .str x t):i<vs.size:=by
 refine g' (adx i vs.size) (λh'=>?_) λh'=>?_
 ·exact h'
 ·rw[ab7,Array.getElem?_eq_none h']at h;exfalso;cases h
theorem C2{F:fF->Prop}{c P:fF}{fl:Nat}{qual:Str}{p:abr}{sc:abw}{body:FuncBody}(hS:S.Ok W fn q)(R:Rel W S fn F M cur J s)(qR:S.env.code= .ref c)(hc:l8 W c P)(fK:∀z,z.line=pos.line->z.col=pos.col->W.EE P z=qual)(zm:∀P',W.tabs P'->P'=P)(Mu:W.base.get? P=none):wpAny (model W.prog W.w) A (functionCode S.env pos fl name qual p sc body) (λU s'=>∃cd V vs t,U= .ref cd/\¬W.loose cd/\s'.heap.get? cd=some V/\V.data= .fields vs/\18<vs.size/\vs[1]? =some (.str qual t)/\Step W s s') E s:=by
 refine WU (hc.is R.stays (R.tab hS)) λps uL IC mo YD F0=>?_;cases hf:codeAmong pos ps.toList with
 |some U=>
  refine q8 (F0 pos U hf) ?_;rintro a o vs t rfl h1 h2 h3 h4 h5;rw[fK pos rfl rfl]at h5;exact wpAny_functionCode_hit qR uL hf ⟨a,o,vs,t,rfl,h1,h2,h3,h4,h5,.refl R.stays⟩
 |none=>
  refine aP (wpAny_functionCodeX qR uL IC hf λI h' tk hx Q0 h_ Pb Pc Pd Hk hz=>?_);refine iQ Hk λP' Wi qE Z=>?_;clear Hk;refine uR qE λV vs file tf flags Y=>?_;clear qE;refine nG Y λtg Rc text tt op g1 g2 g3 g4 Z=>?_;clear Y;refine z6 Pc λc2 Zw Zx t2 e2 q1 q2 q3=>?_;clear Pc;have e3:I=c2:=by injection e2
  clear IC e2;subst e3;rw[g1]at q1;revert q1;refine bc λe=>?_;subst e;rw[g2]at q2;cases q2;have p9:¬W.loose I:=λhl=>f3 _ (bk (hS.lb I hl) (bU R.step.size Q0));have Wj:W.loose P:=.inl hc.1;refine⟨I,V,vs,t2,rfl,p9,g1,g2,xJ g4,q3,⟨λb o e=>?_,λb o hl e=>⟨o.slots,hx b o (λh=>hl (h▸Wj)) e⟩,λl=>⟨λUn Pe=>?_,?_⟩,hz,rfl,.refl _⟩⟩
  ·exact hx b o (λh=>by rw[h,Mu]at e;exact aZ e) (R.stays b o e)
  ·have:=zm Un Pe;clear hc zm Mu;subst this;refine uR Pb λob wb Wk Zy Uo y2=>?_;clear Pb;refine Ey y2 λZz YE Wl ZA ZC r1 r2 r3 r4 r5 r6 r7 y3=>?_;clear y2;refine jJ y3 λr8 r9 YF ZD=>?_;clear y3;refine⟨_,_,Pd.2,by exact ag YD (ag Array.append_assoc rfl),YF,λz U Rd=>?_⟩;have hl:(ps++#[rawInt pos.line,rawInt pos.col,V9 I]).toList=ps.toList++[rawInt pos.line,rawInt pos.col,.ref I]:=by simp
   rw[hl]at Rd;have ht:TriplesOk ps.toList:=by refine uR uL λZ Z Z Z Z y4=>?_;clear uL;refine Ey y4 λZ Z Z Z Z Z Z Z Z Z Z Z Y=>?_;clear y4;refine jJ Y λZ Z h Z=>?_;clear Y;exact h
   refine Vo (qc ps.toList ht Rd) ?_ ?_;rotate_left;clear Rd;rintro rfl h5 h6;rotate_right;intro h
   ·refine z6 (F0 z U h) ?_;clear h;clear Rd;rintro a o pK t rfl w1 w2 w3;exact⟨a,o,pK,t,rfl,w1,hx a o (λe=>w1 (e▸Wj)) w2,w3⟩
   ·exact⟨I,V,vs,t2,rfl,p9,g1,g2,xJ g4,by refine ag (fK z (by lia) (by lia)) ?_;exact q3⟩
  ·refine ax l.2 λmc dG hm=>⟨mc,iC (λo ho=>⟨o.slots,hx _ o (λe=>?_) ho⟩) dG,hm⟩;refine e7 (l.1 P hc.1) λwx Z u1 Z=>dh dG λo' es ep v1 v2 Z=>?_;clear dG;rw[e,u1]at v1;revert v1;refine bc λe=>?_;subst e;cases v2
theorem C3{F:fF->Prop}{c P:fF}{fl:Nat}{qual:Str}{p:abr}{sc:abw}(I:S.Ok W fn q)(R:Rel W S fn F M cur J s)(qR:S.env.code= .ref c)(hc:l8 W c P)(fK:∀pos',pos'.line=pos.line->pos'.col=pos.col->W.EE P pos'=qual)(zm:∀P',W.tabs P'->P'=P)(Mu:W.base.get? P=none)(Kl:p.kwonlyargs=[])(ub:∀x∈sc.names,x.2≠.free)(V:∃bm o,W.mg "__builtins__"=some (.ref bm)/\bm≠builtinsNs/\W.base.get? bm=some o/\o.cls= .type "module"/\o.dict=some builtinsNs/\o.data= .plain):wpAny (model W.prog W.w) A (makeFunction name qual p (.stmts body) sc S.env [] [] [] pos fl) (λv s'=>∃a pm cd doc z vs t,v= .ref a/\aJ s<=a/\a<aJ s'/\s'.heap.get? a=some {cls:=.type "function",data:=.func (defFd name qual p body sc 3 .none .none none pm (.ref cd) doc)}/\¬W.loose cd/\s'.heap.get? cd=some z/\z.data= .fields vs/\18<vs.size/\vs[1]? =some (.str qual t)/\Step W s s') E s:=by
 rw[makeFunction_eq,Kl];refine cps λQ E Y kE=>cC rfl (az (en (cC rfl (az (en (cC rfl (az (en ?_))))))));have yQ:closureFor sc S.env=pure []:=by
  simp only[closureFor];rw[forIn_yield_id [] (λx hx c=>by
   obtain⟨n,kind⟩:=x;have:(kind==aaQ)=false:=by simpa using ub _ hx
   simp only[this,F3,if_false])]
  rfl
 unfold makeTail;refine az (Uu yQ ?_)
 first|refine cC rfl (az (en ?_))|refine az (cC rfl (en ?_))
 dsimp only;refine az (fm (C2 I R qR hc fK zm Mu) (λcv af g=>?_) λZ Z x=>x);refine Sb g λcd z vs t h1 h2 h3 h4 h5 h6 T=>?_;clear g;subst h1;refine R7 V λbm ob b1 b2 b3 b4 b5 b6=>?_;clear V;have hg:af.heap.Ns S.env.globals W.mg:=by refine ag I.glob ?_;exact I.hg.keeps T.stays
 refine az (wpAny_builtinsFor hg b1 b2 (T.stays _ _ b3) b4 b5 b6 ?_);refine az (abP hg ?_);have fin:∀(doc:cz)(tk:Nat),(∃a pm U Ur z vs t,(V9 af.heap.objs.size:cz)= .ref a/\aJ s<=a/\a<(af.heap.push {cls:=.type "function",data:=.func (defFd name qual p body sc 3 .none .none none ((W.mg "__name__").getD .none) (.ref cd) doc)}).objs.size/\(af.heap.push {cls:=.type "function",data:=.func (defFd name qual p body sc 3 .none .none none ((W.mg "__name__").getD .none) (.ref cd) doc)}).get? a=some {cls:=.type "function",data:=.func (defFd name qual p body sc 3 .none .none none pm (.ref U) Ur)}/\
   ¬W.loose U/\(af.heap.push {cls:=.type "function",data:=.func (defFd name qual p body sc 3 .none .none none ((W.mg "__name__").getD .none) (.ref cd) doc)}).get? U=some z/\z.data= .fields vs/\18<vs.size/\vs[1]? =some (.str qual t)/\Step W s {af with heap:=af.heap.push {cls:=.type "function",data:=.func (defFd name qual p body sc 3 .none .none none ((W.mg "__name__").getD .none) (.ref cd) doc)},toks:=tk}):=λdoc tk=>
  ⟨af.heap.objs.size,_,cd,doc,z,vs,t,rfl,T.size,by rw[rW];exact rv _,w' _ rfl,h2,ml _ h3,h4,h5,h6,T.trans (.push T.stays)⟩
 have Pf:S.env.globals=3:=I.glob;cases YG:docOf body with
 |none=>
  refine az (en (Xt ?_ (by size_fits)));exact ag Pf (Y _ _ (fin .none af.toks))
 |some tx=>
  refine az (wpAny_mkText (Xt ?_ (by size_fits)));exact ag Pf (Y _ _ (fin _ _))
theorem K4{c P:fF}{qual:Str}{p:abr}{sc:abw}(Us:W.lf k=⟨name,qual,p,body,sc⟩)(hn:dE fn i name)(jb:fn.cd= .ref c)(hc:l8 W c P)(fK:∀pos',pos'.line=pos.line->pos'.col=pos.col->W.EE P pos'=qual)(zm:∀P',W.tabs P'->P'=P)(Mu:W.base.get? P=none)
  (Kl:p.kwonlyargs=[]) (ub:∀x∈sc.names,x.2≠.free)
  (Rf:∃bm o,W.mg "__builtins__"=some (.ref bm)/\bm≠builtinsNs/\W.base.get? bm=some o/\o.cls= .type "module"/\o.dict=some builtinsNs/\o.data= .plain)
  (hex:∀env:Env,env.scope=fn.scope->env.qual=fn.qual++".<locals>."->exec (.FunctionDef name p body [] none [] sc none name pos) env=(do
   standAt pos
   let f<-makeFunction name qual p (.stmts body) sc env [] [] [] pos pos.line
   standAt pos
   bindName env name f
   pure .next)):
  aR W q fn (.FunctionDef name p body [] none [] sc none name pos) (λJ=>some (.next (J.set i (.fn k)))):=.mk λS F M cur J r s z R hf=>by
 revert hf;refine bc λe=>?_;subst e;refine ag (hex S.env z.scope z.EF.2) (az (IW (az (fm (C3 z R (z.EF.1.trans jb) hc fK zm Mu Kl ub Rf) (λv af g=>?_) λZ Z x=>x))));refine uR g λa pm cd doc oc y6=>?_;clear g;refine R8 y6 λvs t hv I V U h2 h3 h4 y0=>?_;clear y6;refine fQ y0 λh5 h6 T=>?_;clear y0;subst hv;have aI:=R.move z T (.refl _ _ F);have Y:¬F a:=λh=>f3 _ (bk (R.bound z h).1 I);have uM:∀b,M b->b≠a:=λb h e=>f3 _ (bk (e▸(R.mu b h).2.1) I);refine az (IW (az (wpAny_bindName ?_)));refine hY (lv:=.fn k) (M':=λb=>M b\/b=a) z aI hn (λZ h=>.inl h) (λb h=>h.imp _root_.id λe=>by clear U uM h;subst e;exact⟨bU R.step.size I,V,Y⟩)
  (by show∃x,some _=some x/\FnAt W _ _ (W.lf k) x;refine ag Us ?_;exact⟨_,rfl,a,_,pm,.ref cd,doc,rfl,.inr rfl,U,rfl,cd,oc,vs,t,rfl,h2,h3,h4,h5,h6⟩) (λh=>by exfalso;cases h) (λb h h'=>by
   have e:b=a:=h.elim (λq=>absurd q h') _root_.id;clear I V Y;clear uM h;subst e;exact⟨_,U,by rintro⟨ws,h3,_⟩;exfalso;cases h3⟩) λs' R' hz hk Z hg=>?_
 exact en ⟨F,_,_,_,R',⟨(T.slots.mono λZ h=>.inl h).trans (hk.mono λZ h=>.inr h),bU T.size (Kj hz.symm),λb h=>h.imp _root_.id λe=>by clear R';clear V U Y;subst e;exact I,λZ h=>h,λZ h=>.inl h,by refine ag hg ?_;exact T.gens⟩,rfl⟩
theorem qd{M:SW}{a:fF}{args:List (Bool×Sem cz)}{Q:cz->ea->Prop}(h:wpAny M A (evalArgs (.ref a) true args []) (λx af=>(∃o fd,af.heap.get? a=some o/\o.data= .func fd)/\wpAny M A (call (.ref a) x.pos x.kw) Q E af) E s):wpAny M A (callWith pos (.ref a) [] args []) Q E s:=by
 refine az (n4 (fm h (λx af ⟨⟨o,fd,U,hd⟩,V⟩=>az (IW ?_)) λZ Z x=>x));have fin:∀{t:Sem cz},wpAny M A t Q E af->wpAny M A (t>>=λr=>holding [r] point>>=λZ=>pure r) Q E af:=
  λY=>az (fm Y (λr s₂ hr=>az (n4 (aaw (en hr)))) λZ Z x=>x)
 have z:wpAny M A (call (.ref a) ([]++x.pos) x.kw) Q E af:=by rw[Z4];exact V
 have I:∀m,wpAny M A (callMarked m (.ref a) ([]++x.pos) x.kw) Q E af:=λm=>by unfold callMarked;exact Calls.wpAny_keep z
 rw[List.any_nil,adp];cases hs:args.any (·.1)<;>
  refine az (m:=keeperOf (.ref a)) ?_<;>unfold keeperOf<;>
  refine az (abn U ?_)<;>refine ag hd ?_<;>refine en ?_
 ·first
   |refine wpAny_ite ?_
   |skip
  split<;>first
   |exact fin z
   |exact fin (I _)
 ·first
   |exact fin z
   |exact fin (I _)
def Rh(W:Wd)(d:M3)(rk:Nat)(spec:List AV->Rs AV):Prop:=
 ∀A outer F s xs vs r a o pm cd doc,Ready W A outer F xh s rk->s.heap.get? a=some o->o.data= .func (defFd d.name d.qual d.params d.body d.scope 3 .none .none none pm cd doc)->s.heap.CodeRec cd d.qual->
  bL s.heap F xs vs->spec xs=some r->codeAny (model W.prog W.w) A (.call (.ref a) ⟨vs,[]⟩) (CR W outer F s r) s
theorem C4{d:M3}{f:St->Option Ou}{ps:List Str}(dT:∀(pm cd U:cz)(vs:List cz),vs.length=ps.length->bindArgs (defFd d.name d.qual d.params d.body d.scope 3 .none .none none pm cd U) ⟨vs,[]⟩=pure (ps.zip vs))(b9:∃rest,names=ps++rest)(dp:names.Nodup)(lU:∀x∈ps,d.scope.names.lookup x=some .local\/d.scope.names.lookup x=some .cell)(hB:∀cd,c5 W false ⟨d.scope,names,rk,false,cd,d.qual⟩ d.body f)(mS:autoParam (d.scope.isCoroutine=false) gQ)(f_:autoParam (d.scope.isGenerator=false) gQ)(hk:autoParam (d.scope.kind= .function) gQ):Rh W d rk (λxs=>if xs.length=ps.length then bg (f (aO names.length xs))else none):=λA outer F s xs vs r a o pm cd U hR ho dR jb hv z=>by
 simp only at z;split at z
 case isFalse=>exact aZ z
 rename_i mT;have EY:vs.length=ps.length:=hv.length.trans mT;refine au b9 λrest hrest=>?_;clear b9;have td:ps.Nodup:=by rw[hrest]at dp;exact(ZZ.mp dp).1
 rcases V:f (aO names.length xs)with _|ou
 ·rw[V]at z;simp[bg]at z
 rw[V]at z;refine vb hR ho dR jb (body:=d.body) rfl rfl rfl rfl (binds:=ps.zip vs) (λA' Q E h=>by refine ag (dT _ _ _ vs EY) ?_;exact en h) (λx I=>lU x.1 (Z3 I).1) dp ?_ (λi x hi=>?_) (λi j x y hi hj AG h1 h2=>?_)
  (hB _) V (λS hs hX hF F' M' aC ak v s' Y h=>?_) (λS hs hX hF F' M' aC ak cls e s' Y h1 h2=>?_) (.inr λZ h=>h) ?_ mS f_ hk
 ·simp only[aO,nx,ro,Q_];have:xs.length<=names.length:=by refine ag hrest (ag nx (ag mT ?_));exact xm _ _
  lia
 ·refine ag bI ?_;cases I:xs[i]? with
  |none=>trivial
  |some a=>
   refine ax (hv.get I) λv yB gv=>?_;have th:i<xs.length:=(gw.mp I).1;have yC:ps[i]? =some x:=by rw[hrest,R0 (by refine fP mT ?_;exact th)]at hi;exact hi
   exact⟨v,cY td yC yB,gv⟩
 ·rw[bI]at h1;cases I:xs[i]? <;>rw[I]at h1<;>(exfalso;cases h1)
 ·clear hR ho jb hv V;subst hs hF;have T:Step W S.s₀ s':=Y.step.none λp h=>by rw[hX]at h;exact h
  have G:bP S.s₀ s' S.fu F':=⟨Y.grow.1,λa h=>(Y.grow.2 a h).imp id λh=>h.elim (λh=>by rw[hX]at h;exact h.elim) id⟩;refine MR h ?_ ?_;rotate_left;clear h;rintro rfl rfl;rotate_right;clear h;rintro av rfl gv
  ·simp only[bg,e4]at z;subst z;exact⟨av,F',rfl,T,G,gv⟩
  ·simp only[bg,e4]at z;subst z;exact⟨.none,F',rfl,T,G,by first|rfl|exact⟨_,rfl⟩|simp[lL,lM,lN,mh,ED]⟩
 ·clear hR ho jb hv V;subst hs h1;simp only[bg,e4]at z;subst z;exact⟨cls,e,rfl,rfl,Y.step.none λp h=>by rw[hX]at h;exact h,h2⟩
 ·cases ou with
  |next J=>exact .inr (.inl ⟨J,rfl⟩)
  |ret a=>exact .inl ⟨a,rfl⟩
  |ex c J=>exact .inr (.inr ⟨c,J,rfl⟩)
  |brk J=>simp[bg]at z
  |cont J=>simp[bg]at z
set_option tactic.hygienic true in
theorem F4{x:Str}{es:List u_}{g:St->Rs (List AV)}
  (hi:fn.names[i]? =some x) (hk:fn.scope.names.lookup x=some .local\/fn.scope.names.lookup x=some .cell) (hd:(x==("__debug__":Str))=false)
  (hg:fG W false fn es g) (hp:a7 es=true) (hf:Rh W (W.lf k) rk spec) (jC:rk+2<=fn.rank):
  aL W false fn (.Call (.Name x np) es [] pos) (λJ=>match J.getD i .un with
   | .fn k'=>if k'=k then bindR (g J) spec else none
   |_=>none):=.mk λS F M cur J r s V R U=>by
 split at U
 case h_2=>exact aZ U
 rename_i k' iY;split at U
 case isFalse=>exact aZ U
 rename_i I;subst I;have z:=R.slots i x hi;rw[iY]at z;refine ax z λv Y y1=>?_;clear z;refine Se y1 ?_;clear y1;rintro a o pm cd doc rfl _;refine ZY (Z6 (cD V R hk Y ?_) hd);refine qd (bM hp ?_);refine gM U (hg.run S F M cur J · s pos V R) λxs h2 vs aQ s₂ aD a_ gA=>?_;have aM:=R.move V aD a_;have z:=aM.slots i x hi;rw[iY]at z;refine ax z λUm xK y3=>?_;clear z;refine nG y3 ?_;clear y3;rintro K5 oO Pg Wm K6 rfl Im jg gI y4;refine q8 y4 ?_;clear y4;rintro c oc ws t rfl yQ yq zR hz hq;have e:K5=a:=by rw[Y]at xK;injection xK with e;injection e with e;exact e.symm
 clear Y;subst e;have Ph:wpAny (model W.prog W.w) S.A (call (.ref K5) vs []) (PE W aQ s₂ r) (PX W S s₂ r) s₂:=by
  refine abK (aaM (hf S.A (S.fe::S.outer) aQ s₂ xs vs r K5 oO Pg _ K6 (gi V aM ⟨rfl,rfl,by lia,by lia⟩ (λZ h=>h.elim) (λh=>h) jC) jg gI ⟨c,oc,ws,t,rfl,yq,zR,hq⟩ gA h2) λres s' I=>?_);cases res with
  |ok fl=>
   cases fl with
   |ret v=>exact I
   |_=>exact I
  |error x=>
   refine bF I λcls e h1 h2 h3 h4=>?_;clear I;exact⟨cls,e,h1,h2,h3,h4.Af⟩
 exact⟨⟨oO,_,jg,gI⟩,PX.raise aD (fm Ph (λZ Z x=>x.lift aD a_) λZ Z x=>x)⟩
theorem Pj{x:u_}{f:St->Rs AV}(h:cw W q fn x f):aL W q fn (.UnaryOp .Not x pos) (λJ=>bindR (i4 (f J)) λb=>aA (.bool !b)):=.mk λS F M cur J r s Y R U=>by
 refine wpAny_UnaryOp (pG (bJ U) ?_ ?_);rotate_left;intro b e0 U;rotate_right;clear U;rintro c e0 rfl
 ·refine pG (bJ e0) (λc' V z=>?_) λa V z=>?_
  ·cases z;exact after (h.run S F M cur J _ s Y R V) yt λZ Z Z Z h=>sW h
  ·cases I:cI a<;>rw[I]at z<;>(exfalso;cases z)
 ·cases U;refine pG (bJ e0) (λc' V z=>?_) λa V z=>?_
  ·exfalso;cases z
  refine after (h.run S F M cur J _ s Y R V) rd λa' v aB af ha T G hv=>?_;clear e0;clear U;cases ha;rcases I:cI a with _|b'
  ·rw[I]at z;exfalso;cases z
  rw[I]at z;cases z;refine n4 (az (fm (iZ.run S aB M cur J b af a v Y (R.move Y T G) hv I) (λb' s' x=>?_) λZ Z x=>x.elim));refine aX x ?_;clear x;clear I;rintro rfl T';exact en ⟨_,aB,rfl,T.trans T',G.trans T.size T'.size (.refl _ _ _),by first|rfl|exact⟨_,rfl⟩|simp[lL,lM,lN,mh,ED]⟩
noncomputable def zo(eq:AV->AV->Option Bool):List AV->List AV->Option (List Bool)
 |[],[]=>some []
 |x::xs,y::ys=>(eq x y).bind λb=>(zo eq xs ys).map (b::·)
 |_,_=>none
theorem Pk:zo eq (x::xs) (y::ys)=(eq x y).bind λb=>(zo eq xs ys).map (b::·):=rfl
def eq1(a b:AV):Option Bool:=Me a (lH a b) λxs=>Me b (lH a b) λys=>if xs.length=ys.length then(zo lH xs ys).map (·.all _root_.id)else some false
def Ri(a b:AV):Rs AV:=kI a λxs=>kI b λys=>if xs.length=ys.length then(zo eq1 xs ys).map λl=>.ok (.bool (!l.all _root_.id))else aA (.bool true)
open PySem.SeqAt in
theorem wy{eq:AV->AV->Option Bool}{F:fF->Prop}(U:∀x y v w b,VR h F x v->VR h F y w->eq x y=some b->EqAt A s v w b):∀{xs ys:List AV}{vs ws:List cz}{l:List Bool},bL h F xs vs->bL h F ys ws->zo eq xs ys=some l->l.length=vs.length/\vs.length=ws.length/\∀(j:Nat)(h1:j<vs.length)(h2:j<ws.length),EqAt A s vs[j] ws[j] (l.getD j true)
 |[],[],_,_,l,z,I,e=>by
  subst z I;cases e;exact⟨rfl,rfl,λj h1=>absurd h1 (Nat.not_lt_zero _)⟩
 |x::xs,y::ys,_,_,l,z,I,e=>by
  refine bV z ?_;clear z;rintro v vs rfl a1 a2;refine bV I ?_;clear I;rintro w ws rfl Y Z;refine ax (z0.mp e) λb e1 V=>ax (r0.mp V) ?_;clear e V;rintro l' e3 rfl;refine fQ (wy U a2 Z e3) λi1 i2 i3=>⟨by simp[i1],by simp[i2],λj h1 h2=>?_⟩;cases j with
  |zero=>exact U x y v w b a1 Y e1
  |succ j=>exact i3 j (by simpa using h1) (by simpa using h2)
 |[],_::_,_,_,_,_,_,e=>by exfalso;cases e
 |_::_,[],_,_,_,_,_,e=>by exfalso;cases e
theorem SeqAt.inj{T:String}{a:fF}{ws:List cz}(x:SeqAt T h a vs)(y:SeqAt T h a ws):vs=ws:=by
 obtain⟨n,sl,z⟩:=x;obtain⟨U,V,I⟩:=y;have e:=congrArg Obj.data (gq (z.symm.trans I));injection e with e
 exact congrArg Array.toList e
theorem uc{F:fF->Prop}:∀{xs ys:List AV}{vs:List cz}{l:List Bool},bL h F xs vs->bL h F ys vs->zo lH xs ys=some l->l.all _root_.id=true
 |[],[],_,l,_,_,e=>by cases e;rfl
 |x::xs,y::ys,_,l,z,I,e=>by
  refine bV z ?_;clear z;rintro v vs rfl a1 a2;refine bV I λw ws V Y Z=>?_;clear I;cases V;refine ax (z0.mp e) λb e1 U=>ax (r0.mp U) ?_;clear e U;rintro l' e3 rfl;refine ag ado (ag (uc a2 Z e3) (ag ((ky a1 Y e1).refl rfl) ?_));rfl
 |[],_::_,_,_,_,_,e=>by cases e
 |_::_,[],_,_,_,_,e=>by cases e
theorem oY:∀(l:List Bool),(ZK l.length).all (λi=>l.getD i true)=l.all _root_.id:=range_all
open PySem.SeqAt in
theorem K7{F:fF->Prop}{A:XQ}{s:ea}(hs:s.heap=h)(hu:A.units<cLine){x y:AV}{v w:cz}(U:VR h F x v)(hw:VR h F y w)(he:eq1 x y=some b):EqAt A s v w b:=by
 subst hs;refine Me.el he (λxs hx h1=>Me.el h1 (λys hy h2=>?_) λh=>rh U hw h) λh=>rh U hw h
 ·clear he h1;have he:=h2;clear h2;subst hx hy;refine bF U ?_;clear U;rintro l vs rfl _ V Y;refine bF hw ?_;clear hw;rintro m ws rfl _ I Z;by_cases z:xs.length=ys.length
  ·rw[if_pos z]at he;clear z;refine ax (r0.mp he) ?_;clear he;rintro bs e1 rfl;by_cases z:l=m
   ·subst z;have:vs=ws:=V.inj I;clear I;subst this;rw[uc Y Z e1];exact .same _
   ·refine fQ (wy (A:=A.in1) (s:=s) (λx y v w b a1 a2 a3=>rh a1 a2 a3) Y Z e1) λi1 i2 i3=>?_;rw[<-oY,i1];have:=RcAt.lists (A:=A) (s:=s) (e:=λj=>bs.getD j true) V.list I.list i2 hu λj h1 h2=>by simpa using i3 j h1 h2
    rw[KG]at this;exact .of_refs z this
  ·rw[if_neg z]at he;cases he;have h1:vs.length≠ws.length:=by rw[Y.length,Z.length];exact z
   refine .of_refs (λe=>?_) (RcAt.lists_lengths V.list I.list (by simpa using h1) hu);subst e;exact h1 (congrArg ZL (V.inj I))
theorem K8:jQ W q fn (compareOp .NotEq) Ri:=.mk λS F M cur J r s a b v w hS R I hw hg=>by
 refine kI.el hg λxs hx h1=>kI.el h1 λys hy h2=>?_;clear hg h1;have hg:=h2;clear h2;subst hx hy;refine bV I.lst ?_;clear I;rintro l vs rfl U V;refine bV hw.lst ?_;clear hw;rintro m ws rfl Y Z;have hu:S.A.units+1<cLine:=by have:=hS.room.2;show _<9900;lia
 by_cases z:xs.length=ys.length
 ·rw[if_pos z]at hg;refine ax (r0.mp hg) ?_;clear hg;rintro bs e1 rfl;refine fQ (wy (A:=S.A.in1) (s:=s) (λx y v w b a1 a2 a3=>K7 rfl hu a1 a2 a3) V Z e1) λi1 i2 i3=>SeqAt.RcNeAt.lists (A:=S.A) (s:=s) (e:=λj=>bs.getD j true) U.list Y.list i2 (by exact Kt ‹_›) (λj h1 h2=>by simpa using i3 j h1 h2) _ _ _ _ ?_;rw[KG,<-i1,oY];exact PE.done (.refl R.stays) (rfl)
 ·rw[if_neg z]at hg;cases hg;exact SeqAt.RcNeAt.lists_lengths U.list Y.list (by simp[V.length,Z.length];exact z) (by exact Kt ‹_›) _ _ _ _ (PE.done (.refl R.stays) (rfl))
theorem sd{w:aab}{l:fF}{items:Array cz}{t:Tok}{v:cz}{Q:Unit->ea->Prop}(z:s.heap.IsList l items)(V:0<items.size)(I:Q () {s with heap:=s.heap.update l (acn (·.setIfInBounds (items.size-1) v))}):wpAny (model prog w) A (setItem (.ref l) (.int (-1) t) v) Q E s:=by
 refine MN (id z) λo U hc ne hd=>?_;have Y:seqIndex? (-1) items.size=some (items.size-1):=by
  exact ag (seqIndex_neg (by decide) (show-(items.size:Int)<=-1 from Int.neg_le_neg (Int.ofNat_le.mpr V))) (congrArg some Sz)
 have Z:items[items.size-1]? =some (items[items.size-1]'(by exact aaG ‹_› (rv _))):=Array.getElem?_eq_getElem (by exact aaG ‹_› (rv _));unfold setItem
 try with_reducible refine n4 ?_
 first|refine az (en ?_)|skip
 refine az (wpAny_sequenceKey z.typeIs (by decide) ?_);refine az (aaf (name:=oK "__setitem__") z.typeIs slot_list_setitem
  (Nh slot_list_setitem z.typeIs entry_list_setitem ?_ (args_list_setitem _ _ _)))
 show wpAny _ _ (Builtin.List.listSubscript? (.int (-1) t)>>=_) _ _ s;refine az (wpAny_listSubscript_int (fitsIndex_neg (by decide) (by decide)) ?_);show wpAny _ _ ((Builtin.List.listItems (.ref l)>>=λxs=>pure ((seqIndex? (-1) xs.size).bind λi=>xs[i]?.map (i,·)))>>=_) _ _ s;refine az (az ?_);show wpAny _ _ (seqItems? (.ref l)>>=_) _ _ s;refine az (ace U hd (en (en ?_)));refine ag Y ?_;simp only[Mr,Z,aaq];show wpAny _ _ (setSeqItemAt l (items.size-1) v>>=_) _ _ s;refine az (wpAny_setSeqItemAt U hd ?_)
 first
  |exact az (en (en ⟨.none,rfl,en I⟩))
  |exact en ⟨.none,rfl,en I⟩
theorem bL.setAt{F:fF->Prop}{x:AV}{v:cz}:∀{xs:List AV}{vs:List cz}(k:Nat),bL h F xs vs->VR h F x v->bL h F (xs.set k x) (vs.set k v):=by
 intro xs
 induction xs with
 |nil=>
  intro _ k r _;subst r;simp[zQ]
 |cons y ys IH=>
  intro _ k r z;refine bV r ?_;clear r;rintro w ws rfl U I;cases k with
  |zero=>simp only[List.set_cons_zero,yo];exact⟨v,ws,rfl,z,I⟩
  |succ k=>simp only[List.set_cons_succ,yo];exact⟨w,_,rfl,U,IH k I z⟩
def xM(i:Nat)(x:Rs AV)(J:St):Option Ou:=match J.getD i .un with
 | .own xs=>aU x J λa=>if xs≠[]then some (.next (J.set i (.own (xs.set (xs.length-1) a))))else none
 |_=>none
theorem F5{x:Str}{up ip tp:Pos}{f:St->Rs AV}(hn:dE fn i x)(BQ:(x==("__debug__":Str))=false)(h:aL W q fn value f)(hs:∀env,swapsWith value (some (.Subscript (.Name x np) (.UnaryOp .USub (.Constant (.int 1) k ip) up) tp)) pos.line env=pure false):aR W q fn (.Assign [.Subscript (.Name x np) (.UnaryOp .USub (.Constant (.int 1) k ip) up) tp] value pos) (λJ=>xM i (f J) J):=.mk λS F M cur J r s I R z=>cps λQ E kQ kE=>by
 refine wpAny_Assign_Subscript ?_ (hs _);have hk:fn.scope.names.lookup x=some .local\/fn.scope.names.lookup x=some .cell:=hn.2.imp id λh=>h.1;have iY:=R.slots i x hn.1;simp only[xM]at z;cases U:J.getD i .un with
 |un=>exact aZ (U▸z)
 |im b=>exact aZ (U▸z)
 |ob C ks xs=>exact aZ (U▸z)
 |fn d=>exact aZ (U▸z)
 |own xs=>
  rw[U]at z iY;refine bF iY λa vs hc Y jA hr=>?_;clear iY;refine Jx kE I R z (h.run S F M cur J · s I R) λy h2 v aB af T G hv=>?_;split at h2
  case isFalse=>exact aZ h2
  rename_i hz;revert h2;refine bc λe=>?_;clear kE z;subst e;have aI:=R.move I T G;have jf:LstAt af.heap a vs:=jA.step T (R.bS I Y);have n6:=R.Ma I T G hr;refine Z6 (cD I aI hk hc ?_) BQ;refine wpAny_UnaryOp (wpAny_Constant_int (P.neg_int ?_));have hlen:0<vs.toArray.size:=by refine ag KG (ag hr.length ?_);exact adm.mpr hz
  refine sd (s:={af with toks:=af.toks+1+1}) jf.list hlen ?_;obtain⟨n₁,NL,vo⟩:=id jf;have hu:LstAt (af.heap.update a (acn (·.setIfInBounds (vs.toArray.size-1) v))) a (vs.set (xs.length-1) v):=by
   have h:=JP (acn (·.setIfInBounds (vs.toArray.size-1) v)) vo rfl;simp only[acn,KG,List.setIfInBounds_toArray,hr.length]at h⊢;exact⟨_,_,h⟩
  have V:NC a af.heap (af.heap.update a (acn (·.setIfInBounds (vs.toArray.size-1) v))):=ZJ ..;revert hu V;generalize af.heap.update a (acn (·.setIfInBounds (vs.toArray.size-1) v))=h';intro hu V;refine fQ (aI.xp jf) λg1 g2 g3=>?_;have Ta:=n6.setAt (xs.length-1) hv;have dW:(J.getD i .un).bR=true:=by refine ag U ?_;rfl
  have aM:=(aI.BP (lv:=.own (xs.set (xs.length-1) y)) (t:=af.toks+1+1) I hn.1 Y V g3 g1 g2 dW ⟨a,vs.set (xs.length-1) v,hc,Y,hu,Ta.mono (λb hb o ho=>⟨o.slots,(V.2 b λe=>(aI.mu a Y).2.2 (e▸hb)).trans ho⟩) λZ h=>h⟩ (aI.n5 hn.1 dW hc jf) (by obtain⟨n',dH,h1⟩:=hu;exact⟨_,h1,by rintro⟨ws,h3,_⟩;cases h3⟩)).1;refine kQ _ _ ⟨aB,M,cur,_,aM,⟨λp o sM e'=>?_,?_,λZ h=>.inl h,G.1,λb hb=>(G.2 b hb).imp id λh=>.inr h.1,T.gens⟩,rfl⟩
  ·exact au (T.slots p o (λh=>sM (.inl h)) e') λdH h1=>⟨dH,(V.2 p λe=>sM (.inr (e▸Y))).trans h1⟩
  ·show aJ s<=h'.objs.size;exact ag V.1 T.size
theorem iR.type{P:kX}{d:fF}{ks:List (List UInt8)}(x:iR P s.heap d ks vs):s.TypeIs (.ref d) "dict":=by
 exact dh x.2 λo es U z I Z=>⟨o,z,I⟩
section
variable {prog:abf} {w:aab} {A:XQ} {E:cz->ea->Prop} {s:ea} {d:fF} {ks:List (List UInt8)} {vs:List cz} {k:List UInt8} {t:Tok}
theorem ud{Q:Option cz->ea->Prop}(x:iR w.params s.heap d ks vs)(h:Q ((ks.zip vs).lookup k) {s with toks:=s.toks+1}):wpAny (model prog w) A (dictGet d (.bytes k.toArray t)) Q E s:=by
 refine MO x λZ o es ep z hc hn hd V Y=>?_;have I:(bytesKind prog w).is k (.bytes k.toArray t)=true:=by simp[bytesKind,isBytes]
 try with_reducible refine n4 ?_
 refine az ((bytesKind prog w).pyHash I (az (wpAny_dictFind_of (knd:=bytesKind prog w) (s:={s with toks:=s.toks+1}) I z hd V ?_)));rw[<-Y k,findBy_of_findIdx?]at h;show wpAny _ _ (match es.findIdx? λe=>isBytes k e.key with|some i=>_|none=>_) _ _ _;cases U:es.findIdx? λe=>isBytes k e.key with
 |none=>rw[U]at h;exact en h
 |some i=>rw[U]at h;exact az (wpAny_dictEntries (s:={s with toks:=s.toks+1}) z hd (en h))
theorem K9{Q:cz->ea->Prop}(x:iR w.params s.heap d ks vs)(h:Q (.bool ((ks.zip vs).lookup k).isSome) {s with toks:=s.toks+1}):wpAny (model prog w) A (compareOp .In (.bytes k.toArray t) (.ref d)) Q E s:=by
 show wpAny _ _ (do return .bool (<-contains (.ref d) (.bytes k.toArray t))) Q E s;refine az ?_;unfold contains
 try with_reducible refine n4 ?_
 refine az (abg x.type aco.lookup ?_);show wpAny _ _ (if(some (Value.builtin "dict.__contains__")==some Tg)=true then _ else _) _ E s;refine cM (by rw[beq_builtin_none];exact BA) ?_;refine az (wpAny_callSpecialUnlessNone?_slot (name:=oK "__contains__") x.type aco
  (Nh aco x.type entry_dict_contains ?_ (args_dict_contains _ _)))
 show wpAny _ _ (dictGet d (.bytes k.toArray t)>>=_) _ _ s;refine az (ud x ?_);cases z:(ks.zip vs).lookup k with
 |some v=>
  rw[z]at h;show wpAny _ _ (ret (.bool true)) _ _ _;exact en ⟨_,rfl,aat (en h)⟩
 |none=>
  rw[z]at h;show wpAny _ _ (Builtin.Dict.pendingKey? d (.bytes k.toArray t)>>=_) _ _ _;exact az (wpAny_pendingKey_other x.1 (en ⟨_,rfl,aat (en h)⟩))
theorem F6{v:cz}{Q:cz->ea->Prop}(x:iR w.params s.heap d ks vs)(z:(ks.zip vs).lookup k=some v)(h:Q v {s with toks:=s.toks+1}):wpAny (model prog w) A (getItem (.ref d) (.bytes k.toArray t)) Q E s:=by
 unfold getItem
 try with_reducible refine n4 ?_
 refine az (wpAny_sequenceKey x.type (by decide) ?_);refine az (aaf (name:=oK "__getitem__") x.type acw
  (Nh acw x.type entry_dict_getitem ?_ (args_dict_getitem _ _)))
 show wpAny _ _ (dictGet d (.bytes k.toArray t)>>=_) _ _ s;refine az (ud x ?_);exact ag z (en ⟨v,rfl,en h⟩)
theorem ue:∀{xs:List α}{ys:List β}{x:α}{y:β},xs.length=ys.length->(xs++[x]).zip (ys++[y])=xs.zip ys++[(x,y)]
 |[],[],_,_,_=>rfl
 |_::xs,_::ys,x,y,h=>by simp[ue (xs:=xs) (ys:=ys) (by simpa using h)]
theorem uf{x k:List UInt8}{v:cz}:∀(l:List (List UInt8×cz)),l.lookup k=none->(l++[(k,v)]).lookup x=if x=k then some v else l.lookup x:=by
 intro l
 induction l with
 |nil=>
  intro _;by_cases z:x=k
  ·subst z;simp
  ·simp[zd,z,show(x==k)=false by simpa using z]
 |cons U l IH=>
  intro h;obtain⟨y,u⟩:=U;rw[zd]at h;refine ag Xm (ag zd (ag zd ?_));by_cases I:(k==y)=true
  ·rw[I]at h;exact z9 h
  rw[show(k==y)=false by simpa using I]at h;by_cases z:(x==y)=true
  ·refine ag z ?_;have V:x=y:=by simpa using z
   rw[if_neg (λe=>I (by rw[<-e,V];simp))]
  ·exact ag (show(x==y)=false by simpa using z) (IH h)
theorem F7{v:cz}{Q:Unit->ea->Prop}(x:iR w.params s.heap d ks vs)(hl:ks.length=vs.length)(hz:vs.length<=20)(aJ:∀o es ep,s.heap.get? d=some o->o.data= .dict es ep->es.size<=20)(hn:(ks.zip vs).lookup k=none)(hQ:∀h',NC d s.heap h'->iR w.params h' d (ks++[k]) (vs++[v])->(∀o es ep,s.heap.get? d=some o->o.data= .dict es ep->∀o' pS rq,h'.get? d=some o'->o'.data= .dict pS rq->pS.size<=es.size+1)->Q () {s with heap:=h',toks:=s.toks+1}):wpAny (model prog w) A (dictSet d (.bytes k.toArray t) v) Q E s:=by
 refine MO x λh0 o es ep z hc t4 hd hk hf=>?_;have wz:(bytesKind prog w).is k (.bytes k.toArray t)=true:=by simp[bytesKind,isBytes]
 have I:es.findIdx? (λe=>isBytes k e.key)=none:=by
  have:=hf k;rw[hn,findBy_of_findIdx?]at this;cases I:es.findIdx? λe=>isBytes k e.key with
  |none=>rfl
  |some i=>
   rw[I]at this;refine au (Array.findIdx?_eq_some_iff_getElem.mp I) λh_ Z=>?_;simp[h_]at this
 unfold dictSet
 try with_reducible refine n4 ?_
 refine az ((bytesKind prog w).pyHash wz ?_);unfold dictSetHashed
 try with_reducible refine n4 ?_
 refine az (wpAny_dictFind_of (knd:=bytesKind prog w) (s:={s with toks:=s.toks+1}) wz z hd hk ?_);show wpAny _ _ (match es.findIdx? λe=>isBytes k e.key with|some i=>_|none=>_) _ _ _;refine ag I ?_;have km:es.size<=sizeLine:=by refine ag aau ?_;have:=aJ _ _ _ z hd;exact bU ‹_› (by decide)
 refine az (ZR (wpAny_updateDictKeys (hz:=km) (s:={s with toks:=s.toks+1}) z hd ?_));have U:=Obj.data_mapDictKeys hd (·.push ⟨hashW w.params (.bytes k),.bytes k.toArray t,v⟩);have hg:(s.heap.update d (Obj.mapDictKeys (·.push ⟨hashW w.params (.bytes k),.bytes k.toArray t,v⟩))).get? d=some (Obj.mapDictKeys (·.push ⟨hashW w.params (.bytes k),.bytes k.toArray t,v⟩) o):=JP _ z (Obj.isFreed_of_dict U);refine hQ _ (ZJ ..) ⟨h0,_,_,_,hg,?_,?_,U,?_,λx=>?_⟩ ?_
 ·clear z t4 U hg;obtain⟨c,dd,dt,sl⟩:=o;simp only at hd;subst hd;exact hc
 ·clear hc;clear z U hg;obtain⟨c,dd,dt,sl⟩:=o;simp only at hd;subst hd;exact t4
 ·intro e he;refine g' (ade.mp he) ?_ ?_;rotate_left;clear he;rintro rfl;rotate_right;intro h
  ·exact hk e h
  ·exact⟨k,wz,rfl⟩
 ·rw[findBy_push isBytes es k x _ _ v (KeyKind.is_eq_decide (knd:=bytesKind prog w) wz) I,hf,ue hl,uf _ hn]
 ·intro FH Ot Ov e1 V oO Ox Oy e3 Y;rw[z]at e1;revert e1;refine bc λe=>?_;subst e;rw[hd]at V;refine dK ?_ V;clear V;intro V;cases V;obtain rfl:=gq (hg.symm.trans e3);rw[U]at Y;refine dK ?_ Y;clear Y;intro Y;cases Y;simp
end
theorem bL.look{F:fF->Prop}{k:List UInt8}:∀{ks:List (List UInt8)}{xs:List AV}{vs:List cz},bL h F xs vs->match (ks.zip xs).lookup k with|some a=>∃v,(ks.zip vs).lookup k=some v/\VR h F a v|none=>(ks.zip vs).lookup k=none
 |[],xs,vs,r=>by simp
 |_::_,[],vs,r=>by subst r;simp
 |y::ks,x::xs,vs,r=>by
  refine bV r ?_;clear r;rintro v ws rfl z I;refine ag P8 (ag P8 (ag zd (ag zd ?_)));cases U:k==y with
  |true=>exact⟨v,rfl,z⟩
  |false=>exact bL.look I
noncomputable def ug{β:Type}(x c:AV)(k:List UInt8->kX->List (List UInt8)->List AV->Option β):Option β:=match x with
 | .aa b=>(match c with| .Ef P ks xs=>k b P ks xs|_=>none)
 |_=>none
theorem ug.el{x c:AV}{k:List UInt8->kX->List (List UInt8)->List AV->Option β}{r:β}(h:ug x c k=some r)(K:∀b P ks xs,x= .aa b->c= .Ef P ks xs->k b P ks xs=some r->G):G:=by
 cases x<;>first|exact aZ h|(cases c<;>first|exact aZ h|exact K _ _ _ _ rfl rfl h)
open Classical in
def inD(P:kX)(x c:AV):Rs AV:=ug x c λk z ks xs=>if z=P then aA (.bool ((ks.zip xs).lookup k).isSome)else none
theorem K_{P:kX}(V:W.w.params=P):jQ W q fn (compareOp .In) (inD P):=.mk λS F M cur J r s a b v w hS R z hw hg=>by
 refine ug.el hg λk P' ks xs U Y h2=>?_;clear hg;have hg:=h2;clear h2;subst U Y;split at hg
 case isFalse=>exact aZ hg
 rename_i Uv;subst Uv;refine dK ?_ hg;clear hg;intro hg;cases hg;have z:=z.dB rfl;have hw:=hw.vr (by simp);refine au z ?_;clear z;clear z;rintro t rfl;refine bF hw ?_;clear hw;clear hw;rintro c vs rfl _ hd hr;rw[<-V]at hd;refine K9 hd (PE.done (.toks R.stays) ?_);simp only[lL,lM,lN,mh,Value.bool.injEq];have I:=hr.look (k:=k) (ks:=ks);cases U:(ks.zip xs).lookup k with
 |none=>rw[U]at I;refine ag I ?_;rfl
 |some a=>rw[U]at I;refine ax I λu h1 Z=>?_;clear I;refine ag h1 ?_;rfl
open Classical in
def xN(P:kX)(c x:AV):Rs AV:=ug x c λk z ks xs=>if z=P then((ks.zip xs).lookup k).map .ok else none
theorem C5{P:kX}{a b:AV}{r:Except cz AV}(h:xN P a b=some r):∃k ks xs x,b= .aa k/\a= .Ef P ks xs/\(ks.zip xs).lookup k=some x/\r= .ok x:=by
 refine ug.el h λk V ks xs z I h2=>?_;clear h;have h:=h2;clear h2;subst z I;split at h
 case isFalse=>exact aZ h
 rename_i U;subst U;refine ax (r0.mp h) ?_;clear h;rintro x h1 rfl;exact⟨_,_,_,x,rfl,rfl,h1,rfl⟩
theorem La{P:kX}{z:u_}{f g:St->Rs AV}(hP:W.w.params=P)(hf:cw W q fn value f)(hg:cw W q fn z g)(hp:kH z=true):aL W q fn (.Subscript value z pos) (λJ=>bindR (f J) λa=>bindR (g J) λb=>xN P a b):=.mk λS F M cur J r s I R Y=>by
 rw[ac9];refine az (gM Y (hf.run S F M cur J · s I R) λa h2 v aB af T G hv=>?_);have aI:=R.move I T G;refine PX.raise T (az (n4 ?_));refine gM h2 (hg.run S aB M cur J · af I aI) λb h4 w aQ s₂ U Z hw=>?_;have aM:=aI.move I U Z;have V:=aI.vh I U Z hv;refine z6 (C5 h4) ?_;clear Y h2 hv h4;rintro k ks xs x rfl rfl hl rfl;have V:=V.vr (by simp);have hw:=hw.dB rfl;refine au hw ?_;clear hw;clear hw;rintro t rfl;refine bF V ?_;clear V;clear V;rintro c vs rfl _ hd Y;rw[<-hP]at hd;have xC:=Y.look (k:=k) (ks:=ks);rw[hl]at xC;refine ax xC λu e1 e2=>?_;clear xC;refine az (IW (nP hd.type ⟨_,acw.lookup⟩ (qy hp) (F6 hd e1 ?_)));exact⟨x,aQ,rfl,(T.trans U).trans (.toks U.stays),(G.trans T.size U.size ⟨Z.1,Z.2⟩),e2⟩
def oZ:List (List UInt8)->List cz->Prop
 |[],vs=>vs=[]
 |k::ks,vs=>∃t ws,vs= .bytes k.toArray t::ws/\oZ ks ws
theorem se:oZ [] vs=(vs=[]):=rfl
theorem ll:oZ (c::cs) vs=∃t ws,vs= .bytes c.toArray t::ws/\oZ cs ws:=rfl
structure F8(W:Wd)(q:Bool)(fn:ek)(keys:List (Option u_))(values:List u_)(ks:List (List UInt8))(f:St->Rs (List AV)):Prop where
 run:∀S F M cur J r s pos,S.Ok W fn q->Rel W S fn F M cur J s->f J=some r->
 wpAny (model W.prog W.w) S.A (evalPairs (pairTrees keys values S.env pos)) (λvs s'=>oZ ks (vs.map (·.1))/\PL W F s r (vs.map (·.2)) s') (PX W S s r) s
theorem Pl:F8 W q fn [] [] [] (λZ=>aA []):=.mk λS F M cur J r s pos I R z=>by
 cases z;exact evalPairs_nil ⟨by simp[se,ll],[],F,rfl,.refl R.stays,.refl _ _ _,by simp[zQ]⟩
theorem o4{b:List UInt8}{kk:Nat}{kp:Pos}{v:u_}{keys:List (Option u_)}{values:List u_}{ks:List (List UInt8)}{f:St->Rs AV}{g:St->Rs (List AV)}(h:aL W q fn v f)(hs:F8 W q fn keys values ks g):F8 W q fn (some (.Constant (.bytes b) kk kp)::keys) (v::values) (b::ks) (λJ=>bindR (f J) λa=>bindR (g J) λas=>aA (a::as)):=.mk λS F M cur J r s pos z R U=>by
 have hc:wpAny (model W.prog W.w) S.A (eval (.Constant (.bytes b) kk kp) S.env) (λv s'=>v= .bytes b.toArray s.toks/\s'={s with toks:=s.toks+1}) (λZ Z=>False) s:=λΓ p Z=>⟨rfl,rfl⟩;refine evalPairs_cons (fm hc (λkv af h=>?_) λZ Z h=>h.elim);refine aX h ?_;clear h;rintro rfl rfl;have I:Step W s {s with toks:=s.toks+1}:=.toks R.stays;have V:=R.move z I (.refl _ _ F);refine az (pG (bJ U) ?_ ?_);rotate_left;intro a h1 h2;rotate_right;clear U;rintro c h1 rfl
 ·exact PX.raise I (iX (h.run S F M cur J _ _ z V h1) yt λZ Z Z Z h=>sW h)
 refine PX.raise I (iX (h.run S F M cur J _ _ z V h1) rd λa' w aB af ha T G hv=>?_);clear U;cases ha;refine az (IW (en ?_));have Y:=V.move z T G;refine PX.raise (I.trans T) (pG (bJ h2) ?_ ?_);rotate_left;intro as h3 h4;rotate_right;clear h2;rintro c h3 rfl
 ·exact fm (hs.run S aB M cur J _ af pos z Y h3) (λZ Z h=>h.2.no) λZ Z x=>x.to yt
 clear h2;cases h4;refine fm (hs.run S aB M cur J _ af pos z Y h3) (λvs s₂ ⟨hk,xs,aQ,h,aD,a_,hr⟩=>?_) λZ Z x=>x.to rd;cases h;refine⟨?_,_,aQ,rfl,(I.trans T).trans aD,bP.trans (I.trans T).size aD.size ⟨G.1,G.2⟩ a_,?_⟩
 ·simp only[ll,G0];exact⟨_,_,rfl,hk⟩
 ·simp only[yo,G0];exact⟨w,_,rfl,Y.vr z aD a_ hv,hr⟩
theorem zp{w:aab}{d:fF}:∀(vs:List (cz×cz))(ks done:List (List UInt8))(ws:List cz)(s:ea)(Q:PUnit->ea->Prop),oZ ks (vs.map (·.1))->iR w.params s.heap d done ws->done.length=ws.length->ws.length+vs.length<=15->(done++ks).Nodup->(∀o es I,s.heap.get? d=some o->o.data= .dict es I->es.size<=ws.length)->(∀h',iR w.params h' d (done++ks) (ws++vs.map (·.2))->NC d s.heap h'->Q PUnit.unit {s with heap:=h',toks:=s.toks+vs.length})->wpAny (model prog w) A (storeAll d vs) Q E s:=by
 intro vs
 induction vs with
 |nil=>
  intro ks done ws s Q z hd _ _ _ _ U;cases ks with
  |nil=>unfold storeAll;rw[ada];exact en (by simpa using U s.heap (by simpa using hd) (Heap.SameBut.refl _ _))
  |cons k ks=>simp only[ll,ab8]at z;refine e7 z λZ Z h Z=>?_;clear z;exfalso;cases h
 |cons p0 vs IH=>
  intro ks done ws s Q z hd Y hz V aJ U;obtain⟨key,v⟩:=p0;cases ks with
  |nil=>simp[se]at z
  |cons k ks=>
   simp only[ll,G0]at z;refine e7 z ?_;clear z;intro t us he z;cases he;unfold storeAll;rw[abi];rw[CV]at hz;have YH:(done.zip ws).lookup k=none:=by
    rw[acF];intro p hp;have h1:=(Z3 hp).1;rw[ZZ]at V;have:=V.2.2 _ h1 k (by simp)
    simpa using λe=>this e.symm
   refine az (az (F7 hd Y (by exact bU (bU (xm _ _) ‹_›) (by decide)) (λo es I h1 h2=>by have:=aJ o es I h1 h2;lia) YH λaF cO mC kK=>en ?_));refine IH ks (done++[k]) (ws++[v]) _ Q z mC (by simp[Y]) (by simp;lia) (by simpa using V) (λo' pS rq h1 h2=>?_) λh' dg uS=>?_
   ·refine Si hd λZ o es I ho Z Z uU Z=>?_;clear hd;have:=kK o es I ho uU o' pS rq h1 h2;have:=aJ o es I ho uU;simp;lia
   ·have:=U h' (by simpa using dg) (cO.trans uS)
    simpa[ZV,Z8 1]using this
theorem zq:∀{ks:List (List UInt8)}{vs:List cz},oZ ks vs->vs.length=ks.length:=by
 intro ks
 induction ks with
 |nil=>
  intro vs h;simp only[se]at h;subst h;rfl
 |cons k ks IH=>
  intro vs h;simp only[ll]at h;refine e7 h ?_;clear h;rintro t ws rfl h;simp[IH h]
def Uw(P:kX)(ks:List (List UInt8))(x:Rs (List AV)):Rs AV:=bindR x λxs=>aA (.Ef P ks xs)
theorem Lb{P:kX}{keys:List (Option u_)}{values:List u_}{ks:List (List UInt8)}{f:St->Rs (List AV)}(hP:W.w.params=P)(h:F8 W q fn keys values ks f)(Ux:keys.all (·.isSome)=true)(hl:keys.length=values.length)(h0:keys≠[])(U:keys.length<=15)(ZE:ks.length<=15)(YI:ks.Nodup):aL W q fn (.Dict keys values pos) (λJ=>Uw P ks (f J)):=.mk λS F M cur J r s z R hf=>by
 have V:Step W s {s with heap:=s.heap.push {cls:=.type "dict",data:=.dict #[]}}:=.push R.stays (t:=s.toks);have Y:=R.move z V (.refl _ _ F|>λ(g:bP s s F F)=>⟨g.1,λa h=>.inl h⟩);have hd:s.heap.objs.size≠sysModules:=by
  refine au ((R.tab z).there (a:=cStatics) (.inr rfl)) λo I=>?_;have:=ye I;intro e;rw[e]at this;exact absurd this (by decide)
 refine wpAny_Dict_any Ux hl h0 U (pG (bJ hf) ?_ ?_);rotate_left;intro xs h1 h2;rotate_right;rintro c h1 rfl
 ·exact PX.raise V (fm (h.run S F M cur J _ _ pos z Y h1) (λZ Z h=>h.2.no) λZ Z x=>x.to yt)
 cases h2;refine PX.raise V (fm (h.run S F M cur J _ _ pos z Y h1) (λvs af ⟨hk,yu,aB,h,T,G,hr⟩=>?_) λZ Z x=>x.to rd);cases h;have aI:=Y.move z T G;have Wn:¬W.loose s.heap.objs.size:=λh=>f3 _ (bk (z.lb _ h) R.step.size);refine au (T.slots _ _ Wn (w' (h:=s.heap) (o:={cls:=.type "dict",data:=.dict #[]}) rfl)) λsl Pm=>?_;have YJ:iR W.w.params af.heap s.heap.objs.size [] []:=⟨by simpa using hd,_,#[],0,Pm,rfl,rfl,rfl,λe he=>by simp at he,λZ=>rfl⟩;have jS:¬aB s.heap.objs.size:=λh=>by
  refine g' (G.2 _ h) (λh=>?_) λh=>?_
  ·exact f3 _ (R.bound z h).1
  ·have:=h.1;rw[rW]at this;exact absurd ‹_› (f3 _)
 refine zp vs ks [] [] af _ hk YJ rfl ?_ YI (λo es ep h1 h2=>?_) λh' dg bO=>?_
 ·have:=zq hk;rw[ro]at this;simp;lia
 ·rw[Pm]at h1;revert h1;refine bc λe=>?_;subst e;cases h2;simp
 have TT:Step W s {af with heap:=h'}:=(V.trans T).but bO (t_ _) (λo I=>by rw[Pm]at I;revert I;refine bc λe=>?_;subst e;rintro⟨_,h,_⟩;cases h) (z.bh R.step.size) Wn;refine⟨.Ef P ks xs,λb=>aB b\/b=s.heap.objs.size,rfl,TT.trans (.toks TT.stays),⟨λb hb=>.inl (G.1 b hb),λb hb=>?_⟩,?_⟩
 ·have hz:h'.objs.size=af.heap.objs.size:=bO.1;have Fm:s.heap.objs.size+1<=af.heap.objs.size:=by have:=T.size;rw[rW]at this;exact this
  refine g' hb ?_ ?_;rotate_left;clear hb;rintro rfl;rotate_right;clear hb;intro hb
  ·refine g' (G.2 b hb) (λh=>?_) λh=>?_
   ·exact .inl h
   ·rw[rW]at h;exact .inr ⟨Nat.le_of_succ_le h.1,by show _<h'.objs.size;refine ag hz ?_;exact h.2⟩
  ·exact .inr ⟨t_ _,by show _<h'.objs.size;refine ag hz ?_;exact Fm⟩
 ·rw[hP]at dg;refine⟨_,_,rfl,.inr rfl,by simpa using dg,hr.mono (λb hb o I=>⟨o.slots,(bO.2 b λe=>jS (e▸hb)).trans I⟩) λb hb=>.inl hb⟩
section
variable {K:abd}
theorem zr{st:aaa}{f:St->Option Ou}{x:Str}(i:Nat)(hi:fn.names[i]? =some x)(h:RS W q fn st f):RS W q fn st (λJ=>f (yz i J)):=.mk λS F M cur J r s Y R hf=>by
 refine bF (R.freeze Y hi) λF' M' R' Z hF hG=>aV (h.run S F' M' cur (yz i J) r s Y R' hf) (λfl s' hp=>?_) λy s' hx=>?_
 ·exact hp.el λaQ z c₂ I U V hm=>⟨aQ,z,c₂,I,U,V.less Z hF hG,hm⟩
 ·exact hx.el λcls e n I aQ z c₂ h1 h2 U V h3 h4 h5 h6=>⟨cls,e,n,I,aQ,z,c₂,h1,h2,U,V.less Z hF hG,h3,h4,h5,h6⟩
theorem C6{a:fF}{f:St->Option Ou}{ps:List Str}{ds:List AV}{dvs:List cz}(ho:W.base.get? a=some o)(dR:o.data= .func fd)(jb:W.base.CodeRec fd.code fd.qualname)(dS:fd.body= .stmts body)(j4:fd.closure=[])(mw:fd.globals=3)(rt:fd.builtins=0)(Pm:∀h F,bL h F ds dvs)(dT:∀(vs:List cz) A Q E (s:ea),(vs++dvs).length=ps.length->W.base.StaysIn s.heap->Q (ps.zip (vs++dvs)) s->wpAny (model W.prog W.w) A (bindArgs fd ⟨vs,[]⟩) Q E s)(b9:∃rest,names=("self":Str)::(ps++rest))(dp:names.Nodup)(lU:∀x∈ps,fd.scope.names.lookup x=some .local\/fd.scope.names.lookup x=some .cell)(hB:RB W false ⟨fd.scope,names,rk,false,fd.code,fd.qualname⟩ body f)(mS:autoParam (fd.scope.isCoroutine=false) gQ)(f_:autoParam (fd.scope.isGenerator=false) gQ)(hk:autoParam (fd.scope.kind= .function) gQ):Mn W a rk (λxs=>if(xs++ds).length=ps.length then bg (f (.un::aO (names.length-1) (xs++ds)))else none):=λA outer F s xs vs r I hv z=>by
 simp only at z;split at z
 case isFalse=>exact aZ z
 rename_i mT;have Ek:bL s.heap F (xs++ds) (vs++dvs):=hv.app (Pm _ _);have EY:(vs++dvs).length=ps.length:=Ek.length.trans mT;refine au b9 λrest hrest=>?_;have td:ps.Nodup:=by rw[hrest]at dp;exact(ZZ.mp (abW.mp dp).2).1
 clear hv;rcases V:f (.un::aO (names.length-1) (xs++ds))with _|ou
 ·rw[V]at z;simp[bg]at z
 rw[V]at z;refine rP I (I.stays _ _ ho) dR (jb.keeps I.stays) dS j4 mw rt (binds:=ps.zip (vs++dvs)) (λA' Q E h=>dT vs A' Q E s EY I.stays h) (λx U=>lU x.1 (Z3 U).1) dp ?_ (λi x Y=>?_) (λi j x y Y hj AG h1 h2=>?_)
  hB V (λS hs hX hF F' M' aC ak v s' R' h=>?_) (λS hs hX hF F' M' aC ak cls e s' R' h1 h2=>?_) (.inr λZ h=>h) ?_ mS f_ hk
 ·simp only[aO,nx,ro,Q_,CV];have:(xs++ds).length<=names.length-1:=by rw[hrest,CV,nx (as:=ps),mT,aaK];exact xm _ _
  rw[nx]at this;have h0:0<names.length:=by refine ag hrest ?_;simp
  exact ag (aai this) (abl h0)
 ·cases i with
  |zero=>trivial
  |succ i=>
   rw[hrest,aae]at Y;refine ag Uq (ag bI ?_);cases U:(xs++ds)[i]? with
   |none=>trivial
   |some a=>
    refine ax (Ek.get U) λv yB gv=>?_;have th:i<(xs++ds).length:=(gw.mp U).1;have yC:ps[i]? =some x:=by rw[R0 (by refine fP mT ?_;exact th)]at Y;exact Y
    exact⟨v,cY td yC yB,gv⟩
 ·clear Y AG;cases i with
  |zero=>exfalso;cases h1
  |succ i=>
   rw[Uq,bI]at h1;cases U:(xs++ds)[i]? <;>rw[U]at h1<;>(exfalso;cases h1)
 ·clear I Ek V;subst hs hF;have T:Step W S.s₀ s':=R'.step.none λp h=>by rw[hX]at h;exact h
  have G:bP S.s₀ s' S.fu F':=⟨R'.grow.1,λa h=>(R'.grow.2 a h).imp id λh=>h.elim (λh=>by rw[hX]at h;exact h.elim) id⟩;refine MR h ?_ ?_;rotate_left;clear h;rintro rfl rfl;rotate_right;clear h;rintro av rfl gv
  ·simp only[bg,e4]at z;subst z;exact⟨av,F',rfl,T,G,gv⟩
  ·simp only[bg,e4]at z;subst z;exact⟨.none,F',rfl,T,G,by first|rfl|exact⟨_,rfl⟩|simp[lL,lM,lN,mh,ED]⟩
 ·clear I Ek V;subst hs h1;simp only[bg,e4]at z;subst z;exact⟨cls,e,rfl,rfl,R'.step.none λp h=>by rw[hX]at h;exact h,h2⟩
 ·revert z;cases ou with
  |next ak=>exact λZ=>.inr (.inl ⟨_,rfl⟩)
  |ret a=>exact λZ=>.inl ⟨_,rfl⟩
  |ex c ak=>exact λZ=>.inr (.inr ⟨_,_,rfl⟩)
  |brk ak=>intro z;simp[bg]at z
  |cont ak=>intro z;simp[bg]at z
end
noncomputable def Lc:cz->Option AV
 | .none=>some .none
 | .bool b=>some (.bool b)
 | .int i _=>some (.int i)
 | .bytes b _=>some (.aa b.toList)
 | .ref a=>some (.ref a)
 | .type n=>some (.ty n)
 | .builtin n=>some (.bi n)
 |_=>none
theorem xO{v:cz}{a:AV}(h:Lc v=some a)(z:ZN)(F:fF->Prop):VR z F a v:=by
 cases v with
 |none=>cases (gq h:AV.none=a);rfl
 |bool b=>cases (gq h:AV.bool b=a);rfl
 |int i t=>cases (gq h:AV.int i=a);exact⟨t,rfl⟩
 |bytes b t=>cases (gq h:AV.aa b.toList=a);exact⟨t,rfl⟩
 |ref x=>cases (gq h:AV.ref x=a);rfl
 |type x=>cases (gq h:AV.ty x=a);rfl
 |builtin x=>cases (gq h:AV.bi x=a);rfl
 |_=>exact aZ h
noncomputable def C7(o:Obj):Array ab9:=match o.data with| .dict es _=>es|_=>#[]
def Ld(P:kX):=C7 (S3 P)
def Uy(P:kX):=C7 (boot_o_0 P)
def KB(P:kX):abd:=(K3 P).filter λp=>p.1 !=220
def Pn(k:Nat):M3:=match AN pw.main.body [25,k]with
 | .FunctionDef n p b _ _ _ sc _ _ _=>⟨n,("_parse_message.<locals>.":Str)++n,p,b,sc⟩
 |_=>⟨"","",⟨[],[],none,[],[],none,[]⟩,[],⟨.function,[],false,false,[]⟩⟩
noncomputable def dF:Str:="_parse_message.<locals>._strip_last_newline"
structure Good(P:kX)(W:Wd):Prop where
 prog:W.prog=pw
 par:W.w.params=P
 mg:∀x,W.mg x=nsFind (Ld P) x
 mb:∀x,W.mb x=nsFind (Uy P) x
 K:(KB P).In W.base
 tabs:W.tabs=λa=>a=220
 EE:W.EE=λZ Z=>dF
 lf:W.lf=Pn
 Wo:W.base.get? 220=none
theorem Good.up{P:kX}{W':Wd}(G:Good P W)(U:Up W W'):Good P W':=by
 refine e7 U λit o E z=>?_;clear U;have tb:∀b,W.base.get? b=none->W.loose b->W'.base.get? b=none:=λb hb I=>by
  cases V:W'.base.get? b with
  |none=>rfl
  |some o'=>exact(E.only b o' V).elim (λh=>by exact aZ (hb▸h)) λh=>absurd (h▸I) z
 have Y:=tb _ G.Wo (.inl (by exact ag G.tabs rfl));have old:=E.old;refine au E.eq ?_;clear E tb;rintro b' rfl;exact⟨G.prog,G.par,G.mg,G.mb,λa o e=>old a o (G.K a o e),G.tabs,G.EE,G.lf,Y⟩
noncomputable def Po(o:Obj):Bool:=match o.data with| .dict _ _=>true|_=>false
noncomputable def Pp(v:cz):Bool:=match v with| .str _ _=>true|_=>false
theorem F9{v:cz}(h:Pp v=true):∃x t,v= .str x t:=by
 cases v with
 |str x t=>exact⟨x,t,rfl⟩
 |_=>exact ng h
theorem zt{a:fF}(z:h.get? a=some o)(hd:Po o=true)(hs:((C7 o).all λe=>Pp e.key)=true):h.Ns a (nsFind (C7 o)):=by
 obtain⟨c,d,I,sl⟩:=o;cases I with
 |dict=>
  refine⟨_,_,_,z,rfl,λe U=>?_,λZ=>rfl⟩;exact F9 (Array.all_eq_true_iff_forall_mem.mp hs e U)
 |_=>exact ng hd
structure Spec(fn:ek)(q:Bool)(b:List aaa) where
 f:St->Option Ou
 ok:∀P W,Good P W->c5 W q fn b f
structure Pq(P:kX)(fn:ek)(q:Bool)(b:List aaa) where
 f:St->Option Ou
 ok:∀W,Good P W->c5 W q fn b f
structure Pr(fn:ek)(b:List aaa) where
 f:St->dj
 ok:∀P W,Good P W->rZ W fn b f
abbrev gN(p:List Nat)(names:List Str)(rk c:Nat)(q:Str):ek:=⟨(bG p).2.2,names,rk,false,.ref c,q⟩
def bz(n np:Nat)(f:St->Option Ou)(xs:List AV):Rs AV:=if xs.length=np then bg (f (aO n xs))else none
def Fb(W:Wd)(a rk:Nat)(spec:List AV->Rs AV):Prop:=Fn W a rk spec/\∃o fd,W.base.get? a=some o/\o.data= .func fd
section
variable {P:kX}
theorem vE{e:u_}{f:St->Rs AV}(h:aL W q fn e f):cw W q fn e f:=h.v
theorem vN{e:u_}{f:St->Rs (List AV)}(h:jK W q fn e f):cw W q fn e (λJ=>uW (f J)):=h.e.v
theorem eN{e:u_}{f:St->Rs (List AV)}(h:jK W q fn e f):aL W q fn e (λJ=>uW (f J)):=h.e
noncomputable def Le:Option aby->Bool
 |some .local=>true
 |some .cell=>true
 |_=>false
theorem xP{k:Option aby}(h:Le k=true):k=some .local\/k=some .cell:=by
 cases k with
 |none=>exact ng h
 |some k=>cases k with
  |«local»=>exact .inl rfl
  |cell=>exact .inr rfl
  |_=>exact ng h
theorem bA{a:Bool}(h:(a&&b)=true):a=true:=by
 cases a with
 |true=>rfl
 |false=>exact ng h
theorem bB{a:Bool}(h:(a&&b)=true):b=true:=by
 cases a with
 |true=>exact h
 |false=>exact ng h
def Uz(fn:ek)(scope:abw)(names:List Str)(k:Nat)(ig:List Nat):Bool:=decide (scope.kind= .function)&&(decide (∀y∈scope.names,y.2≠.cell)&&(decide (∀y∈scope.names,y.2= .local->scope.names.lookup y.1=some .local)&&(decide (∀y∈scope.names,y.2= .free->fn.scope.names.lookup y.1=some .cell)&&(decide names.Nodup&&B' fn scope names k ig))))
theorem C8{ig:List Nat}(h:Uz fn scope names k ig=true):jF fn scope names k ig:=⟨of_decide_eq_true (bA h),of_decide_eq_true (bA (bB h)),of_decide_eq_true (bA (bB (bB h))),of_decide_eq_true (bA (bB (bB (bB h)))),of_decide_eq_true (bA (bB (bB (bB (bB h))))),bB (bB (bB (bB (bB h))))⟩
theorem bN{a:Bool}(h:(!a)=true):a=false:=by
 cases a with
 |true=>exact ng h
 |false=>rfl
def m8(fn:ek)(i:Nat)(x:Str):Bool:=fn.names[i]? ==some x&&(Le (fn.scope.names.lookup x)&& !(x==("__debug__":Str)))
section
variable {x:Str}
theorem lI(h:m8 fn i x=true):fn.names[i]? =some x:=eq_of_beq (bA h)
theorem lK(h:m8 fn i x=true):fn.scope.names.lookup x=some .local\/fn.scope.names.lookup x=some .cell:=xP (bA (bB h))
theorem lD(h:m8 fn i x=true):(x==("__debug__":Str))=false:=bN (bB (bB h))
end
noncomputable def Pt(fn:ek)(x:Str):Bool:=fn.scope.names.lookup x==some .globalImplicit&& !(x==("__debug__":Str))
noncomputable def Pu(fn:ek)(r:Nat):Bool:=decide (r<=fn.rank)
def Lf(fn:ek)(es:List u_)(r:Nat):Bool:=a7 es&&Pu fn r
def Mv(es:List u_)(a b:Pos):Bool:=a7 es&&(decide (es.length<30)&&a.endLine==b.line)
noncomputable def F_(fn:ek):Bool:=decide (fn.scope.kind= .function)
theorem n_{x:Str}(i:Nat)(h:autoParam (m8 fn i x=true) kr):aL W q fn (.Name x pos) (jR i):=Jf i pos (lI h) (lK h) (lD h)
theorem nv{x:Str}(i:Nat)(h:autoParam (m8 fn i x=true) kr):cw W q fn (.Name x pos) (fT i):=Jg i pos (lI h) (lK h) (lD h)
theorem gl{x:Str}(G:Good P W)(a:AV)(h:autoParam ((nsFind (Ld P) x).bind Lc=some a) kr)(hg:autoParam (Pt fn x=true) kr):aL W q fn (.Name x pos) (λZ=>aA a):=by
 obtain⟨v,h1,h2⟩:=z0.mp h;exact Jv (eq_of_beq (bA hg)) ((G.mg x).trans h1) (xO h2) (bN (bB hg))
theorem bl{x:Str}(G:Good P W)(a:AV)(z:autoParam (nsFind (Ld P) x=none) kr)(h:autoParam ((nsFind (Uy P) x).bind Lc=some a) kr)(hg:autoParam (Pt fn x=true) kr):aL W q fn (.Name x pos) (λZ=>aA a):=by
 obtain⟨v,h1,h2⟩:=z0.mp h;exact yx (eq_of_beq (bA hg)) ((G.mg x).trans z) ((G.mb x).trans h1) (xO h2) (bN (bB hg))
theorem ac{e:u_}{es:List u_}{f:St->Rs AV}{g:St->Rs (List AV)}(h:cw W q fn e f)(hs:gx W q fn es g)(z:autoParam (∀env,starEach (e::es) env=(false,eval e env)::starEach es env) qi):gx W q fn (e::es) (λJ=>bindR (f J) λa=>bindR (g J) λas=>aA (a::as)):=Az h hs z
theorem lc{e:u_}{es:List u_}{f:St->Rs AV}{g:St->Rs (List AV)}(h:aL W q fn e f)(hs:fG W q fn es g)(z:autoParam (∀env,starEach (e::es) env=(false,eval e env)::starEach es env) qi):fG W q fn (e::es) (λJ=>bindR (f J) λa=>bindR (g J) λas=>aA (a::as)):=Al h hs z
theorem tr{e:u_}{f:St->Rs AV}(h:cw W q fn e f)(I:autoParam (∀env z,isTrue e env z=(do let v<-z;standAt e.pos;holding [v] (truthy v))) Aa):gL W q fn e (λJ=>i4 (f J)):=EL h I
theorem cm{l z:u_}{op:CmpOp}{f g:St->Rs AV}{h:AV->AV->Rs AV}(I:jQ W q fn (compareOp op) h)(U:cw W q fn l f)(V:cw W q fn z g)(Y:autoParam (behindInMarks op z=false) gQ):aL W q fn (.Compare l [op] [z] pos) (λJ=>bindR (f J) λa=>bindR (g J) λb=>h a b):=Jh U V I Y
theorem tc{l z:u_}{op:CmpOp}{f g:St->Rs AV}{h:AV->AV->Rs AV}(I:jQ W q fn (compareOp op) h)(U:cw W q fn l f)(V:cw W q fn z g)(Y:autoParam (behindInMarks op z=false) gQ):gL W q fn (.Compare l [op] [z] pos) (λJ=>i4 (bindR (f J) λa=>bindR (g J) λb=>h a b)):=Jk U V I Y
theorem UA{l z I:u_}{U V:CmpOp}{f g k:St->Rs AV}{Y Z:AV->AV->Rs AV}(kU:jQ W q fn (compareOp U) Y)(jg:jQ W q fn (compareOp V) Z)(hl:cw W q fn l f)(n6:cw W q fn z g)(BZ:cw W q fn I k)(hm:autoParam (lastMarks (U::V::[]) (z::I::[])=false) gQ):gL W q fn (.Compare l [U,V] [z,I] pos) (λJ=>vq (f J) (g J) (k J) Y Z):=BY hl n6 BZ kU jg hm
theorem bo{l z:u_}{op:Operator}{f g:St->Rs AV}{h:AV->AV->Rs AV}(I:jQ W q fn (binaryOp op) h)(U:cw W q fn l f)(V:cw W q fn z g):aL W q fn (.BinOp l op z pos) (λJ=>bindR (f J) λa=>bindR (g J) λb=>h a b):=EK U V I
theorem sb{z:u_}{f g:St->Rs AV}(I:cw W q fn value f)(hg:cw W q fn z g)(U:autoParam (kH z=true) gQ):aL W q fn (.Subscript value z pos) (λJ=>bindR (f J) λa=>bindR (g J) λb=>fH a b):=Nb I hg U
theorem cb{x:Str}{es:List u_}{id:String}{g:St->Rs (List AV)}{h:List AV->Rs AV}(z:dD W q fn id h)(I:aL W q fn (.Name x np) (λZ=>aA (.bi id)))(hg:gx W q fn es g)(U:autoParam (a7 es=true) gQ):aL W q fn (.Call (.Name x np) es [] pos) (λJ=>bindR (g J) h):=ES I hg U z
theorem ct{x:Str}{es:List u_}{T:String}{g:St->Rs (List AV)}{h:List AV->Rs AV}(z:vO W q fn T h)(I:aL W q fn (.Name x np) (λZ=>aA (.ty T)))(hg:gx W q fn es g)(U:autoParam (a7 es=true) gQ):aL W q fn (.Call (.Name x np) es [] pos) (λJ=>bindR (g J) h):=Fq I hg U z
theorem cf{x:Str}{es:List u_}{a:Nat}{g:St->Rs (List AV)}(I:Fb W a rk spec)(U:aL W false fn (.Name x np) (λZ=>aA (.ref a)))(hg:fG W false fn es g)(z:autoParam (Lf fn es (rk+1)=true) kr):aL W false fn (.Call (.Name x np) es [] pos) (λJ=>bindR (g J) spec):=by
 exact z8 I λh1 o fd h2 h3=>EZ U hg (bA z) h2 h3 h1 (of_decide_eq_true (bB z))
theorem mt{o:u_}{es:List u_}{T id:String}{f:St->Rs AV}{g:St->Rs (List AV)}{h:List AV->Rs AV}(z:MethAt T name id)(I:dD W q fn id h)(U:cw W q fn o f)(hg:gx W q fn es g)(h':autoParam (Mv es apos pos=true) kr)(V:autoParam (∀env,attributeBase o name env (eval o env)=eval o env) qi):aL W q fn (.Call (.Attribute o name apos) es [] pos) (λJ=>mr T (f J) (g J) h):=Jw U hg (bA h') (of_decide_eq_true (bA (bB h'))) V (bB (bB h')) z I
theorem Rj{o:u_}{es:List u_}{T id:String}{f:St->Rs AV}{g:St->Rs (List AV)}{h:List AV->Rs (List AV)}(z:MethAt T name id)(I:nq W q fn id h)(U:cw W q fn o f)(hg:gx W q fn es g)(h':autoParam (Mv es apos pos=true) kr)(V:autoParam (∀env,attributeBase o name env (eval o env)=eval o env) qi):jK W q fn (.Call (.Attribute o name apos) es [] pos) (λJ=>mr T (f J) (g J) h):=ET U hg (bA h') (of_decide_eq_true (bA (bB h'))) V (bB (bB h')) z I
theorem ri{x:Str}{es:List u_}{g:St->Rs (List AV)}(z:aL W false fn (.Name x np) (λZ=>aA (.ty "range")))(hg:gx W false fn es g)(I:autoParam (a7 es=true) gQ):mU W fn (.Call (.Name x np) es [] pos) (λJ=>j7 (g J)):=Fh z hg I
def Wq:AV->Rs (List AV)
 | .lst xs=>aA xs
 |_=>none
theorem il{iter:u_}{f:St->Rs AV}(h:aL W false fn iter f):mU W fn iter (λJ=>bindR (f J) Wq):=
 JH (.mk λS F M cur J r s I R z=>h.run S F M cur J r s I R (by
  refine pG (bJ z) ?_ ?_;rotate_left;intro xs h1 h2;rotate_right;clear z;rintro c h1 rfl
  ·refine pG (bJ h1) (λU h3 h4=>?_) λa h3 h4=>?_
   ·cases h4;exact h3
   ·cases a<;>(first|exact aZ h4|(exfalso;cases h4;done))
  ·clear z;cases h2;refine pG (bJ h1) (λU h3 h4=>?_) λa h3 h4=>?_
   ·exfalso;cases h4
   ·cases a<;>(first|exact aZ h4|(cases h4))
    exact h3))
theorem C9{names:List (Str×aby)}{x:Str}(h:(names.all λp=>p.2 != .cell||p.1==x)=true):∀y,names.lookup y=some .cell->y=x:=λy z=>by
 induction names with
 |nil=>cases z
 |cons p l ih=>
  rw[ado,v3]at h;obtain⟨k,v⟩:=p;rw[zd]at z;cases I:y==k with
  |true=>
   rw[I]at z;revert z;refine bc λe=>?_;subst e;have:y=k:=eq_of_beq I;clear I;subst this;have h1:=h.1
   simpa using h1
  |false=>rw[I]at z;exact ih h.2 z
theorem YK{x:Str}(z:fn.names[i]? =some x)(I:fn.scope.names.lookup x=some .local):dE fn i x:=⟨z,.inl I⟩
noncomputable def m9(fn:ek)(i:Nat)(x:Str):Bool:=fn.names[i]? ==some x&&(match fn.scope.names.lookup x with
 |some .local=>true
 |some .cell=> !fn.inner&&fn.scope.names.all λp=>p.2 != .cell||p.1==x
 |_=>false)
theorem eZ{x:Str}(h:m9 fn i x=true):dE fn i x:=by
 unfold m9 at h;rw[v3]at h;refine⟨by simpa using h.1,?_⟩;have h2:=h.2;cases z:fn.scope.names.lookup x with
 |none=>rw[z]at h2;exact ng h2
 |some k=>
  rw[z]at h2;clear z;cases k<;>simp only[F3,v3,aaT]at h2
  ·exact .inl rfl
  ·exact .inr ⟨rfl,h2.1,C9 h2.2⟩
theorem Ga{P:List cz->Prop}(h:P []):∀vs,vs.length=0->P vs:=λvs e=>by cases vs with|nil=>exact h|cons=>exfalso;cases e
theorem all1{P:List cz->Prop}(h:∀a,P [a]):∀vs,vs.length=1->P vs:=λvs e=>by cases vs with|nil=>cases e|cons a t=>exact Ga (P:=λt=>P (a::t)) (h a) t (Z9 e)
theorem all2{P:List cz->Prop}(h:∀a b,P [a,b]):∀vs,vs.length=2->P vs:=λvs e=>by cases vs with|nil=>cases e|cons a t=>exact all1 (P:=λt=>P (a::t)) (h a) t (Z9 e)
theorem jq(z:fn.scope.kind= .function)(env:Env)(h:env.scope=fn.scope):interactive env=false:=by
 unfold interactive;refine ag h (ag z ?_);rfl
theorem eB{x:Str}{p:Pos}(i:Nat){f:St->Rs AV}(h:aL W q fn value f)(z:autoParam (m9 fn i x=true) kr)(hs:autoParam (∀env,swapsWith value (some (.Name x p)) pos.line env=pure false) qi):aR W q fn (.Assign [.Name x p] value pos) (λJ=>aU (f J) J λa=>some (.next (cy i a J))):=yy h (eZ z) hs
theorem sO{x:Str}{p:Pos}(i:Nat){f:St->Rs (List AV)}(h:jK W q fn value f)(z:autoParam (m9 fn i x=true) kr)(hs:autoParam (∀env,swapsWith value (some (.Name x p)) pos.line env=pure false) qi):aR W q fn (.Assign [.Name x p] value pos) (λJ=>aU (f J) J λa=>some (.next (fZ i a J))):=u9 h (eZ z) hs
theorem tn{x:Str}{p:Pos}(i:Nat)(z:autoParam (m9 fn i x=true) kr):tj W fn (.Name x p) (λa J=>some (cy i a J)):=JC (eZ z)
theorem jW{t:u_}{ts:List u_}{f:AV->St->Option St}{g:List AV->St->Option St}(z:tj W fn t f)(I:oj W fn ts g)(U:autoParam (∀env,assignEach (t::ts) env=(false,assign t env)::assignEach ts env) qi):oj W fn (t::ts) (rC f g):=Fi z I U
theorem un{elts:List u_}{z:Pos}{f:St->Rs AV}{g:List AV->St->Option St}(I:aL W false fn value f)(U:oj W fn elts g)(hs:autoParam (∀env,swapsWithSole [.Tuple elts k z] value pos.line env=pure false) qi)(hw:autoParam (∀env,swappedStores [.Tuple elts k z] value env=pure none) qi):aR W false fn (.Assign [.Tuple elts k z] value pos) (λJ=>tK elts.length (f J) g J):=yN I U hs hw
theorem fr{iter:u_}{f:St->Rs (List AV)}{g:St->Option Ou}(z:mU W fn iter f)(I:tj W fn target set)(hb:c5 W false fn body g)(U:autoParam (∀env x,foldedSetIterable iter env x=pure x) Aa):aR W false fn (.For target iter body [] pos) (λJ=>aU (f J) J λxs=>dU set g xs J):=JD z I hb U
theorem C_{e:u_}{f:St->Rs AV}(h:aL W q fn e f)(z:autoParam (F_ fn=true) kr)(hs:autoParam (∀env,swapsWith e none pos.line env=pure false) qi):aR W q fn (.Expr e pos) (λJ=>aU (f J) J λZ=>some (.next J)):=E0 h (jq (of_decide_eq_true z)) hs
def YL(fn:ek)(i:Nat)(x:Str)(e:u_)(a b:Pos):Bool:=m9 fn i x&&(!(x==("__debug__":Str))&&(Mv [e] a b&&F_ fn))
theorem ap{x:Str}{z:Pos}{e:u_}(i:Nat){f:St->Rs AV}(h:aL W q fn e f)(hb:autoParam (YL fn i x e apos z=true) kr)(I:autoParam (∀env,backTo z (starEach [e] env)=[(false,eval e env)]) qi):aR W q fn (.Expr (.Call (.Attribute (.Name x np) "append" apos) [e] [] z) pos) (λJ=>NK i (f J) J):=
 yE (eZ (bA hb)) (bN (bA (bB hb))) h (λZ=>rfl) (bA (bA (bB (bB hb)))) (bB (bB (bA (bB (bB hb))))) I (jq (of_decide_eq_true (bB (bB (bB hb))))) λZ=>rfl
theorem la{x:Str}{up z I:Pos}(i:Nat){f:St->Rs AV}(h:aL W q fn value f)(U:autoParam (m9 fn i x=true) kr)(V:autoParam ((x==("__debug__":Str))=false) kr)(hs:autoParam (∀env,swapsWith value (some (.Subscript (.Name x np) (.UnaryOp .USub (.Constant (.int 1) k z) up) I)) pos.line env=pure false) qi):aR W q fn (.Assign [.Subscript (.Name x np) (.UnaryOp .USub (.Constant (.int 1) k z) up) I] value pos) (λJ=>xM i (f J) J):=F5 (eZ U) V h hs
theorem fz{x:Str}{st:aaa}{f:St->Option Ou}(i:Nat)(h:aR W q fn st f)(z:autoParam (fn.names[i]? =some x) gQ):aR W q fn st (λJ=>f (yz i J)):=yA i z h
theorem Lh(G:Good P W):W.base.get? 44=some (Nm P):=G.K 44 _ (by kernel_rfl)
theorem Pw(G:Good P W):OwnTail W.base [.type "Exception",.type "BaseException",.type "object"] [.ref 31,.type "Exception",.type "BaseException",.type "object"]:=
 .own (G.K 31 (Nl P) (by kernel_rfl)) (zt (o:=Nk P) (G.K 30 _ (by kernel_rfl)) (by kernel_rfl) (by kernel_rfl)) (by kernel_rfl) .base
theorem Px(G:Good P W):W.base.Ns 43 (nsFind (C7 (JJ P))):=zt (o:=JJ P) (G.K 43 _ (by kernel_rfl)) (by kernel_rfl) (by kernel_rfl)
theorem rO{x:Str}{es:List u_}{g:St->Rs (List AV)}(G:Good P W)(z:aL W false fn (.Name x np) (λZ=>aA (.ref 44)))(hg:gx W false fn es g)(I:autoParam (a7 es=true) gQ):aR W false fn (.Raise (some (.Call (.Name x np) es [] cB)) none pos) (λJ=>aU (g J) J λxs=>if cq xs.length then some (.ex (.ref 44) J)else none):=
 ry F.excBase_Exception (Pw G) (Lh G) (Px G) (by kernel_rfl) z hg I
theorem UB{x:Str}{es:List u_}{g:St->Rs (List AV)}(z:aL W false fn (.Name x np) (λZ=>aA (.ty "ValueError")))(hg:gx W false fn es g)(I:autoParam (a7 es=true) gQ):aR W false fn (.Raise (some (.Call (.Name x np) es [] cB)) none pos) (λJ=>aU (g J) J λxs=>if cq xs.length then some (.ex (.type "ValueError") J)else none):=BK F.excCall_ValueError F.excRaise_ValueError z hg I
end
def UC(W:Wd)(a rk C:Nat)(spec:List Str->List AV->List AV->Option (Except cz (List Str×List AV))):Prop:=KA W a rk C spec/\∃o fd,W.base.get? a=some o/\o.data= .func fd
def Gb(W:Wd)(a rk:Nat)(spec:List AV->Option (List AV)):Prop:=Gn W a rk spec/\∃o fd,W.base.get? a=some o/\o.data= .func fd
section
variable {P:kX}
theorem dead{b:List aaa}:c5 W q fn b (λZ=>none):=.mk λS F M cur J r s I R z=>by exact aZ z
theorem at_{x:Str}(G:Good P W)(i:Nat)(C:fF)(z:autoParam ((eM (KB P) C name&&m8 fn i x)=true) kr):aL W q fn (.Attribute (.Name x np) name pos) (λJ=>(Il i C name J).bind λr=>match r with| .ok a=>if a.handed then some (.ok a)else none|e=>some e):=Kx i C G.K (bA z) (lI (bB z)) (lK (bB z)) (lD (bB z))
theorem ta{x:Str}(G:Good P W)(i:Nat)(C:fF)(z:autoParam ((ka (KB P) C name&&m8 fn i x)=true) kr):tj W fn (.Attribute (.Name x np) name pos) (λa J=>jn i C name a J):=Ky i C G.K (bA z) (lI (bB z)) (lK (bB z)) (lD (bB z))
theorem sa{x:Str}{I:Pos}{f:St->Rs AV}(G:Good P W)(i:Nat)(C:fF)(h:aL W q fn value f)(z:autoParam ((ka (KB P) C name&&m8 fn i x)=true) kr)(hs:autoParam (∀env,swapsWith value (some (.Attribute (.Name x np) name I)) pos.line env=pure false) qi):aR W q fn (.Assign [.Attribute (.Name x np) name I] value pos) (λJ=>aU (f J) J λa=>(jn i C name a J).map .next):=FJ i C h G.K (bA z) (lI (bB z)) (lK (bB z)) (lD (bB z)) hs
theorem me{x:Str}{es:List u_}{g:St->Rs (List AV)}{f:Nat}(G:Good P W)(i:Nat)(C:fF)(U:Fb W f rk spec)(hg:fG W false fn es g)(z:autoParam ((mL (KB P) C name f&&(m8 fn i x&&(Mv es apos pos&&Pu fn (rk+1))))=true) kr):aL W false fn (.Call (.Attribute (.Name x np) name apos) es [] pos) (λJ=>KH i (λI ks xs=>if I=C/\eP ks xs name=none then bindR (g J) λys=>spec (.obj I ks xs::ys)else none) J):=by
 exact z8 U λh1 o fd h2 h3=>FN i C G.K (bA z) (lI (bA (bB z))) (lK (bA (bB z))) (lD (bA (bB z))) hg (bA (bA (bB (bB z)))) (of_decide_eq_true (bA (bB (bA (bB (bB z)))))) (bB (bB (bA (bB (bB z))))) h2 h3 h1 (of_decide_eq_true (bB (bB (bB z))))
theorem mk{y c:Str}{z I:Pos}{spec:List Str->List AV->List AV->Option (Except cz (List Str×List AV))}{f:Nat}(G:Good P W)(i U:Nat)(C:fF)(V:UC W f rk C spec)(Y:autoParam (CL (KB P) C f=true) kr)(Z:autoParam (fn.names[U]? =some c) kr)(Ip:autoParam (Le (fn.scope.names.lookup c)=true) kr)(jb:autoParam ((c==("__debug__":Str))=false) kr)(hn:autoParam (m9 fn i y=true) kr)(f9:autoParam (decide (fn.names.head? ≠some ("self":Str))=true) kr)(jC:autoParam (rk+2<=fn.rank) dc)(hs:autoParam (∀env,swapsWith (.Call (.Name c I) [] [] cB) (some (.Name y z)) pos.line env=pure false) qi):aR W false fn (.Assign [.Name y z] (.Call (.Name c I) [] [] cB) pos) (Io U i C spec):=FP C G.K Y Z (xP Ip) jb (eZ hn) (of_decide_eq_true f9) V.1 jC hs
theorem pr{x:Str}{f:Nat}(G:Good P W)(i:Nat)(C p:fF)(U:Fb W f rk spec)(z:autoParam ((CM (KB P) C name p f&&(m8 fn i x&&Pu fn (rk+2)))=true) kr):aL W false fn (.Attribute (.Name x np) name pos) (λJ=>KH i (λI ks xs=>if I=C then FL (spec [.obj I ks xs])else none) J):=KN i C G.K (bA z) (lI (bA (bB z))) (lK (bA (bB z))) (lD (bA (bB z))) U.1 (of_decide_eq_true (bB (bB z)))
theorem co{z iter:u_}{ifs:List u_}(names:List Str)(k:Nat)(ig:List Nat){f:St->Rs (List AV)}{p:St->Rs Bool}{g:St->Rs AV}(I:mU W fn iter f)(U:tj W (fnIn fn scope names) target set)(V:mF W (fnIn fn scope names) ifs p)(hg:aL W false (fnIn fn scope names) z g)(Y:autoParam (∀env x,foldedSetIterable iter env x=pure x) Aa)(Z:autoParam (Uz fn scope names k ig=true) kr):jK W false fn (.ListComp z [⟨target,iter,ifs,0⟩] scope pos) (λJ=>bindR (f J) λxs=>if cq xs.length then cQ set p g xs (lZ k ig J)else none):=Kh I Y (C8 Z) U V hg
theorem UD{z iter:u_}{ifs:List u_}{I U:Pos}{y:Str}(i:Nat)(names:List Str)(k:Nat)(ig:List Nat){f:St->Rs (List AV)}{p:St->Rs Bool}{g:St->Rs AV}(V:mU W fn iter f)(Y:tj W (fnIn fn scope names) target set)(Z:mF W (fnIn fn scope names) ifs p)(hg:aL W false (fnIn fn scope names) z g)(hn:autoParam (m9 fn i y=true) kr)(hsw:∀env:Env,env.scope=fn.scope->swapsWith (.ListComp z [⟨target,iter,ifs,0⟩] scope pos) (some (.Name y I)) U.line env=pure true)(fh:autoParam (∀env x,foldedSetIterable iter env x=pure x) Aa)(cs:autoParam (Uz fn scope names k ig=true) kr):aR W false fn (.Assign [.Name y I] (.ListComp z [⟨target,iter,ifs,0⟩] scope pos) U) (λJ=>aU (bindR (f J) λxs=>if cq xs.length then cQ set p g xs (lZ k ig J)else none) J λys=>some (.next (fZ i ys J))):=pW (eZ hn) hsw V fh (C8 cs) Y Z hg
theorem Wr{x:Str}{es:List u_}{a:Nat}{g:St->Rs (List AV)}{spec:List AV->Option (List AV)}{gb:St->Option Ou}(G:Good P W)(z:Gb W a rk spec)(I:aL W false fn (.Name x np) (λZ=>aA (.ref a)))(hg:fG W false fn es g)(V:∀W',Good P W'->tj W' fn target set)(hb:∀W',Good P W'->c5 W' false fn body gb)(Y:autoParam (a7 es=true) gQ)(jC:autoParam (rk+2<=fn.rank) dc)(f9:autoParam (fn.names.head? =some ("self":Str)) kr)(hC:autoParam (fn.inner=false) gQ)(fh:autoParam (∀env v,foldedSetIterable (.Call (.Name x np) es [] cB) env v=pure v) Aa):aR W false fn (.For target (.Call (.Name x np) es [] cB) body [] pos) (λJ=>aU (g J) J λxs=>(spec xs).bind λys=>iv set gb ys J):=by
 exact z8 z λh1 o fd h2 h3=>zj I hg Y h2 h3 h1 jC (λW' U=>V W' (G.up U)) (λW' U=>hb W' (G.up U)) f9 hC fh
theorem fk{x:Str}(z:autoParam (oq x=true) kr):Co W q fn (.Constant (.str x) k pos) (λZ=>aA x):=FA x k pos z
noncomputable def Py(c:cz):Option Bool:=if c= .type "ValueError"then some true else none
noncomputable def mO(c:cz):Option Bool:=if c= .ref 44 then some true else none
noncomputable def UE(c:cz):Option Bool:=if c= .ref 44\/c= .type "ValueError"then some true else none
theorem Ws{t:u_}(z:aL W true fn t (λZ=>aA (.ty "ValueError"))):jd W fn t Py:=by
 have h:=J0 z Cq (by rw[Ut];kernel_rfl) (by rw[Ut];kernel_rfl);exact⟨λS F M cur J s e ob b I R U V Y=>h.run S F M cur J s e ob b I R U V Y⟩
theorem hO{t:u_}(G:Good P W)(z:aL W true fn t (λZ=>aA (.ref 44))):jd W fn t mO:=by
 have h:=NQ (B:="") (initId:="") z (Lh G) rfl;exact⟨λS F M cur J s e ob b I R U V Y=>h.run S F M cur J s e ob b I R U V Y⟩
theorem Rk(G:Good P W){c:cz}(h:exmOne (KB P) (.type "ValueError") c=some true\/exmOne (KB P) (.type "ValueError") c=some false):Looks (model W.prog W.w) W.base (isExcClass c) true:=
 h.elim (λh=>(exm_cls G.K h).1) λh=>(exm_cls G.K h).1
theorem YM{t:u_}(G:Good P W)(I:aL W true fn t (λZ=>aA (.tup [.ty "TypeError",.ty "ValueError"]))):jd W fn t Py:=
 xu G.K I rfl (λc z=>by
  refine g' (QX.mp z) ?_ ?_;rotate_left;intro z;rotate_right;clear z;rintro rfl
  ·exact Rk G (.inr (by kernel_rfl))
  refine g' (QX.mp z) ?_ ?_;rotate_left;intro z;rotate_right;clear z;rintro rfl
  ·exact Rk G (.inl (by kernel_rfl))
  ·exfalso;cases z) Py λc b h=>by
   unfold Py at h;split at h
   case isFalse=>exact aZ h
   rename_i z;subst z;revert h;refine bc λe=>?_;subst e
   kernel_rfl
theorem YN{t:u_}(G:Good P W)(I:aL W true fn t (λZ=>aA (.tup [.ref 44,.ty "ValueError"]))):jd W fn t UE:=
 xu G.K I rfl (λc z=>by
  refine g' (QX.mp z) ?_ ?_;rotate_left;intro z;rotate_right;clear z;rintro rfl
  ·exact Rk G (.inr (by kernel_rfl))
  refine g' (QX.mp z) ?_ ?_;rotate_left;intro z;rotate_right;clear z;rintro rfl
  ·exact Rk G (.inl (by kernel_rfl))
  ·exfalso;cases z) UE λc b h=>by
   unfold UE at h;split at h
   case isFalse=>exact aZ h
   rename_i z;revert h;refine bc λe=>?_;subst e
   (refine g' z ?_ ?_;rotate_left;clear z;rintro rfl;rotate_right;clear z;rintro rfl)<;>kernel_rfl
theorem o5{I:u_}{gens:List Comprehension}{z:Pos}{y:Str}{l:Nat}(h:env.scope=fn.scope)(h1:fn.scope.kind= .function)(h2:fn.scope.names.lookup y=some .local)(h3:(z.line==pos.line&& !(scope.names.any λ(n,k)=>n==y&&(k== .local||k== .cell)))=true):swapsWith (.ListComp I gens scope pos) (some (.Name y z)) l env=pure true:=by
 have U:env.blockKind= .function:=by unfold Env.blockKind;refine ag h (ag h1 ?_);rfl
 have V:env.kindOf y=some .local:=by show env.scope.names.lookup y=_;exact ag h h2
 have Y:(env.blockKind== .function&&env.kindOf y==some .local&&z.line==pos.line&& !(scope.names.any λ(n,k)=>n==y&&(k== .local||k== .cell)))=true:=by
  rw[U,V,Bool.and_assoc,h3];rfl
 show pure (env.blockKind== .function&&env.kindOf y==some .local&&z.line==pos.line&& !(scope.names.any λ(n,k)=>n==y&&(k== .local||k== .cell)))=_;exact ag Y rfl
theorem gy{e:u_}{I:Pos}{f:St->Rs AV}(h:aL W false fn e f)(z:autoParam ((!fn.scope.isCoroutine&&F_ fn)=true) kr):qT W fn (.Expr (.Yield (some e) I) pos) (oV f):=FY h (bN (bA z)) (jq (of_decide_eq_true (bB z))) λZ=>rfl
theorem Wt{x:Str}{es:List u_}{g:St->Rs (List AV)}(G:Good P W)(i:Nat)(z:Rh W (Pn 5) rk spec)(hg:fG W false fn es g)
  (hb:autoParam ((m8 fn i x&&Lf fn es (rk+2))=true) kr):
  aL W false fn (.Call (.Name x np) es [] pos) (λJ=>match J.getD i .un with
   | .fn k'=>if k'=5 then bindR (g J) spec else none
   |_=>none):=F4 (k:=5) (lI (bA hb)) (lK (bA hb)) (lD (bA hb)) hg (bA (bB hb)) (by refine ag G.lf ?_;exact z) (of_decide_eq_true (bB (bB hb)))
theorem Gd(G:Good P W):l8 W 224 220:=⟨by exact ag G.tabs rfl,xl P,_,_,_,_,_,_,_,_,G.K _ _ (by kernel_rfl),rfl,rfl,rfl,rfl,rfl,rfl,by decide,rfl,rfl⟩
theorem df{p:abr}{sc:abw}(G:Good P W)(i:Nat)(z:autoParam (m9 fn i name=true) kr)(I:autoParam (Pn 5=⟨name,dF,p,body,sc⟩) kr)(U:autoParam (fn.cd= .ref 224) gQ)(V:autoParam (p.kwonlyargs=[]) gQ)(Y:autoParam (decide (∀x∈sc.names,x.2≠.free)=true) kr)(hq:autoParam (fn.qual++(".<locals>.":Str)++name=dF) kr)(hk:autoParam (fn.scope.names.lookup name=some .local) kr)(TV:autoParam (∀env,defaultsOf p env=([],[])) qi)(Rm:autoParam (∀env,annTrees p none env=[]) qi):aR W q fn (.FunctionDef name p body [] none [] sc none name pos) (λJ=>some (.next (J.set i (.fn 5)))):=
 K4 (c:=224) (P:=220) (qual:=dF) (by rw[G.lf];exact I) (eZ z) U (Gd G) (λZ Z Z=>by rw[G.EE]) (λP' h=>by rw[G.tabs]at h;exact h) G.Wo V (of_decide_eq_true Y)
  ⟨4,VJ P,(G.mg _).trans (by kernel_rfl),by decide,G.K _ _ (by kernel_rfl),rfl,rfl,rfl⟩ λenv h1 h2=>by
   have e:qualnameIn env name name=dF:=by
    unfold qualnameIn;rw[show env.kindOf name=some .local by show env.scope.names.lookup name=_;rw[h1];exact hk,h2];exact hq
   rw[exec_def,TV,Rm,e]
   rfl
end
structure mP(fn:ek)(q:Bool)(b:List aaa) where
 f:St->Option Ou
 ok:∀P W,Good P W->RB W q fn b f
structure UG(P:kX)(fn:ek)(q:Bool)(b:List aaa) where
 f:St->Option Ou
 ok:∀W,Good P W->RB W q fn b f
def ID(W:Wd)(a rk:Nat)(spec:List AV->Rs AV):Prop:=Mn W a rk spec/\∃o fd,W.base.get? a=some o/\o.data= .func fd
def Ge(W:Wd)(a rk C:Nat)(spec:List Str->List AV->List AV->Option (Except cz (List Str×List AV))):Prop:=KC W a rk C spec/\∃o fd,W.base.get? a=some o/\o.data= .func fd
section
variable {P:kX}
theorem Rn{x:Str}{es:List u_}{a:Nat}{g:St->Rs (List AV)}(I:ID W a rk spec)(U:aL W false fn (.Name x np) (λZ=>aA (.ref a)))(hg:fG W false fn es g)(z:autoParam (Lf fn es (rk+1)=true) kr):RE W false fn (.Call (.Name x np) es [] pos) (λJ=>bindR (g J) spec):=by
 exact z8 I λh1 o fd h2 h3=>Cw U hg (bA z) h2 h3 h1 (of_decide_eq_true (bB z))
theorem Wu{x:Str}{es:List u_}{T:String}{g:St->Rs (List AV)}{h:List AV->Rs AV}(z:rQ W q fn T h)(I:aL W q fn (.Name x np) (λZ=>aA (.ty T)))(hg:gx W q fn es g)(U:autoParam (a7 es=true) gQ):RE W q fn (.Call (.Name x np) es [] pos) (λJ=>bindR (g J) h):=CD I hg U z
theorem UH{x:Str}{p:Pos}(i:Nat){f:St->Rs AV}(h:RE W q fn value f)(z:autoParam (m9 fn i x=true) kr)(hs:autoParam (∀env,swapsWith value (some (.Name x p)) pos.line env=pure false) qi):RS W q fn (.Assign [.Name x p] value pos) (λJ=>aU (f J) J λa=>some (.next (cy i a J))):=zb h (eZ z) hs
theorem Wv{elts:List u_}{z:Pos}{f:St->Rs AV}{g:List AV->St->Option St}(I:RE W false fn value f)(U:oj W fn elts g)(hs:autoParam (∀env,swapsWithSole [.Tuple elts k z] value pos.line env=pure false) qi)(hw:autoParam (∀env,swappedStores [.Tuple elts k z] value env=pure none) qi):RS W false fn (.Assign [.Tuple elts k z] value pos) (λJ=>tK elts.length (f J) g J):=zc I U hs hw
theorem UI{x:Str}{st:aaa}{f:St->Option Ou}(i:Nat)(h:RS W q fn st f)(z:autoParam (fn.names[i]? =some x) gQ):RS W q fn st (λJ=>f (yz i J)):=zr i z h
theorem IE{e:u_}{es:List u_}{f:St->Rs AV}{g:St->Rs (List AV)}(h:RE W q fn e f)(hs:RL W q fn es g)(z:autoParam (∀env,starEach (e::es) env=(false,eval e env)::starEach es env) qi):RL W q fn (e::es) (λJ=>bindR (f J) λa=>bindR (g J) λas=>aA (a::as)):=FD h hs z
theorem UJ{x:Str}{es:List u_}{g:St->Rs (List AV)}{spec:List Str->List AV->List AV->Option (Except cz (List Str×List AV))}{f:Nat}(G:Good P W)(i:Nat)(C:fF)(I:Ge W f rk C spec)(hg:fG W false fn es g)(z:autoParam ((mL (KB P) C name f&&(m8 fn i x&&(Mv es apos cB&&(Pu fn (rk+2)&&F_ fn))))=true) kr):RS W false fn (.Expr (.Call (.Attribute (.Name x np) name apos) es [] cB) pos) (l6 i C name g spec):=by
 exact z8 I λh1 o fd h2 h3=>CK i C G.K (bA z) (lI (bA (bB z))) (lK (bA (bB z))) (lD (bA (bB z))) hg (bA (bA (bB (bB z)))) (of_decide_eq_true (bA (bB (bA (bB (bB z)))))) (bB (bB (bA (bB (bB z))))) h2 h3 h1 (of_decide_eq_true (bA (bB (bB (bB z))))) (jq (of_decide_eq_true (bB (bB (bB (bB z)))))) λZ=>rfl
theorem YO{x:Str}{es:List u_}{g:St->Rs (List AV)}{f:Nat}(G:Good P W)(C p:fF)(I:ID W f rk spec)(U:aL W false fn (.Name x np) (λZ=>aA (.ref C)))(hg:fG W false fn es g)(z:autoParam ((wk (KB P) C name p f&&(Mv es apos pos&&Pu fn (rk+2)))=true) kr):RE W false fn (.Call (.Attribute (.Name x np) name apos) es [] pos) (λJ=>bindR (g J) λys=>spec (.ref C::ys)):=wm C G.K (bA z) U hg (bA (bA (bB z))) (of_decide_eq_true (bA (bB (bA (bB z))))) (bB (bB (bA (bB z)))) I.1 (of_decide_eq_true (bB (bB z)))
theorem YP{x n:Str}{z I U V:Pos}(i:Nat){t:u_}{g oe:St->Option Ou}(G:Good P W)(hg:RB W false fn body g)(Y:c5 W false fn orelse oe)(ht:aL W true fn t (λZ=>aA (.ty "ValueError")))(hn:aL W true fn (.Name x np) (λZ=>aA (.ref 44)))(hi:autoParam (m9 fn i n=true) kr)(hk:autoParam (fn.scope.names.lookup n=some .local) kr)(BQ:autoParam ((n==("__debug__":Str))=false) kr):RS W false fn (.Try body [.ExceptHandler (some t) (some n) [.Raise (some (.Call (.Name x np) [.Name n I] [] cB)) (some (.Name n U)) z] V] orelse [] pos) (rN g oe Py (.ref 44)):=
 tT F.excBase_Exception (Pw G) (Lh G) (Px G) (by kernel_rfl) hn (eZ hi) hk BQ hg Y (Ws ht)
end
section
set_option maxHeartbeats 0
open PySem.W.X
theorem Gf:∀{xs:List WData},abZ [] xs .int=true->∃ns:List Int,xs=ns.map .int:=by
 intro xs
 induction xs with
 |nil=>
  intro _;exact⟨[],rfl⟩
 |cons x xs z=>
  intro h;have e:abZ [] (x::xs) .int=(adw [] x .int&&abZ [] xs .int):=by kernel_rfl
  rw[e,v3]at h;refine au (z h.2) ?_;clear z e;rintro ns rfl;have h1:=h.1;revert h1;clear h;cases x with
  |int n=>exact λZ=>⟨n::ns,rfl⟩
  |_=>exact(show false=true->_ from ng)
theorem Li{args:List WData}(h:lw.row.toRowW.claim.pre args=true):∃ns:List Int,args=[.list (ns.map .int)]/\ns.length<=63:=by
 refine aX (aad.mp h) λh1 h2=>?_;change ads [] args [.list .int]=true at h1
 match args with
 |[]=>cases h1
 |x::y::r=>
  rw[show ads [] (x::y::r) [.list .int]=(adw [] x (.list .int)&&false) by kernel_rfl,aap]at h1;exact ng h1
 |[x]=>
  rw[show ads [] [x] [.list .int]=(adw [] x (.list .int)&&true) by kernel_rfl,Bool.and_true]at h1;revert h1;clear h;cases x with
  |list xs=>
   intro h1;rw[show adw [] (.list xs) (.list .int)=(abZ [] xs .int||false) by kernel_rfl,adp]at h1;refine au (Gf h1) ?_;clear h1;rintro ns rfl;refine⟨ns,rfl,Decidable.byContradiction λz=>?_⟩;have e:lw.row.toRowW.pre.holds lw.row.toRowW.records {args:=[.list (ns.map .int)]}=WTm.holds [] (.and (.not (.lit (.bool (decide ((63:Int)<(ns.map WData.int).length))))) (.lit (.bool true))) {args:=[.list (ns.map .int)]}:=by kernel_rfl
   have h3:=e.symm.trans h2;rw[show decide ((63:Int)<(ns.map WData.int).length)=true by rw[ro];exact decide_eq_true (by lia)]at h3;exact BA ((show WTm.holds [] (.and (.not (.lit (.bool true))) (.lit (.bool true))) {args:=[.list (ns.map .int)]}=false by kernel_rfl).symm.trans h3)
  |_=>exact(show false=true->_ from ng)
theorem Lj(ns:List Int):lw.row.toRowW.claim.post [WData.list (ns.map .int)] (.bool true) [WData.list (ns.map .int)]=true:=by
 have e:adA (.bool true) (.bool true)=true:=by unfold adA;rfl
 refine abU (b:=(true&&WTm.holds [] (.lit (.bool (adA (.bool true) (.bool true)))) {args:=[]})) (by kernel_rfl) (ag e ?_);kernel_rfl
theorem Gg{z:Str->Option fF}{P:kX}{o:List ab9->List ab9}(h:ZN)(F:fF->Prop):∀(ns:List Int)(s:ea){r},layAllW [] z P o (ns.map .int) s=some r->r.2.heap=s.heap/\bL h F (ns.map .int) r.1:=by
 intro ns
 induction ns with
 |nil=>
  intro s r e;cases (show some ([],s)=some r from e);exact⟨rfl,rfl⟩
 |cons n ns IH=>
  intro s r e;have e':(match layAllW [] z P o (ns.map .int) {s with toks:=s.toks+1}with|some r=>some (.int n s.toks::r.1,r.2)|none=>none)=some r:=e;clear e;cases I:layAllW [] z P o (ns.map .int) {s with toks:=s.toks+1}with
  |none=>exact aZ (I▸e')
  |some q=>
   rw[I]at e';revert e';refine bc λe=>?_;subst e;exact aX (IH _ I) λU V=>⟨U,⟨_,_,rfl,⟨_,rfl⟩,V⟩⟩
theorem qe{K:abd}{f:fF×Obj->Bool}(U:∀a o o',f (a,o)=f (a,o')){b:fF}(h:(K.filter f).lookup b=some o):K.lookup b=some o/\f (b,o)=true:=by
 induction K with
 |nil=>exfalso;cases h
 |cons p K ih=>
  obtain⟨a,x⟩:=p;rw[aa7]at h;by_cases hb:(b==a)=true
  ·have:=eq_of_beq hb;subst this;by_cases z:f (b,x)=true
   ·rw[if_pos z,zd,hb]at h;revert h;refine bc λe=>?_;clear ih;subst e;exact⟨by exact ag zd (ag hb rfl),z⟩
   ·rw[if_neg z]at h;exact absurd ((U b x o).trans (ih h).2) z
  ·have I:(b==a)=false:=by simpa using hb
   refine ag zd (ag I ?_);split at h
   ·rw[zd,I]at h;exact ih h
   ·exact ih h
def W3(w:aab)(h:ZN):Wd:=⟨pw,w,hideAll h [220],nsFind (Ld w.params),nsFind (Uy w.params),λa=>a=220,λZ Z=>dF,Pn,λZ=>#[]⟩
theorem entry{spec:kX->List AV->Rs AV}(hF:∀P W,Good P W->ID W 570 14 (spec P))(hl:∀P (ns:List Int),ns.length<=63->spec P [.lst (ns.map .int)]=some (.ok (.bool true))):BI:=by
 intro w s₀ af mg mb G y a ha args vals as L E9;refine ax (Li E9) ?_;rintro ns rfl hn;refine jJ (z_facts (K:=K3) (as:=JN) (λZ=>by rfl) y) λA I hz ht=>?_;have U:(K3 w.params).In af.heap:=Frag.In.keeps I L.keeps;have Pz:af.heap.get? 220=some (Hw w.params):=U _ _ (by kernel_rfl);have i2:af.heap.get? 2=some (VI w.params):=U _ _ (by kernel_rfl);have i3:af.heap.get? 3=some (S3 w.params):=U _ _ (by kernel_rfl);have i0:af.heap.get? 0=some (boot_o_0 w.params):=U _ _ (by kernel_rfl);have UK:af.heap.get? 224=some (xl w.params):=U _ _ (by kernel_rfl);have n3:af.heap.Ns 3 (nsFind (Ld w.params)):=zt i3 rfl (by kernel_rfl);have YQ:mg=nsFind (Ld w.params):=(adF G.T.g).trans (adF n3).symm;have YR:a=570:=by
  rw[YQ]at ha;have h2:nsFind (Ld w.params) JR.name=some (.ref 570):=by kernel_rfl
  rw[h2]at ha;revert ha;refine bc λe=>?_;cases e;rfl
 subst YR;have hb:∀b o,af.heap.get? b=some o->b≠220->(W3 w af.heap).base.get? b=some o:=λb o e gu=>hideAll_get _ e (by simpa using gu);have t4:(W3 w af.heap).base.get? 220=none:=hideAll_none _ (.head _);have V:Good w.params (W3 w af.heap):=by
  refine⟨rfl,rfl,λZ=>rfl,λZ=>rfl,λb o e=>?_,rfl,rfl,rfl,t4⟩;exact aX (qe (λZ Z Z=>rfl) e) λY e2=>hb b o (U b o Y) (by simpa using e2)
 have stays:(W3 w af.heap).base.StaysIn af.heap:=λb o e=>of_hideAll _ e;have lt:LT (W3 w af.heap) af.heap:=by
  refine⟨λP hP=>?_,?_⟩
  ·cases (show P=220 from hP);exact⟨#[],#[],Pz,rfl,by trivial,λpos cv h=>by exfalso;cases h⟩
  ·exact⟨_,zt (a:=cStatics) i2 rfl (by kernel_rfl),by kernel_rfl,by kernel_rfl⟩
 refine ax L.laid ?_;rintro ord-vj;have vj:(match (match layAllW [] (classAt s₀.heap) w.params ord (ns.map .int) s₀ with|some r=>some (V9 r.2.heap.objs.size,{r.2 with heap:=r.2.heap.push {cls:=.type "list",data:=.seq r.1.toArray}})|none=>none)with|some a=>some ([a.1],a.2)|none=>none)=some (vals,af):=vj;cases hq:layAllW [] (classAt s₀.heap) w.params ord (ns.map .int) s₀ with
 |none=>exact aZ (hq▸vj)
 |some q=>
 rw[hq]at vj;refine aX (Prod.mk.inj (gq vj)) λhv hs=>aX (Gg af.heap (λb=>b=q.2.heap.objs.size) ns s₀ hq) λq1 q2=>?_;have IF:q.2.heap.objs.size=571:=by refine ag q1 ?_;exact hz
 have Ro:af.heap.objs.size=572:=by rw[<-hs];show(q.2.heap.push _).objs.size=572;rw[rW,IF]
 have hx:bL af.heap (λb=>b=q.2.heap.objs.size) [.lst (ns.map .int)] vals:=by
  refine fP hv (⟨_,_,rfl,⟨_,_,rfl,rfl,⟨_,_,by refine fP hs ?_;exact w' _ rfl⟩,q2⟩,rfl⟩)
 have lb:∀b,(W3 w af.heap).loose b->b<aJ af:=λb hb=>by
  show b<af.heap.objs.size;refine ag Ro (g' hb ?_ ?_);rotate_left;clear hb;intro hb;rotate_right;clear hb;intro hb
  ·refine ag (show b=220 from hb) ?_;decide
  ·refine ag hb ?_;decide
 have z:Ready (W3 w af.heap) callerA [] (λb=>b=q.2.heap.objs.size) xh af 14:=
  ⟨⟨zt (hb _ _ i3 (by decide)) rfl (by kernel_rfl),zt (hb _ _ i0 (by decide)) rfl (by kernel_rfl)⟩,rfl,rfl,trivial,λZ h=>(nomatch h),stays,λb uN=>by
   cases (show b=q.2.heap.objs.size from uN);refine ag IF (⟨by show 571<af.heap.objs.size;refine ag Ro ?_;decide,λh=>?_⟩);refine g' h (λh=>?_) λh=>?_
   ·exact absurd (show(571:Nat)=220 from h) (by decide)
   ·exact absurd (show(571:Nat)=2 from h) (by decide),λZ h=>h.elim,λZ h=>h.elim,lb,lt,⟨by decide,by decide⟩,λZ h=>h.elim⟩
 have run:=(hF w.params _ V).1 callerA [] _ af _ _ _ z hx (hl w.params ns hn);refine gR (hU run λres s' h=>?_)
 match res,h with
 | .ok (.ret v),h=>
  obtain⟨av,F',e,T,-,Ek⟩:=h;cases e;subst Ek;refine⟨.inl ⟨_,.bool true,[],rfl,λcls=>rfl,.bool true,Lj ns,λZ=>⟨.nil,λZ h=>(nomatch h)⟩⟩,?_,T.os,T.gens.1 (AllBare.of_eq L.gens)⟩;have l2:=(T.tab lt).1 220 rfl;refine⟨λb o e=>?_,λb o e=>?_⟩
  ·by_cases PB:b=220
   ·subst PB;rw[Pz]at e;revert e;refine bc λe=>?_;subst e;refine bV l2 ?_;rintro ps more Y e2-;exact .inr (.inl ⟨⟨224,_,_,UK,rfl,rfl,rfl⟩,rfl,#[],more,rfl,by refine ag Y (ag e2 ?_);rfl⟩)
   ·exact .inl (T.stays b o (hb b o e PB))
  ·by_cases PB:b=220
   ·subst PB;refine e7 l2 ?_;rintro ps more Y-;exact⟨_,Y⟩
   ·exact⟨o,T.stays b o (hb b o e PB)⟩
 | .error x,h=>
  refine e7 h ?_;rintro cls e h1-;exfalso;cases h1
end
section
set_option backward.match.sparseCases true
section
variable {P:kX}
theorem sf{M:SW}{t u:Sem α}{Q:α->ea->Prop}(e:t=u)(h:wpAny M A u Q E s):wpAny M A t Q E s:=e▸h
noncomputable def xQ:Spec (gN [9] ["octet"] 1 83 "_digit") false (bG [9]).2.1:=⟨_,λP W G=>(ae (aW (UA qu qu (vE (ao ..)) (nv 0) (vE (ao ..))) (ae (aN (bo hV (nv 0) (vE (ao ..)))) ah) ah) (ae (aW (UA qu qu (vE (ao ..)) (nv 0) (vE (ao ..))) (ae (aN (bo hV (nv 0) (vE (ao ..)))) ah) ah) (ae (aW (UA qu qu (vE (ao ..)) (nv 0) (vE (ao ..))) (ae (aN (bo hV (nv 0) (vE (ao ..)))) ah) ah) (ae (UB (bl G (.ty "ValueError")) (ac (vE (c4 ..)) ay)) ah))))⟩
theorem xR(G:Good P W):Fb W 84 1 (bz 1 1 xQ.f):=⟨aT (G.K 84 (JK P) (by kernel_rfl)) rfl ⟨83,Nn P,_,_,rfl,G.K _ _ (by kernel_rfl),rfl,rfl⟩ rfl rfl rfl rfl (ps:=["octet"]) (all1 λa0=>by kernel_rfl) ⟨[],rfl⟩ (by decide+kernel) (by decide+kernel) (xQ.ok P W G),⟨_,_,G.K 84 (JK P) (by kernel_rfl),rfl⟩⟩
noncomputable def xS:Spec (gN [10] ["text"] 2 88 "unhexlify") false (bG [10]).2.1:=⟨_,λP W G=>(ae (aW (tr (vE (bo i6 (vE (cb fi (bl G (.bi "len")) (ac (nv 0) ay))) (vE (ao ..))))) (ae (UB (bl G (.ty "ValueError")) (ac (vE (c4 ..)) ay)) ah) ah) (ae (aN (ct Ft (bl G (.ty "bytes")) (ac (vN (co ["k","text"] 1 [0] (ri (bl G (.ty "range")) (ac (vE (ao ..)) (ac (vE (cb fi (bl G (.bi "len")) (ac (nv 0) ay))) (ac (vE (ao ..)) ay)))) (tn 0) vK (bo bW (vE (bo eH (vE (cf (xR G) (gl G (.ref 84)) (lc (sb (nv 1) (nv 0)) ai))) (vE (ao ..)))) (vE (cf (xR G) (gl G (.ref 84)) (lc (sb (nv 1) (vE (bo bW (nv 0) (vE (ao ..))))) ai)))))) ay))) ah))⟩
theorem Gh(G:Good P W):Fb W 89 2 (bz 1 1 xS.f):=⟨aT (G.K 89 (JL P) (by kernel_rfl)) rfl ⟨88,Np P,_,_,rfl,G.K _ _ (by kernel_rfl),rfl,rfl⟩ rfl rfl rfl rfl (ps:=["text"]) (all1 λa0=>by kernel_rfl) ⟨[],rfl⟩ (by decide+kernel) (by decide+kernel) (xS.ok P W G),⟨_,_,G.K 89 (JL P) (by kernel_rfl),rfl⟩⟩
noncomputable def o6:Spec (gN [11] ["octets"] 1 95 "ObjectID") false (bG [11]).2.1:=⟨_,λP W G=>(ae (aN (n_ 0)) ah)⟩
theorem PC(G:Good P W):Fb W 96 1 (bz 1 1 o6.f):=⟨aT (G.K 96 (JM P) (by kernel_rfl)) rfl ⟨95,Nq P,_,_,rfl,G.K _ _ (by kernel_rfl),rfl,rfl⟩ rfl rfl rfl rfl (ps:=["octets"]) (all1 λa0=>by kernel_rfl) ⟨[],rfl⟩ (by decide+kernel) (by decide+kernel) (o6.ok P W G),⟨_,_,G.K 96 (JM P) (by kernel_rfl),rfl⟩⟩
noncomputable def xT:Spec (gN [19] ["hex"] 3 102 "valid_hexsha") false (bG [19]).2.1:=⟨_,λP W G=>(ae (aW (tc kG (vE (cb fi (bl G (.bi "len")) (ac (nv 0) ay))) (vE (bt (lc (ao ..) (lc (ao ..) ai))))) (ae (aN (s_bool ..)) ah) ah) (ae (vm (ae (C_ (cf (Gh G) (gl G (.ref 89)) (lc (n_ 0) ai))) ah) (ae (aN (s_bool ..)) ah) (YM G (bt (lc (bl G (.ty "TypeError")) (lc (bl G (.ty "ValueError")) ai)))) (ae (aN (s_bool ..)) ah)) ah))⟩
theorem Gi(G:Good P W):Fb W 103 3 (bz 1 1 xT.f):=⟨aT (G.K 103 (AP P) (by kernel_rfl)) rfl ⟨102,Hm P,_,_,rfl,G.K _ _ (by kernel_rfl),rfl,rfl⟩ rfl rfl rfl rfl (ps:=["hex"]) (all1 λa0=>by kernel_rfl) ⟨[],rfl⟩ (by decide+kernel) (by decide+kernel) (xT.ok P W G),⟨_,_,G.K 103 (AP P) (by kernel_rfl),rfl⟩⟩
noncomputable def dy:Spec (gN [20] ["hex","error_msg"] 4 109 "check_hexsha") false (bG [20]).2.1:=⟨_,λP W G=>(ae (aW (i5 (tr (vE (cf (Gi G) (gl G (.ref 103)) (lc (n_ 0) ai))))) (ae (rO G (gl G (.ref 44)) (ac (vE (ow (ik (xy (n_ 1)) (ik fk (ik (Cp (n_ 0)) vZ))))) ay)) ah) ah) ah)⟩
theorem lp(G:Good P W):Fb W 110 4 (bz 2 2 dy.f):=⟨aT (G.K 110 (AQ P) (by kernel_rfl)) rfl ⟨109,Hn P,_,_,rfl,G.K _ _ (by kernel_rfl),rfl,rfl⟩ rfl rfl rfl rfl (ps:=["hex","error_msg"]) (all2 λa0 a1=>by kernel_rfl) ⟨[],rfl⟩ (by decide+kernel) (by decide+kernel) (dy.ok P W G),⟨_,_,G.K 110 (AQ P) (by kernel_rfl),rfl⟩⟩
noncomputable def dA:Spec (gN [21] ["identity","error_msg","email_start","email_end"] 1 116 "check_identity") false (bG [21]).2.1:=⟨_,λP W G=>(ae (aW (tc cT (nv 0) (vE (aG ..))) (ae (rO G (gl G (.ref 44)) (ac (nv 1) ay)) ah) ah) (ae (eB 2 (mt m_find j6 (nv 0) (ac (vE (aH ..)) ay))) (ae (eB 3 (mt m_find j6 (nv 0) (ac (vE (aH ..)) ay))) (ae (aW (i5 (tr (vE (cb N_ (bl G (.bi "all")) (ac (vN (bD (lc (cm Aq (nv 2) (vE (ao ..))) (lc (cm bZ (vE (sb (nv 0) (vE (bo hV (nv 2) (vE (ao ..)))))) (vE (sb (vE (aH ..)) (vE (ao ..))))) (lc (cm bZ (vE (mt m_find j6 (nv 0) (ac (vE (aH ..)) (ac (vE (bo bW (nv 2) (vE (ao ..)))) ay)))) (vE (jU (vE (ao ..))))) (lc (cm bZ (nv 3) (vE (bo hV (vE (cb fi (bl G (.bi "len")) (ac (nv 0) ay))) (vE (ao ..))))) (lc (cm tP (vE (aH ..)) (nv 0)) (lc (cm tP (vE (aH ..)) (nv 0)) ai)))))))) ay))))) (ae (rO G (gl G (.ref 44)) (ac (nv 1) ay)) ah) ah) ah))))⟩
theorem xU(G:Good P W):Fb W 117 1 (bz 4 2 dA.f):=⟨aT (G.K 117 (AR P) (by kernel_rfl)) rfl ⟨116,Ho P,_,_,rfl,G.K _ _ (by kernel_rfl),rfl,rfl⟩ rfl rfl rfl rfl (ps:=["identity","error_msg"]) (all2 λa0 a1=>by kernel_rfl) ⟨["email_start","email_end"],rfl⟩ (by decide+kernel) (by decide+kernel) (dA.ok P W G),⟨_,_,G.K 117 (AR P) (by kernel_rfl),rfl⟩⟩
noncomputable def sh:Spec (gN [22] ["time_seconds"] 1 123 "check_time") false (bG [22]).2.1:=⟨_,λP W G=>(ae (aW (tc Ao (nv 0) (vE (gl G (.int 9223372036854775807)))) (ae (rO G (gl G (.ref 44)) (ac (vE (ow (ik fk (ik (xy (gl G (.int 9223372036854775807))) vZ)))) ay)) ah) ah) ah)⟩
theorem Dc(G:Good P W):Fb W 124 1 (bz 1 1 sh.f):=⟨aT (G.K 124 (AS P) (by kernel_rfl)) rfl ⟨123,Hp P,_,_,rfl,G.K _ _ (by kernel_rfl),rfl,rfl⟩ rfl rfl rfl rfl (ps:=["time_seconds"]) (all1 λa0=>by kernel_rfl) ⟨[],rfl⟩ (by decide+kernel) (by decide+kernel) (sh.ok P W G),⟨_,_,G.K 124 (AS P) (by kernel_rfl),rfl⟩⟩
noncomputable def PD:mP (gN [27] ["text","sign","offset","unnecessary_negative_timezone","signum","hours","minutes"] 1 238 "parse_timezone") false (bG [27]).2.1:=⟨_,λP W G=>(aE (aR.r (aW (tc xq (vE (sb (nv 0) (vE (ao ..)))) (vE (aH ..))) (ae (UB (bl G (.ty "ValueError")) (ac (vE (c4 ..)) ay)) ah) ah)) (aE (aR.r (eB 1 (cX (nv 0) bx (ba (ao ..))))) (aE (UH 2 (Wu CE (bl G (.ty "int")) (ac (vE (cX (nv 0) (ba (ao ..)) bx)) ay))) (aE (aR.r (aW (tc bZ (nv 1) (vE (aH ..))) (ae (eB 2 (jU (nv 2))) ah) ah)) (aE (aR.r (eB 3 (rA (cm Aq (nv 2) (vE (ao ..))) (cm bZ (nv 1) (vE (aH ..)))))) (aE (aR.r (eB 4 (NP (rA (cm mn (nv 2) (vE (ao ..))) (jU (vE (ao ..)))) (ao ..)))) (aE (aR.r (eB 2 (cb Ih (bl G (.bi "abs")) (ac (nv 2) ay)))) (aE (aR.r (eB 5 (bo rl (nv 2) (vE (ao ..))))) (aE (aR.r (eB 6 (bo i6 (nv 2) (vE (ao ..))))) (aE (aR.r (aN (bt (lc (bo eH (nv 4) (vE (bo bW (vE (bo eH (nv 5) (vE (ao ..)))) (vE (bo eH (nv 6) (vE (ao ..))))))) (lc (n_ 3) ai))))) (c5.r ah)))))))))))⟩
theorem UL(G:Good P W):ID W 239 1 (bz 7 1 PD.f):=⟨jG (G.K 239 (A8 P) (by kernel_rfl)) rfl ⟨238,Hx P,_,_,rfl,G.K _ _ (by kernel_rfl),rfl,rfl⟩ rfl rfl rfl rfl (ps:=["text"]) (all1 λa0=>by kernel_rfl) ⟨["sign","offset","unnecessary_negative_timezone","signum","hours","minutes"],rfl⟩ (by decide+kernel) (by decide+kernel) (PD.ok P W G),⟨_,_,G.K 239 (A8 P) (by kernel_rfl),rfl⟩⟩
noncomputable def lq:mP (gN [29] ["value","sep","person","rest","timetext","timezonetext","time","timezone","timezone_neg_utc","exc"] 2 253 "parse_time_entry") false (bG [29]).2.1:=⟨_,λP W G=>(aE (aR.r (vm (ae (eB 1 (mt Ck Cm (nv 0) (ac (vE (aH ..)) ay))) ah) ah (Ws (bl G (.ty "ValueError"))) (ae (aN (bt (lc (n_ 0) (lc (aG ..) (lc (bt (lc (aG ..) (lc (s_bool ..) ai))) ai))))) ah))) (aE (YP 9 G (aE (aR.r (eB 2 (cX (nv 0) (ba (ao ..)) (ba (bo bW (nv 1) (vE (ao ..))))))) (aE (aR.r (eB 3 (cX (nv 0) (ba (bo bW (nv 1) (vE (ao ..)))) bx))) (aE (aR.r (un (eN (Rj Ci Cj (nv 3) (ac (vE (aH ..)) (ac (vE (ao ..)) ay)))) (jW (tn 4) (jW (tn 5) fx)))) (aE (UH 6 (Wu CE (bl G (.ty "int")) (ac (nv 4) ay))) (aE (Wv (Rn (UL G) (gl G (.ref 239)) (lc (n_ 5) ai)) (jW (tn 7) (jW (tn 8) fx))) (c5.r ah)))))) ah (bl G (.ty "ValueError")) (gl G (.ref 44))) (aE (aR.r (aN (bt (lc (n_ 2) (lc (n_ 6) (lc (bt (lc (n_ 7) (lc (n_ 8) ai))) ai)))))) (c5.r ah))))⟩
theorem IG(G:Good P W):ID W 254 2 (bz 10 1 lq.f):=⟨jG (G.K 254 (A9 P) (by kernel_rfl)) rfl ⟨253,Hy P,_,_,rfl,G.K _ _ (by kernel_rfl),rfl,rfl⟩ rfl rfl rfl rfl (ps:=["value"]) (all1 λa0=>by kernel_rfl) ⟨["sep","person","rest","timetext","timezonetext","time","timezone","timezone_neg_utc","exc"],rfl⟩ (by decide+kernel) (by decide+kernel) (lq.ok P W G),⟨_,_,G.K 254 (A9 P) (by kernel_rfl),rfl⟩⟩
structure PH(F:cz->ek)(b:List aaa) where
 f:St->Option Ou
 ok:∀P W,Good P W->∀cd,c5 W false (F cd) b f
noncomputable def gJ:PH (λcd=>⟨(bG [25,5]).2.2,["value"],1,false,cd,dF⟩) (bG [25,5]).2.1:=⟨_,λP W G cd=>(ae (aW (b8 (aY (tr (nv 0)) (aY (tr (vE (mt J3 J4 (nv 0) (ac (vE (aH ..)) ay)))) cP))) (ae (aN (cX (nv 0) bx (ba (jU (vE (ao ..)))))) ah) ah) (ae (aN (n_ 0)) ah))⟩
theorem xV(G:Good P W):Rh W (Pn 5) 1 (bz 1 1 gJ.f):=C4 (ps:=["value"]) (λpm cd z=>all1 λa0=>by kernel_rfl) ⟨[],rfl⟩ (by decide+kernel) (by decide+kernel) (λcd=>gJ.ok P W G cd)
noncomputable def wA:Pr (gN [25] ["self","chunks","text","place","k","v","eof","_strip_last_newline","end","line","rest"] 3 224 "_parse_message") (bG [25]).2.1:=⟨_,λP W G=>(b_ (d9 (eB 2 (mt jj jl (vE (aH ..)) (ac (nv 1) ay)))) (b_ (d9 (eB 3 (ao ..))) (b_ (d9 (eB 4 (aG ..))) (b_ (d9 (sO 5 (bD ai))) (b_ (d9 (eB 6 (s_bool ..))) (b_ (d9 (df G 7)) (b_ (FZ 20 (tc mn (nv 3) (vE (cb fi (bl G (.bi "len")) (ac (nv 2) ay)))) (b_ (d9 (eB 8 (mt m_find j6 (nv 2) (ac (vE (aH ..)) (ac (nv 3) ay))))) (b_ (d9 (eB 8 (rf (tc bZ (nv 8) (vE (jU (vE (ao ..))))) (cb fi (bl G (.bi "len")) (ac (nv 2) ay)) (bo bW (nv 8) (vE (ao ..)))))) (b_ (d9 (eB 9 (cX (nv 2) (ba (n_ 3)) (ba (n_ 8))))) (b_ (d9 (eB 3 (n_ 8))) (b_ (CX (tr (vE (mt B2 B3 (nv 9) (ac (vE (aH ..)) ay)))) (b_ (d9 (ap 5 (cX (nv 9) (ba (ao ..)) bx))) iM) (b_ (CX (tc fX (nv 4) (vE (aG ..))) (b_ (gy (bt (lc (n_ 4) (lc (Wt G 7 (xV G) (lc (mt jj jl (vE (aH ..)) (ac (nv 5) ay)) ai)) ai)))) iM) iM) (b_ (d9 (aW (tc bZ (nv 9) (vE (aH ..))) (ae (eB 6 (s_bool ..)) (ae AA ah)) ah)) (b_ (d9 (un (eN (Rj m_split rK (nv 9) (ac (vE (aH ..)) (ac (vE (ao ..)) ay)))) (jW (tn 4) (jW (tn 10) fx)))) (b_ (d9 (sO 5 (bD (lc (n_ 10) ai)))) iM))))) iM)))))) (b_ (CX (tr (nv 6)) (b_ (CX (tc fX (nv 4) (vE (aG ..))) (b_ (gy (bt (lc (n_ 4) (lc (Wt G 7 (xV G) (lc (mt jj jl (vE (aH ..)) (ac (nv 5) ay)) ai)) ai)))) iM) iM) (b_ (gy (bt (lc (aG ..) (lc (aG ..) ai)))) iM)) iM) (b_ (CX (i5 (tr (nv 6))) (b_ (gy (bt (lc (aG ..) (lc (cX (nv 2) (ba (n_ 3)) bx) ai)))) iM) iM) iM)))))))))⟩
theorem PI(G:Good P W):Gb W 225 3 (λxs=>if xs.length=1 then(match wA.f (.un::aO 10 xs)with|some (ys,.next _)=>some ys|_=>none)else none):=⟨KY (G.K 225 (A7 P) (by kernel_rfl)) rfl ⟨224,xl P,_,_,rfl,G.K _ _ (by kernel_rfl),rfl,rfl⟩ rfl rfl rfl rfl (ps:=["chunks"]) (all1 λa0=>by kernel_rfl) ⟨["text","place","k","v","eof","_strip_last_newline","end","line","rest"],rfl⟩ (by decide+kernel) (by decide+kernel) (λW' U=>wA.ok P W' (G.up U)) rfl rfl rfl,⟨_,_,G.K 225 (A7 P) (by kernel_rfl),rfl⟩⟩
noncomputable def De:mP (gN [31] ["self","chunks","signature_header","parents","extra","tree","author","committer","encoding","message","signatures","in_parents","field","value","no_ident"] 5 268 "_parse_commit") false (bG [31]).2.1:=⟨_,λP W G=>(aE (aR.r (sO 3 (bD ai))) (aE (aR.r (sO 4 (bD ai))) (aE (aR.r (eB 5 (aG ..))) (aE (aR.r (eB 6 (aG ..))) (aE (aR.r (eB 7 (aG ..))) (aE (aR.r (eB 8 (aG ..))) (aE (aR.r (eB 9 (aG ..))) (aE (aR.r (sO 10 (bD ai))) (aE (aR.r (eB 11 (s_bool ..))) (aE (aR.r (Wr G (PI G) (gl G (.ref 225)) (lc (n_ 1) ai) (λW G=>(jE (jW (tn 12) (jW (tn 13) fx)))) (λW G=>(ae (aW (b8 (aY (tc cT (nv 5) (vE (aG ..))) (aY (tc kz (nv 12) (vE (gl G (.aa [116,114,101,101])))) cP))) (ae (rO G (gl G (.ref 44)) (ac (vE (c4 ..)) ay)) ah) ah) (ae (aW (tc kz (nv 12) (vE (gl G (.aa [112,97,114,101,110,116])))) (ae (eB 11 (rA (cm cT (nv 5) (vE (aG ..))) (cm bZ (nv 12) (vE (gl G (.aa [116,114,101,101])))))) ah) ah) (ae (aW (tc bZ (nv 12) (vE (gl G (.aa [116,114,101,101])))) (ae (aW (tc cT (nv 5) (vE (aG ..))) (ae (aW (tc cT (nv 13) (vE (aG ..))) (ae (rO G (gl G (.ref 44)) (ac (vE (c4 ..)) ay)) ah) ah) (ae (C_ (cf (lp G) (gl G (.ref 110)) (lc (n_ 13) (lc (c4 ..) ai)))) (ae (eB 5 (n_ 13)) ah))) ah) ah) (ae (aW (tc bZ (nv 12) (vE (gl G (.aa [112,97,114,101,110,116])))) (ae (aW (tc cT (nv 13) (vE (aG ..))) (ae (rO G (gl G (.ref 44)) (ac (vE (c4 ..)) ay)) ah) ah) (ae (aW (tr (nv 11)) (ae (C_ (cf (lp G) (gl G (.ref 110)) (lc (n_ 13) (lc (c4 ..) ai)))) (ae (ap 3 (n_ 13)) ah)) ah) ah)) (ae (aW (tc bZ (nv 12) (vE (gl G (.aa [97,117,116,104,111,114])))) (ae (aW (tc cT (nv 13) (vE (aG ..))) (ae (rO G (gl G (.ref 44)) (ac (vE (c4 ..)) ay)) ah) ah) (ae (aW (tc cT (nv 6) (vE (aG ..))) (ae (eB 6 (n_ 13)) ah) ah) ah)) (ae (aW (tc bZ (nv 12) (vE (gl G (.aa [99,111,109,109,105,116,116,101,114])))) (ae (aW (tc cT (nv 13) (vE (aG ..))) (ae (rO G (gl G (.ref 44)) (ac (vE (c4 ..)) ay)) ah) ah) (ae (aW (tc cT (nv 7) (vE (aG ..))) (ae (eB 7 (n_ 13)) ah) ah) ah)) (ae (aW (tc bZ (nv 12) (vE (gl G (.aa [101,110,99,111,100,105,110,103])))) (ae (aW (tc cT (nv 8) (vE (aG ..))) (ae (eB 8 (n_ 13)) ah) ah) ah) (ae (aW (tc bZ (nv 12) (nv 2)) (ae (aW (tc cT (nv 13) (vE (aG ..))) (ae (rO G (gl G (.ref 44)) (ac (vE (c4 ..)) ay)) ah) ah) (ae (ap 10 (n_ 13)) ah)) (ae (aW (tc cT (nv 12) (vE (aG ..))) (ae (eB 9 (n_ 13)) ah) (ae (aW (tc cT (nv 13) (vE (aG ..))) (ae (rO G (gl G (.ref 44)) (ac (vE (ow (ik fk (ik (Cp (n_ 12)) vZ)))) ay)) ah) ah) (ae (ap 4 (bt (lc (n_ 12) (lc (n_ 13) ai)))) ah))) ah)) ah)) ah)) ah)) ah)) ah)) ah)))))) (aE (aR.r (eB 14 (bt (lc (aG ..) (lc (aG ..) (lc (bt (lc (aG ..) (lc (aG ..) ai))) ai)))))) (aE (UI 4 (UI 3 (Ko (Cu (IE (aL.r (n_ 5)) (IE (aL.r (n_ 3)) (IE (Ii (tc fX (nv 6) (vE (aG ..))) (Rn (IG G) (gl G (.ref 254)) (lc (n_ 6) ai)) (aL.r (n_ 14))) (IE (Ii (tc fX (nv 7) (vE (aG ..))) (Rn (IG G) (gl G (.ref 254)) (lc (n_ 7) ai)) (aL.r (n_ 14))) (IE (aL.r (n_ 8)) (IE (aL.r (rf (tr (nv 10)) (mt jj jl (vE (aH ..)) (ac (nv 10) ay)) (aG ..))) (IE (aL.r (n_ 9)) (IE (aL.r (n_ 4)) (fG.r ai))))))))))))) (c5.r ah)))))))))))))⟩
set_option maxHeartbeats 4000000 in
theorem UM(G:Good P W):ID W 269 5 (λxs=>if(xs++[AV.aa [103,112,103,115,105,103]]).length=2 then bg (De.f (.un::aO 14 (xs++[AV.aa [103,112,103,115,105,103]])))else none):=
 ⟨C6 (G.K 269 (A_ P) (by kernel_rfl)) rfl ⟨268,HB P,_,_,rfl,G.K _ _ (by kernel_rfl),rfl,rfl⟩ rfl rfl rfl rfl (ds:=[.aa [103,112,103,115,105,103]]) (dvs:=[.bytes #[103,112,103,115,105,103] 333]) (ps:=["chunks","signature_header"])
  (λh F=>by simp[zQ,yo,lL,lM,lN,mh,ED]) (λvs A Q E s h hs z=>by
    refine au (List.length_eq_one_iff.mp (by simpa using h:vs.length=1)) ?_;rintro v rfl;obtain⟨K,k1,k2⟩:∃K,bindArgs (nY (bG [31]) "_parse_commit" "_parse_commit" 3 [] .none (.ref 262) .none .none (.str "dulwich.objects" 301) (.ref 268) 0 none) ⟨[v],[]⟩=(seqItems? (.ref 262)>>=K)/\K (some #[.bytes #[103,112,103,115,105,103] 333])=pure [(("chunks":Str),v),(("signature_header":Str),.bytes #[103,112,103,115,105,103] 333)]:=⟨_,rfl,by kernel_rfl⟩;refine sf k1 (az (ace (hs _ _ (G.K 262 (Hz P) (by kernel_rfl))) rfl ?_));rw[k2];exact en z) ⟨_,rfl⟩ (by decide+kernel) (by decide+kernel) (De.ok P W G),⟨_,_,G.K 269 (A_ P) (by kernel_rfl),rfl⟩⟩
noncomputable def nz:Spec (gN [24,0] ["self"] 1 144 "ShaFile.__init__") false (bG [24,0]).2.1:=⟨_,λP W G=>(ae (sa G 0 501 (aG ..)) (ae (sa G 0 501 (aG ..)) (ae (sa G 0 501 (s_bool ..)) (ae (sa G 0 501 (gl G (.ref 76))) ah))))⟩
theorem Gj(G:Good P W):UC W 145 1 501 (λks xs ys=>if ys.length=0 then eR 501 (nz.f (.ob 501 ks xs::aO 0 ys))else none):=⟨FK 501 (G.K 145 (AU P) (by kernel_rfl)) rfl ⟨144,Hq P,_,_,rfl,G.K _ _ (by kernel_rfl),rfl,rfl⟩ rfl rfl rfl rfl (ps:=[]) (all1 λa0=>by kernel_rfl) ⟨[],rfl⟩ (by decide+kernel) (by decide+kernel) (nz.ok P W G),⟨_,_,G.K 145 (AU P) (by kernel_rfl),rfl⟩⟩
noncomputable def Df:Spec (gN [24,1] ["self"] 1 151 "ShaFile.as_raw_chunks") false (bG [24,1]).2.1:=⟨_,λP W G=>(ae (aW (tr (vE (at_ G 0 501))) dead ah) (ae (fN (tc fX (vE (at_ G 0 501)) (vE (aG ..)))) (ae (aN (at_ G 0 501)) ah)))⟩
theorem II(G:Good P W):Fb W 152 1 (bz 1 1 Df.f):=⟨aT (G.K 152 (AW P) (by kernel_rfl)) rfl ⟨151,Hr P,_,_,rfl,G.K _ _ (by kernel_rfl),rfl,rfl⟩ rfl rfl rfl rfl (ps:=["self"]) (all1 λa0=>by kernel_rfl) ⟨[],rfl⟩ (by decide+kernel) (by decide+kernel) (Df.ok P W G),⟨_,_,G.K 152 (AW P) (by kernel_rfl),rfl⟩⟩
noncomputable def xW:Spec (gN [24,2] ["self"] 2 158 "ShaFile.as_raw_string") false (bG [24,2]).2.1:=⟨_,λP W G=>(ae (aN (mt jj jl (vE (aH ..)) (ac (vE (me G 0 501 (II G) ai)) ay))) ah)⟩
theorem PJ(G:Good P W):Fb W 159 2 (bz 1 1 xW.f):=⟨aT (G.K 159 (AX P) (by kernel_rfl)) rfl ⟨158,Hs P,_,_,rfl,G.K _ _ (by kernel_rfl),rfl,rfl⟩ rfl rfl rfl rfl (ps:=["self"]) (all1 λa0=>by kernel_rfl) ⟨[],rfl⟩ (by decide+kernel) (by decide+kernel) (xW.ok P W G),⟨_,_,G.K 159 (AX P) (by kernel_rfl),rfl⟩⟩
noncomputable def si:Spec (gN [32,2] ["self"] 3 284 "Commit.__init__") false (bG [32,2]).2.1.tail:=⟨_,λP W G=>(ae (sa G 0 501 (eN (bD ai))) (ae (sa G 0 501 (aG ..)) (ae (sa G 0 501 (aG ..)) (ae (sa G 0 501 (eN (bD ai))) (ae (sa G 0 501 (s_bool ..)) (ae (sa G 0 501 (s_bool ..)) ah))))))⟩
theorem Lk(G:Good P W):UC W 285 3 501 (λks xs ys=>match ys with|[]=>eR 501 (oR 501 (λks xs ys=>if ys.length=0 then eR 501 (nz.f (.ob 501 ks xs::aO 0 ys))else none) si.f ks xs (.ob 501 ks xs::aO 0 []))|_=>none):=
 ⟨p_ (K:=KB P) (fd:=nY (bG [32,2]) "__init__" "Commit.__init__" 3 [("__class__",273)] (.ref 278) .none .none .none (.str "dulwich.objects" 301) (.ref 284) 0 none) (a:=285) (D:=501) (C:=501) (cc:=273) (fS:=145) (rkS:=1) (names:=["self"])
  ⟨G.K,⟨_,G.K 285 (Bb P) (by kernel_rfl),rfl⟩,⟨_,rfl,rfl⟩,⟨284,Ba P,_,_,_,rfl,G.K _ _ (by kernel_rfl),rfl,rfl,by rw[G.prog];kernel_rfl⟩,⟨_,G.K 273 (HC P) (by kernel_rfl),rfl⟩,rfl,⟨_,_,G.K 501 (HQ P) (by kernel_rfl),rfl⟩,by kernel_rfl,(G.mg _).trans (by kernel_rfl),(G.mb _).trans (by kernel_rfl),by rw[G.prog];kernel_rfl,by kernel_rfl,by kernel_rfl,by kernel_rfl,by kernel_rfl,by kernel_rfl,by kernel_rfl,by kernel_rfl,by kernel_rfl⟩
  ⟨284,Ba P,_,_,rfl,G.K _ _ (by kernel_rfl),rfl,rfl⟩ rfl rfl rfl (λv=>by kernel_rfl) rfl (by decide+kernel) (by decide+kernel) (Gj G).1 (by decide) (si.ok P W G) (jq (fn:=gN [32,2] ["self"] 3 284 "Commit.__init__") (by kernel_rfl)) (λZ=>rfl) (λZ=>rfl),⟨_,_,G.K 285 (Bb P) (by kernel_rfl),rfl⟩⟩
noncomputable def xX:mP (gN [32,3] ["self","chunks","tree","parents","author_info","commit_info","encoding","gpgsig","message","extra"] 6 289 "Commit._deserialize") false (bG [32,3]).2.1:=⟨_,λP W G=>(aE (Wv (Rn (UM G) (gl G (.ref 269)) (lc (n_ 1) ai)) (jW (tn 2) (jW (tn 3) (jW (tn 4) (jW (tn 5) (jW (tn 6) (jW (tn 7) (jW (tn 8) (jW (tn 9) fx))))))))) (aE (aR.r (sa G 0 501 (n_ 2))) (aE (aR.r (sa G 0 501 (eN (co ["p"] 1 [] (il (n_ 3)) (tn 0) vK (cf (PC G) (gl G (.ref 96)) (lc (n_ 0) ai)))))) (aE (aR.r (sa G 0 501 (n_ 6))) (aE (aR.r (sa G 0 501 (n_ 7))) (aE (aR.r (sa G 0 501 (n_ 8))) (aE (aR.r (sa G 0 501 (n_ 9))) (aE (aR.r (un (n_ 4) (jW (ta G 0 501) (jW (ta G 0 501) (jW (jE (jW (ta G 0 501) (jW (ta G 0 501) fx))) fx))))) (aE (aR.r (un (n_ 5) (jW (ta G 0 501) (jW (ta G 0 501) (jW (jE (jW (ta G 0 501) (jW (ta G 0 501) fx))) fx))))) (c5.r ah))))))))))⟩
theorem PK(G:Good P W):Ge W 290 6 501 (λks xs ys=>if ys.length=1 then eR 501 (xX.f (.ob 501 ks xs::aO 9 ys))else none):=⟨oQ 501 (G.K 290 (Bc P) (by kernel_rfl)) rfl ⟨289,HD P,_,_,rfl,G.K _ _ (by kernel_rfl),rfl,rfl⟩ rfl rfl rfl rfl (ps:=["chunks"]) (all2 λa0 a1=>by kernel_rfl) ⟨["tree","parents","author_info","commit_info","encoding","gpgsig","message","extra"],rfl⟩ (by decide+kernel) (by decide+kernel) (xX.ok P W G),⟨_,_,G.K 290 (Bc P) (by kernel_rfl),rfl⟩⟩
noncomputable def uh:mP (gN [24,4] ["self","chunks"] 8 172 "ShaFile.set_raw_chunks") false (bG [24,4]).2.1:=⟨_,λP W G=>(aE (aR.r (sa G 0 501 (n_ 1))) (aE (aR.r (sa G 0 501 (aG ..))) (aE (UJ G 0 501 (PK G) (lc (n_ 1) ai)) (aE (aR.r (sa G 0 501 (s_bool ..))) (c5.r ah)))))⟩
theorem PM(G:Good P W):Ge W 173 8 501 (λks xs ys=>if ys.length=1 then eR 501 (uh.f (.ob 501 ks xs::aO 1 ys))else none):=⟨oQ 501 (G.K 173 (AZ P) (by kernel_rfl)) rfl ⟨172,Hu P,_,_,rfl,G.K _ _ (by kernel_rfl),rfl,rfl⟩ rfl rfl rfl rfl (ps:=["chunks"]) (all2 λa0 a1=>by kernel_rfl) ⟨[],rfl⟩ (by decide+kernel) (by decide+kernel) (uh.ok P W G),⟨_,_,G.K 173 (AZ P) (by kernel_rfl),rfl⟩⟩
noncomputable def xY:mP (gN [24,3] ["self","text"] 10 165 "ShaFile.set_raw_string") false (bG [24,3]).2.1:=⟨_,λP W G=>(aE (aR.r (aW (i5 (tr (vE (cb Oa (bl G (.bi "isinstance")) (ac (nv 1) (ac (vE (bl G (.ty "bytes"))) ay)))))) dead ah)) (aE (UJ G 0 501 (PM G) (lc (eN (bD (lc (n_ 1) ai))) ai)) (c5.r ah)))⟩
theorem PO(G:Good P W):Ge W 166 10 501 (λks xs ys=>if ys.length=1 then eR 501 (xY.f (.ob 501 ks xs::aO 1 ys))else none):=⟨oQ 501 (G.K 166 (AY P) (by kernel_rfl)) rfl ⟨165,Ht P,_,_,rfl,G.K _ _ (by kernel_rfl),rfl,rfl⟩ rfl rfl rfl rfl (ps:=["text"]) (all2 λa0 a1=>by kernel_rfl) ⟨[],rfl⟩ (by decide+kernel) (by decide+kernel) (xY.ok P W G),⟨_,_,G.K 166 (AY P) (by kernel_rfl),rfl⟩⟩
noncomputable def o7:mP (gN [24,5] ["cls","string","obj"] 12 179 "ShaFile.from_string") false (bG [24,5]).2.1:=⟨_,λP W G=>(aE (aR.r (mk G 2 0 501 (Lk G))) (aE (UJ G 2 501 (PO G) (lc (n_ 1) ai)) (aE (UI 2 (aR.r (aN (n_ 2)))) (c5.r ah))))⟩
theorem Ll(G:Good P W):ID W 180 12 (bz 3 2 o7.f):=⟨jG (G.K 180 (A6 P) (by kernel_rfl)) rfl ⟨179,Hv P,_,_,rfl,G.K _ _ (by kernel_rfl),rfl,rfl⟩ rfl rfl rfl rfl (ps:=["cls","string"]) (all2 λa0 a1=>by kernel_rfl) ⟨["obj"],rfl⟩ (by decide+kernel) (by decide+kernel) (o7.ok P W G),⟨_,_,G.K 180 (A6 P) (by kernel_rfl),rfl⟩⟩
noncomputable def nA:Spec (gN [32,4] ["self","parent","last","field","_"] 5 296 "Commit.check") false (bG [32,4]).2.1:=⟨_,λP W G=>(ae (C_ (me G 0 501 (II G) ai)) (ae (aW (tc cT (vE (at_ G 0 501)) (vE (aG ..))) (ae (rO G (gl G (.ref 44)) (ac (vE (c4 ..)) ay)) ah) ah) (ae (aW (tc cT (vE (at_ G 0 501)) (vE (aG ..))) (ae (rO G (gl G (.ref 44)) (ac (vE (c4 ..)) ay)) ah) ah) (ae (aW (tc cT (vE (at_ G 0 501)) (vE (aG ..))) (ae (rO G (gl G (.ref 44)) (ac (vE (c4 ..)) ay)) ah) ah) (ae (aW (tc cT (vE (at_ G 0 501)) (vE (aG ..))) (ae (rO G (gl G (.ref 44)) (ac (vE (c4 ..)) ay)) ah) ah) (ae (aW (tc cT (vE (at_ G 0 501)) (vE (aG ..))) (ae (rO G (gl G (.ref 44)) (ac (vE (c4 ..)) ay)) ah) ah) (ae (fr (il (at_ G 0 501)) (tn 1) (ae (C_ (cf (lp G) (gl G (.ref 110)) (lc (n_ 1) (lc (c4 ..) ai)))) ah)) (ae (fN (tc fX (vE (at_ G 0 501)) (vE (aG ..)))) (ae (C_ (cf (lp G) (gl G (.ref 110)) (lc (at_ G 0 501) (lc (c4 ..) ai)))) (ae (fN (tc fX (vE (at_ G 0 501)) (vE (aG ..)))) (ae (fN (tc fX (vE (at_ G 0 501)) (vE (aG ..)))) (ae (C_ (cf (xU G) (gl G (.ref 117)) (lc (at_ G 0 501) (lc (c4 ..) ai)))) (ae (C_ (cf (xU G) (gl G (.ref 117)) (lc (at_ G 0 501) (lc (c4 ..) ai)))) (ae (fN (tc fX (vE (at_ G 0 501)) (vE (aG ..)))) (ae (fN (tc fX (vE (at_ G 0 501)) (vE (aG ..)))) (ae (C_ (cf (Dc G) (gl G (.ref 124)) (lc (at_ G 0 501) ai))) (ae (C_ (cf (Dc G) (gl G (.ref 124)) (lc (at_ G 0 501) ai))) (ae (eB 2 (aG ..)) (ae (Wr G (PI G) (gl G (.ref 225)) (lc (at_ G 0 501) ai) (λW G=>(jE (jW (tn 3) (jW (tn 4) fx)))) (λW G=>(ae (aW (b8 (aY (tc bZ (nv 3) (vE (gl G (.aa [116,114,101,101])))) (aY (tc fX (nv 2) (vE (aG ..))) cP))) (ae (rO G (gl G (.ref 44)) (ac (vE (c4 ..)) ay)) ah) (ae (aW (b8 (aY (tc bZ (nv 3) (vE (gl G (.aa [112,97,114,101,110,116])))) (aY (tc kG (nv 2) (vE (bt (lc (gl G (.aa [112,97,114,101,110,116])) (lc (gl G (.aa [116,114,101,101])) ai))))) cP))) (ae (rO G (gl G (.ref 44)) (ac (vE (c4 ..)) ay)) ah) (ae (aW (b8 (aY (tc bZ (nv 3) (vE (gl G (.aa [97,117,116,104,111,114])))) (aY (tc kG (nv 2) (vE (bt (lc (gl G (.aa [116,114,101,101])) (lc (gl G (.aa [112,97,114,101,110,116])) ai))))) cP))) (ae (rO G (gl G (.ref 44)) (ac (vE (c4 ..)) ay)) ah) (ae (aW (b8 (aY (tc bZ (nv 3) (vE (gl G (.aa [99,111,109,109,105,116,116,101,114])))) (aY (tc kz (nv 2) (vE (gl G (.aa [97,117,116,104,111,114])))) cP))) (ae (rO G (gl G (.ref 44)) (ac (vE (c4 ..)) ay)) ah) (ae (aW (b8 (aY (tc bZ (nv 3) (vE (gl G (.aa [101,110,99,111,100,105,110,103])))) (aY (tc kz (nv 2) (vE (gl G (.aa [99,111,109,109,105,116,116,101,114])))) cP))) (ae (rO G (gl G (.ref 44)) (ac (vE (c4 ..)) ay)) ah) ah) ah)) ah)) ah)) ah)) (ae (eB 2 (n_ 3)) ah)))) ah)))))))))))))))))))⟩
theorem Gk(G:Good P W):Fb W 297 5 (bz 5 1 nA.f):=⟨aT (G.K 297 (Bd P) (by kernel_rfl)) rfl ⟨296,HE P,_,_,rfl,G.K _ _ (by kernel_rfl),rfl,rfl⟩ rfl rfl rfl rfl (ps:=["self"]) (all1 λa0=>by kernel_rfl) ⟨["parent","last","field","_"],rfl⟩ (by decide+kernel) (by decide+kernel) (nA.ok P W G),⟨_,_,G.K 297 (Bd P) (by kernel_rfl),rfl⟩⟩
noncomputable def o8:Spec (gN [32,7] ["self"] 1 317 "Commit.tree") false (bG [32,7]).2.1:=⟨_,λP W G=>(ae (aN (at_ G 0 501)) ah)⟩
theorem Dg(G:Good P W):Fb W 318 1 (bz 1 1 o8.f):=⟨aT (G.K 318 (Be P) (by kernel_rfl)) rfl ⟨317,HF P,_,_,rfl,G.K _ _ (by kernel_rfl),rfl,rfl⟩ rfl rfl rfl rfl (ps:=["self"]) (all1 λa0=>by kernel_rfl) ⟨[],rfl⟩ (by decide+kernel) (by decide+kernel) (o8.ok P W G),⟨_,_,G.K 318 (Be P) (by kernel_rfl),rfl⟩⟩
noncomputable def jr:Spec (gN [32,9] ["self"] 1 334 "Commit.parents") false (bG [32,9]).2.1:=⟨_,λP W G=>(ae (aN (at_ G 0 501)) ah)⟩
theorem ui(G:Good P W):Fb W 335 1 (bz 1 1 jr.f):=⟨aT (G.K 335 (Bf P) (by kernel_rfl)) rfl ⟨334,HG P,_,_,rfl,G.K _ _ (by kernel_rfl),rfl,rfl⟩ rfl rfl rfl rfl (ps:=["self"]) (all1 λa0=>by kernel_rfl) ⟨[],rfl⟩ (by decide+kernel) (by decide+kernel) (jr.ok P W G),⟨_,_,G.K 335 (Bf P) (by kernel_rfl),rfl⟩⟩
noncomputable def kh:Spec (gN [32,11] ["self"] 1 351 "Commit.author") false (bG [32,11]).2.1:=⟨_,λP W G=>(ae (aN (at_ G 0 501)) ah)⟩
theorem wB(G:Good P W):Fb W 352 1 (bz 1 1 kh.f):=⟨aT (G.K 352 (Bg P) (by kernel_rfl)) rfl ⟨351,HH P,_,_,rfl,G.K _ _ (by kernel_rfl),rfl,rfl⟩ rfl rfl rfl rfl (ps:=["self"]) (all1 λa0=>by kernel_rfl) ⟨[],rfl⟩ (by decide+kernel) (by decide+kernel) (kh.ok P W G),⟨_,_,G.K 352 (Bg P) (by kernel_rfl),rfl⟩⟩
noncomputable def gO:Spec (gN [32,13] ["self"] 1 368 "Commit.committer") false (bG [32,13]).2.1:=⟨_,λP W G=>(ae (aN (at_ G 0 501)) ah)⟩
theorem qf(G:Good P W):Fb W 369 1 (bz 1 1 gO.f):=⟨aT (G.K 369 (Bh P) (by kernel_rfl)) rfl ⟨368,HI P,_,_,rfl,G.K _ _ (by kernel_rfl),rfl,rfl⟩ rfl rfl rfl rfl (ps:=["self"]) (all1 λa0=>by kernel_rfl) ⟨[],rfl⟩ (by decide+kernel) (by decide+kernel) (gO.ok P W G),⟨_,_,G.K 369 (Bh P) (by kernel_rfl),rfl⟩⟩
noncomputable def js:Spec (gN [32,15] ["self"] 1 385 "Commit.message") false (bG [32,15]).2.1:=⟨_,λP W G=>(ae (aN (at_ G 0 501)) ah)⟩
theorem uj(G:Good P W):Fb W 386 1 (bz 1 1 js.f):=⟨aT (G.K 386 (Bi P) (by kernel_rfl)) rfl ⟨385,HJ P,_,_,rfl,G.K _ _ (by kernel_rfl),rfl,rfl⟩ rfl rfl rfl rfl (ps:=["self"]) (all1 λa0=>by kernel_rfl) ⟨[],rfl⟩ (by decide+kernel) (by decide+kernel) (js.ok P W G),⟨_,_,G.K 386 (Bi P) (by kernel_rfl),rfl⟩⟩
noncomputable def fB:Spec (gN [32,17] ["self"] 1 402 "Commit.commit_time") false (bG [32,17]).2.1:=⟨_,λP W G=>(ae (aN (at_ G 0 501)) ah)⟩
theorem m_(G:Good P W):Fb W 403 1 (bz 1 1 fB.f):=⟨aT (G.K 403 (Bj P) (by kernel_rfl)) rfl ⟨402,HK P,_,_,rfl,G.K _ _ (by kernel_rfl),rfl,rfl⟩ rfl rfl rfl rfl (ps:=["self"]) (all1 λa0=>by kernel_rfl) ⟨[],rfl⟩ (by decide+kernel) (by decide+kernel) (fB.ok P W G),⟨_,_,G.K 403 (Bj P) (by kernel_rfl),rfl⟩⟩
noncomputable def dq:Spec (gN [32,19] ["self"] 1 419 "Commit.commit_timezone") false (bG [32,19]).2.1:=⟨_,λP W G=>(ae (aN (at_ G 0 501)) ah)⟩
theorem jO(G:Good P W):Fb W 420 1 (bz 1 1 dq.f):=⟨aT (G.K 420 (Bk P) (by kernel_rfl)) rfl ⟨419,HL P,_,_,rfl,G.K _ _ (by kernel_rfl),rfl,rfl⟩ rfl rfl rfl rfl (ps:=["self"]) (all1 λa0=>by kernel_rfl) ⟨[],rfl⟩ (by decide+kernel) (by decide+kernel) (dq.ok P W G),⟨_,_,G.K 420 (Bk P) (by kernel_rfl),rfl⟩⟩
noncomputable def fC:Spec (gN [32,21] ["self"] 1 436 "Commit.author_time") false (bG [32,21]).2.1:=⟨_,λP W G=>(ae (aN (at_ G 0 501)) ah)⟩
theorem nc(G:Good P W):Fb W 437 1 (bz 1 1 fC.f):=⟨aT (G.K 437 (Bl P) (by kernel_rfl)) rfl ⟨436,HM P,_,_,rfl,G.K _ _ (by kernel_rfl),rfl,rfl⟩ rfl rfl rfl rfl (ps:=["self"]) (all1 λa0=>by kernel_rfl) ⟨[],rfl⟩ (by decide+kernel) (by decide+kernel) (fC.ok P W G),⟨_,_,G.K 437 (Bl P) (by kernel_rfl),rfl⟩⟩
noncomputable def du:Spec (gN [32,23] ["self"] 1 453 "Commit.author_timezone") false (bG [32,23]).2.1:=⟨_,λP W G=>(ae (aN (at_ G 0 501)) ah)⟩
theorem jP(G:Good P W):Fb W 454 1 (bz 1 1 du.f):=⟨aT (G.K 454 (Bm P) (by kernel_rfl)) rfl ⟨453,HN P,_,_,rfl,G.K _ _ (by kernel_rfl),rfl,rfl⟩ rfl rfl rfl rfl (ps:=["self"]) (all1 λa0=>by kernel_rfl) ⟨[],rfl⟩ (by decide+kernel) (by decide+kernel) (du.ok P W G),⟨_,_,G.K 454 (Bm P) (by kernel_rfl),rfl⟩⟩
noncomputable def iw:Spec (gN [32,25] ["self"] 1 470 "Commit.encoding") false (bG [32,25]).2.1:=⟨_,λP W G=>(ae (aN (at_ G 0 501)) ah)⟩
theorem sj(G:Good P W):Fb W 471 1 (bz 1 1 iw.f):=⟨aT (G.K 471 (Bn P) (by kernel_rfl)) rfl ⟨470,HO P,_,_,rfl,G.K _ _ (by kernel_rfl),rfl,rfl⟩ rfl rfl rfl rfl (ps:=["self"]) (all1 λa0=>by kernel_rfl) ⟨[],rfl⟩ (by decide+kernel) (by decide+kernel) (iw.ok P W G),⟨_,_,G.K 471 (Bn P) (by kernel_rfl),rfl⟩⟩
noncomputable def ki:Spec (gN [32,27] ["self"] 1 487 "Commit.gpgsig") false (bG [32,27]).2.1:=⟨_,λP W G=>(ae (aN (at_ G 0 501)) ah)⟩
theorem wC(G:Good P W):Fb W 488 1 (bz 1 1 ki.f):=⟨aT (G.K 488 (Bo P) (by kernel_rfl)) rfl ⟨487,HP P,_,_,rfl,G.K _ _ (by kernel_rfl),rfl,rfl⟩ rfl rfl rfl rfl (ps:=["self"]) (all1 λa0=>by kernel_rfl) ⟨[],rfl⟩ (by decide+kernel) (by decide+kernel) (ki.ok P W G),⟨_,_,G.K 488 (Bo P) (by kernel_rfl),rfl⟩⟩
noncomputable def IJ:Spec (gN [34] [] 1 509 "_law_one") false (bG [34]).2.1:=⟨_,λP W G=>(ae (aN (bo eH (vE (aH ..)) (vE (ao ..)))) ah)⟩
theorem PQ(G:Good P W):Fb W 510 1 (bz 0 0 IJ.f):=⟨aT (G.K 510 (Bp P) (by kernel_rfl)) rfl ⟨509,HR P,_,_,rfl,G.K _ _ (by kernel_rfl),rfl,rfl⟩ rfl rfl rfl rfl (ps:=[]) (Ga (by kernel_rfl)) ⟨[],rfl⟩ (by decide+kernel) (by decide+kernel) (IJ.ok P W G),⟨_,_,G.K 510 (Bp P) (by kernel_rfl),rfl⟩⟩
noncomputable def sk:Spec (gN [35] [] 2 516 "_law_rows") false (bG [35]).2.1:=⟨_,λP W G=>(ae (aN (eN (bD (lc (bo bW (vE (aH ..)) (vE (cf (PQ G) (gl G (.ref 510)) ai))) (lc (aH ..) (lc (bo bW (vE (aH ..)) (vE (bo eH (vE (aH ..)) (vE (ao ..))))) (lc (bo bW (vE (aH ..)) (vE (bo eH (vE (aH ..)) (vE (ao ..))))) (lc (bo bW (vE (aH ..)) (vE (bo eH (vE (aH ..)) (vE (ao ..))))) (lc (aH ..) (lc (aH ..) (lc (aH ..) (lc (aH ..) (lc (aH ..) (lc (aH ..) (lc (aH ..) (lc (aH ..) (lc (aH ..) (lc (aH ..) (lc (aH ..) (lc (aH ..) (lc (aH ..) (lc (aH ..) (lc (aH ..) (lc (aH ..) (lc (aH ..) (lc (aH ..) (lc (aH ..) (lc (aH ..) (lc (bo bW (vE (aH ..)) (vE (bo eH (vE (aH ..)) (vE (ao ..))))) (lc (bo bW (vE (aH ..)) (vE (bo eH (vE (aH ..)) (vE (ao ..))))) (lc (aH ..) (lc (aH ..) (lc (aH ..) ai))))))))))))))))))))))))))))))))) ah)⟩
theorem Dh(G:Good P W):Fb W 517 2 (bz 0 0 sk.f):=⟨aT (G.K 517 (Bq P) (by kernel_rfl)) rfl ⟨516,HS P,_,_,rfl,G.K _ _ (by kernel_rfl),rfl,rfl⟩ rfl rfl rfl rfl (ps:=[]) (Ga (by kernel_rfl)) ⟨[],rfl⟩ (by decide+kernel) (by decide+kernel) (sk.ok P W G),⟨_,_,G.K 517 (Bq P) (by kernel_rfl),rfl⟩⟩
noncomputable def Di:Spec (gN [36] [] 1 523 "_law_few") false (bG [36]).2.1:=⟨_,λP W G=>(ae (aN (eN (bD (lc (ao ..) (lc (ao ..) (lc (ao ..) (lc (ao ..) (lc (ao ..) (lc (ao ..) (lc (ao ..) (lc (ao ..) ai))))))))))) ah)⟩
theorem PR(G:Good P W):Fb W 524 1 (bz 0 0 Di.f):=⟨aT (G.K 524 (Br P) (by kernel_rfl)) rfl ⟨523,HT P,_,_,rfl,G.K _ _ (by kernel_rfl),rfl,rfl⟩ rfl rfl rfl rfl (ps:=[]) (Ga (by kernel_rfl)) ⟨[],rfl⟩ (by decide+kernel) (by decide+kernel) (Di.ok P W G),⟨_,_,G.K 524 (Br P) (by kernel_rfl),rfl⟩⟩
noncomputable def lr:Spec (gN [37] ["text"] 1 528 "_law_named") false (bG [37]).2.1:=⟨_,λP W G=>(ae (aN (rA (cm Js (vE (cb fi (bl G (.bi "len")) (ac (nv 0) ay))) (vN (bD (lc (ao ..) (lc (ao ..) ai))))) (cm bZ (vE (cb fi (bl G (.bi "len")) (ac (vN (co ["c"] 1 [] (xk (nv 0)) (tn 0) (lY (tc xq (nv 0) (vE (aH ..)))) (n_ 0))) ay))) (vE (ao ..))))) ah)⟩
theorem xZ(G:Good P W):Fb W 529 1 (bz 1 1 lr.f):=⟨aT (G.K 529 (Bs P) (by kernel_rfl)) rfl ⟨528,HU P,_,_,rfl,G.K _ _ (by kernel_rfl),rfl,rfl⟩ rfl rfl rfl rfl (ps:=["text"]) (all1 λa0=>by kernel_rfl) ⟨[],rfl⟩ (by decide+kernel) (by decide+kernel) (lr.ok P W G),⟨_,_,G.K 529 (Bs P) (by kernel_rfl),rfl⟩⟩
noncomputable def uk:Spec (gN [38] ["digits","number","c"] 1 533 "_law_number") false (bG [38]).2.1:=⟨_,λP W G=>(ae (aW (b8 (bj (tc bZ (nv 0) (vE (aH ..))) (bj (tc Ao (vE (cb fi (bl G (.bi "len")) (ac (vN (co ["c"] 1 [] (xk (nv 0)) (tn 0) (lY (b8 (bj (tc mn (nv 0) (vE (ao ..))) (bj (tc Ao (nv 0) (vE (ao ..))) e_)))) (n_ 0))) ay))) (vE (ao ..))) e_))) (ae (aN (aG ..)) ah) ah) (ae (eB 1 (ao ..)) (ae (fr (xk (nv 0)) (tn 2) (ae (eB 1 (bo hV (vE (bo bW (vE (bo eH (vE (ao ..)) (nv 1))) (nv 2))) (vE (ao ..)))) ah)) (ae (aN (n_ 1)) ah))))⟩
theorem um(G:Good P W):Fb W 534 1 (bz 3 1 uk.f):=⟨aT (G.K 534 (Bt P) (by kernel_rfl)) rfl ⟨533,HW P,_,_,rfl,G.K _ _ (by kernel_rfl),rfl,rfl⟩ rfl rfl rfl rfl (ps:=["digits"]) (all1 λa0=>by kernel_rfl) ⟨["number","c"],rfl⟩ (by decide+kernel) (by decide+kernel) (uk.ok P W G),⟨_,_,G.K 534 (Bt P) (by kernel_rfl),rfl⟩⟩
noncomputable def fo:Spec (gN [39] ["text","at","words","time","zone","seconds"] 2 540 "_law_signed") false (bG [39]).2.1:=⟨_,λP W G=>(ae (eB 1 (mt m_rfind E_ (nv 0) (ac (vE (aH ..)) ay))) (ae (aW (tc mn (nv 1) (vE (ao ..))) (ae (aN (bt (lc (n_ 0) (lc (aG ..) (lc (aG ..) ai))))) ah) ah) (ae (sO 2 (Rj m_split rK (vE (cX (nv 0) (ba (bo bW (nv 1) (vE (ao ..)))) bx)) (ac (vE (aH ..)) ay))) (ae (aW (b8 (bj (tc kz (vE (cb fi (bl G (.bi "len")) (ac (nv 2) ay))) (vE (ao ..))) (bj (tc kG (vE (cX (vE (sb (nv 2) (vE (ao ..)))) bx (ba (ao ..)))) (vN (bD (lc (aH ..) (lc (aH ..) ai))))) e_))) (ae (aN (aG ..)) ah) ah) (ae (eB 3 (cf (um G) (gl G (.ref 534)) (lc (sb (nv 2) (vE (ao ..))) ai))) (ae (eB 4 (cf (um G) (gl G (.ref 534)) (lc (cX (vE (sb (nv 2) (vE (ao ..)))) (ba (ao ..)) bx) ai))) (ae (aW (b8 (bj (tc cT (nv 3) (vE (aG ..))) (bj (tc cT (nv 4) (vE (aG ..))) e_))) (ae (aN (aG ..)) ah) ah) (ae (eB 5 (bo bW (vE (bo eH (vE (bo rl (nv 4) (vE (ao ..)))) (vE (ao ..)))) (vE (bo eH (vE (bo i6 (nv 4) (vE (ao ..)))) (vE (ao ..)))))) (ae (aN (bt (lc (cX (nv 0) bx (ba (bo bW (nv 1) (vE (ao ..))))) (lc (n_ 3) (lc (rf (tc bZ (vE (cX (vE (sb (nv 2) (vE (ao ..)))) bx (ba (ao ..)))) (vE (aH ..))) (jU (nv 5)) (n_ 5)) ai))))) ah)))))))))⟩
theorem Dj(G:Good P W):Fb W 541 2 (bz 6 1 fo.f):=⟨aT (G.K 541 (Bu P) (by kernel_rfl)) rfl ⟨540,HX P,_,_,rfl,G.K _ _ (by kernel_rfl),rfl,rfl⟩ rfl rfl rfl rfl (ps:=["text"]) (all1 λa0=>by kernel_rfl) ⟨["at","words","time","zone","seconds"],rfl⟩ (by decide+kernel) (by decide+kernel) (fo.ok P W G),⟨_,_,G.K 541 (Bu P) (by kernel_rfl),rfl⟩⟩
noncomputable def iy:Spec (gN [40] ["text","headers","rows","whole","k","rest","at"] 1 547 "_law_split") false (bG [40]).2.1:=⟨_,λP W G=>(ae (sO 1 (bD ai)) (ae (sO 2 (Rj m_split rK (nv 0) (ac (vE (aH ..)) ay))) (ae (aW (tc bZ (vE (sb (nv 2) (vE (jU (vE (ao ..)))))) (vE (aH ..))) (ae (sO 2 (rn (nv 2) bx (ba (jU (vE (ao ..)))))) (ae (eB 3 (s_bool ..)) ah)) (ae (eB 3 (s_bool ..)) ah)) (ae (fr (ri (bl G (.ty "range")) (ac (vE (cb fi (bl G (.bi "len")) (ac (nv 2) ay))) ay)) (tn 4) (ae (aW (tc bZ (vE (sb (nv 2) (nv 4))) (vE (aH ..))) (ae (eB 5 (mt jj jl (vE (aH ..)) (ac (vN (rn (nv 2) (ba (bo bW (nv 4) (vE (ao ..)))) bx)) ay))) (ae (fz 1 (aN (bt (lc (n_ 1) (lc (rf (b8 (aY (tr (nv 3)) (aY (tc mn (vE (bo bW (nv 4) (vE (ao ..)))) (vE (cb fi (bl G (.bi "len")) (ac (nv 2) ay)))) cP))) (bo bW (nv 5) (vE (aH ..))) (n_ 5)) ai))))) ah)) ah) (ae (aW (tc bZ (vE (cX (vE (sb (nv 2) (nv 4))) bx (ba (ao ..)))) (vE (aH ..))) (ae (aW (tr (nv 1)) (ae (la 1 (bt (lc (sb (vE (sb (nv 1) (vE (jU (vE (ao ..)))))) (vE (ao ..))) (lc (bo bW (vE (bo bW (vE (sb (vE (sb (nv 1) (vE (jU (vE (ao ..)))))) (vE (ao ..)))) (vE (aH ..)))) (vE (cX (vE (sb (nv 2) (nv 4))) (ba (ao ..)) bx))) ai)))) ah) ah) ah) (ae (eB 6 (mt m_find j6 (vE (sb (nv 2) (nv 4))) (ac (vE (aH ..)) ay))) (ae (ap 1 (bt (lc (cX (vE (sb (nv 2) (nv 4))) bx (ba (n_ 6))) (lc (cX (vE (sb (nv 2) (nv 4))) (ba (bo bW (nv 6) (vE (ao ..)))) bx) ai)))) ah))) ah))) (ae (fz 1 (aN (bt (lc (n_ 1) (lc (aG ..) ai))))) ah)))))⟩
theorem x6(G:Good P W):Fb W 548 1 (bz 7 1 iy.f):=⟨aT (G.K 548 (Bv P) (by kernel_rfl)) rfl ⟨547,HY P,_,_,rfl,G.K _ _ (by kernel_rfl),rfl,rfl⟩ rfl rfl rfl rfl (ps:=["text"]) (all1 λa0=>by kernel_rfl) ⟨["headers","rows","whole","k","rest","at"],rfl⟩ (by decide+kernel) (by decide+kernel) (iy.ok P W G),⟨_,_,G.K 548 (Bv P) (by kernel_rfl),rfl⟩⟩
def wD:Spec (gN [41] ["text","headers","message","parents","k","told","key","given","one"] 3 552 "_law_read") false (bG [41]).2.1:=⟨_,λP W G=>(ae (un (cf (x6 G) (gl G (.ref 548)) (lc (n_ 0) ai)) (jW (tn 1) (jW (tn 2) fx))) (ae (aW (b8 (bj (i5 (tr (nv 1))) (bj (tc kz (vE (sb (vE (sb (nv 1) (vE (ao ..)))) (vE (ao ..)))) (vE (aH ..))) (bj (i5 (tr (vE (cf (xZ G) (gl G (.ref 529)) (lc (sb (vE (sb (nv 1) (vE (ao ..)))) (vE (ao ..))) ai))))) e_)))) (ae (aN (aG ..)) ah) ah) (ae (sO 3 (bD ai)) (ae (eB 4 (ao ..)) (ae (s_ 20 (b8 (aY (tc mn (nv 4) (vE (cb fi (bl G (.bi "len")) (ac (nv 1) ay)))) (aY (tc bZ (vE (sb (vE (sb (nv 1) (nv 4))) (vE (ao ..)))) (vE (aH ..))) cP))) (ae (aW (i5 (tr (vE (cf (xZ G) (gl G (.ref 529)) (lc (sb (vE (sb (nv 1) (nv 4))) (vE (ao ..))) ai))))) (ae (aN (aG ..)) ah) ah) (ae (ap 3 (sb (vE (sb (nv 1) (nv 4))) (vE (ao ..)))) (ae (eB 4 (bo bW (nv 4) (vE (ao ..)))) ah)))) (ae (fz 3 (sO 5 (bD (lc (sb (vE (sb (nv 1) (vE (ao ..)))) (vE (ao ..))) (lc (n_ 3) ai))))) (ae (fr (il (eN (bD (lc (aH ..) (lc (aH ..) ai))))) (tn 6) (ae (UD 7 ["row","key"] 1 [6] (il (n_ 1)) (tn 0) (lY (tc bZ (vE (sb (nv 0) (vE (ao ..)))) (nv 1))) (sb (nv 0) (vE (ao ..))) (hsw:=λenv h=>o5 h (by kernel_rfl) (by kernel_rfl) (by kernel_rfl))) (ae (eB 8 (rf (tr (nv 7)) (cf (Dj G) (gl G (.ref 541)) (lc (sb (nv 7) (vE (ao ..))) ai)) (bt (lc (aG ..) (lc (aG ..) (lc (aG ..) ai)))))) (ae (aW (tc cT (nv 8) (vE (aG ..))) (ae (aN (aG ..)) ah) ah) (ae (sO 5 (vB (nv 5) (vN (bD (lc (sb (nv 8) (vE (ao ..))) (lc (sb (nv 8) (vE (ao ..))) (lc (sb (nv 8) (vE (ao ..))) ai))))))) ah))))) (ae (UD 7 ["row"] 1 [] (il (n_ 1)) (tn 0) (lY (tc bZ (vE (sb (nv 0) (vE (ao ..)))) (vE (aH ..)))) (sb (nv 0) (vE (ao ..))) (hsw:=λenv h=>o5 h (by kernel_rfl) (by kernel_rfl) (by kernel_rfl))) (ae (ap 5 (rf (tr (nv 7)) (sb (nv 7) (vE (ao ..))) (aG ..))) (ae (UD 7 ["row"] 1 [] (il (n_ 1)) (tn 0) (lY (tc bZ (vE (sb (nv 0) (vE (ao ..)))) (vE (aH ..)))) (sb (nv 0) (vE (ao ..))) (hsw:=λenv h=>o5 h (by kernel_rfl) (by kernel_rfl) (by kernel_rfl))) (ae (ap 5 (rf (tr (nv 7)) (mt jj jl (vE (aH ..)) (ac (nv 7) ay)) (aG ..))) (ae (ap 5 (n_ 2)) (ae (fz 5 (aN (n_ 5))) ah)))))))))))))⟩
theorem Lm(G:Good P W):Fb W 553 3 (bz 9 1 wD.f):=⟨aT (G.K 553 (Bw P) (by kernel_rfl)) rfl ⟨552,HZ P,_,_,rfl,G.K _ _ (by kernel_rfl),rfl,rfl⟩ rfl rfl rfl rfl (ps:=["text"]) (all1 λa0=>by kernel_rfl) ⟨["headers","message","parents","k","told","key","given","one"],rfl⟩ (by decide+kernel) (by decide+kernel) (wD.ok P W G),⟨_,_,G.K 553 (Bw P) (by kernel_rfl),rfl⟩⟩
noncomputable def dz:Spec (gN [42] ["text","at"] 1 557 "_law_person") false (bG [42]).2.1:=⟨_,λP W G=>(ae (eB 1 (mt m_find j6 (nv 0) (ac (vE (aH ..)) ay))) (ae (aW (b8 (bj (tc mn (nv 1) (vE (ao ..))) (bj (tc kz (vE (cX (nv 0) (ba (bo hV (nv 1) (vE (ao ..)))) (ba (n_ 1)))) (vE (aH ..))) (bj (tc kz (vE (cb fi (bl G (.bi "len")) (ac (vN (co ["c"] 1 [] (xk (nv 0)) (tn 0) (lY (tc bZ (nv 0) (vE (ao ..)))) (n_ 0))) ay))) (vE (ao ..))) e_)))) (ae (aN (s_bool ..)) ah) ah) (ae (aN (cm bZ (vE (mt m_find j6 (nv 0) (ac (vE (aH ..)) ay))) (vE (bo hV (vE (cb fi (bl G (.bi "len")) (ac (nv 0) ay))) (vE (ao ..)))))) ah)))⟩
theorem Dk(G:Good P W):Fb W 558 1 (bz 2 1 dz.f):=⟨aT (G.K 558 (Bx P) (by kernel_rfl)) rfl ⟨557,H0 P,_,_,rfl,G.K _ _ (by kernel_rfl),rfl,rfl⟩ rfl rfl rfl rfl (ps:=["text"]) (all1 λa0=>by kernel_rfl) ⟨["at"],rfl⟩ (by decide+kernel) (by decide+kernel) (dz.ok P W G),⟨_,_,G.K 558 (Bx P) (by kernel_rfl),rfl⟩⟩
noncomputable def fJ(P:kX):Pq P (gN [43] ["told","keys","person","time","behind","k"] 2 564 "_law_sound") false (bG [43]).2.1:=⟨_,λW G=>(ae (fr (il (eN (bD (lc (bt (lc (sb (nv 0) (vE (ao ..))) (lc (sb (nv 0) (vE (ao ..))) ai))) (lc (bt (lc (sb (nv 0) (vE (ao ..))) (lc (sb (nv 0) (vE (ao ..))) ai))) ai))))) (jE (jW (tn 2) (jW (tn 3) fx))) (ae (aW (b8 (bj (tc cT (nv 2) (vE (aG ..))) (bj (tc cT (nv 3) (vE (aG ..))) (bj (tc Aq (nv 3) (vE (bo Jp (vE (ao ..)) (vE (ao ..))))) (bj (i5 (tr (vE (cf (Dk G) (gl G (.ref 558)) (lc (n_ 2) ai))))) e_))))) (ae (aN (s_bool ..)) ah) ah) ah)) (ae (eB 4 (Lb G.par (o4 (eN (bD (lc (aH ..) (lc (aH ..) ai)))) (o4 (eN (bD (lc (aH ..) (lc (aH ..) ai)))) (o4 (eN (bD (lc (aH ..) ai))) (o4 (eN (bD (lc (aH ..) ai))) (o4 (eN (bD ai)) Pl))))) rfl rfl (by simp) (by decide) (by decide) (by decide))) (ae (fr (ri (bl G (.ty "range")) (ac (vE (ao ..)) (ac (vE (cb fi (bl G (.bi "len")) (ac (nv 1) ay))) ay))) (tn 5) (ae (aW (b8 (aY (tc (K_ G.par) (vE (sb (nv 1) (nv 5))) (nv 4)) (aY (tc kG (vE (sb (nv 1) (vE (bo hV (nv 5) (vE (ao ..)))))) (vE (La G.par (nv 4) (vE (sb (nv 1) (nv 5))) rfl))) cP))) (ae (aN (s_bool ..)) ah) ah) ah)) (ae (aN (s_bool ..)) ah))))⟩
theorem uo(G:Good P W):Fb W 565 2 (bz 6 2 (fJ P).f):=⟨aT (G.K 565 (By P) (by kernel_rfl)) rfl ⟨564,H3 P,_,_,rfl,G.K _ _ (by kernel_rfl),rfl,rfl⟩ rfl rfl rfl rfl (ps:=["told","keys"]) (all2 λa0 a1=>by kernel_rfl) ⟨["person","time","behind","k"],rfl⟩ (by decide+kernel) (by decide+kernel) ((fJ P).ok W G),⟨_,_,G.K 565 (By P) (by kernel_rfl),rfl⟩⟩
open Classical in noncomputable def Gl(xs:List AV):Rs AV:=if h:∃r,∀P,bz 6 2 (fJ P).f xs=some r then some h.choose else none
theorem Gm{r:Except cz AV}(h:∀P,bz 6 2 (fJ P).f xs=some r)(P:kX):Gl xs=some r:=
 (dif_pos ⟨r,h⟩).trans ((Exists.choose_spec (⟨r,h⟩:∃r,∀P,bz 6 2 (fJ P).f xs=some r) P).symm.trans (h P))
theorem Dl{r:Except cz AV}(P:kX)(h:Gl xs=some r):bz 6 2 (fJ P).f xs=some r:=by
 unfold Gl at h;by_cases q:∃r,∀P,bz 6 2 (fJ P).f xs=some r
 ·rw[dif_pos q]at h;exact(q.choose_spec P).trans h
 ·rw[dif_neg q]at h;exact aZ h
theorem Gp(G:Good P W):Fb W 565 2 Gl:=⟨λA outer F s xs vs r z I h=>(uo G).1 A outer F s xs vs r z I (Dl P h),(uo G).2⟩
def x7:mP (gN [44] ["script","mix","rows","k","n","text","due","commit","told","sound"] 14 569 "law") false (bG [44]).2.1:=⟨_,λP W G=>(aE (aR.r (sO 0 (rn (nv 0) bx (ba (ao ..))))) (aE (aR.r (eB 1 (cb N9 (bl G (.bi "sum")) (ac (nv 0) ay)))) (aE (aR.r (sO 2 (Na (tc bZ (vE (bo i6 (nv 1) (vE (ao ..)))) (vE (ao ..))) (bD ai) (bD (lc (sb (vE (cf (Dh G) (gl G (.ref 517)) ai)) (vE (ao ..))) ai))))) (aE (aR.r (fr (ri (bl G (.ty "range")) (ac (vE (ao ..)) (ac (vE (cb fi (bl G (.bi "len")) (ac (nv 0) ay))) ay))) (tn 3) (ae (eB 4 (sb (nv 0) (nv 3))) (ae (ap 2 (sb (vE (cf (Dh G) (gl G (.ref 517)) ai)) (vE (rf (tc mn (vE (bo i6 (vE (bo rl (nv 4) (vE (ao ..)))) (vE (ao ..)))) (vE (ao ..))) (bo i6 (nv 4) (vE (ao ..))) (sb (vE (cf (PR G) (gl G (.ref 524)) ai)) (vE (bo i6 (nv 4) (vE (ao ..))))))))) ah)))) (aE (aR.r (s_ 20 (b8 (aY (tr (nv 2)) (aY (tc bZ (vE (cX (vE (sb (nv 2) (vE (ao ..)))) bx (ba (ao ..)))) (vE (aH ..))) cP))) (ae (sO 2 (rn (nv 2) (ba (ao ..)) bx)) ah))) (aE (aR.r (eB 5 (bo bW (vE (mt jj jl (vE (aH ..)) (ac (nv 2) ay))) (vE (sb (vN (bD (lc (aH ..) (lc (aH ..) (lc (aH ..) ai))))) (vE (rf (tr (nv 0)) (bo i6 (vE (cb Ih (bl G (.bi "abs")) (ac (vE (sb (nv 0) (vE (ao ..)))) ay))) (vE (ao ..))) (ao ..)))))))) (aE (aR.r (eB 6 (cf (Lm G) (gl G (.ref 553)) (lc (n_ 5) ai)))) (aE (Kp (aE (UH 7 (YO G 501 182 (Ll G) (gl G (.ref 501)) (lc (n_ 5) ai))) (c5.r ah)) ah (YN G (bt (lc (gl G (.ref 44)) (lc (bl G (.ty "ValueError")) ai)))) (ae (aN (cm cT (nv 6) (vE (aG ..)))) ah)) (aE (aR.r (aW (tc cT (nv 6) (vE (aG ..))) (ae (aN (s_bool ..)) ah) ah)) (aE (aR.r (sO 8 (bD (lc (pr G 7 501 328 (Dg G)) (lc (pr G 7 501 345 (ui G)) (lc (pr G 7 501 362 (wB G)) (lc (pr G 7 501 447 (nc G)) (lc (pr G 7 501 464 (jP G)) ai)))))))) (aE (aR.r (sO 8 (vB (nv 8) (vN (bD (lc (pr G 7 501 379 (qf G)) (lc (pr G 7 501 413 (m_ G)) (lc (pr G 7 501 430 (jO G)) ai)))))))) (aE (aR.r (sO 8 (vB (nv 8) (vN (bD (lc (pr G 7 501 481 (sj G)) (lc (pr G 7 501 498 (wC G)) (lc (pr G 7 501 396 (uj G)) ai)))))))) (aE (aR.r (aW (b8 (bj (tc K8 (nv 8) (nv 6)) (bj (tc kz (vE (me G 7 501 (PJ G) ai)) (nv 5)) e_))) (ae (aN (s_bool ..)) ah) ah)) (aE (aR.r (eB 9 (cf (Gp G) (gl G (.ref 565)) (lc (n_ 6) (lc (eN (co ["row"] 1 [] (il (sb (vE (cf (x6 G) (gl G (.ref 548)) (lc (n_ 5) ai))) (vE (ao ..)))) (tn 0) vK (sb (nv 0) (vE (ao ..))))) ai))))) (aE (aR.r (vm (ae (C_ (me G 7 501 (Gk G) ai)) ah) ah (hO G (gl G (.ref 44))) (ae (aN (Pj (nv 9))) ah))) (aE (aR.r (aN (n_ 9))) (c5.r ah)))))))))))))))))⟩
theorem PU(G:Good P W):ID W 570 14 (bz 10 1 x7.f):=⟨jG (G.K 570 (Bz P) (by kernel_rfl)) rfl ⟨569,H4 P,_,_,rfl,G.K _ _ (by kernel_rfl),rfl,rfl⟩ rfl rfl rfl rfl (ps:=["script"]) (all1 λa0=>by kernel_rfl) ⟨["mix","rows","k","n","text","due","commit","told","sound"],rfl⟩ (by decide+kernel) (by decide+kernel) (x7.ok P W G),⟨_,_,G.K 570 (Bz P) (by kernel_rfl),rfl⟩⟩
end
abbrev B:=List UInt8
variable {hs:List (B×B)} {X:B}
noncomputable def zu(c:UInt8)(t:B):List Nat:=(ZK t.length).filter λi=>t[i]? ==some c
theorem nB{t:B}{c:UInt8}(h:i<t.length):(t.toArray.extract i (i+1)==#[c])=(t[i]? ==some c):=by
 have e:t.toArray.extract i (i+1)=#[t[i]]:=by
  apply Array.ext';simp only[List.extract_toArray,List.extract_eq_take_drop];rw[abq,List.take_one,ac3,AL h]
  rfl
 refine ag e (ag (AL h) ?_);simp
theorem sm{c:UInt8}{t:B}(h:c∉t):zu c t=[]:=by
 unfold zu;rw[List.filter_eq_nil_iff];intro i z;simp only[ZO]at z;rw[AL z];simp only[beq_iff_eq,e4];intro e;exact h (e▸aa4 z)
theorem range_add(a b:Nat):ZK (a+b)=ZK a++(ZK b).map (·+a):=by
 refine ag List.range_add ?_;congr 1;apply ab4;intro x _;exact Z8 _ _
theorem o9{c:UInt8}{r t:B}(h:c∉r):zu c (r++c::t)=r.length::(zu c t).map (·+(r.length+1)):=by
 unfold zu;rw[nx,CV,show r.length+(t.length+1)=r.length+1+t.length by rw[ZV,Z8 1],range_add,range_add,List.filter_append,List.filter_append];have I:(ZK r.length).filter (λi=>(r++c::t)[i]? ==some c)=[]:=by
  have:=sm h;unfold zu at this;refine fP this ?_;apply List.filter_congr;intro i z;rw[ZO]at z;exact ag (R0 z) rfl
 refine ag I ?_;simp only[List.range_one,G0,ab8,aay,Z4];refine ag aa7 (ag (aaY (t_ _)) ?_);simp only[Nat.sub_self,acE,beq_self_eq_true,if_true,List.filter_nil,ac5,List.cons.injEq,true_and];refine ag List.filter_map ?_;congr 1;apply List.filter_congr;intro i z;simp only[Function.comp];exact ag (aaY (bU (Tw _) (ab0 _ _))) (ag (show i+(r.length+1)-r.length=i+1 from Sv) (ag (aae) rfl))
theorem Gq{c:UInt8}(t:B):∀(l acc:List Nat)(z:Nat),(∀i∈l,z<=i/\i<t.length)->l.Pairwise (·<·)->(l.foldl (λ(acc:List Nat×Nat) i=>if(decide (i>=acc.2)&&t.toArray.extract i (i+1)==#[c])=true then(i::acc.1,i+1)else acc) (acc,z)).1.reverse=acc.reverse++l.filter λi=>t[i]? ==some c:=by
 intro l
 induction l with
 |nil=>
  intro acc z _ _;simp
 |cons i l V=>
  intro acc z h I;have Y:=h i (T4 ..);rw[List.pairwise_cons]at I;refine ag abj (ag (nB Y.2) (ag aa7 ?_));simp only[ge_iff_le,decide_eq_true Y.1,aaE];cases Z:t[i]? ==some c with
  |true=>
   simp only[if_true];refine ag (V _ _ (λj U=>⟨I.1 j U,(h j (AM _ U)).2⟩) I.2) ?_;simp
  |false=>
   simp only[F3,if_false];exact V _ _ (λj U=>h j (AM _ U)) I.2
theorem x8(c:UInt8)(t:B):aag t.toArray #[c] 0 t.toArray.size=zu c t:=by
 have h:=Gq (c:=c) t (ZK t.length) [] 0 (λi z=>⟨Z2 _,ZO.mp z⟩) List.pairwise_lt_range;unfold aag zu;simp only[KG,Nat.add_zero];simp only[CV,Z5,aay,aaK,List.map_id']
 simpa using h
noncomputable def iz(z:UInt8):List B->B
 |[]=>[]
 |[r]=>r
 |r::s::rs=>r++z::iz z (s::rs)
theorem IK:iz sep []=[]:=rfl
theorem uq:iz sep [r]=r:=rfl
theorem ur(c:UInt8)(r s:B)(rs:List B):iz c (r::s::rs)=r++c::iz c (s::rs):=rfl
theorem fp(c:UInt8):∀(rs:List B),fj [c] rs=iz c rs
 |[]=>rfl
 |[r]=>rfl
 |r::s::rs=>by rw[ur,<-fp c (s::rs)];show r++[c]++fj [c] (s::rs)=_;simp
theorem mQ{c:UInt8}:∀(rs:List B)(pre:B)(parts:Array (Array UInt8))(t:B),rs≠[]->(∀r∈rs,c∉r)->t=pre++iz c rs->
  (let(ps,last):=((zu c (iz c rs)).map (·+pre.length)).foldl (λ(p:Array (Array UInt8)×Nat) q=>(p.1.push (t.toArray.extract p.2 q),q+1)) (parts,pre.length)
   (ps.push (t.toArray.extract last t.toArray.size)).toList)=parts.toList++rs.map aak
 |[r],pre,parts,t,_,I,z=>by
  subst z;have h1:=I r (by simp);simp only[uq,sm h1,ab8,List.foldl_nil,Array.toList_push,G0];congr 2;simp
 |r::s::rs,pre,parts,t,_,I,z=>by
  have h1:=I r (by simp);rw[ur]at z⊢;refine ag (o9 h1) (ag G0 (ag abj (ag List.map_map ?_)));have e:=mQ (s::rs) (pre++(r++[c])) (parts.push r.toArray) t (by simp) (λx U=>I x (AM _ U)) (by refine ag z ?_;simp);have ex:t.toArray.extract pre.length (r.length+pre.length)=r.toArray:=by
   clear e;subst z;apply Array.ext';simp[show r.length+pre.length-pre.length=r.length from aaK ..]
  refine ag ex ?_;have em:(λx=>x+pre.length)∘(λx=>x+(r.length+1))=λx=>x+(pre++(r++[c])).length:=by funext x;simp;exact(ZV ..).trans (congrArg _ (Z8 ..))
  refine ag em (ag (show r.length+pre.length+1=(pre++(r++[c])).length by simp;exact(congrArg (·+1) (Z8 ..)).trans (ZV ..)) (ag e ?_));simp
theorem Gr(c:UInt8)(t:B):(zu c t).length<=t.length:=by
 unfold zu;exact bU (ac6 _ _) (by simp)
theorem zv{c:UInt8}:∀{rs:List B},(∀r∈rs,c∉r)->(zu c (iz c rs)).isEmpty=decide (rs.length<=1)
 |[],_=>rfl
 |[r],h=>by rw[uq,sm (h r (by simp))];rfl
 |r::s::rs,h=>by rw[ur,o9 (h r (by simp))];simp
theorem wF{c:UInt8}{rs:List B}(z:rs≠[])(I:∀r∈rs,c∉r):gc false (iz c rs) [c] ((iz c rs).length+1)=rs.map .aa:=by
 have U:d6 false (iz c rs).toArray [c].toArray ((iz c rs).length+1)=zu c (iz c rs):=by
  unfold d6;simp only[F3,if_false];show(aag _ #[c] 0 _).take _=_;rw[x8,Zk (bU (Gr _ _) (Tw _))]
 unfold gc;rw[U,zv I];by_cases h1:rs.length<=1
 ·rw[decide_eq_true h1]
  match rs,z,h1 with
  |[r],_,_=>rfl
 ·rw[decide_eq_false h1];simp only[F3,if_false];have e:=mQ rs [] #[] (iz c rs) z I rfl;unfold Z_;simp only[KG,CV,Z5]at e⊢;simp only[List.map_id',Nat.add_zero]at e;rw[show 0+1=1 from rfl];rw[e];simp
theorem lu(c:UInt8):∀{rs:List B},rs≠[]->∀(s:B),iz c (rs++[s])=iz c rs++c::s
 |[r],_,s=>rfl
 |r::t::rs,_,s=>by
  have:=lu c (rs:=t::rs) (by simp) s;show iz c (r::t::(rs++[s]))=_;rw[ur,ur,show t::(rs++[s])=t::rs++[s]from rfl,this];simp
theorem nC(c:UInt8):∀(rs:List B),(iz c rs).length=(rs.map ZL).sum+(rs.length-1)
 |[]=>rfl
 |[r]=>by simp[uq]
 |r::s::rs=>by rw[ur];have:=nC c (s::rs);simp at this⊢;lia
theorem uu{c:UInt8}{t l post:B}{p:Nat}(U:t.drop p=l++c::post)(Y:c∉l)(z:p<=t.length):jT t [c] (some (p:Int))=((p+l.length:Nat):Int):=by
 have V:p+l.length<t.length:=by have:=congrArg ZL U;simp at this;exact Sr z this
 have e:ib t.toArray [c].toArray (some (p:Int)) none=some (p+l.length):=by
  unfold ib;have w:A5 t.toArray.size (some (p:Int)) none=((p:Int),(t.length:Int)):=by
   unfold A5;simp only[aa3,abM,KG];rw[if_neg (by lia),if_neg (by lia)];simp
  rw[w];simp only;rw[if_neg (by simp;exact Su V)];simp only[Mr,Int.toNat_natCast];unfold acv;rw[List.find?_map,show([c].toArray).size=1 from rfl];have:(ZK (t.length+1-(p+1))).find? ((λi=>t.toArray.extract i (i+1)==[c].toArray)∘λx=>x+p)=some l.length:=by
   rw[List.find?_range_eq_some];have g:∀j,j+p<t.length->t[j+p]? =(l++c::post)[j]? :=λj I=>by rw[<-U,List.getElem?_drop,Z8]
   refine⟨?_,by rw[ZO];exact Ss V,λj I=>?_⟩
   ·show(t.toArray.extract (l.length+p) (l.length+p+1)==#[c])=true;rw[nB (by lia),g _ (by lia),aaY (t_ _)];simp
   ·show(!(t.toArray.extract (j+p) (j+p+1)==#[c]))=true;rw[nB (by lia),g _ (by lia),R0 I,AL I];simp only[aaT,beq_eq_false_iff_ne,ne_eq,e4];exact λe=>Y (e▸aa4 I)
  rw[this];simp[Z8]
 unfold jT;rw[e]
theorem wG{c:UInt8}{t:B}{p:Nat}(U:c∉t.drop p)(I:p<=t.length):jT t [c] (some (p:Int))= -1:=by
 have e:ib t.toArray [c].toArray (some (p:Int)) none=none:=by
  unfold ib;have w:A5 t.toArray.size (some (p:Int)) none=((p:Int),(t.length:Int)):=by
   unfold A5;simp only[aa3,abM,KG];rw[if_neg (by lia),if_neg (by lia)];simp
  rw[w];simp only;split
  ·rfl
  simp only[Mr,Int.toNat_natCast];unfold acv;rw[List.find?_map,show([c].toArray).size=1 from rfl];rw[acW,List.find?_eq_none];intro j z;rw[ZO]at z;show¬(t.toArray.extract (j+p) (j+p+1)==#[c])=true;rw[nB (I_ z),AL (I_ z)];simp only[beq_iff_eq,e4];intro e;apply U;rw[<-e,List.mem_drop_iff_getElem];exact⟨j,I_ z,by simp[Z8]⟩
 unfold jT;rw[e]
theorem mx(m:Nat):(max 0 (m:Int)).toNat=m:=congrArg Int.toNat (Int.max_eq_right (Int.natCast_nonneg m))
theorem o_:clipAt n (k:Int)=min k n:=by
 unfold clipAt;refine ag (if_neg (Int.not_lt.mpr (Int.natCast_nonneg k))) ?_;by_cases h:k<=n
 ·refine ag (Int.min_eq_left (Int.ofNat_le.mpr h)) (ag (abk h) ?_);exact mx k
 ·refine ag (Int.min_eq_right (Int.ofNat_le.mpr (Nat.le_of_not_le h))) (ag (acK (Nat.le_of_not_le h)) ?_);exact mx n
theorem m1(n:Nat):(-1:Int)+((n+1:Nat):Int)=n:=by
 rw[Int.natCast_succ,Int.add_comm (n:Int) 1];exact Int.neg_add_cancel_left 1 n
theorem Gs:clipAt n (-1)=n-1:=by
 cases n with
 |zero=>rfl
 |succ n=>
  unfold clipAt;rw[if_pos (by decide),m1,Int.min_eq_left (Int.ofNat_le.mpr (Tw n))];exact mx n
theorem gY(xs:List α)(k:Nat):dC xs (some (k:Int)) none=xs.drop k:=by
 unfold dC;simp only[abN,acL,o_];by_cases h:k<=xs.length
 ·exact ag (abk h) (ag (Zk (by simp)) rfl)
 ·refine ag (acK (by lia)) (ag (aaN (t_ _)) (ag (aaN (l:=xs) (i:=k) (by lia)) ?_));simp
theorem l9(xs:List α)(k:Nat):dC xs none (some (k:Int))=xs.take k:=by
 unfold dC;simp only[abN,acL,o_,aaX,ady];by_cases h:k<=xs.length
 ·exact ag (abk h) rfl
 ·exact ag (acK (by lia)) (ag (Zk (by lia)) (ag (Zk (by lia)) rfl))
theorem uv(xs:List α):dC xs none (some (-1))=xs.dropLast:=by
 unfold dC;simp only[abN,acL,Gs,aaX,ady];exact ag List.dropLast_eq_take rfl
theorem Dm(xs:List α)(i j:Nat)(h:i<=j)(z:j<=xs.length):dC xs (some (i:Int)) (some (j:Int))=(xs.drop i).take (j-i):=by
 unfold dC;simp only[abN,o_];exact ag (abk z) (ag (abk (show i<=xs.length by exact bU ‹_› ‹_›)) rfl)
end
variable {hs:List (B×B)} {X:B}
@[simp] theorem zw(J:St)(k:St->Option Ou):bu (some (.next J)) k=k J:=rfl
@[simp] theorem PW(a:AV)(k:St->Option Ou):bu (some (.ret a)) k=some (.ret a):=rfl
@[simp] theorem Rp(c:cz)(J:St)(k:St->Option Ou):bu (some (.ex c J)) k=some (.ex c J):=rfl
@[simp] theorem PY(J:St)(k:St->Option Ou):bu (some (.brk J)) k=some (.brk J):=rfl
@[simp] theorem jt(a:α)(J:St)(k:α->Option Ou):aU (some (.ok a)) J k=k a:=rfl
@[simp] theorem Mw(c:cz)(J:St)(k:α->Option Ou):aU (some (.error c)) J k=some (.ex c J):=rfl
@[simp] theorem x9(a:α):aA a=some (.ok a):=rfl
@[simp] theorem Rq(i:Nat)(x:LV)(J:St):jR (i+1) (x::J)=jR i J:=rfl
@[simp] theorem Rr(a:AV)(J:St):jR 0 (.im a::J)=some (.ok a):=rfl
@[simp] theorem PZ(i:Nat)(x:LV)(J:St):fT (i+1) (x::J)=fT i J:=rfl
@[simp] theorem P_(a:AV)(J:St):fT 0 (.im a::J)=some (.ok a):=rfl
@[simp] theorem Qa(a:List AV)(J:St):fT 0 (.own a::J)=some (.ok (.lst a)):=rfl
@[simp] theorem Rt(i:Nat)(a:AV)(x:LV)(J:St):cy (i+1) a (x::J)=x::cy i a J:=rfl
@[simp] theorem Rv(a:AV)(x:LV)(J:St):cy 0 a (x::J)= .im a::J:=rfl
@[simp] theorem Qb(i:Nat)(a:List AV)(x:LV)(J:St):fZ (i+1) a (x::J)=x::fZ i a J:=rfl
@[simp] theorem Qc(a:List AV)(x:LV)(J:St):fZ 0 a (x::J)= .own a::J:=rfl
@[simp] theorem UN(i:Nat)(J:St):yz i J=match J.getD i .un with| .own xs=>J.set i (.im (.lst xs))| .ob C ks xs=>J.set i (.im (.obj C ks xs))|_=>J:=rfl
@[simp] theorem Rw(a:AV):i4 (some (.ok a))=(cI a).map .ok:=rfl
@[simp] theorem IL:cI .none=some false:=rfl
@[simp] theorem IM(b:Bool):cI (.bool b)=some b:=rfl
@[simp] theorem Ln(i:Int):cI (.int i)=some (i !=0):=rfl
@[simp] theorem Ry(b:Bool):EM (some (.ok b))=some (.ok !b):=rfl
@[simp] theorem Rz(b:Bool)(y:Rs Bool):Ak (some (.ok b)) y=if b then y else some (.ok false):=rfl
@[simp] theorem UO(b:Bool)(y:Rs Bool):QW (some (.ok b)) y=if b then some (.ok true)else y:=rfl
@[simp] theorem UP(b:Bool)(y z:Rs α):Jl (some (.ok b)) y z=if b then y else z:=rfl
@[simp] theorem Qd(i:Int):NN (.int i)=some (.ok (.int (-i))):=rfl
@[simp] theorem Em:Jo .none .none=some (.ok (.bool true)):=rfl
@[simp] theorem Gu(b:B):Jo .none (.aa b)=some (.ok (.bool false)):=rfl
@[simp] theorem Gv(b:B):Jo (.aa b) .none=some (.ok (.bool false)):=rfl
@[simp] theorem RA(a b:B):Jo (.aa a) (.aa b)=some (.ok (.bool (a==b))):=rfl
@[simp] theorem RC(a b:Int):Jo (.int a) (.int b)=some (.ok (.bool (a==b))):=rfl
@[simp] theorem Gw(b:B):Md .none (.aa b)=some (.ok (.bool true)):=rfl
@[simp] theorem Gx(b:B):Md (.aa b) .none=some (.ok (.bool true)):=rfl
@[simp] theorem RD(a b:B):Md (.aa a) (.aa b)=some (.ok (.bool !(a==b))):=rfl
@[simp] theorem RF(a b:Int):Md (.int a) (.int b)=some (.ok (.bool !(a==b))):=rfl
@[simp] theorem Qe(f:Int->Int->Rs AV)(a b:Int):ints2 f (.int a) (.int b)=f a b:=rfl
@[simp] theorem Qf(a:AV):isA a .none=some (.ok (.bool (cN a))):=rfl
@[simp] theorem Mx(a:AV):Jq a .none=some (.ok (.bool !(cN a))):=rfl
@[simp] theorem Qg:cN .none=true:=rfl
@[simp] theorem RG(b:B):cN (.aa b)=false:=rfl
@[simp] theorem RH(b:Int):cN (.int b)=false:=rfl
@[simp] theorem RI(b:List AV):cN (.lst b)=false:=rfl
@[simp] theorem RJ(b:List AV):cN (.tup b)=false:=rfl
@[simp] theorem Qh(a b:Int):EO (.int a) (.int b)=some (.ok (.int (a+b))):=rfl
@[simp] theorem My(b:B)(ys:List AV)(h:List AV->Rs α):mr "bytes" (some (.ok (.aa b))) (some (.ok ys)) h=h (.aa b::ys):=rfl
@[simp] theorem Lo:i7 .none=some none:=rfl
@[simp] theorem Mz(i:Int):i7 (.int i)=some (some i):=rfl
theorem nD(xs ys:List AV):NR (.lst xs) (.lst ys)=if cq (xs.length+ys.length)then some (.ok (xs++ys))else none:=rfl
@[simp] theorem RK(xs:List AV):uW (some (.ok xs))=some (.ok (.lst xs)):=rfl
@[simp] theorem Lp(a b:B):BW [.aa a,.aa b]=some (.ok (.int (jT a b none))):=rfl
@[simp] theorem UQ(a b:B)(i:Int):BW [.aa a,.aa b,.int i]=some (.ok (.int (jT a b (some i)))):=rfl
@[simp] theorem Lq(a b:B):xt [.aa a,.aa b]=some (.ok (.bool (jD a b))):=rfl
@[simp] theorem Qi(a b:B):H8 [.aa a,.aa b]=some (.ok (.bool (xr a b))):=rfl
@[simp] theorem RM(xs:List AV):Wq (.lst xs)=some (.ok xs):=rfl
@[simp] theorem MA(J:St):bg (some (.next J))=some (.ok .none):=rfl
@[simp] theorem Qj(a:AV):bg (some (.ret a))=some (.ok a):=rfl
@[simp] theorem RN(c:cz)(J:St):bg (some (.ex c J))=some (.error c):=rfl
theorem zx(h:n<=5000):c9 n=true:=decide_eq_true (bU h (by decide))
theorem ed(h:n<=5000):cq n=true:=decide_eq_true (bU h (by decide))
theorem wH{x y:α}(h:n<=5000):(if c9 n=true then x else y)=x:=if_pos (zx h)
theorem Gy{x y:α}(h:n<=5000):(if cq n=true then x else y)=x:=if_pos (ed h)
theorem Dn(h:xs.length<=5000):uX (some (.ok xs))=some (.ok (.tup xs)):=Gy h
theorem Lr(h:xs.length<=5000):Jm (some (.ok xs))=some (.ok xs):=Gy h
theorem wI{b:B}(h:b.length<=5000):cI (.aa b)=some (!b.isEmpty):=wH h
theorem iA{b:List AV}(h:b.length<=5000):cI (.lst b)=some (!b.isEmpty):=wH h
theorem Qk{b:B}(h:b.length<=5000):BX [.aa b]=some (.ok (.int b.length)):=wH h
theorem Dp{b:List AV}(h:b.length<=5000):BX [.lst b]=some (.ok (.int b.length)):=wH h
theorem Gz{a b:B}(h:a.length+b.length<=5000):EO (.aa a) (.aa b)=some (.ok (.aa (a++b))):=Gy h
theorem pb{b:B}{x y:AV}{lo z:Option Int}(h:b.length<=5000)(I:i7 x=some lo)(U:i7 y=some z):Ju (.aa b) x y=some (.ok (.aa (dC b lo z))):=by unfold Ju;refine ag I (ag U ?_);exact Gy h
theorem GA{b:List AV}{x y:AV}{lo z:Option Int}(h:b.length<=5000)(I:i7 x=some lo)(U:i7 y=some z):uY (.lst b) x y=some (.ok (dC b lo z)):=by unfold uY;refine ag I (ag U ?_);exact Gy h
theorem x_(h:k<n):idx n (k:Int)=some k:=(if_pos (Int.natCast_nonneg k)).trans (if_pos (Int.ofNat_lt.mpr h))
theorem Dq(h:0<n):idx n (-1)=some (n-1):=by
 cases n with
 |zero=>cases h
 |succ n=>exact(if_neg (by decide)).trans ((if_pos (Int.neg_le_neg (Int.ofNat_le.mpr (aa2 (Z2 n))))).trans (congrArg some (show(-1+((n+1:Nat):Int)).toNat=n by rw[Int.natCast_succ,Int.add_comm n 1,<-Int.add_assoc];simp)))
theorem getL(z:xs.length<=5000)(h:k<xs.length):fH (.lst xs) (.int k)=some (.ok (xs.getD k .none)):=
 (wH z).trans (congrArg (abp λk=>Except.ok (xs.getD k .none)) (x_ h))
theorem pd(z:xs.length<=5000)(h:0<xs.length):fH (.lst xs) (.int (-1))=some (.ok (xs.getD (xs.length-1) .none)):=
 (wH z).trans (congrArg (abp λk=>Except.ok (xs.getD k .none)) (Dq h))
theorem YS(z:xs.length<=5000)(h:k<xs.length):fH (.tup xs) (.int k)=some (.ok (xs.getD k .none)):=
 (wH z).trans (congrArg (abp λk=>Except.ok (xs.getD k .none)) (x_ h))
theorem Dr:∀(ps:List B),jk (ps.map .aa)=some ps:=by
 intro ps
 induction ps with
 |nil=>
  exact rfl
 |cons p ps IH=>
  simp[Fx,IH]
theorem l_(a:B):∀(ps:List B),(fj a ps).length=(ps.map ZL).sum+a.length*(ps.length-1)
 |[]=>by simp[nu,ny]
 |[p]=>by simp[nu,ny]
 |p::q::ps=>by
  have:=l_ a (q::ps);show(p++a++fj a (q::ps)).length=_;simp only[nx,this,G0,adt,CV];rw[show ps.length+1+1-1=(ps.length+1-1)+1 by rfl,Nat.mul_succ];lia
theorem Ds:∀(ps:List B)(n:Nat),((ps.map aak).foldl (λ(x:Nat)(y:Array UInt8)=>x+y.size) n)=n+(ps.map ZL).sum:=by
 intro ps
 induction ps with
 |nil=>
  intro n;simp
 |cons p ps IH=>
  intro n;simp only[G0,abj,IH,adt,KG];lia
theorem lx{a:B}{ps:List B}(h:(fj a ps).length<=5000):qM [.aa a,.lst (ps.map .aa)]=some (.ok (.aa (fj a ps))):=by
 show(jk (ps.map .aa)).bind _=_;rw[Dr,Mr,if_pos]
 ·rfl
 ·refine⟨?_,ed h⟩;rw[List.foldl_toArray',Ds,l_]at*
  ·unfold Z';rw[aau];simp at h⊢;lia
  ·simp
theorem qU:∀(ps:List B),fj [] ps=ps.flatten
 |[]=>rfl
 |[p]=>by simp[nu,ny]
 |p::q::ps=>by show p++[]++fj [] (q::ps)=_;refine ag (qU (q::ps)) ?_;simp
theorem pf(a:B)(c:UInt8):jD a [c]=(a.take 1==[c]):=by
 unfold jD;have w:A5 a.length none none=(0,(a.length:Int)):=by
  unfold A5;simp only[abM];rw[if_neg (show¬((a.length:Int)<0) by lia)];simp
 rw[w];simp only;clear w;cases a with
 |nil=>simp
 |cons x xs=>
  rw[if_neg (by simp;lia)];simp
theorem qV(t:B)(c d:UInt8):xr (t++[c]) [d]=(c==d):=by
 unfold xr;have w:A5 (t++[c]).length none none=(0,((t++[c]).length:Int)):=by
  unfold A5;simp only[abM];rw[if_neg (show¬(((t++[c]).length:Int)<0) by lia)];simp
 rw[w];simp only;rw[if_neg (by simp;lia)];simp
theorem sq{x:Option Ou}{k:St->Option Ou}(ak:St)(e:x=some (.next ak)):bu x k=k ak:=by refine ag e ?_;rfl
theorem YT{x:Option Ou}{k:St->Option Ou}{a:AV}(e:x=some (.ret a)):bu x k=some (.ret a):=by refine ag e ?_;rfl
theorem gj{x:Rs α}{k:α->Option Ou}(a:α)(e:x=some (.ok a)):aU x J k=k a:=by refine ag e ?_;rfl
theorem YU{x:Option Ou}{k:St->Option Ou}{r:Option Ou}(ak:St)(h:x=some (.next ak))(z:k ak=r):bu x k=r:=by refine ag h ?_;exact z
theorem Ql{x:Option Ou}{k:St->Option Ou}{c:cz}(ak:St)(e:x=some (.ex c ak)):bu x k=some (.ex c ak):=by refine ag e ?_;rfl
theorem Ls{x r:Option Ou}(h:x=r):bu x (λJ=>some (.next J))=r:=by subst h;rcases x with _|(_|_|_|_|_)<;>rfl
theorem Qm{x:Rs Bool}{A B r:Option Ou}(h:x=some (.ok true))(z:A=r):aU x J (λc=>if c=true then A else B)=r:=by refine ag h ?_;exact z
theorem IQ{x:Rs Bool}{A B r:Option Ou}(h:x=some (.ok false))(z:B=r):aU x J (λc=>if c=true then A else B)=r:=by refine ag h ?_;exact z
theorem En{x:Rs α}{k:α->Option Ou}{r:Option Ou}(a:α)(h:x=some (.ok a))(z:k a=r):aU x J k=r:=by refine ag h ?_;exact z
theorem Ww{x:Rs α}{k:α->Option Ou}{c:cz}(h:x=some (.error c)):aU x J k=some (.ex c J):=by refine ag h ?_;rfl
theorem aj{x:Rs α}{k:α->Rs β}{r:Rs β}(a:α)(h:x=some (.ok a))(z:k a=r):bindR x k=r:=by refine ag h ?_;exact z
theorem ZF{x y:Rs α}{k k':α->Rs β}(h:x=y)(z:∀a,k a=k' a):bindR x k=bindR y k':=by exact ag h (ag (funext z) rfl)
theorem ly{x y r:Rs Bool}(h:x=some (.ok true))(z:y=r):Ak x y=r:=by refine ag h ?_;exact z
theorem kf{x:Rs Bool}(b:Bool){c:Bool}(e:x=some (.ok b))(h:b=c):x=some (.ok c):=h▸e
theorem qg{x y:Rs Bool}(h:x=some (.ok false)):Ak x y=some (.ok false):=by refine ag h ?_;rfl
theorem gZ{x:Rs AV}{c:Bool}(h:x=some (.ok (.bool b)))(e:b=c):i4 x=some (.ok c):=by subst e h;rfl
theorem Eo{x:Rs AV}{a:AV}{c:Bool}(h:x=some (.ok a))(e:cI a=some c):i4 x=some (.ok c):=by subst h;exact congrArg (abp Except.ok) e
theorem zW{x:Rs AV}{y:Rs (List AV)}{h:List AV->Rs α}{r:Rs α}{b:B}(z:x=some (.ok (.aa b)))(I:y=some (.ok ys))(U:h (.aa b::ys)=r):mr "bytes" x y h=r:=by subst z I;exact U
theorem uw{x:Rs (List AV)}(h:x=some (.ok xs)):uW x=some (.ok (.lst xs)):=by subst h;rfl
theorem wJ{x:Rs (List AV)}(h:x=some (.ok xs))(z:xs.length<=5000):uX x=some (.ok (.tup xs)):=h▸Dn z
theorem wK{x:Rs (List AV)}(h:x=some (.ok xs))(z:xs.length<=5000):Jm x=some (.ok xs):=h▸Lr z
theorem IS{x:Rs Bool}{A C r:Rs α}(h:x=some (.ok true))(z:A=r):Jl x A C=r:=by subst h;exact z
theorem wL{x:Rs Bool}{A C r:Rs α}(h:x=some (.ok false))(z:C=r):Jl x A C=r:=by subst h;exact z
theorem ux{x y r:Rs Bool}(h:x=some (.ok false))(z:y=r):QW x y=r:=by subst h;exact z
theorem RO{x y:Rs Bool}(h:x=some (.ok true)):QW x y=some (.ok true):=by subst h;rfl
theorem Lu{x:Rs Bool}{c:Bool}(h:x=some (.ok b))(e:(!b)=c):EM x=some (.ok c):=by subst e h;rfl
theorem YV{x:Rs AV}{y a:AV}(hg:J.getD i .un= .own (xs++[y]))(h:x=some (.ok a))(z:J.set i (.own (xs++[a]))=ak):xM i x J=some (.next ak):=by
 subst h z;have e:(xs++[y]).set ((xs++[y]).length-1) a=xs++[a]:=by simp
 show(match J.getD i .un with| .own xs=>(if xs≠[]then some (Ou.next (J.set i (.own (xs.set (xs.length-1) a))))else none)|_=>none)=_;refine ag hg ?_;show(if xs++[y]≠[]then _ else none)=_;exact ag (if_pos (List.append_ne_nil_of_right_ne_nil _ (List.cons_ne_nil _ _))) (ag e rfl)
theorem es{x:Option Ou}{k:St->Option Ou}{r:Rs AV}(ak:St)(h:x=some (.next ak))(z:bg (k ak)=r):bg (bu x k)=r:=by refine ag h ?_;exact z
theorem ee{x:Option Ou}{k:St->Option Ou}{r:Rs AV}{c:cz}(ak:St)(h:x=some (.ex c ak))(z:some (.error c)=r):bg (bu x k)=r:=by refine ag h ?_;exact z
theorem Ep{x:Rs AV}{a:AV}(hg:J.getD i .un= .own xs)(h:x=some (.ok a))(z:xs.length<=5000)(I:J.set i (.own (xs++[a]))=ak):NK i x J=some (.next ak):=by
 unfold NK;refine ag hg (ag h ?_);dsimp only[aU];exact ag (if_pos (ed z)) (ag I rfl)
theorem UR{x:Rs (List AV)}{r:Rs (List AV)}(h:x=some (.ok xs))(z:j7 (some (.ok xs))=r):j7 x=r:=by subst h;exact z
theorem zy{x:Rs Bool}(h:x=some (.ok b)):Ak x (aA true)=some (.ok b):=by refine ag h ?_;clear h;cases b<;>rfl
theorem GB(ps:List B):(ps.map AV.aa).length=ps.length:=ro ..
theorem uy(ps:List B)(v:B):ps.map AV.aa++[.aa v]=(ps++[v]).map .aa:=by refine ag aaP ?_;rfl
theorem er{x:Option Ou}{k:St->Option Ou}{r:Rs AV}{a:AV}(h:x=some (.ret a))(z:some (.ok a)=r):bg (bu x k)=r:=by subst h;exact z
theorem Wx{x:Rs α}{k:α->Option Ou}{K:St->Option Ou}{r:Rs AV}(a:α)(h:x=some (.ok a))(z:bg (bu (k a) K)=r):bg (bu (aU x J k) K)=r:=by subst h;exact z
noncomputable abbrev Ap{α β:Type}(f:α->β)(a:α):β:=f a
theorem iN{F x k:St->Option Ou}{r:Option Ou}(ak:St)(e:F=λJ=>bu (x J) k)(h:Ap x J=some (.next ak))(z:Ap k ak=r):Ap F J=r:=by subst e;exact YU ak h z
theorem MB{F x k:St->Option Ou}{c:cz}(ak:St)(e:F=λJ=>bu (x J) k)(h:Ap x J=some (.ex c ak)):Ap F J=some (.ex c ak):=by subst e;exact Ql ak h
theorem Qn{F x k:St->Option Ou}{a:AV}(e:F=λJ=>bu (x J) k)(h:Ap x J=some (.ret a)):Ap F J=some (.ret a):=by subst e;exact YT h
theorem g_{F x:St->Option Ou}{r:Option Ou}(e:F=λJ=>bu (x J) λJ=>some (.next J))(h:Ap x J=r):Ap F J=r:=by subst e;exact Ls h
theorem qh{F A B:St->Option Ou}{x:St->Rs Bool}{r:Option Ou}(e:F=λJ=>aU (x J) J λc=>if c=true then A J else B J)(h:Ap x J=some (.ok true))(z:Ap A J=r):Ap F J=r:=by subst e;exact Qm h z
theorem jH{F A B:St->Option Ou}{x:St->Rs Bool}{r:Option Ou}(e:F=λJ=>aU (x J) J λc=>if c=true then A J else B J)(h:Ap x J=some (.ok false))(z:Ap B J=r):Ap F J=r:=by subst e;exact IQ h z
theorem iB{F:St->Option Ou}{x:St->Rs α}{k:St->α->Option Ou}{r:Option Ou}(a:α)(e:F=λJ=>aU (x J) J (k J))(h:Ap x J=some (.ok a))(z:k J a=r):Ap F J=r:=by subst e;exact En a h z
theorem IT{F:St->Option Ou}{x:St->Rs α}{k:St->α->Option Ou}{c:cz}(e:F=λJ=>aU (x J) J (k J))(h:Ap x J=some (.error c)):Ap F J=some (.ex c J):=by subst e;exact Ww h
theorem ZG{F:St->Rs β}{x:St->Rs α}{k:St->α->Rs β}{r:Rs β}(a:α)(e:F=λJ=>bindR (x J) (k J))(h:Ap x J=some (.ok a))(z:k J a=r):Ap F J=r:=by subst e;exact aj a h z
theorem e6{F x k:St->Option Ou}{r:Rs AV}(ak:St)(e:F=λJ=>bu (x J) k)(h:Ap x J=some (.next ak))(z:bg (Ap k ak)=r):bg (Ap F J)=r:=by subst e;exact es ak h z
theorem IU{F x k:St->Option Ou}{r:Rs AV}{c:cz}(ak:St)(e:F=λJ=>bu (x J) k)(h:Ap x J=some (.ex c ak))(z:some (.error c)=r):bg (Ap F J)=r:=by subst e;exact ee ak h z
theorem US{F K:St->Option Ou}{x:St->Rs α}{k:St->α->Option Ou}{r:Rs AV}(a:α)(e:F=λJ=>bu (aU (x J) J (k J)) K)(h:Ap x J=some (.ok a))(z:bg (bu (k J a) K)=r):bg (Ap F J)=r:=by subst e;exact Wx a h z
theorem Lv{F x k:St->Option Ou}{r:Rs AV}{a:AV}(e:F=λJ=>bu (x J) k)(h:Ap x J=some (.ret a))(z:some (.ok a)=r):bg (Ap F J)=r:=by subst e;exact er h z
section
set_option backward.match.sparseCases true
section
variable (P:kX)
theorem Dt{t:B}(h:t.length<=4000):bz 1 1 gJ.f [.aa (t++[10])]=some (.ok (.aa t)):=by
 unfold bz gJ;simp[aO,wI (show(t++[10]).length<=5000 by simp;exact bU ‹_› (by decide)),qV,pb (show(t++[10]).length<=5000 by simp;exact bU ‹_› (by decide)),uv]
theorem Du{t:B}(h:t.length<=4000)(z:t=[]\/∃u c,t=u++[c]/\c≠10):bz 1 1 gJ.f [.aa t]=some (.ok (.aa t)):=by
 refine MS z ?_ ?_;rotate_left;clear z;rintro u c rfl I;rotate_right;clear z;clear h;rintro rfl
 ·unfold bz gJ;simp[aO,wI (show([]:B).length<=5000 by simp)]
 ·unfold bz gJ;simp[aO,wI (show(u++[c]).length<=5000 by simp at h⊢;exact bU ‹_› (by decide)),qV,I]
noncomputable def da(l:B):Bool:=l.take 1==[32]
noncomputable def key(l:B):B:=l.take (l.idxOf 32)
noncomputable def base(l:B):B:=l.drop (l.idxOf 32+1)
noncomputable def gD(w:Bool)(ls:List B):B:=if w|| !ls.isEmpty then[10]else[]
def TT(w:Bool):List B->B
 |[]=>[]
 |l::ls=>l++gD w ls++TT w ls
theorem Lw:TT w []=[]:=rfl
theorem Dv:TT w (l::ls)=l++gD w ls++TT w ls:=rfl
def pp(w:Bool)(cur:Option (B×B)):List B->List (B×B)×Option B
 |[]=>(cur.toList,none)
 |l::ls=>if l=[]then(cur.toList,some (TT w ls))else if da l then pp w (cur.map λp=>(p.1,p.2++10::l.drop 1)) ls else
  (cur.toList++(pp w (some (key l,base l)) ls).1,(pp w (some (key l,base l)) ls).2)
theorem Qo:pp w u []=(u.toList,none):=rfl
theorem GC:pp w u (l::ls)=if l=[]then(u.toList,some (TT w ls))else if da l then pp w (u.map λp=>(p.1,p.2++10::l.drop 1)) ls else(u.toList++(pp w (some (key l,base l)) ls).1,(pp w (some (key l,base l)) ls).2):=rfl
def Er(w:Bool):List B->Prop
 |[]=>True
 |l::ls=>10∉l/\(l=[]->gD w ls=[10])/\(l≠[]->(da l=true->2<=l.length)/\(da l=false->32∈l)/\Er w ls)
theorem Qp:Er w []=True:=rfl
theorem Dw:Er w (l::ls)=(10∉l/\(l=[]->gD w ls=[10])/\(l≠[]->(da l=true->2<=l.length)/\(da l=false->32∈l)/\Er w ls)):=rfl
theorem GD(w:Bool)(ls:List B):gD w ls=[10]\/(gD w ls=[]/\ls=[]):=by
 unfold gD;cases w<;>cases ls<;>simp
noncomputable def aS(p:B×B):AV:=.tup [.aa p.1,.aa p.2]
noncomputable def st(X:B)(ch:AV)(pl:Nat)(k:AV)(ps:List B)(z:Bool)(e l r:LV):St:=[.un,.im ch,.im (.aa X),.im (.int pl),.im k,.own (ps.map .aa),.im (.bool z),.fn 5,e,l,r]
def pg(z:B)(k:AV)(ps:List B):Option (B×B)->Prop
 |none=>k= .none
 |some (a,v)=>k= .aa a/\ps.flatten=v++z/\(z=[10]\/(z=[]/\(v=[]\/∃u c,v=u++[c]/\c≠10)))
theorem ma{z:B}{ps:List B}{a v:B}{k:AV}(h:pg z k ps (some (a,v)))(hz:ps.flatten.length<=4000):k= .aa a/\bz 1 1 gJ.f [.aa ps.flatten]=some (.ok (.aa v)):=by
 refine fQ h λh1 h2 h3=>?_;clear h;refine⟨h1,?_⟩;rw[h2]at hz⊢;refine I7 h3 ?_ ?_;rotate_left;clear h3;clear h2;rintro rfl h3;rotate_right;clear h3;clear h2;rintro rfl
 ·exact Dt (by simp at hz;exact Qt ‹_›)
 ·simpa using Du (t:=v) (by simpa using hz) h3
def yk(k:AV)(cur:Option (B×B)):List AV:=(cur.toList).map aS
structure wM(X:B)(ch:AV)(t:St->Rs Bool)(g:St->dj):Prop where
 test:∀pl k ps b e l r,t (st X ch pl k ps b e l r)=some (.ok (decide (pl<X.length)))
 sp:∀pl k ps b e l r L nl rest,X.drop pl=L++nl++rest->10∉L->(nl=[10]\/(nl=[]/\rest=[]))->pl<=X.length->da L=true->ps.length<=4000->
  ∃e' l',g (st X ch pl k ps b e l r)=some ([],.next (st X ch (pl+(L++nl).length) k (ps++[L.drop 1++nl]) b e' l' r))
 em:∀pl k ps b e l r rest cur,X.drop pl=10::rest->pl<=X.length->pg [10] k ps cur->ps.flatten.length<=4000->
  ∃e' l',g (st X ch pl k ps b e l r)=some (yk k cur,.brk (st X ch (pl+1) k ps false e' l' r))
 hd:∀pl k ps b e l r L nl rest cur,X.drop pl=L++nl++rest->10∉L->(nl=[10]\/(nl=[]/\rest=[]))->pl<=X.length->da L=false->32∈L->pg [10] k ps cur->ps.flatten.length<=4000->
  ∃e' l' r',g (st X ch pl k ps b e l r)=some (yk k cur,.next (st X ch (pl+(L++nl).length) (.aa (key L)) [base L++nl] b e' l' r'))
theorem Qq{l:B}(h:10∉l):l=[]\/∃u c,l=u++[c]/\c≠10:=by
 refine Vr (ac7 l) ?_ ?_;rotate_left;rintro u c rfl;rotate_right;rintro rfl
 ·exact .inl rfl
 ·exact .inr ⟨u,c,by simp,λe=>h (by simp[e])⟩
inductive IV(X:B)(ch:AV):Option (List AV×Ou)->List (B×B)×Option B->Prop
 |go (uQ:Nat) (k':AV) (wx:List B) (e' l' r':LV) (ys:List (B×B)) (aC:Option (B×B)) (Qr:B) (h1:uQ<=X.length) (h2:pg Qr k' wx aC) (h3:wx.flatten.length<=uQ) (h4:wx.length<=uQ):IV X ch (some (ys.map aS,.next (st X ch uQ k' wx true e' l' r'))) (ys++aC.toList,none)
 |stop (uQ:Nat) (k':AV) (wx:List B) (e' l' r':LV) (ys:List (B×B)) (h1:uQ<=X.length):IV X ch (some (ys.map aS,.next (st X ch uQ k' wx false e' l' r'))) (ys,some (X.drop uQ))
theorem IV.pre{ch:AV}{o:Option (List AV×Ou)}{q:List (B×B)×Option B}(z:List (B×B))(h:IV X ch o q):IV X ch (o.map λp=>(z.map aS++p.1,p.2)) (z++q.1,q.2):=by
 cases h with
 |go uQ k' wx e' I U ys aC Qr h1 h2 h3 h4=>
  have h:=IV.go (ch:=ch) uQ k' wx e' I U (z++ys) aC Qr h1 h2 h3 h4;rw[aaP,SF]at h;exact h
 |stop uQ k' wx e' I U ys h1=>
  have h:=IV.stop (ch:=ch) uQ k' wx e' I U (z++ys) h1;rw[aaP]at h;exact h
theorem GF{ch:AV}{t:St->Rs Bool}{g:St->dj}(H:wM X ch t g)(w:Bool)(hX:X.length<=3000):∀(ls:List B)(n pl:Nat)(k:AV)(ps:List B)(e l r:LV)(cur:Option (B×B))(nl:B),ls.length+1<=n->Er w ls->X.drop pl=TT w ls->pl<=X.length->ps.flatten.length<=pl->ps.length<=pl->pg nl k ps cur->(ls≠[]->nl=[10])->IV X ch (eU t g n (st X ch pl k ps true e l r)) (pp w cur ls):=by
 intro ls
 induction ls with
 |nil=>
  intro n;cases n with
  |zero=>
   intro _ _ _ _ _ _ _ _ I _ _ _ _ _ _ _;exact absurd I (aaZ _)
  |succ n=>
   intro pl k ps e l r cur nl I ho hd V hz km U Y;have hle:X.length<=pl:=by simpa[Lw,Dv,ZU]using hd
   rw[show eU t g (n+1) (st X ch pl k ps true e l r)=some ([],.next (st X ch pl k ps true e l r)) by
    rw[jo]
    (rw[H.test,decide_eq_false (by lia)])<;>rfl]
   exact .go pl k ps e l r [] cur nl V U hz km
 |cons L ls IH=>
  intro n;cases n with
  |zero=>
   intro _ _ _ _ _ _ _ _ I _ _ _ _ _ _ _;exact absurd I (aaZ _)
  |succ n=>
   intro pl k ps e l r cur nl I ho hd V hz km U Y;have Y:=Y (by simp);subst Y;simp only[Dw]at ho;refine fQ ho λo1 o2 o3=>?_;clear ho;rw[Dv]at hd;have z:X.length=pl+(L++gD w ls).length+(TT w ls).length:=by
    have:=congrArg ZL hd;simp at this⊢;exact Vv V this
   have Z:X.drop (pl+(L++gD w ls).length)=TT w ls:=by
    refine fP adh (ag hd ?_);simp
   by_cases hL:L=[]
   ·clear I Y o1 o3;subst hL;have MC:=o2 rfl;rw[MC]at hd Z z;refine jY (H.em pl k ps true e l r (TT w ls) cur (by simpa using hd) V U (by lia)) λe' l' hg=>?_;simp at z Z;rw[show eU t g (n+1) (st X ch pl k ps true e l r)=some (cur.toList.map aS,.next (st X ch (pl+1) k ps false e' l' r)) by
     rw[jo]
     (rw[H.test,decide_eq_true (by lia),hg])<;>rfl,show pp w cur ([]::ls)=(cur.toList,some (X.drop (pl+1))) by rw[Z];exact if_pos rfl]
    exact .stop _ _ _ _ _ _ _ (by lia)
   have h_:pl<X.length:=by
    have:0<L.length:=adm.mpr hL;simp at z;lia
   refine fQ (o3 hL) λq1 q2 q3=>?_;have Qs:ls≠[]->gD w ls=[10]:=λh=>by unfold gD;clear IH hd o2 z Z q3;clear I Y o3;cases ls<;>simp_all
   have MC:gD w ls=[10]\/(gD w ls=[]/\TT w ls=[]):=(GD w ls).imp id λh=>⟨h.1,by refine ag h.2 ?_;rfl⟩;by_cases hs:da L=true
   ·refine jY (H.sp pl k ps true e l r L _ _ hd o1 MC V hs (by lia)) λe' l' hg=>?_;have h2:=q1 hs;have mE:pg (gD w ls) k (ps++[L.drop 1++gD w ls]) (cur.map λp=>(p.1,p.2++10::L.drop 1)):=by
     cases cur with
     |none=>exact U
     |some p=>
      refine fQ U λr1 r2 r3=>?_;clear U;refine⟨r1,by simp[r2],MC.imp id λh=>⟨h.1,.inr ?_⟩⟩;refine MS (Qq (l:=L.drop 1) (λh=>o1 (abT h))) (λh0=>?_) λu c h0 hc=>?_
      ·have:=congrArg ZL h0;simp at this;exact absurd this (Nat.sub_ne_zero_of_lt h2)
      ·exact⟨p.2++10::u,c,by refine ag h0 ?_;simp,hc⟩
    have ih:=IH n _ k _ e' l' r _ _ (by simpa using I) q3 Z (bU (xm _ _) (Kj z.symm))
     (by have e0:(L.drop 1).length=L.length-1:=(by simp);simp only[List.flatten_append,nx,List.flatten_cons,List.flatten_nil,Z5,e0];exact aa0 hz (X1 (aaB _ _) _))
     (by have:0<L.length:=Kt ‹_›;simp only[nx,CV,Z5];exact aa0 km (bU this (xm _ _))) mE Qs
    refine ag (show pp w cur (L::ls)=pp w (cur.map λp=>(p.1,p.2++10::L.drop 1)) ls from(if_neg hL).trans (if_pos hs)) ?_;rw[jo,H.test,decide_eq_true h_];simp only[hg];exact ih.pre []
   ·have hs:da L=false:=by simpa using hs
    refine zZ (H.hd pl k ps true e l r L _ _ cur hd o1 MC V hs (q2 hs) U (by lia)) λe' l' r' hg=>?_;have YW:(base L).length+1<=L.length:=by
     have:=aaU (q2 hs);unfold base;simp;exact Vw this
    have mE:pg (gD w ls) (.aa (key L)) [base L++gD w ls] (some (key L,base L)):=
     ⟨rfl,by simp,MC.imp id λh=>⟨h.1,Qq λh=>o1 (abT h)⟩⟩
    have ih:=IH n _ _ _ e' l' r' _ _ (by simpa using I) q3 Z (bU (xm _ _) (Kj z.symm))
     (by simp only[List.flatten_cons,List.flatten_nil,X5,nx];lia) (by simp;lia) mE Qs
    rw[show pp w cur (L::ls)=(cur.toList++(pp w (some (key L,base L)) ls).1,(pp w (some (key L,base L)) ls).2)from(if_neg hL).trans (if_neg (by rw[hs];exact BA))];rw[jo,H.test,decide_eq_true h_];simp only[hg];exact ih.pre cur.toList
end
theorem Dx{f:St->Option Ou}{h:St->dj}(e:f J=some (.next ak)):kc (lj f) h J=h ak:=by
 unfold kc lj;refine ag e ?_;show abp (λp=>([]++p.1,p.2)) (h ak)=h ak;cases h ak<;>rfl
theorem Dy{f:St->Option Ou}{h:St->dj}(e:f J=some (.brk ak)):kc (lj f) h J=some ([],.brk ak):=by
 unfold kc lj;exact ag e rfl
theorem ju{f h:St->dj}(e:f J=some (ys,.next ak)):kc f h J=(h ak).map λp=>(ys++p.1,p.2):=by
 unfold kc;exact ag e rfl
theorem dI(f:St->dj)(J:St):kc f (λJ=>some ([],.next J)) J=f J:=by
 unfold kc;split
 ·rename_i h;refine ag h ?_;simp
 ·rfl
theorem uz{f:St->Rs Bool}{g h:St->dj}(e:f J=some (.ok true)):It f g h J=g J:=by unfold It;exact ag e rfl
theorem uA{f:St->Rs Bool}{g h:St->dj}(e:f J=some (.ok false)):It f g h J=h J:=by unfold It;exact ag e rfl
theorem fO{f:St->Rs AV}{a:AV}(e:f J=some (.ok a)):oV f J=some ([a],.next J):=by unfold oV;exact ag e rfl
theorem gp{f:St->Option Ou}{h:St->dj}{r:Option (List AV×Ou)}(e:f J=some (.next ak))(k:h ak=r):kc (lj f) h J=r:=(Dx e).trans k
theorem RP{f h:St->dj}{o:Ou}(e:f J=some (ys,.next ak))(k:h ak=some ([],o)):kc f h J=some (ys,o):=by
 refine ag (ju e) (ag k ?_);exact congrArg (λz=>some (z,o)) (X5 ys)
theorem MD{f:St->dj}{r:Option (List AV×Ou)}(k:f J=r):kc f (λJ=>some ([],.next J)) J=r:=(dI f J).trans k
theorem gt{f:St->Rs Bool}{g h:St->dj}{r:Option (List AV×Ou)}(e:f J=some (.ok true))(k:g J=r):It f g h J=r:=(uz e).trans k
theorem gf{f:St->Rs Bool}{g h:St->dj}{r:Option (List AV×Ou)}(e:f J=some (.ok false))(k:h J=r):It f g h J=r:=(uA e).trans k
theorem split1{c:UInt8}{r u:B}(h:c∉r):gc false (r++c::u) [c] 1=[.aa r,.aa u]:=by
 have z:d6 false (r++c::u).toArray [c].toArray 1=[r.length]:=by
  unfold d6;simp only[F3,if_false];show(aag _ #[c] 0 _).take _=_;rw[x8,o9 h]
  rfl
 unfold gc;rw[z];simp[Z_];exact Zk Sq
theorem lz{L:B}(h:32∈L):key L++32::base L=L:=by
 have z:=aaU h;have e:L[L.idxOf 32]=32:=List.getElem_idxOf z;unfold key base;have:=List.take_append_drop (L.idxOf 32) L;rw[ZH z,e]at this;exact this
theorem GH:∀(L:B),32∉L.take (L.idxOf 32):=by
 intro L
 induction L with
 |nil=>
  simp
 |cons x xs z=>
  refine ag List.idxOf_cons ?_;cases I:x==32 with
  |true=>simp
  |false=>
   simp only[cond_false,ab2,QX,not_or];exact⟨λe=>by simp[<-e]at I,z⟩
theorem Dz{L:B}(h:32∈L):32∉key L:=GH L
structure Lx(X:B)(ch:AV)(A:St->dj):Prop where
 fin:∀pl k ps e l r nl cur,pg nl k ps cur->ps.flatten.length<=4000->ps.length<=4000->∃ak,A (st X ch pl k ps true e l r)=some (yk k cur++[.tup [.none,.none]],.next ak)
 brk:∀pl k ps e l r,pl<=X.length->∃ak,A (st X ch pl k ps false e l r)=some ([.tup [.none,.aa (X.drop pl)]],.next ak)
noncomputable def a9:Option B->AV
 |none=>.none
 |some m=>.aa m
noncomputable def jv:dj->Option (List AV)
 |some (ys,.next _)=>some ys
 |_=>none
theorem Ly{ch:AV}{t:St->Rs Bool}{g A:St->dj}(H:wM X ch t g)(U:Lx X ch A)(w:Bool)(Y:X.length<=3000){ls:List B}(hl:ls.length<=19)(ho:Er w ls)(he:X=TT w ls)(e l r:LV):jv (kc (eU t g 20) A (st X ch 0 .none [] true e l r))=some ((pp w none ls).1.map aS++[.tup [.none,a9 (pp w none ls).2]]):=by
 have h:=GF H w Y ls 20 0 .none [] e l r none [10] (by exact Nat.lt_succ_of_le ‹_›) ho (by refine ag aaX ?_;exact he) (Z2 _) (by simp) (by simp) rfl (λZ=>rfl);generalize pp w none ls=q at h;generalize hw:eU t g 20 (st X ch 0 .none [] true e l r)=o at h;cases h with
 |go uQ k' wx e' z I ys aC Qr V h2 h3 h4=>
  refine au (U.fin uQ k' wx e' z I Qr aC h2 (by lia) (by lia)) λak h5=>ag (ju hw) (ag h5 ?_);simp[jv,yk,a9]
 |stop uQ k' wx e' z I ys V=>
  refine au (U.brk uQ k' wx e' z I V) λak h5=>ag (ju hw) (ag h5 ?_);simp[jv,a9]
theorem zz{ch:AV}{t:St->Rs Bool}{g A:St->dj}(test:∀pl k ps b e l r,t (st X ch pl k ps b e l r)=some (.ok (decide (pl<X.length))))(pre:∀pl k ps b e l r L z rest,X.drop pl=L++z++rest->10∉L->(z=[10]\/(z=[]/\rest=[]))->pl<=X.length->g (st X ch pl k ps b e l r)=A (st X ch (pl+(L++z).length) k ps b (.im (.int ((pl+(L++z).length:Nat):Int))) (.im (.aa (L++z))) r))(sp:∀pl k ps b e r L z,(L++z).length<=4000->10∉L->da L=true->ps.length<=4000->A (st X ch pl k ps b e (.im (.aa (L++z))) r)=some ([],.next (st X ch pl k (ps++[L.drop 1++z]) b e (.im (.aa (L++z))) r)))(em:∀pl k ps b e r cur,pg [10] k ps cur->ps.flatten.length<=4000->A (st X ch pl k ps b e (.im (.aa [10])) r)=some (yk k cur,.brk (st X ch pl k ps false e (.im (.aa [10])) r)))(hd:∀pl k ps b e r L z cur,(L++z).length<=4000->(z=[10]\/z=[])->10∉L->da L=false->32∈L->pg [10] k ps cur->ps.flatten.length<=4000->∃Y,A (st X ch pl k ps b e (.im (.aa (L++z))) r)=some (yk k cur,.next (st X ch pl (.aa (key L)) [base L++z] b e (.im (.aa (L++z))) Y)))(hX:X.length<=3000):wM X ch t g:=by
 have hz:∀(pl:Nat)(L z rest:B),X.drop pl=L++z++rest->(L++z).length<=4000:=λpl L z rest h=>by
  have:=congrArg ZL h;simp at this⊢;exact bU (bU (Xs (xm _ _) _) (Kj this.symm)) (bU (aaB _ _) (bU hX (by decide)))
 refine⟨test,λpl k ps b e l r L z rest I iJ V U hs Lz=>?_,λpl k ps b e l r rest cur I U Z j1=>?_,λpl k ps b e l r L z rest cur I iJ V U hs DA Z j1=>?_⟩
 ·exact ag (pre _ _ _ _ _ _ _ _ _ _ I iJ V U) (⟨_,_,sp _ _ _ _ _ _ _ _ (hz _ _ _ _ I) iJ hs Lz⟩)
 ·exact ag (pre pl k ps b e l r [] [10] rest I (by simp) (.inl rfl) U) (⟨_,_,em _ _ _ _ _ _ _ Z j1⟩)
 ·exact ag (pre _ _ _ _ _ _ _ _ _ _ I iJ V U) (au (hd (pl+(L++z).length) k ps b (.im (.int ((pl+(L++z).length:Nat):Int))) r L z cur (hz _ _ _ _ I) (V.imp id And.left) iJ hs DA Z j1) λY h=>⟨_,_,Y,h⟩)
theorem so{k:AV}{ps:List B}{z:B}{cur:Option (B×B)}(h:pg z k ps cur):(cN k=true/\k= .none/\cur=none)\/(∃a v,k= .aa a/\cur=some (a,v)):=by
 cases cur with
 |none=>cases h;exact .inl ⟨rfl,rfl,rfl⟩
 |some p=>obtain⟨a,v⟩:=p;exact .inr ⟨a,v,h.1,rfl⟩
section
variable (P:kX)
theorem uB{ps:List B}(h:ps.flatten.length<=4000):qM [.aa [],.lst (ps.map .aa)]=some (.ok (.aa ps.flatten)):=by
 have e:=qU ps;have:=lx (a:=[]) (ps:=ps) (by refine ag e ?_;exact bU ‹_› (by decide));rw[e]at this;exact this
theorem gn{f:St->Option Ou}{h:St->dj}{r:Option (List AV)}(e:f J=some (.next ak))(k:jv (h ak)=r):jv (kc (lj f) h J)=r:=(congrArg jv (Dx e)).trans k
theorem zA(w:Bool){ls:List B}(hl:ls.length<=19)(hX:(TT w ls).length<=3000)(ho:Er w ls):jv (wA.f (.un::aO 10 [.lst [.aa (TT w ls)]]))=some ((pp w none ls).1.map aS++[.tup [.none,a9 (pp w none ls).2]]):=by
 generalize hT:TT w ls=X at hX;have hj:qM [.aa [],.lst [.aa X]]=some (.ok (.aa X)):=by simpa using uB (ps:=[X]) (by simp;exact bU ‹_› (by decide))
 refine gn (ak:=[.un,.im (.lst [.aa X]),.im (.aa X),.un,.un,.un,.un,.un,.un,.un,.un]) (En (.aa X) (zW rfl (aj _ rfl (aj _ rfl rfl)) hj) rfl) (gn (ak:=[.un,.im (.lst [.aa X]),.im (.aa X),.im (.int 0),.un,.un,.un,.un,.un,.un,.un]) (by kernel_rfl) (gn (ak:=[.un,.im (.lst [.aa X]),.im (.aa X),.im (.int 0),.im .none,.un,.un,.un,.un,.un,.un]) (by kernel_rfl) (gn (ak:=[.un,.im (.lst [.aa X]),.im (.aa X),.im (.int 0),.im .none,.own [],.un,.un,.un,.un,.un]) (by kernel_rfl) (gn (ak:=[.un,.im (.lst [.aa X]),.im (.aa X),.im (.int 0),.im .none,.own [],.im (.bool true),.un,.un,.un,.un]) (by kernel_rfl) (gn (ak:=st X (.lst [.aa X]) 0 .none [] true .un .un .un) (by kernel_rfl) (Ly ?_ ?_ w hX hl ho hT.symm _ _ _))))))
 ·refine' zz (λpl k ps b e l r=>?_) (λpl k ps b e l r L nl rest hd iJ p9 hp=>?_) (λpl k ps b e r L nl hz iJ hs Lz=>?_) (λpl k ps b e r cur I hz=>?_) (λpl k ps b e r L nl cur hz p9 iJ hs DA I km=>?_) hX;rotate_left
  ·simp[st,Qk (show X.length<=5000 by exact bU ‹_› (by decide))]
  ·have U:X.length=pl+(L++nl).length+rest.length:=by have:=congrArg ZL hd;simp at this⊢;exact Vv hp this
   obtain⟨V,hv,hE⟩:∃V:Int,jT X [10] (some (pl:Int))=V/\((V= -1/\X.length=pl+(L++nl).length)\/(V≠-1/\V+1=((pl+(L++nl).length:Nat):Int))):=by
    refine I7 p9 ?_ ?_;rotate_left;clear p9;rintro rfl rfl;rotate_right;clear p9;clear U;rintro rfl
    ·exact⟨_,uu (post:=rest) (by simpa using hd) iJ hp,.inr ⟨by lia,by simp;rfl⟩⟩
    ·exact⟨_,wG (by rw[hd];simpa using iJ) hp,.inl ⟨rfl,by simpa using U⟩⟩
   refine gp (ak:=st X (.lst [.aa X]) pl k ps b (.im (.int V)) l r) (En (.int V) (zW rfl (aj _ rfl (aj _ (aj _ rfl (aj _ rfl rfl)) rfl)) (congrArg (λz=>some (Except.ok (AV.int z))) hv)) rfl) ?_;refine gp (ak:=st X (.lst [.aa X]) pl k ps b (.im (.int ((pl+(L++nl).length:Nat):Int))) l r) (by
    refine Sl hE ?_ λh1 h2=>?_;clear hE;clear hv;rintro rfl h
    ·simp[st,Qk (show X.length<=5000 by exact bU ‹_› (by decide))];rw[h];simp
    ·simp[st,h1,h2]) ?_
   refine gp (ak:=st X (.lst [.aa X]) pl k ps b (.im (.int ((pl+(L++nl).length:Nat):Int))) (.im (.aa (L++nl))) r) (by
    have e:dC X (some (pl:Int)) (some ((pl+(L++nl).length:Nat):Int))=L++nl:=by
     rw[Dm _ _ _ (by lia) (by lia),hd,abq,List.take_left]
    exact En (.aa (L++nl)) (aj _ rfl (aj _ rfl (aj _ rfl ((pb (bU hX (by decide)) rfl rfl).trans (by rw[e]))))) rfl) ?_
   exact gp (ak:=st X (.lst [.aa X]) (pl+(L++nl).length) k ps b (.im (.int ((pl+(L++nl).length:Nat):Int))) (.im (.aa (L++nl))) r) (by kernel_rfl) rfl
  ·have e1:jD (L++nl) [32]=true:=by
    rw[pf];unfold da at hs;clear hz iJ;cases L with
    |nil=>simp at hs
    |cons x xs=>simpa using hs
   refine MD (gt (by simp[st,e1]) (gp (ak:=st X (.lst [.aa X]) pl k (ps++[L.drop 1++nl]) b e (.im (.aa (L++nl))) r) (by
    have e2:dC (L++nl) (some 1) none=L.drop 1++nl:=by
     rw[show(1:Int)=((1:Nat):Int)from rfl,gY];clear e1;cases L with
     |nil=>simp[da]at hs
     |cons x xs=>simp
    exact Ep (xs:=ps.map .aa) (a:=.aa (L.drop 1++nl)) rfl (aj _ rfl (aj _ rfl (aj _ rfl ((pb (bU hz (by decide)) rfl rfl).trans (by rw[e2]))))) (by rw[GB];exact bU Lz (by decide)) (by rw[uy];rfl)) rfl))
  ·refine MD (gf (by kernel_rfl) ?_);refine I8 (so I) ?_ ?_;rotate_left;rintro a v rfl rfl;rotate_right;clear I;rintro h1 rfl rfl
   ·exact RP (ys:=[]) (ak:=st X (.lst [.aa X]) pl .none ps b e (.im (.aa [10])) r) (gf (by kernel_rfl) rfl) (Dy (ak:=st X (.lst [.aa X]) pl .none ps false e (.im (.aa [10])) r) (by kernel_rfl))
   ·exact aX (ma I hz) λZ Y=>RP (ys:=[aS (a,v)]) (ak:=st X (.lst [.aa X]) pl (.aa a) ps b e (.im (.aa [10])) r) (gt (by kernel_rfl) (MD (fO (wJ (aj (.aa a) rfl (aj _ (aj (.aa v) (aj _ (aj _ (zW rfl (aj _ rfl (aj _ rfl rfl)) (uB hz)) (aj _ rfl rfl)) Y) (aj _ rfl rfl)) rfl)) (oC rfl))))) (Dy (ak:=st X (.lst [.aa X]) pl (.aa a) ps false e (.im (.aa [10])) r) (by kernel_rfl))
  ·have e0:jD (L++nl) [32]=false:=by
    rw[pf];unfold da at hs;cases L with
    |nil=>simp at DA
    |cons x xs=>simpa using hs
   have gu:((L++nl)==[10])=false:=by
    rw[beq_eq_false_iff_ne];intro h;clear hs e0;cases L with
    |nil=>simp at DA
    |cons x xs=>simp at h;simp[h.1]at iJ
   have l7:gc false (L++nl) [32] 1=[.aa (key L),.aa (base L++nl)]:=by
    have h:=split1 (c:=32) (r:=key L) (u:=base L++nl) (Dz DA);rw[show key L++32::(base L++nl)=L++nl by rw[<-Xm,<-SF,lz DA]]at h;exact h
   have ME:vT [.aa (L++nl),.aa [32],.int 1]=some (.ok [.aa (key L),.aa (base L++nl)]):=by
    show ij false (L++nl) [32] 1=_;unfold ij;rw[l7,if_pos ⟨rfl,ed (bU hz (by decide)),rfl⟩];rfl
   refine I8 (so I) ?_ ?_;rotate_left;rintro a v rfl rfl;rotate_right;rintro h1 rfl rfl
   ·refine⟨.im (.aa (base L++nl)),MD (gf (by simp[st,e0]) ?_)⟩;exact RP (ys:=[]) (ak:=st X (.lst [.aa X]) pl .none ps b e (.im (.aa (L++nl))) r) (gf (by kernel_rfl) rfl) (gp (ak:=st X (.lst [.aa X]) pl .none ps b e (.im (.aa (L++nl))) r) (IQ (gZ (aj _ rfl (aj _ rfl rfl)) gu) rfl) (gp (ak:=st X (.lst [.aa X]) pl (.aa (key L)) ps b e (.im (.aa (L++nl))) (.im (.aa (base L++nl)))) (En [.aa (key L),.aa (base L++nl)] (aj (.lst [.aa (key L),.aa (base L++nl)]) (uw (zW rfl (aj _ rfl (aj _ (aj _ rfl (aj _ rfl rfl)) rfl)) ME)) rfl) rfl) (gp (ak:=st X (.lst [.aa X]) pl (.aa (key L)) [base L++nl] b e (.im (.aa (L++nl))) (.im (.aa (base L++nl)))) (by kernel_rfl) rfl)))
   ·refine aX (ma I km) λZ Y=>⟨.im (.aa (base L++nl)),MD (gf (by simp[st,e0]) ?_)⟩;exact RP (ys:=[aS (a,v)]) (ak:=st X (.lst [.aa X]) pl (.aa a) ps b e (.im (.aa (L++nl))) r) (gt (by kernel_rfl) (MD (fO (wJ (aj (.aa a) rfl (aj _ (aj (.aa v) (aj _ (aj _ (zW rfl (aj _ rfl (aj _ rfl rfl)) (uB km)) (aj _ rfl rfl)) Y) (aj _ rfl rfl)) rfl)) (oC rfl))))) (gp (ak:=st X (.lst [.aa X]) pl (.aa a) ps b e (.im (.aa (L++nl))) r) (IQ (gZ (aj _ rfl (aj _ rfl rfl)) gu) rfl) (gp (ak:=st X (.lst [.aa X]) pl (.aa (key L)) ps b e (.im (.aa (L++nl))) (.im (.aa (base L++nl)))) (En [.aa (key L),.aa (base L++nl)] (aj (.lst [.aa (key L),.aa (base L++nl)]) (uw (zW rfl (aj _ rfl (aj _ (aj _ rfl (aj _ rfl rfl)) rfl)) ME)) rfl) rfl) (gp (ak:=st X (.lst [.aa X]) pl (.aa (key L)) [base L++nl] b e (.im (.aa (L++nl))) (.im (.aa (base L++nl)))) (by kernel_rfl) rfl)))
 ·refine⟨λpl k ps e l r nl cur I hz km=>?_,λpl k ps e l r hp=>?_⟩
  ·refine I8 (so I) ?_ ?_;rotate_left;rintro a v rfl rfl;rotate_right;rintro h1 rfl rfl
   ·refine⟨st X (.lst [.aa X]) pl .none ps true e l r,?_⟩;rw[ju (ys:=[.tup [.none,.none]]) (ak:=st X (.lst [.aa X]) pl .none ps true e l r) (by
     rw[uz (by kernel_rfl),ju (ys:=[]) (ak:=st X (.lst [.aa X]) pl .none ps true e l r) (by rw[uA (by kernel_rfl)]),dI,fO (a:=.tup [.none,.none]) (by kernel_rfl)]
     rfl)]
    rw[dI,uA (by kernel_rfl)]
    rfl
   ·refine aX (ma I hz) λZ Y=>⟨st X (.lst [.aa X]) pl (.aa a) ps true e l r,?_⟩;rw[ju (ys:=[aS (a,v),.tup [.none,.none]]) (ak:=st X (.lst [.aa X]) pl (.aa a) ps true e l r) (by
     rw[uz (by kernel_rfl),ju (ys:=[aS (a,v)]) (ak:=st X (.lst [.aa X]) pl (.aa a) ps true e l r) (by
      rw[uz (by kernel_rfl),dI];exact fO (wJ (aj (.aa a) rfl (aj _ (aj (.aa v) (aj _ (aj _ (zW rfl (aj _ rfl (aj _ rfl rfl)) (uB hz)) (aj _ rfl rfl)) Y) (aj _ rfl rfl)) rfl)) (oC rfl))),dI,fO (a:=.tup [.none,.none]) (by kernel_rfl)]
     rfl)]
    rw[dI,uA (by kernel_rfl)]
    rfl
  ·refine⟨st X (.lst [.aa X]) pl k ps false e l r,?_⟩;rw[ju (ys:=[]) (ak:=st X (.lst [.aa X]) pl k ps false e l r) (by rw[uA (by kernel_rfl)])];rw[dI,uz (by kernel_rfl),dI,fO (a:=.tup [.none,.aa (X.drop pl)]) (by simp[st,pb (show X.length<=5000 by exact bU ‹_› (by decide)),gY,Dn])]
   rfl
end
theorem jw(w:Bool):∀(ls:List B),TT w ls=iz 10 ls++if w&& !ls.isEmpty then[10]else[]
 |[]=>by simp[Lw,IK]
 |[l]=>by simp[Lw,Dv,uq,gD]
 |l::m::ls=>by
  have:=jw w (m::ls);rw[Dv,ur,this];simp[gD]
theorem ya(w:Bool){ls:List B}:TT w ls=iz 10 (if w then ls++[[]]else ls):=by
 rw[jw];cases w with
 |false=>simp
 |true=>
  cases ls with
  |nil=>rfl
  |cons l ls=>simp only[aaE,if_true,List.isEmpty_cons,Bool.not_false];rw[lu 10 (by simp)]
theorem DB(m n:Nat):OR m n 1=((n-m:Nat):Int):=by
 unfold OR;rw[if_pos (by decide),Int.ediv_one];by_cases h:m<n
 ·rw[if_pos (Int.ofNat_lt.mpr h),Int.sub_add_cancel,Int.ofNat_sub (Kt h)]
 ·rw[if_neg (λe=>h (Int.ofNat_lt.mp e)),Nat.sub_eq_zero_of_le (abJ h)];rfl
theorem wN{m:Nat}(h:n<=5000)(z:m<=5000):Ud m n 1=true:=by
 unfold Ud;rw[DB];have e:∀k:Nat,k<=5000->(k:Int)<9223372036854775808:=λk h=>Int.lt_of_le_of_lt (Int.ofNat_le.mpr h) (by decide);simp[Builtin.Range.rangeFitsLong];refine⟨⟨⟨e m z,e n h⟩,e (n-m) (bU (aaB _ _) h)⟩,?_⟩;lia
def UT(t:Int×Int×Int):Rs (List AV):=if Ud t.1 t.2.1 t.2.2 then aA (c_ t.1 t.2.1 t.2.2)else none
theorem LA{a b c:Int}(h:Ud a b c=true):UT (a,b,c)=some (.ok (c_ a b c)):=by unfold UT;exact if_pos h
theorem zB(xs:List AV):j7 (some (.ok xs))=(jh xs).elim none UT:=by
 show(match jh xs with|some (a,b,c)=>if Ud a b c then aA (c_ a b c)else none|none=>none)=_;cases jh xs<;>rfl
theorem ph{a b c:Int}(h:jh xs=some (a,b,c))(hs:Ud a b c=true):j7 (some (.ok xs))=some (.ok (c_ a b c)):=by
 rw[zB,h];exact LA hs
theorem wO(n:Nat):c_ 0 n 1=(aac 0 n).map λi:Nat=>AV.int i:=by
 unfold c_;have:(OR 0 n 1).toNat=n:=congrArg Int.toNat (DB 0 n);refine ag this (ag List.range_eq_range' ?_);apply ab4;intro i _;simp
def s4(X:B)(ls:List B)(w:Bool)(hs:List (B×B))(k r a:LV):St:=[.im (.aa X),.own (hs.map aS),.own (ls.map .aa),.im (.bool w),k,r,a]
structure kj(X:B)(ls:List B)(w:Bool)(g:St->Option Ou):Prop where
 em:∀hs i r a,ls[i]? =some []->hs.length<=100->g (s4 X ls w hs (.im (.int (i:Nat))) r a)=some (.ret (.tup [.lst (hs.map aS),.aa (TT w (ls.drop (i+1)))]))
 YX:∀i r a L,ls[i]? =some L->L≠[]->da L=true->g (s4 X ls w [] (.im (.int (i:Nat))) r a)=some (.next (s4 X ls w [] (.im (.int (i:Nat))) r a))
 YY:∀hs k v i r a L,ls[i]? =some L->L≠[]->da L=true->hs.length<=100->v.length+L.length<=4000->g (s4 X ls w (hs++[(k,v)]) (.im (.int (i:Nat))) r a)=some (.next (s4 X ls w (hs++[(k,v++10::L.drop 1)]) (.im (.int (i:Nat))) r a))
 hd:∀hs i r a L,ls[i]? =some L->L≠[]->da L=false->32∈L->hs.length<=100->∃a',g (s4 X ls w hs (.im (.int (i:Nat))) r a)=some (.next (s4 X ls w (hs++[(key L,base L)]) (.im (.int (i:Nat))) r a'))
theorem kj.of{ls:List B}{w:Bool}{g:St->Option Ou}(z:∀hs i r a,ls[i]? =some []->hs.length<=100->Ap g (s4 X ls w hs (.im (.int (i:Nat))) r a)=some (.ret (.tup [.lst (hs.map aS),.aa (TT w (ls.drop (i+1)))])))(h1:∀i r a L,ls[i]? =some L->L≠[]->da L=true->Ap g (s4 X ls w [] (.im (.int (i:Nat))) r a)=some (.next (s4 X ls w [] (.im (.int (i:Nat))) r a)))(h2:∀hs k v i r a L,ls[i]? =some L->L≠[]->da L=true->hs.length<=100->v.length+L.length<=4000->Ap g (s4 X ls w (hs++[(k,v)]) (.im (.int (i:Nat))) r a)=some (.next (s4 X ls w (hs++[(k,v++10::L.drop 1)]) (.im (.int (i:Nat))) r a)))(h3:∀hs i r a L,ls[i]? =some L->L≠[]->da L=false->32∈L->hs.length<=100->∃I,Ap g (s4 X ls w hs (.im (.int (i:Nat))) r a)=some (.next (s4 X ls w (hs++[(key L,base L)]) (.im (.int (i:Nat))) r I))):kj X ls w g:=⟨z,h1,h2,h3⟩
noncomputable def pj:Option (B×B)->Nat
 |none=>0
 |some p=>p.2.length
theorem uC{ls:List B}{L:B}(h:ls[i]? =some L):ls.drop i=L::ls.drop (i+1):=by
 refine au (gw.mp h) λh1 h2=>?_;exact ag (ZH h1) (ag h2 rfl)
def LB(X:B)(ls:List B)(w:Bool)(res:Option B)(hs:List (B×B))(k r a:LV):Option Ou:=match res with
 |some mm=>some (.ret (.tup [.lst (hs.map aS),.aa mm]))
 |none=>some (.next (s4 X ls w hs k r a))
theorem wQ{g:St->Option Ou}{a:AV}{as:List AV}{z:St}{P:Option Ou->Prop}(h1:set a J=some z)(h2:g z=some (.next ak))(h:P (dU set g as ak)):P (dU set g (a::as) J):=by
 exact ag (show dU set g (a::as) J=dU set g as ak by simp only[eJ,h1,h2]) h
theorem LC{g:St->Option Ou}{a v:AV}{as:List AV}{z:St}(h1:set a J=some z)(h2:g z=some (.ret v)):dU set g (a::as) J=some (.ret v):=by simp only[eJ,h1,h2]
def YZ(X:B)(ls:List B)(w:Bool)(done:List (B×B))(q:List (B×B)×Option B)(o:Option Ou):Prop:=∃k' r' a',o=LB X ls w q.2 (done++q.1) k' r' a'
theorem GI{ls:List B}{w:Bool}{g:St->Option Ou}(H:kj X ls w g):∀(m i:Nat)(done:List (B×B))(cur:Option (B×B))(k r a:LV),i+m=ls.length->(cur=none->done=[])->Er w (ls.drop i)->done.length+1+m<=100->pj cur+(TT w (ls.drop i)).length<=3500->YZ X ls w done (pp w cur (ls.drop i)) (dU (λa J=>some (cy 4 a J)) g ((aac i m).map λj:Nat=>AV.int j) (s4 X ls w (done++cur.toList) k r a)):=by
 intro m
 induction m with
 |zero=>
  intro i done cur k r a hm Y U hz z;exact ag (aaN (by lia)) (⟨k,r,a,rfl⟩)
 |succ m IH=>
  intro i done cur k r a hm Y U hz z;obtain⟨L,V⟩:∃L,ls[i]? =some L:=⟨_,AL (by lia)⟩;have hd:=uC V;rw[hd]at U z⊢;simp only[Dw]at U;refine fQ U λo1 o2 o3=>?_;clear U;rw[Dv]at z;simp only[nx]at z;by_cases I:L=[]
  ·clear Y hd o1 o2 o3 z;subst I;exact ag (show pp w cur ([]::ls.drop (i+1))=(cur.toList,some (TT w (ls.drop (i+1))))from if_pos rfl) (⟨k,r,a,LC rfl (H.em (done++cur.toList) i r a V (by cases cur<;>simp<;>lia))⟩)
  refine fQ (o3 I) λq1 q2 q3=>?_;by_cases hs:da L=true
  ·refine ag (show pp w cur (L::ls.drop (i+1))=pp w (cur.map λp=>(p.1,p.2++10::L.drop 1)) (ls.drop (i+1))from(if_neg I).trans (if_pos hs)) ?_;cases cur with
   |none=>
    obtain rfl:=Y rfl;exact wQ rfl (H.YX i r a L V I hs) (IH (i+1) [] none (.im (.int (i:Nat))) r a (by lia) (λZ=>rfl) q3 (by simp;lia) (by simp only[pj]at z⊢;lia))
   |some p=>
    clear Y;obtain⟨pk,pv⟩:=p;simp only[pj]at z;exact wQ rfl (H.YY done pk pv i r a L V I hs (by lia) (by lia)) (IH (i+1) done (some (pk,pv++10::L.drop 1)) _ r a (by lia) (λh=>by exact z9 h) q3 (by lia) (by
     have h2:=q1 hs;simp only[pj,nx,CV,acM];exact Sp h2 z))
  ·have hs:da L=false:=by simpa using hs
   rw[show pp w cur (L::ls.drop (i+1))=(cur.toList++(pp w (some (key L,base L)) (ls.drop (i+1))).1,(pp w (some (key L,base L)) (ls.drop (i+1))).2)from(if_neg I).trans (if_neg (by rw[hs];exact BA))];obtain⟨a',hg⟩:=H.hd (done++cur.toList) i r a L V I hs (q2 hs) (by clear z;cases cur<;>simp<;>lia)
   have YW:(base L).length+1<=L.length:=by
    have:=aaU (q2 hs);unfold base;simp;exact Vw this
   have ih:=IH (i+1) (done++cur.toList) (some (key L,base L)) (.im (.int (i:Nat))) r a' (by lia) (λh=>by exact z9 h) q3 (by clear hg;cases cur<;>simp<;>lia) (by simp only[pj];lia)
   refine zZ ih ?_;clear ih;intro k2 r2 a2 ih;exact⟨k2,r2,a2,wQ (P:=λo=>o=_) rfl hg (ih.trans (by rw[SF]))⟩
theorem yb{l:B}:∀{ls:List B},l∈ls->l.length<=(ls.map ZL).sum
 |m::ls,h=>by
  refine g' (QX.mp h) ?_ ?_;rotate_left;intro h;rotate_right;clear h;rintro rfl
  ·simp
  ·have:=yb h;simp;lia
theorem zC{ls:List B}{w:Bool}{g K:St->Option Ou}{items:List AV}{res:Option B}(H:kj X ls w g)(z:∀g,kj X ls w g->∃k' r' a',dU set g items J=LB X ls w res hs k' r' a')(I:∀k r a,Ap K (s4 X ls w hs k r a)=some (.ret (.tup [.lst (hs.map aS),.none]))):bg (bu (dU set g items J) K)=some (.ok (.tup [.lst (hs.map aS),a9 res])):=by
 refine zZ (z g H) λk r a e=>ag e ?_;clear z e;cases res with
 |some mm=>rfl
 |none=>exact congrArg bg (I k r a)
section
variable (P:kX)
theorem su{ls:List B}{L:B}(h:ls[i]? =some L)(hz:ls.length<=100):fH (.lst (ls.map .aa)) (.int (i:Nat))=some (.ok (.aa L)):=by
 have z:=(gw.mp h).1;refine ag (getL (by simp;lia) (by simpa using z)) (ag (ra) (ag (Xv) (ag h ?_)));rfl
theorem lA(c:UInt8):∀(ls:List B)(i:Nat),(iz c (ls.drop i)).length<=(iz c ls).length
 |[],i=>by simp
 |l::ls,0=>by simp
 |[l],i+1=>by simp[uq,IK]
 |l::m::ls,i+1=>by
  have:=lA c (m::ls) i;rw[ur,List.drop_succ_cons,nx,CV];lia
theorem zD(w:Bool){ls:List B}(hl:ls.length<=50)(hX:(TT w ls).length<=3000)(ho:Er w ls)(iJ:∀l∈ls,10∉l)(hw:w=false->∃us u,ls=us++[u]/\u≠[]):bz 7 1 iy.f [.aa (TT w ls)]=some (.ok (.tup [.lst ((pp w none ls).1.map aS),a9 (pp w none ls).2])):=by
 have I:∀l∈ls,l.length<=3000:=λl hm=>by
  have h1:=nC 10 ls;have h2:=jw w ls;have h3:=congrArg ZL h2;have h4:l.length<=(ls.map ZL).sum:=yb hm;simp at h3;lia
 have DC:=ya w (ls:=ls);have gu:(if w then ls++[[]]else ls)≠[]:=by
  clear hX ho DC;cases w with
  |true=>simp
  |false=>refine e7 (hw rfl) λus u h Z=>?_;rw[h];simp
 have V:=wF (c:=10) gu (λr hr=>by
  clear hw gu;clear hX ho DC;cases w with
  |true=>
   refine g' (aar.mp hr) (λh=>?_) λh=>?_
   ·exact iJ r h
   ·simp at h;clear hr;subst h;simp
  |false=>exact iJ r hr)
 rw[<-DC]at V;generalize hT:TT w ls=X at*;show bg (Ap iy.f (aO 7 [.aa X]))=_;unfold iy;dsimp only;have ME:vT [.aa X,.aa [10]]=some (.ok ((if w then ls++[[]]else ls).map .aa)):=by
  have hz:(if w then ls++[[]]else ls).length<=100:=by clear hT V;clear hw gu;cases w<;>simp<;>lia
  show ij false X [10] (X.length+1)=_;unfold ij;rw[V,if_pos ⟨rfl,ed (by lia),ed (by simp at hz⊢;lia)⟩]
  rfl
 have LD:j7 (some (.ok [.int (ls.length:Nat)]))=some (.ok ((aac 0 ls.length).map λj:Nat=>AV.int j)):=by
  have hs:=wN (m:=0) (n:=ls.length) (by lia) (by lia);rw[ph (a:=0) (b:=(ls.length:Nat)) (c:=1) rfl hs,wO]
 have uD:(ls.map AV.aa).length<=5000:=by rw[ro];exact bU hl (by decide)
 have DD:∀g,kj X ls w g->∃k' r' a',dU (λa J=>some (cy 4 a J)) g ((aac 0 ls.length).map λj:Nat=>AV.int j) (s4 X ls w [] .un .un .un)=LB X ls w (pp w none ls).2 (pp w none ls).1 k' r' a':=λg H=>by
  have:=GI H ls.length 0 [] none .un .un .un (aay _) (λZ=>rfl) ho (by simp;lia) (by rw[aaX,hT];exact bU (Kj (aay _)) (bU hX (by decide)));exact this
 refine e6 [.im (.aa X),.own [],.un,.un,.un,.un,.un] rfl (by kernel_rfl) (e6 [.im (.aa X),.own [],.own ((if w then ls++[[]]else ls).map .aa),.un,.un,.un,.un] rfl (iB _ rfl (zW rfl (aj _ rfl (aj _ rfl rfl)) ME) rfl) (e6 (s4 X ls w [] .un .un .un) rfl ?_ ?_))
 ·clear ME DD;clear hT V;cases w with
  |true=>
   have hz:((ls++[[]]).map AV.aa).length<=5000:=by rw[ro,nx];exact bU (X1 hl 1) (by decide)
   have e1:fH (.lst ((ls++[[]]).map .aa)) (.int (-1))=some (.ok (.aa [])):=by
    rw[pd hz (by simp)];simp
   have e2:dC ((ls++[[]]).map AV.aa) none (some (-1))=ls.map .aa:=by rw[uv,aaP];exact List.dropLast_concat
   rw[show(if true=true then ls++[[]]else ls)=ls++[[]]from rfl];refine qh rfl (gZ (aj _ (aj _ rfl (aj _ (aj _ rfl rfl) e1)) rfl) rfl) (iN [.im (.aa X),.own [],.own (ls.map .aa),.un,.un,.un,.un] rfl (iB (ls.map .aa) rfl (aj _ rfl (aj _ rfl (aj _ (aj _ rfl rfl) ((GA hz rfl rfl).trans (by rw[e2]))))) rfl) rfl)
  |false=>
   refine e7 (hw rfl) λus u hu Y0=>?_;have e1:fH (.lst (ls.map .aa)) (.int (-1))=some (.ok (.aa u)):=by
    rw[pd uD (by simp[hu])];simp[hu]
   exact jH rfl (gZ (aj _ (aj _ rfl (aj _ (aj _ rfl rfl) e1)) rfl) (beq_eq_false_iff_ne.mpr Y0)) rfl
 refine US _ rfl (UR (aj _ (aj _ (aj _ rfl (aj _ rfl rfl)) (Dp uD)) (aj _ rfl rfl)) (by rw[ro];exact LD)) (zC ?_ DD ?_)
 ·refine kj.of (λhs i r a U hz=>?_) (λi r a L U he hs=>?_) (λhs k v i r a L U he V hz hv=>?_) (λhs i r a L U he V DA hz=>?_)
  ·have hg:=su U (bU hl (by decide));have h_:=(gw.mp U).1;have e2:dC (ls.map AV.aa) (some ((i:Int)+1)) none=(ls.drop (i+1)).map .aa:=(gY _ (i+1)).trans List.map_drop.symm;have Wy:(iz 10 (ls.drop (i+1))).length<=3000:=by
    have h1:=lA 10 ls (i+1);have h2:=congrArg ZL (jw w ls);rw[hT]at h2;simp at h2;lia
   have ej:=lx (a:=[10]) (ps:=ls.drop (i+1)) (by rw[fp];exact bU Wy (by decide));rw[fp,<-e2]at ej;refine Qn rfl (qh rfl (gZ (aj _ (aj _ rfl (aj _ rfl hg)) rfl) rfl) (iN (s4 X ls w hs (.im (.int (i:Nat))) (.im (.aa (iz 10 (ls.drop (i+1))))) a) rfl (iB _ rfl (zW rfl (aj _ (uw (aj _ rfl (aj _ (aj _ rfl (aj _ rfl rfl)) (aj _ rfl (GA uD rfl rfl))))) (aj _ rfl rfl)) ej) rfl)
    (Qn rfl (En _ (wJ (aj _ rfl (aj _ (aj (.aa (TT w (ls.drop (i+1)))) ?_ (aj _ rfl rfl)) rfl)) (oC rfl)) rfl))))
   rw[jw];clear ME DD;cases w with
   |false=>exact wL (qg (gZ rfl rfl)) (congrArg (λz=>some (Except.ok (AV.aa z))) (X5 _).symm)
   |true=>
    have hc:i4 (bindR (bindR (fT 4 (yz 1 (s4 X ls true hs (.im (.int (i:Nat))) (.im (.aa (iz 10 (ls.drop (i+1))))) a))) λa=>bindR (aA (.int 1)) λb=>EO a b) λc=>bindR (bindR (bindR (fT 2 (yz 1 (s4 X ls true hs (.im (.int (i:Nat))) (.im (.aa (iz 10 (ls.drop (i+1))))) a))) λa=>bindR (aA []) λas=>aA (a::as)) BX)
      λb=>ints2 (λa b=>aA (.bool (decide (a<b)))) c b)=some (.ok (decide (i+1<ls.length))):=
     gZ (aj _ (aj _ rfl (aj _ rfl rfl)) (aj _ (aj _ (aj _ rfl (aj _ rfl rfl)) (Dp uD)) rfl)) (by rw[ro];exact decide_eq_decide.mpr (Int.ofNat_lt (n:=i+1)))
    by_cases hq:i+1<ls.length
    ·have Ml:(ls.drop (i+1)).isEmpty=false:=by
      rw[List.isEmpty_eq_false_iff];exact λh=>Nat.not_le_of_lt hq (ZU.mp h)
     rw[Ml];exact IS (ly (gZ rfl rfl) (ly (kf _ hc (decide_eq_true hq)) rfl)) (aj _ rfl (aj _ rfl (Gz (bU (X1 Wy 1) (by decide)))))
    ·have Ml:(ls.drop (i+1)).isEmpty=true:=abL.mpr (ZU.mpr (abJ hq));rw[Ml];exact wL (ly (gZ rfl rfl) (qg (kf _ hc (decide_eq_false hq)))) (congrArg (λz=>some (Except.ok (AV.aa z))) (X5 _).symm)
  ·have hg:=su U (bU hl (by decide));have Y:L.length<=5000:=bU (I L (aaz U)) (by decide);have h1:(dC L none (some 1)==[32])=true:=by
    rw[show(1:Int)=((1:Nat):Int)from rfl,l9];simpa[da]using hs
   exact iN _ rfl (jH rfl (gZ (aj _ (aj _ rfl (aj _ rfl hg)) rfl) (beq_eq_false_iff_ne.mpr he)) rfl) (g_ rfl (qh rfl (gZ (aj _ (aj _ (aj _ rfl (aj _ rfl hg)) (aj _ rfl (aj _ rfl (pb Y rfl rfl)))) rfl) h1) (g_ rfl (jH rfl (by kernel_rfl) rfl))))
  ·have hg:=su U (bU hl (by decide));have Y:L.length<=5000:=bU (I L (aaz U)) (by decide);have h1:(dC L none (some 1)==[32])=true:=by
    rw[show(1:Int)=((1:Nat):Int)from rfl,l9];simpa[da]using V
   have h2:dC L (some 1) none=L.drop 1:=gY L 1;have km:((hs++[(k,v)]).map aS).length<=5000:=by rw[ro,nx];exact bU (X1 hz 1) (by decide)
   have mw:fH (.lst ((hs++[(k,v)]).map aS)) (.int (-1))=some (.ok (.tup [.aa k,.aa v])):=by
    rw[pd km (by simp)];simp[aS]
   have Y1:fH (.tup [.aa k,.aa v]) (.int 0)=some (.ok (.aa k)):=rfl;have Y2:fH (.tup [.aa k,.aa v]) (.int 1)=some (.ok (.aa v)):=rfl;have hm:∀q:B×B,(hs++[q]).map aS=hs.map aS++[aS q]:=λq=>aaP;have gu:cI (.lst ((hs++[(k,v)]).map aS))=some true:=by rw[iA km,hm];simp
   have Y3:(v++[10]).length+(L.drop 1).length<=5000:=by rw[nx,acM];exact bU (Xs (aaB _ _) _) (by show v.length+1+L.length<=5000;lia)
   refine iN (s4 X ls w (hs++[(k,v)]) (.im (.int (i:Nat))) r a) rfl (jH rfl (gZ (aj _ (aj _ rfl (aj _ rfl hg)) rfl) (beq_eq_false_iff_ne.mpr he)) rfl) (g_ rfl (qh rfl (gZ (aj _ (aj _ (aj _ rfl (aj _ rfl hg)) (aj _ rfl (aj _ rfl (pb Y rfl rfl)))) rfl) h1)
    (g_ rfl (qh rfl (Eo rfl gu) (g_ rfl (YV (xs:=hs.map aS) (y:=aS (k,v)) (a:=.tup [.aa k,.aa (v++10::L.drop 1)]) (congrArg LV.own (hm _)) ?_ (by rw[<-show(hs++[(k,v++10::L.drop 1)]).map aS=hs.map aS++[.tup [.aa k,.aa (v++10::L.drop 1)]]from hm _];rfl)))))))
   refine wJ (aj _ (aj _ (aj _ rfl (aj _ (aj _ rfl rfl) mw)) (aj _ rfl Y1)) (aj _ (aj (.aa (v++10::L.drop 1)) (aj (.aa (v++[10])) (aj _ (aj _ (aj _ rfl (aj _ (aj _ rfl rfl) mw)) (aj _ rfl Y2)) (aj _ rfl (Gz (by show v.length+1<=5000;lia)))) (aj (.aa (L.drop 1)) (aj _ (aj _ rfl (aj _ rfl hg)) (aj _ rfl (aj _ rfl ((pb Y rfl rfl).trans (by rw[h2]))))) ((Gz Y3).trans (by rw[SF];rfl)))) (aj _ rfl rfl)) rfl)) (oC rfl)
  ·have hg:=su U (bU hl (by decide));have Y:L.length<=5000:=bU (I L (aaz U)) (by decide);have h1:(dC L none (some 1)==[32])=false:=by
    rw[show(1:Int)=((1:Nat):Int)from rfl,l9];simpa[da]using V
   have hf:jT L [32] none=((key L).length:Nat):=by
    have h:=uu (t:=L) (p:=0) (l:=key L) (post:=base L) (c:=32) (by rw[lz DA];rfl) (Dz DA) (Z2 _);rw[aay]at h;exact h
   have hk:dC L none (some ((key L).length:Nat))=key L:=by
    rw[l9,show L.take (key L).length=(key L++32::base L).take (key L).length by rw[lz DA]];simp
   have hb:dC L (some (((key L).length:Nat)+1)) none=base L:=by
    refine(gY L ((key L).length+1)).trans ?_;rw[show L.drop ((key L).length+1)=(key L++32::base L).drop ((key L).length+1) by rw[lz DA]];simp
   have hm:∀q:B×B,(hs++[q]).map aS=hs.map aS++[aS q]:=λq=>aaP;refine⟨.im (.int ((key L).length:Nat)),iN (s4 X ls w hs (.im (.int (i:Nat))) r a) rfl (jH rfl (gZ (aj _ (aj _ rfl (aj _ rfl hg)) rfl) (beq_eq_false_iff_ne.mpr he)) rfl) (g_ rfl (jH rfl (gZ (aj _ (aj _ (aj _ rfl (aj _ rfl hg)) (aj _ rfl (aj _ rfl (pb Y rfl rfl)))) rfl) h1)
    (iN (s4 X ls w hs (.im (.int (i:Nat))) r (.im (.int ((key L).length:Nat)))) rfl (iB (.int ((key L).length:Nat)) rfl (zW (aj _ rfl (aj _ rfl hg)) (aj _ rfl (aj _ rfl rfl)) (by rw[Lp,hf])) rfl) (g_ rfl (Ep (xs:=hs.map aS) (a:=.tup [.aa (key L),.aa (base L)]) rfl ?_ (by rw[ro];exact bU hz (by decide)) (by rw[<-show(hs++[(key L,base L)]).map aS=hs.map aS++[.tup [.aa (key L),.aa (base L)]]from hm _];rfl))))))⟩
   refine wJ (aj (.aa (key L)) (aj _ (aj _ rfl (aj _ rfl hg)) (aj _ rfl (aj _ rfl ((pb Y rfl rfl).trans (by rw[hk]))))) (aj _ (aj (.aa (base L)) (aj _ (aj _ rfl (aj _ rfl hg)) (aj _ (aj _ rfl (aj _ rfl rfl)) (aj _ rfl ((pb Y rfl rfl).trans (by rw[hb]))))) (aj _ rfl rfl)) rfl)) (oC rfl)
 ·intro k r a;exact Qn rfl (En _ (wJ (aj _ rfl (aj _ (aj _ rfl (aj _ rfl rfl)) rfl)) (oC rfl)) rfl)
end
noncomputable abbrev aw:B:=[116,114,101,101]
noncomputable abbrev bw:B:=[112,97,114,101,110,116]
noncomputable abbrev cu:B:=[97,117,116,104,111,114]
noncomputable abbrev bY:B:=[99,111,109,109,105,116,116,101,114]
noncomputable abbrev bT:B:=[101,110,99,111,100,105,110,103]
noncomputable abbrev bK:B:=[103,112,103,115,105,103]
noncomputable def gb:Rs AV->Option Bool|some (.ok (.bool b))=>some b|_=>none
noncomputable def oI:Option Int->AV|none=>.none|some i=>.int i
noncomputable def oB:Option B->AV|none=>.none|some i=>.aa i
noncomputable def LF:AV->Option (Option Int)| .none=>some none| .int i=>some (some i)|_=>none
theorem wR{a:AV}{x:Option Int}(h:LF a=some x):a=oI x:=by
 cases a<;>simp only[LF,e4,reduceCtorEq]at h<;>subst h<;>rfl
def UU:Rs AV->Option (Option (B×Option Int×Option Int))
 |some (.ok .none)=>some none
 |some (.ok (.tup [.aa a,t,z]))=>(LF t).bind λt=>(LF z).map λz=>some (a,t,z)
 |_=>none
section
variable (P:kX)
def nm(v:B):Bool:=(gb (bz 1 1 lr.f [.aa v])).getD false
def nd(v:B):Bool:=(gb (bz 2 1 dz.f [.aa v])).getD false
def sg(v:B):Option (B×Option Int×Option Int):=(UU (bz 6 1 fo.f [.aa v])).getD none
noncomputable abbrev pn:Str:="invalid tree sha"
noncomputable abbrev wU:Str:="invalid parent sha"
noncomputable abbrev wV:Str:="invalid author"
noncomputable abbrev wW:Str:="invalid committer"
noncomputable def eD(b:Bool):Rs AV:=if b then some (.ok .none)else some (.error (.ref 44))
structure GJ(v:B):Prop where
 Wz:bz 1 1 lr.f [.aa v]=some (.ok (.bool (nm v)))
 tree:bz 2 2 dy.f [.aa v,.str pn]=eD (nm v)
 par:bz 2 2 dy.f [.aa v,.str wU]=eD (nm v)
def uE(v:B):Prop:=match sg v with
 |none=>bz 6 1 fo.f [.aa v]=some (.ok .none)/\bz 10 1 lq.f [.aa v]=some (.error (.ref 44))
 |some (a,t,z)=>bz 6 1 fo.f [.aa v]=some (.ok (.tup [.aa a,oI t,oI z]))/\(∃n,bz 10 1 lq.f [.aa v]=some (.ok (.tup [.aa a,oI t,.tup [oI z,.bool n]])))/\
  (t.isSome=true->bz 2 1 dz.f [.aa a]=some (.ok (.bool (nd a)))/\bz 4 2 dA.f [.aa a,.str wV]=eD (nd a)/\bz 4 2 dA.f [.aa a,.str wW]=eD (nd a))
structure Vals(hs:List (B×B)):Prop where
 Qu:hs.length<=19
 len:(hs.map λp=>p.2.length+1).sum<=4000
 nm:∀p∈hs,p.1=aw\/p.1=bw->GJ p.2
 pe:∀p∈hs,p.1=cu\/p.1=bY->uE p.2
noncomputable def bE(k:B)(hs:List (B×B)):List B:=(hs.filter λp=>p.1==k).map (·.2)
def fq:List B->Option (Option B×Option Int×Option Int)
 |[]=>some (none,none,none)
 |v::_=>(sg v).map λx=>(some x.1,x.2.1,x.2.2)
def gE:List (B×B)->Option (List B)
 |[]=>some []
 |(k,v)::hs=>if k=bw then(if nm v then(gE hs).map (v::·)else none)else some []
theorem LG:gE []=some []:=rfl
theorem kl:gE ((c,u)::l)=if c=bw then(if nm u then(gE l).map (u::·)else none)else some []:=rfl
def dk(vs:List B):AV:=if vs.isEmpty then .none else .aa (iz 10 vs)
def MF(hs:List (B×B))(msg:Option B):Option (List AV):=match hs with
 |[]=>none
 |(k,v)::r=>if k=aw/\nm v=true then(gE r).bind λps=>(fq (bE cu hs)).bind λA=>(fq (bE bY hs)).map λC=>
   [.aa v,.lst (ps.map .aa),oB A.1,oI A.2.1,oI A.2.2,oB C.1,oI C.2.1,oI C.2.2,oB (bE bT hs).head?,dk (bE bK hs),a9 msg]else none
end
theorem DE(v:B)(z:List B):fq (v::z)=(sg v).map λx=>(some x.1,x.2.1,x.2.2):=rfl
theorem uF(k v:B)(r:List (B×B))(msg:Option B):MF ((k,v)::r) msg=if k=aw/\nm v=true then(gE r).bind λps=>(fq (bE cu ((k,v)::r))).bind λA=>(fq (bE bY ((k,v)::r))).map λC=>[.aa v,.lst (ps.map .aa),oB A.1,oI A.2.1,oI A.2.2,oB C.1,oI C.2.1,oI C.2.2,oB (bE bT ((k,v)::r)).head?,dk (bE bK ((k,v)::r)),a9 msg]else none:=rfl
theorem uG{p:St->Rs Bool}{g:St->Rs AV}{K:B}{rest:St}(U:∀k v,p (.im (.tup [.aa k,.aa v])::rest)=some (.ok (k==K)))(hg:∀k v,g (.im (.tup [.aa k,.aa v])::rest)=some (.ok (.aa v))):∀(hs:List (B×B))(x:LV),cQ (λa J=>some (cy 0 a J)) p g (hs.map aS) (x::rest)=some (.ok ((bE K hs).map .aa)):=by
 intro hs
 induction hs with
 |nil=>
  intro x;exact rfl
 |cons V hs Y=>
  intro x;obtain⟨k,v⟩:=V;have Z:=Y (.im (.tup [.aa k,.aa v]));rw[G0,xv];show(match some (.im (.tup [.aa k,.aa v])::rest)with|none=>none|some z=>bindR (p z) λb=>if b then bindR (g z) λy=>bindR (cQ _ p g (hs.map aS) z) λys=>aA (y::ys)else cQ _ p g (hs.map aS) z)=_;simp only[U,hg,e9,Z,x9];by_cases I:(k==K)=true
  ·rw[if_pos I];simp[bE,I]
  ·rw[if_neg I];simp[bE,I]
section
variable (P:kX)
noncomputable def W9(X:B)(H m:AV)(k:Nat)(ps:List B):St:=[.im (.aa X),.im H,.im m,.own (ps.map .aa),.im (.int k),.un,.un,.un,.un]
structure pq(X:B)(hs:List (B×B))(m:AV)(t:St->Rs Bool)(g:St->Option Ou):Prop where
 end_:∀k ps,hs[k]? =none->t (W9 X (.lst (hs.map aS)) m k ps)=some (.ok false)
 test:∀k ps p,hs[k]? =some p->t (W9 X (.lst (hs.map aS)) m k ps)=some (.ok (p.1==bw))
 body:∀k ps p,hs[k]? =some p->p.1=bw->ps.length<=100->g (W9 X (.lst (hs.map aS)) m k ps)=if nm p.2 then some (.next (W9 X (.lst (hs.map aS)) m (k+1) (ps++[p.2])))else some (.ret .none)
theorem pq.of{m:AV}{t:St->Rs Bool}{g:St->Option Ou}(z:∀k ps,hs[k]? =none->Ap t (W9 X (.lst (hs.map aS)) m k ps)=some (.ok false))(h1:∀k ps p,hs[k]? =some p->Ap t (W9 X (.lst (hs.map aS)) m k ps)=some (.ok (p.1==bw)))(h2:∀k ps p,hs[k]? =some p->p.1=bw->ps.length<=100->Ap g (W9 X (.lst (hs.map aS)) m k ps)=if nm p.2 then some (.next (W9 X (.lst (hs.map aS)) m (k+1) (ps++[p.2])))else some (.ret .none)):pq X hs m t g:=⟨z,h1,h2⟩
def qW(X:B)(H m:AV)(k:Nat)(ps:List B):Option (List B)->Option Ou
 |none=>some (.ret .none)
 |some qs=>some (.next (W9 X H m (k+qs.length) (ps++qs)))
theorem GK{m:AV}{t:St->Rs Bool}{g:St->Option Ou}(H:pq X hs m t g):∀(r:List (B×B))(k n:Nat)(ps:List B),hs.drop k=r->r.length+1<=n->ps.length+r.length<=100->f7 t g n (W9 X (.lst (hs.map aS)) m k ps)=qW X (.lst (hs.map aS)) m k ps (gE r):=by
 intro r
 induction r with
 |nil=>
  intro k n;cases n with
  |zero=>
   intro _ _ z _;exact absurd z (aaZ _)
  |succ n=>
   intro ps I z hz;have U:hs[k]? =none:=by rw[R3];simpa[ZU]using I
   rw[ja,H.end_ k ps U];simp[qW,LG]
 |cons Y r IH=>
  obtain⟨a,v⟩:=Y;intro k n;cases n with
  |zero=>
   intro _ _ z _;exact absurd z (aaZ _)
  |succ n=>
   intro ps I z hz;have U:hs[k]? =some (a,v):=by
    have:=congrArg List.head? I;rw[ac3]at this;simpa using this
   have Z:hs.drop (k+1)=r:=by rw[<-adh,I];rfl
   rw[ja,H.test k ps _ U];by_cases V:a=bw
   ·clear I;subst V;simp only[jt,beq_self_eq_true,if_true];rw[H.body k ps _ U rfl (by simp at hz;exact bU (xm _ _) ‹_›),kl,if_pos rfl];cases Hj:nm v with
    |false=>simp[qW]
    |true=>
     simp only[if_true];rw[IH (k+1) n (ps++[v]) Z (by simp at z;assumption) (by simp at hz⊢;lia)];cases gE r with
     |none=>rfl
     |some qs=>simp only[qW,aaq,SF,ac5,CV];congr 3;lia
   ·have:(a==bw)=false:=by simpa using V
    simp only[jt,this,F3,if_false];rw[kl,if_neg V];simp[qW]
end
end
section
set_option backward.eqns.nonrecursive true
set_option backward.match.sparseCases true
noncomputable def oL:Option (List AV)->AV
 |none=>.none
 |some l=>.lst l
section
variable (P:kX)
noncomputable def Fs(X:B)(H m L k:AV)(T:List AV)(a b c:LV):St:=[.im (.aa X),.im H,.im m,.im L,.im k,.own T,a,b,c]
def md(A:Option B×Option Int×Option Int):List AV:=[oB A.1,oI A.2.1,oI A.2.2]
def GL(X:B)(H m L k:AV)(T:List AV)(a b c:LV):Option (Option B×Option Int×Option Int)->Option Ou
 |none=>some (.ret .none)
 |some A=>some (.next (Fs X H m L k (T++md A) a b c))
theorem UW{H m L k:AV}{g K:St->Option Ou}{R:Option (List AV)}{T:List AV}{a b c:LV}(hb:∀K T b c,(K=cu\/K=bY)->T.length<=20->∃b' c',Ap g (Fs X H m L k T (.im (.aa K)) b c)=GL X H m L k T (.im (.aa K)) b' c' (fq (bE K hs)))(hT:T.length<=5)(Z:∀A C b c,fq (bE cu hs)=some A->fq (bE bY hs)=some C->∃l,R=some l/\bg (Ap K (Fs X H m L k (T++md A++md C) (.im (.aa bY)) b c))=some (.ok (.lst l)))(U:fq (bE cu hs)=none\/fq (bE bY hs)=none->R=none):bg (bu (dU (λa J=>some (cy 6 a J)) g [.aa cu,.aa bY] (Fs X H m L k T a b c)) K)=some (.ok (oL R)):=by
 refine jY (hb cu T b c (.inl rfl) (by exact bU ‹_› (by decide))) λV c1 h1=>?_;have h1:g _=_:=h1;have Y:cy 6 (.aa cu) (Fs X H m L k T a b c)=Fs X H m L k T (.im (.aa cu)) b c:=rfl;cases z:fq (bE cu hs)with
 |none=>
  rw[z]at h1;simp only[eJ,Y,h1,GL];refine ag (U (.inl z)) ?_;rfl
 |some A=>
  rw[z]at h1;refine jY (hb bY (T++md A) V c1 (.inr rfl) (by simp[md];exact bU ‹_› (by decide))) λb2 c2 h2=>?_;have h2:g _=_:=h2;have e2:cy 6 (.aa bY) (Fs X H m L k (T++md A) (.im (.aa cu)) V c1)=Fs X H m L k (T++md A) (.im (.aa bY)) V c1:=rfl;cases I:fq (bE bY hs)with
  |none=>
   rw[I]at h2;simp only[eJ,Y,h1,GL,e2,h2];refine ag (U (.inr I)) ?_;rfl
  |some C=>
   rw[I]at h2;refine ax (Z A C b2 c2 z I) ?_;clear Z U;rintro l rfl h3;simp only[lV,eJ,Y,h1,GL,e2,h2,zw];exact h3
theorem LH{r:List (B×B)}{m:AV}{t:St->Rs Bool}{g K:St->Option Ou}{R:Option (List AV)}(H:pq X hs m t g)(I:hs.drop 1=r)(U:r.length+1<=n)(hz:r.length<=100)(V:gE r=none->R=none)(Y:∀qs,gE r=some qs->bg (Ap K (W9 X (.lst (hs.map aS)) m (1+qs.length) qs))=some (.ok (oL R))):bg (bu (f7 t g n (W9 X (.lst (hs.map aS)) m 1 [])) K)=some (.ok (oL R)):=by
 refine ag (GK H r 1 n [] I U (by simpa using hz)) ?_;cases z:gE r with
 |none=>refine ag (V z) ?_;rfl
 |some qs=>
  have:=Y qs z
  simpa[qW]using this
theorem GN(k:B)(hs:List (B×B)):(bE k hs).length<=hs.length:=by unfold bE;rw[ro];exact ac6 _ _
theorem yc(k:B):∀(hs:List (B×B)),((bE k hs).map ZL).sum+(bE k hs).length<=(hs.map λp=>p.2.length+1).sum:=by
 intro hs
 induction hs with
 |nil=>
  simp[bE]
 |cons I hs U=>
  obtain⟨a,v⟩:=I;have z:=U;unfold bE at z⊢;refine ag aa7 ?_;split<;>simp at z⊢<;>first|exact Sw z|exact bU z (ab0 _ _)
theorem sv{k v:B}(h:v∈bE k hs):(k,v)∈hs:=by
 refine ax (ab6.mp h) ?_;clear h;rintro p h1 rfl;refine aX (ac2.mp h1) λh2 h3=>?_;have:p.1=k:=by simpa using h3
 clear h1 h3;subst this;exact h2
theorem uH{l:List (B×B)}{K:B}{p:St->Rs Bool}{g:St->Rs AV}{rest:St}(z:(l.map aS).length<=5000)(I:∀k v,p (.im (.tup [.aa k,.aa v])::rest)=some (.ok (k==K)))(hg:∀k v,g (.im (.tup [.aa k,.aa v])::rest)=some (.ok (.aa v))):(if cq (l.map aS).length=true then cQ (λa J=>some (cy 0 a J)) p g (l.map aS) (.un::rest)else none)=some (.ok ((bE K l).map .aa)):=(if_pos (ed z)).trans (uG I hg _ _)
theorem t0(k v:B):fH (.tup [.aa k,.aa v]) (.int 0)=some (.ok (.aa k)):=rfl
theorem t1(k v:B):fH (.tup [.aa k,.aa v]) (.int 1)=some (.ok (.aa v)):=rfl
theorem UX{u:B}{z:List B}(h:((u::z).map AV.aa).length<=5000):fH (.lst ((u::z).map .aa)) (.int 0)=some (.ok (.aa u)):=getL (k:=0) h (ZW _)
theorem DF{hs:List (B×B)}{msg:Option B}(px:bz 7 1 iy.f [.aa X]=some (.ok (.tup [.lst (hs.map aS),a9 msg])))(V:Vals hs):bz 9 1 wD.f [.aa X]=some (.ok (oL (MF hs msg))):=by
 have U:(hs.map aS).length<=5000:=by rw[ro];exact bU V.Qu (by decide)
 refine e6 [.im (.aa X),.im (.lst (hs.map aS)),.im (a9 msg),.un,.un,.un,.un,.un,.un] rfl (iB [.lst (hs.map aS),a9 msg] rfl (aj _ (aj _ (aj _ rfl (aj _ rfl rfl)) px) rfl) rfl) ?_;cases hs with
 |nil=>exact Lv rfl (qh rfl (by kernel_rfl) rfl) rfl
 |cons p r=>
  obtain⟨k,v⟩:=p;have g0:fH (.lst (((k,v)::r).map aS)) (.int 0)=some (.ok (.tup [.aa k,.aa v])):=getL (k:=0) U (ZW _);have hT:=iA U;by_cases hk:k=aw
  case neg=>exact Lv rfl (qh rfl (ux (Lu (Eo rfl hT) rfl) (RO (gZ (aj _ (aj _ (aj _ rfl (aj _ rfl g0)) (aj _ rfl (t0 k v))) rfl) (by rw[beq_eq_false_iff_ne.mpr hk];rfl)))) rfl) (by rw[uF,if_neg (λh=>hk h.1)];rfl)
  subst hk;have fK:=(V.nm (aw,v) (T4 ..) (.inl rfl)).Wz;cases hn:nm v with
  |false=>
   rw[hn]at fK;exact Lv rfl (qh rfl (ux (Lu (Eo rfl hT) rfl) (ux (gZ (aj _ (aj _ (aj _ rfl (aj _ rfl g0)) (aj _ rfl (t0 _ v))) rfl) rfl) (RO (Lu (gZ (aj _ (aj _ (aj _ (aj _ rfl (aj _ rfl g0)) (aj _ rfl (t1 _ v))) (aj _ rfl rfl)) fK) rfl) rfl)))) rfl) (by rw[uF,if_neg (λh=>by rw[hn]at h;cases h.2)];rfl)
  |true=>
   rw[hn]at fK;refine e6 [.im (.aa X),.im (.lst (((aw,v)::r).map aS)),.im (a9 msg),.un,.un,.un,.un,.un,.un] rfl
    (jH rfl (ux (Lu (Eo rfl hT) rfl) (ux (gZ (aj _ (aj _ (aj _ rfl (aj _ rfl g0)) (aj _ rfl (t0 _ v))) rfl) rfl) (ux (Lu (gZ (aj _ (aj _ (aj _ (aj _ rfl (aj _ rfl g0)) (aj _ rfl (t1 _ v))) (aj _ rfl rfl)) fK) rfl) rfl) rfl))) rfl)
    (e6 [.im (.aa X),.im (.lst (((aw,v)::r).map aS)),.im (a9 msg),.own [],.un,.un,.un,.un,.un] rfl (by kernel_rfl) (e6 (W9 X (.lst (((aw,v)::r).map aS)) (a9 msg) 1 []) rfl (by kernel_rfl) ?_))
   have Z:r.length+1<=19:=V.Qu;have gk:∀(j:Nat)(p:B×B),((aw,v)::r)[j]? =some p->fH (.lst (((aw,v)::r).map aS)) (.int (j:Nat))=some (.ok (.tup [.aa p.1,.aa p.2])):=λj p h=>by
    have h_:=(gw.mp h).1;rw[getL U (by rw[ro];exact h_),ra,Xv,h];rfl
   have Qv:MF ((aw,v)::r) msg=(gE r).bind λps=>(fq (bE cu ((aw,v)::r))).bind λA=>(fq (bE bY ((aw,v)::r))).map λC=>
     [.aa v,.lst (ps.map .aa),oB A.1,oI A.2.1,oI A.2.2,oB C.1,oI C.2.1,oI C.2.2,oB (bE bT ((aw,v)::r)).head?,dk (bE bK ((aw,v)::r)),a9 msg]:=by rw[uF,if_pos ⟨rfl,hn⟩]
   have WA:((aw,v)::r).drop 1=r:=rfl;have UY:((aw,v)::r).length=r.length+1:=rfl;refine ag Qv ?_;clear Qv hT fK px;generalize hl:(aw,v)::r=l at U g0 gk V WA UY⊢;have km:∀K,((bE K l).map AV.aa).length<=5000:=λK=>by rw[ro];exact bU (GN K l) (bU V.Qu (by decide))
   refine LH (r:=r) ?_ WA (Qt Z) (bU (Kt Z) (by decide)) (λh=>?_) (λqs hq=>?_)
   ·have hc:∀(b:AV)(j:Nat)(ps:List B),b=AV.int (j:Nat)->bindR (fT 4 (W9 X (.lst (l.map aS)) (a9 msg) j ps)) (λa=>bindR (bindR (bindR (fT 1 (W9 X (.lst (l.map aS)) (a9 msg) j ps)) λa=>bindR (aA []) λas=>aA (a::as)) BX) λb=>ints2 (λa b=>aA (.bool (decide (a<b)))) a b)=some (.ok (.bool (decide (j<l.length)))):=λb j ps e=>
     aj _ rfl (aj _ (aj _ (aj _ rfl (aj _ rfl rfl)) (Dp U)) (by rw[ro];exact congrArg (λz=>some (Except.ok (AV.bool z))) (decide_eq_decide.mpr Int.ofNat_lt)))
    refine pq.of (λj ps h=>?_) (λj ps p h=>?_) (λj ps p h hp hz=>?_)
    ·exact qg (gZ (hc _ j ps rfl) (decide_eq_false (acI (R3.mp h))))
    ·exact ly (gZ (hc _ j ps rfl) (decide_eq_true (gw.mp h).1)) (zy (gZ (aj _ (aj _ (aj _ rfl (aj _ rfl (gk j p h))) (aj _ rfl (t0 _ _))) rfl) rfl))
    ·have hl:=(V.nm p (aaz h) (.inr hp)).Wz;cases WB:nm p.2 with
     |false=>
      rw[WB]at hl;exact Qn rfl (qh rfl (Lu (gZ (aj _ (aj _ (aj _ (aj _ rfl (aj _ rfl (gk j p h))) (aj _ rfl (t1 _ _))) (aj _ rfl rfl)) hl) rfl) rfl) rfl)
     |true=>
      rw[WB]at hl;refine iN (W9 X (.lst (l.map aS)) (a9 msg) j ps) rfl (jH rfl (Lu (gZ (aj _ (aj _ (aj _ (aj _ rfl (aj _ rfl (gk j p h))) (aj _ rfl (t1 _ _))) (aj _ rfl rfl)) hl) rfl) rfl) rfl) (iN (W9 X (.lst (l.map aS)) (a9 msg) j (ps++[p.2])) rfl (Ep (xs:=ps.map .aa) (a:=.aa p.2) rfl (aj _ (aj _ rfl (aj _ rfl (gk j p h))) (aj _ rfl (t1 _ _))) (by rw[ro];exact bU hz (by decide)) (by rw[uy];rfl)) (g_ rfl (iB _ rfl (aj _ rfl (aj _ rfl rfl)) rfl)))
   ·refine ag h ?_;rfl
   ·refine e6 (Fs X (.lst (l.map aS)) (a9 msg) (.lst (qs.map .aa)) (.int ((1+qs.length:Nat):Int)) [.aa v,.lst (qs.map .aa)] .un .un .un) rfl (En _ (wK (aj _ (aj _ (aj _ rfl (aj _ rfl g0)) (aj _ rfl (t1 _ _))) (aj _ (aj _ rfl (aj _ rfl rfl)) rfl)) (oC rfl)) rfl) (US [.aa cu,.aa bY] rfl (by kernel_rfl) (UW (hs:=l) (λK T b c hK hT=>?_) (oC rfl) (λA C b c hA hC=>?_) (λh=>?_)))
    ·have WC:T.length+3<=5000:=bU (X1 hT 3) (by decide);cases Y:bE K l with
     |nil=>
      exact⟨.own [],.im (.tup [.none,.none,.none]),iN (Fs X (.lst (l.map aS)) (a9 msg) (.lst (qs.map .aa)) (.int ((1+qs.length:Nat):Int)) T (.im (.aa K)) (.own []) c) rfl
       (iB [] rfl (aj _ (aj _ rfl rfl) ((uH (rest:=[.im (.aa K)]) U (λk v=>gZ (aj _ (aj _ rfl (aj _ rfl (t0 k v))) (aj _ rfl rfl)) rfl) λk v=>aj _ rfl (aj _ rfl (t1 k v))).trans (by refine ag Y ?_;rfl))) rfl)
       (iN (Fs X (.lst (l.map aS)) (a9 msg) (.lst (qs.map .aa)) (.int ((1+qs.length:Nat):Int)) T (.im (.aa K)) (.own []) (.im (.tup [.none,.none,.none]))) rfl (iB (.tup [.none,.none,.none]) rfl (by kernel_rfl) rfl)
       (iN _ rfl (jH rfl (gZ (aj _ rfl (aj _ rfl rfl)) rfl) rfl)
       (g_ rfl (iB _ rfl (aj _ rfl (aj _ (uw (wK (aj _ (aj _ rfl (aj _ rfl rfl)) (aj _ (aj _ (aj _ rfl (aj _ rfl rfl)) (aj _ (aj _ (aj _ rfl (aj _ rfl rfl)) (aj _ rfl rfl)) rfl)) rfl)) (oC rfl))) ((nD _ _).trans (Gy WC)))) rfl))))⟩
     |cons u I=>
      have Qw:=V.pe (K,u) (sv (by refine ag Y ?_;exact T4 ..)) hK;have mw:=km K;rw[Y]at mw;unfold uE at Qw;cases RQ:sg u with
      |none=>
       rw[RQ]at Qw;rw[show fq (u::I)=none by rw[DE,RQ];rfl];exact⟨.un,.un,iN (Fs X (.lst (l.map aS)) (a9 msg) (.lst (qs.map .aa)) (.int ((1+qs.length:Nat):Int)) T (.im (.aa K)) (.own ((u::I).map .aa)) c) rfl
        (iB ((u::I).map .aa) rfl (aj _ (aj _ rfl rfl) ((uH (rest:=[.im (.aa K)]) U (λk v=>gZ (aj _ (aj _ rfl (aj _ rfl (t0 k v))) (aj _ rfl rfl)) rfl) λk v=>aj _ rfl (aj _ rfl (t1 k v))).trans (by exact ag Y rfl))) rfl)
        (iN (Fs X (.lst (l.map aS)) (a9 msg) (.lst (qs.map .aa)) (.int ((1+qs.length:Nat):Int)) T (.im (.aa K)) (.own ((u::I).map .aa)) (.im .none)) rfl (iB _ rfl (IS (Eo rfl (iA mw)) (aj _ (aj _ (aj _ rfl (aj _ rfl (UX mw))) (aj _ rfl rfl)) Qw.1)) rfl)
        (Qn rfl (qh rfl (gZ (aj _ rfl (aj _ rfl rfl)) rfl) rfl)))⟩
      |some x=>
       obtain⟨a,t,z⟩:=x;rw[RQ]at Qw;rw[show fq (u::I)=some (some a,t,z) by rw[DE,RQ];rfl];exact⟨.own ((u::I).map .aa),.im (.tup [.aa a,oI t,oI z]),iN (Fs X (.lst (l.map aS)) (a9 msg) (.lst (qs.map .aa)) (.int ((1+qs.length:Nat):Int)) T (.im (.aa K)) (.own ((u::I).map .aa)) c) rfl
        (iB ((u::I).map .aa) rfl (aj _ (aj _ rfl rfl) ((uH (rest:=[.im (.aa K)]) U (λk v=>gZ (aj _ (aj _ rfl (aj _ rfl (t0 k v))) (aj _ rfl rfl)) rfl) λk v=>aj _ rfl (aj _ rfl (t1 k v))).trans (by exact ag Y rfl))) rfl)
        (iN (Fs X (.lst (l.map aS)) (a9 msg) (.lst (qs.map .aa)) (.int ((1+qs.length:Nat):Int)) T (.im (.aa K)) (.own ((u::I).map .aa)) (.im (.tup [.aa a,oI t,oI z]))) rfl (iB _ rfl (IS (Eo rfl (iA mw)) (aj _ (aj _ (aj _ rfl (aj _ rfl (UX mw))) (aj _ rfl rfl)) Qw.1)) rfl)
        (iN _ rfl (jH rfl (gZ (aj _ rfl (aj _ rfl rfl)) rfl) rfl)
        (g_ rfl (iB _ rfl (aj _ rfl (aj _ (uw (wK (aj _ (aj _ rfl (aj _ rfl rfl)) (aj _ (aj _ (aj _ rfl (aj _ rfl rfl)) (aj _ (aj _ (aj _ rfl (aj _ rfl rfl)) (aj _ rfl rfl)) rfl)) rfl)) (oC rfl))) ((nD _ _).trans (Gy WC)))) rfl))))⟩
    ·refine⟨[.aa v,.lst (qs.map .aa)]++md A++md C++[oB (bE bT l).head?,dk (bE bK l),a9 msg],by rw[hq,Mr,hA,Mr,hC];rfl,?_⟩;have RR:([AV.aa v,.lst (qs.map .aa)]++md A++md C).length=8:=rfl;generalize [AV.aa v,.lst (qs.map .aa)]++md A++md C=T2 at RR⊢;have cE:∀n:Nat,n<=10->n<=5000:=λn h=>bU h (by decide);refine e6 (Fs X (.lst (l.map aS)) (a9 msg) (.lst (qs.map .aa)) (.int ((1+qs.length:Nat):Int)) T2 (.im (.aa bY)) (.own ((bE bT l).map .aa)) c) rfl
      (iB _ rfl (aj _ (aj _ rfl rfl) (uH (K:=bT) (rest:=[]) U (λk v=>gZ (aj _ (aj _ rfl (aj _ rfl (t0 k v))) (aj _ rfl rfl)) rfl) λk v=>aj _ rfl (aj _ rfl (t1 k v)))) rfl)
      (e6 (Fs X (.lst (l.map aS)) (a9 msg) (.lst (qs.map .aa)) (.int ((1+qs.length:Nat):Int)) (T2++[oB (bE bT l).head?]) (.im (.aa bY)) (.own ((bE bT l).map .aa)) c) rfl (Ep (xs:=T2) (a:=oB (bE bT l).head?) rfl ?_ (cE _ (by refine ag RR ?_;decide)) rfl)
      (e6 (Fs X (.lst (l.map aS)) (a9 msg) (.lst (qs.map .aa)) (.int ((1+qs.length:Nat):Int)) (T2++[oB (bE bT l).head?]) (.im (.aa bY)) (.own ((bE bK l).map .aa)) c) rfl
      (iB _ rfl (aj _ (aj _ rfl rfl) (uH (K:=bK) (rest:=[]) U (λk v=>gZ (aj _ (aj _ rfl (aj _ rfl (t0 k v))) (aj _ rfl rfl)) rfl) λk v=>aj _ rfl (aj _ rfl (t1 k v)))) rfl)
      (e6 (Fs X (.lst (l.map aS)) (a9 msg) (.lst (qs.map .aa)) (.int ((1+qs.length:Nat):Int)) (T2++[oB (bE bT l).head?]++[dk (bE bK l)]) (.im (.aa bY)) (.own ((bE bK l).map .aa)) c) rfl (Ep (xs:=T2++[oB (bE bT l).head?]) (a:=dk (bE bK l)) rfl ?_ (cE _ (by refine ag nx (ag RR ?_);exact oC rfl)) rfl)
      (e6 (Fs X (.lst (l.map aS)) (a9 msg) (.lst (qs.map .aa)) (.int ((1+qs.length:Nat):Int)) (T2++[oB (bE bT l).head?]++[dk (bE bK l)]++[a9 msg]) (.im (.aa bY)) (.own ((bE bK l).map .aa)) c) rfl (Ep (xs:=T2++[oB (bE bT l).head?]++[dk (bE bK l)]) (a:=a9 msg) rfl rfl (cE _ (by refine ag nx (ag nx (ag RR ?_));exact oC rfl)) rfl)
      (Lv rfl (En _ rfl rfl) (by rw[SF,SF];rfl))))))
     ·have h:=km bT;cases Y:bE bT l with
      |nil=>exact wL (by kernel_rfl) rfl
      |cons u I=>rw[Y]at h;exact IS (Eo rfl (iA h)) (aj _ rfl (aj _ rfl (UX h)))
     ·have h:=km bK;have Qx:=yc bK l;have hL:=V.len;cases Y:bE bK l with
      |nil=>exact wL (by kernel_rfl) rfl
      |cons u I=>
       rw[Y]at h Qx;have ej:=lx (a:=[10]) (ps:=u::I) (by
        rw[l_];simp only[CV,Z5]at Qx⊢;lia)
       rw[fp]at ej;exact IS (Eo rfl (iA h)) (zW rfl (aj _ rfl (aj _ rfl rfl)) ej)
    ·refine ag hq ?_;cases hA:fq (bE cu l)with
     |none=>rfl
     |some A=>
      refine ag (h.resolve_left (by rw[hA];exact λe=>nomatch e)) ?_;rfl
end
end
section
set_option backward.match.sparseCases true
set_option genInjectivity true in
structure kn where
 ps:List B
 ex:List AV
 tree:Option B
 cU:Option B
 cV:Option B
 enc:Option B
 a5:List B
 gK:Bool
section
variable (P:kX)
def dJ(s:kn)(k v:B):Option kn:=match s.tree with
 |none=>if k=aw/\nm v=true then some {s with tree:=some v,gK:=true}else none
 |some _=>if k=aw then some {s with gK:=false}else if k=bw then(if s.gK then(if nm v then some {s with ps:=s.ps++[v]}else none)else some s)
  else if k=cu then some {s with gK:=false,cU:=s.cU.or (some v)}else if k=bY then some {s with gK:=false,cV:=s.cV.or (some v)}
  else if k=bT then some {s with gK:=false,enc:=s.enc.or (some v)}else if k=bK then some {s with gK:=false,a5:=s.a5++[v]}
  else some {s with gK:=false,ex:=s.ex++[.tup [.aa k,.aa v]]}
def b7(s:kn):List (B×B)->Option kn
 |[]=>some s
 |p::hs=>(dJ s p.1 p.2).bind λs=>b7 s hs
theorem GO:b7 z []=some z:=rfl
theorem GP:b7 z (p::l)=(dJ z p.1 p.2).bind λz=>b7 z l:=rfl
theorem lB(K k u:B)(r:List (B×B)):bE K ((k,u)::r)=if k=K then u::bE K r else bE K r:=by
 unfold bE;refine ag aa7 ?_;by_cases h:k=K
 ·refine ag (if_pos h) (ag (if_pos (by simpa using h)) ?_);rfl
 ·exact ag (if_neg h) (ag (if_neg (by simpa using h)) rfl)
theorem sx(K k u:B)(o:Option B)(r:List (B×B)):(if k=K then o.or (some u)else o).or (bE K r).head? =o.or (bE K ((k,u)::r)).head? :=by
 rw[lB];by_cases h:k=K
 ·rw[if_pos h,if_pos h];cases o<;>rfl
 ·rw[if_neg h,if_neg h]
inductive WD(s:kn)(k u:B):Option kn->Prop
 |mk (s1:kn) (h1:s1.ps=s.ps) (h2:s1.tree=s.tree) (h3:s1.gK=false) (h4:s1.cU=if k=cu then s.cU.or (some u)else s.cU) (h5:s1.cV=if k=bY then s.cV.or (some u)else s.cV) (h6:s1.enc=if k=bT then s.enc.or (some u)else s.enc) (h7:s1.a5=if k=bK then s.a5++[u]else s.a5):WD s k u (some s1)
inductive PF(s:kn)(ps:List B)(r:List (B×B)):Option kn->Prop
 |mk (s':kn) (h1:s'.ps=ps) (h2:s'.tree=s.tree) (h3:s'.cU=s.cU.or (bE cu r).head?) (h4:s'.cV=s.cV.or (bE bY r).head?) (h5:s'.enc=s.enc.or (bE bT r).head?) (h6:s'.a5=s.a5++bE bK r):PF s ps r (some s')
inductive UZ(s:kn)(r:List (B×B)):Option (List B)->Option kn->Prop
 |no:UZ s r none none
 |ok (qs:List B) (s':kn) (h1:s'.ps=s.ps++qs) (h2:s'.tree=s.tree) (h3:s'.cU=s.cU.or (bE cu r).head?) (h4:s'.cV=s.cV.or (bE bY r).head?) (h5:s'.enc=s.enc.or (bE bT r).head?) (h6:s'.a5=s.a5++bE bK r):UZ s r (some qs) (some s')
theorem zE(s:kn)(k u v:B)(Y:s.tree=some v)(Z:s.gK=false):WD s k u (dJ s k u):=by
 obtain⟨ps,ex,tree,cU,cV,enc,a5,gK⟩:=s;cases (show tree=some v from Y);clear Y;cases (show gK=false from Z);by_cases q1:k=aw
 ·subst q1;exact .mk _ rfl rfl rfl rfl rfl rfl rfl
 by_cases I:k=bw
 ·clear q1;subst I;exact .mk _ rfl rfl rfl rfl rfl rfl rfl
 by_cases q3:k=cu
 ·clear I;clear q1;subst q3;exact .mk _ rfl rfl rfl rfl rfl rfl rfl
 by_cases z:k=bY
 ·clear q3;clear I;subst z;exact .mk _ rfl rfl rfl rfl rfl rfl rfl
 by_cases U:k=bT
 ·clear z;clear q3;subst U;exact .mk _ rfl rfl rfl rfl rfl rfl rfl
 by_cases V:k=bK
 ·clear U;clear z;subst V;exact .mk _ rfl rfl rfl rfl rfl rfl rfl
 exact ag (show dJ ⟨ps,ex,some v,cU,cV,enc,a5,false⟩ k u=some ⟨ps,ex++[.tup [.aa k,.aa u]],some v,cU,cV,enc,a5,false⟩from(if_neg q1).trans ((if_neg I).trans ((if_neg q3).trans ((if_neg z).trans ((if_neg U).trans (if_neg V)))))) (.mk _ rfl rfl rfl (if_neg q3).symm (if_neg z).symm (if_neg U).symm (if_neg V).symm)
theorem zF:∀(r:List (B×B))(s:kn)(v:B),s.tree=some v->s.gK=false->PF s s.ps r (b7 s r):=by
 intro r
 induction r with
 |nil=>
  intro s v z I;exact .mk s rfl rfl (aa1 ..).symm (aa1 ..).symm (aa1 ..).symm (X5 _).symm
 |cons Y r Z=>
  intro s v z I;obtain⟨k,u⟩:=Y;have h:=zE s k u v z I;show PF s s.ps ((k,u)::r) ((dJ s k u).bind λs=>b7 s r);generalize dJ s k u=o at h;cases h with
  |mk s1 Lz U DG ha hc he hg=>
  have V:=Z s1 v (U.trans z) DG;show PF s s.ps ((k,u)::r) (b7 s1 r);generalize b7 s1 r=o at V;cases V with
  |mk s' w2 w3 w4 w5 w6 w7=>
  refine .mk s' (w2.trans Lz) (w3.trans U) (by rw[w4,ha,sx]) (by rw[w5,hc,sx]) (by rw[w6,he,sx]) ?_;rw[w7,hg,lB];by_cases h:k=bK
  ·rw[if_pos h,if_pos h,SF];rfl
  ·rw[if_neg h,if_neg h]
theorem DH:∀(r:List (B×B))(s:kn)(v:B),s.tree=some v->s.gK=true->UZ s r (gE r) (b7 s r):=by
 intro r
 induction r with
 |nil=>
  intro s v Z hi;exact .ok [] s (X5 _).symm rfl (aa1 ..).symm (aa1 ..).symm (aa1 ..).symm (X5 _).symm
 |cons p0 r IH=>
  intro s v Z hi;obtain⟨k,u⟩:=p0;obtain⟨ps,ex,tree,cU,cV,enc,a5,gK⟩:=s;cases (show tree=some v from Z);clear Z;cases (show gK=true from hi);by_cases U:k=bw
  ·subst U;cases V:nm u with
   |false=>
    have z:gE ((bw,u)::r)=none:=by rw[kl,if_pos rfl,V];rfl
    have I:b7 ⟨ps,ex,some v,cU,cV,enc,a5,true⟩ ((bw,u)::r)=none:=congrArg (λo:Option kn=>o.bind λs=>b7 s r) (abU (b:=if nm u=true then some ⟨ps++[u],ex,some v,cU,cV,enc,a5,true⟩else none) (by kernel_rfl) (if_neg (λh=>acN (V.symm.trans h))):dJ ⟨ps,ex,some v,cU,cV,enc,a5,true⟩ bw u=none);refine ag z (ag I ?_);exact .no
   |true=>
    have e:dJ ⟨ps,ex,some v,cU,cV,enc,a5,true⟩ bw u=some ⟨ps++[u],ex,some v,cU,cV,enc,a5,true⟩:=abU (b:=if nm u=true then some ⟨ps++[u],ex,some v,cU,cV,enc,a5,true⟩else none) (by kernel_rfl) (if_pos V);have z:gE ((bw,u)::r)=(gE r).map (u::·):=by rw[kl,if_pos rfl,V];rfl
    have I:b7 ⟨ps,ex,some v,cU,cV,enc,a5,true⟩ ((bw,u)::r)=b7 ⟨ps++[u],ex,some v,cU,cV,enc,a5,true⟩ r:=congrArg (λo:Option kn=>o.bind λs=>b7 s r) e;have ih:=IH ⟨ps++[u],ex,some v,cU,cV,enc,a5,true⟩ v rfl rfl;have Y:∀K:B,K≠bw->bE K ((bw,u)::r)=bE K r:=λK h=>by rw[lB,if_neg (aaS h)]
    refine ag z (ag I ?_);generalize b7 ⟨ps++[u],ex,some v,cU,cV,enc,a5,true⟩ r=o at ih;generalize gE r=q at ih;cases ih with
    |no=>exact .no
    |ok qs s' w2 w3 w4 w5 w6 w7=>exact .ok (u::qs) s' (w2.trans (SF ..)) w3 (by exact ag w4 (ag (Y _ (by decide)) rfl)) (by exact ag w5 (ag (Y _ (by decide)) rfl)) (by exact ag w6 (ag (Y _ (by decide)) rfl)) (by exact ag w7 (ag (Y _ (by decide)) rfl))
  ·have e:dJ ⟨ps,ex,some v,cU,cV,enc,a5,true⟩ k u=dJ ⟨ps,ex,some v,cU,cV,enc,a5,false⟩ k u:=by
    show(if k=aw then _ else if k=bw then _ else _)=(if k=aw then _ else if k=bw then _ else _);exact ag (if_neg U) (ag (if_neg U) rfl)
   have z:gE ((k,u)::r)=some []:=by rw[kl,if_neg U]
   have I:b7 ⟨ps,ex,some v,cU,cV,enc,a5,true⟩ ((k,u)::r)=b7 ⟨ps,ex,some v,cU,cV,enc,a5,false⟩ ((k,u)::r):=congrArg (λo:Option kn=>o.bind λs=>b7 s r) e;have h:=zF ((k,u)::r) ⟨ps,ex,some v,cU,cV,enc,a5,false⟩ v rfl rfl;refine ag z (ag I ?_);generalize b7 ⟨ps,ex,some v,cU,cV,enc,a5,false⟩ ((k,u)::r)=o at h;cases h with
   |mk s' w2 w3 w4 w5 w6 w7=>exact .ok [] s' (w2.trans (X5 _).symm) w3 w4 w5 w6 w7
end
def ko(ch:AV)(s:kn)(m:AV)(f v n:LV):St:=[.un,.im ch,.im (.aa bK),.own (s.ps.map .aa),.own s.ex,.im (oB s.tree),.im (oB s.cU),.im (oB s.cV),.im (oB s.enc),.im m,.own (s.a5.map .aa),.im (.bool s.gK),f,v,n]
@[simp] theorem Qy(c:cz):uX (some (.error c))=some (.error c):=rfl
@[simp] theorem MG:uX none=none:=rfl
@[simp] theorem LI(J:St)(k:α->Option Ou):aU (none:Rs α) J k=none:=rfl
@[simp] theorem MH(k:St->Option Ou):bu none k=none:=rfl
@[simp] theorem MI:bg none=none:=rfl
@[simp] theorem RT(v:B):oB (some v)= .aa v:=rfl
@[simp] theorem RU:oB none= .none:=rfl
@[simp] theorem RV(v:Int):oI (some v)= .int v:=rfl
@[simp] theorem RW:oI none= .none:=rfl
@[simp] theorem Qz(y:Rs AV):vw (some (.ok (.bool true))) y=y:=rfl
@[simp] theorem QA(y:Rs AV):vw (some (.ok (.bool false))) y=some (.ok (.bool false)):=rfl
def LJ(s:kn)(n:Nat):Prop:=s.ps.length<=n/\s.ex.length<=n/\s.a5.length<=n
section
variable (P:kX)
theorem sy{c:Prop}[Decidable c]{P:α->Prop}{x y:α}(z:P x)(I:P y):P (if c then x else y):=by
 by_cases h:c
 ·exact ag (if_pos h) z
 ·exact ag (if_neg h) I
def Es(n:Nat):Option kn->Prop
 |none=>True
 |some s=>LJ s n
theorem zG{s:kn}{k v:B}(z:LJ s n):Es (n+1) (dJ s k v):=by
 obtain⟨ps,ex,tree,cU,cV,enc,a5,gK⟩:=s;have I:ps.length<=n+1:=Qt z.1;have U:ex.length<=n+1:=Qt z.2.1;have V:a5.length<=n+1:=Qt z.2.2;have ap:∀{α:Type}(l:List α)(x:α),l.length<=n->(l++[x]).length<=n+1:=λl x h=>by refine ag nx ?_;exact aa2 h
 cases tree with
 |none=>exact sy (P:=Es (n+1)) ⟨I,U,V⟩ trivial
 |some t=>exact sy (P:=Es (n+1)) ⟨I,U,V⟩ (sy (P:=Es (n+1)) (sy (P:=Es (n+1)) (sy (P:=Es (n+1)) ⟨ap ps v z.1,U,V⟩ trivial) ⟨I,U,V⟩) (sy (P:=Es (n+1)) ⟨I,U,V⟩ (sy (P:=Es (n+1)) ⟨I,U,V⟩ (sy (P:=Es (n+1)) ⟨I,U,V⟩ (sy (P:=Es (n+1)) ⟨I,U,ap a5 v z.2.2⟩ ⟨I,ap ex _ z.2.1,V⟩)))))
theorem DI{s s':kn}{k v:B}(h:dJ s k v=some s')(z:LJ s n):LJ s' (n+1):=by
 have h2:=zG (k:=k) (v:=v) z;rw[h]at h2;exact h2
def jX(ch:AV)(g:St->Option Ou)(s:kn)(k v:B):Option kn->Prop
 |none=>∃ak,Ap g (ko ch s .none (.im (.aa k)) (.im (.aa v)) .un)=some (.ex (.ref 44) ak)/\bQ ak=true
 |some s'=>Ap g (ko ch s .none (.im (.aa k)) (.im (.aa v)) .un)=some (.next (ko ch s' .none (.im (.aa k)) (.im (.aa v)) .un))
structure LK(ch:AV)(g:St->Option Ou):Prop where
 step:∀s k v,((k=aw\/k=bw)->GJ v)->v.length<=4000->LJ s 100->jX ch g s k v (dJ s k v)
 QB:∀s m,s.tree=none->∃ak,Ap g (ko ch s .none (.im .none) (.im (a9 m)) .un)=some (.ex (.ref 44) ak)/\bQ ak=true
 QC:∀s m v,s.tree=some v->Ap g (ko ch s .none (.im .none) (.im (a9 m)) .un)=some (.next (ko ch {s with gK:=false} (a9 m) (.im .none) (.im (a9 m)) .un))
noncomputable def cL:LV->Bool| .ob .. =>false| .fn _=>false|_=>true
theorem eV(ch:AV)(s:kn)(m:AV)(f v:LV)(z:cL f=true)(I:cL v=true):bQ (ko ch s m f v .un)=true:=by
 show(true&&(true&&(true&&(true&&(true&&(true&&(true&&(true&&(true&&(true&&(true&&(true&&(cL f&&(cL v&&(true&&true)))))))))))))))=true;refine ag z (ag I ?_);rfl
def yd(ch:AV)(msg:Option B)(r:Option Ou):Option kn->Prop
 |none=>∃ak,r=some (.ex (.ref 44) ak)
 |some s=>match s.tree with
  |none=>∃ak,r=some (.ex (.ref 44) ak)
  |some _=>r=some (.next (ko ch {s with gK:=false} (a9 msg) (.im .none) (.im (a9 msg)) .un))
theorem GQ{ch:AV}{g:St->Option Ou}{msg:Option B}(H:LK ch g)(jL:∀s m f v a b,set (.tup [a,b]) (ko ch s m f v .un)=some (ko ch s m (.im a) (.im b) .un)):∀(hs:List (B×B))(s:kn)(n:Nat)(f v:LV),cL f=true->cL v=true->(∀p∈hs,(p.1=aw\/p.1=bw->GJ p.2)/\p.2.length<=4000)->LJ s n->n+hs.length<=100->yd ch msg (iv set g (hs.map aS++[.tup [.none,a9 msg]]) (ko ch s .none f v .un)) (b7 s hs):=by
 intro hs
 induction hs with
 |nil=>
  intro s n f v U V Y hz z;simp only[ab8,Z4,ke,kg,eV ch s .none f v U V,if_true,jL,Mr,GO,yd];cases Z:s.tree with
  |none=>
   refine ax (H.QB s msg Z) λak h1 h2=>?_;simp only[show g _=_ from h1,h2,if_true];exact⟨ak,rfl⟩
  |some t=>
   simp only[show g _=_ from H.QC s msg t Z,eV ch _ (a9 msg) (.im .none) (.im (a9 msg)) rfl rfl,if_true];exact ag Z rfl
 |cons p0 hs IH=>
  intro s n f v U V Y hz z;obtain⟨k,u⟩:=p0;refine aX (Y (k,u) (by simp)) λq1 q2=>?_;have j1:LJ s 100:=⟨by have:=hz.1;simp at z;lia,by have:=hz.2.1;simp at z;lia,by have:=hz.2.2;simp at z;lia⟩;simp only[G0,Xm,ke,kg,eV ch s .none f v U V,if_true,aS,jL,Mr,GP];have I:=H.step s k u q1 q2 j1;cases hp:dJ s k u with
  |none=>
   rw[hp]at I;refine ax I λak h1 h2=>?_;simp only[show g _=_ from h1,h2,if_true,Option.bind_none,yd];exact⟨ak,rfl⟩
  |some s'=>
   rw[hp]at I;simp only[show g _=_ from I,Mr];exact IH s' (n+1) _ _ rfl rfl (λp h=>Y p (AM _ h)) (DI hp hz) (by simp at z;lia)
def Et(xs:List AV):Rs AV:=if(xs++[AV.aa [103,112,103,115,105,103]]).length=2 then bg (De.f (.un::aO 14 (xs++[AV.aa [103,112,103,115,105,103]])))else none
def DJ(A:Option B×Option Int×Option Int)(n:AV):AV:=.tup [oB A.1,oI A.2.1,.tup [oI A.2.2,n]]
noncomputable def sP:kn:=⟨[],[],none,none,none,none,[],false⟩
def U0(n:AV):Prop:=n= .none\/∃b,n= .bool b
theorem DK{p:B×B}:∀{hs:List (B×B)},p∈hs->p.2.length+1<=(hs.map λp=>p.2.length+1).sum
 |q::hs,h=>by
  refine g' (QX.mp h) ?_ ?_;rotate_left;intro h;rotate_right;clear h;rintro rfl
  ·simp
  ·have:=DK h;simp at this⊢;lia
theorem IX{o:Option α}{k:α->Option β}(a:α)(e:o=some a):o.bind k=k a:=by refine ag e ?_;rfl
theorem LM{ch:AV}{msg:Option B}{F K g:St->Option Ou}{y:St->Rs (List AV)}{z:List AV->Option (List AV)}{R:Rs AV}(as:List AV)(e:F=λJ=>bu (aU (y J) J λxs=>(z xs).bind λys=>iv set g ys J) K)(Y:Ap y J=some (.ok as))(hz:Ap z as=some (hs.map aS++[.tup [.none,a9 msg]]))(I:yd ch msg (iv set g (hs.map aS++[.tup [.none,a9 msg]]) J) (b7 sP hs))(U:(b7 sP hs).bind (·.tree)=none->R=some (.error (.ref 44)))(h1:∀s v,b7 sP hs=some s->s.tree=some v->bg (Ap K (ko ch {s with gK:=false} (a9 msg) (.im .none) (.im (a9 msg)) .un))=R):bg (Ap F J)=R:=by
 subst e;refine abU (congrArg bg (congrArg (λz=>bu z K) ((gj as Y).trans (IX _ hz)))) ?_;cases V:b7 sP hs with
 |none=>
  rw[V]at I U;refine au I λak h=>ag h (ag (U rfl) ?_);rfl
 |some s=>
  rw[V]at I U;obtain⟨ps,ex,tree,cU,cV,enc,a5,gK⟩:=s;cases tree with
  |none=>
   refine au (show∃ak,_=some (Ou.ex (.ref 44) ak)from I) λak h=>ag h (ag (U rfl) ?_);rfl
  |some v=>
   have h:=h1 _ v V rfl;exact ag (show iv _ _ _ _=_ from I) h
def sz:Option B->Rs AV
 |none=>some (.ok (.tup [.none,.none,.tup [.none,.none]]))
 |some a=>bz 10 1 lq.f [.aa a]
theorem zH{x:Rs AV}(h:x=eD b)(hb:b=true):x=some (.ok .none):=by refine ag h (ag hb ?_);rfl
theorem MJ{x:Rs AV}(h:x=eD b)(hb:b=false):x=some (.error (.ref 44)):=by refine ag h (ag hb ?_);rfl
theorem GR{A C G:Rs AV}{v p e g m x:AV}(z:G=some (.ok g)):bg (bu (aU (uX (bindR (aA v) λa=>bindR (bindR (aA p) λa=>bindR (bindR A λa=>bindR (bindR C λa=>bindR (bindR (aA e) λa=>bindR (bindR G λa=>bindR (bindR (aA m) λa=>bindR (bindR (aA x) λa=>bindR (aA []) λas=>aA (a::as)) λas=>aA (a::as)) λas=>aA (a::as)) λas=>aA (a::as)) λas=>aA (a::as)) λas=>aA (a::as)) λas=>aA (a::as)) λas=>aA (a::as))) J λa=>some (.ret a)) λJ=>some (.next J))=bindR A λa=>bindR C λc=>some (.ok (.tup [v,p,a,c,e,g,m,x])):=by
 subst z;rcases A with _|(_|_)<;>rcases C with _|(_|_)<;>rfl
theorem LN{ss:List B}(h1:(iz 10 ss).length<=5000)(h2:ss.length<=5000):Jl (i4 (aA (.lst (ss.map .aa)))) (mr "bytes" (aA (.aa [10])) (bindR (aA (.lst (ss.map .aa))) λa=>bindR (aA []) λas=>aA (a::as)) qM) (aA .none)=some (.ok (dk ss)):=by
 have e:i4 (aA (AV.lst (ss.map .aa)))=some (.ok (!(ss.map AV.aa).isEmpty)):=by
  show abp _ (cI _)=_;rw[iA (by rw[GB];exact h2)];rfl
 have z:=lx (a:=[10]) (ps:=ss) (by rw[fp];exact h1);rw[fp]at z;refine ag e ?_;clear h1 h2 e;cases ss with
 |nil=>rfl
 |cons b r=>exact z
theorem sA{msg:Option B}{R:Rs AV}(DL:jv (wA.f (.un::aO 10 [.lst [.aa X]]))=some (hs.map aS++[.tup [.none,a9 msg]]))(V:Vals hs)(h0:(b7 sP hs).bind (·.tree)=none->R=some (.error (.ref 44)))(aJ:∀s v,b7 sP hs=some s->s.tree=some v->(iz 10 s.a5).length<=5000/\s.a5.length<=5000)(h1:∀s v,b7 sP hs=some s->s.tree=some v->(bindR (sz s.cU) λa=>bindR (sz s.cV) λc=>some (.ok (.tup [.aa v,.lst (s.ps.map .aa),a,c,oB s.enc,dk s.a5,a9 msg,.lst s.ex])))=R):Et [.lst [.aa X]]=R:=by
 refine(if_pos rfl).trans ?_;show bg (Ap De.f (.un::aO 14 [.lst [.aa X],.aa bK]))=R;unfold De;dsimp only;refine e6 [.un,.im (.lst [.aa X]),.im (.aa bK),.own [],.un,.un,.un,.un,.un,.un,.un,.un,.un,.un,.un] rfl (by kernel_rfl) (e6 [.un,.im (.lst [.aa X]),.im (.aa bK),.own [],.own [],.un,.un,.un,.un,.un,.un,.un,.un,.un,.un] rfl (by kernel_rfl) (e6 [.un,.im (.lst [.aa X]),.im (.aa bK),.own [],.own [],.im .none,.un,.un,.un,.un,.un,.un,.un,.un,.un] rfl (by kernel_rfl) (e6 [.un,.im (.lst [.aa X]),.im (.aa bK),.own [],.own [],.im .none,.im .none,.un,.un,.un,.un,.un,.un,.un,.un] rfl (by kernel_rfl) (e6 [.un,.im (.lst [.aa X]),.im (.aa bK),.own [],.own [],.im .none,.im .none,.im .none,.un,.un,.un,.un,.un,.un,.un] rfl (by kernel_rfl) (e6 [.un,.im (.lst [.aa X]),.im (.aa bK),.own [],.own [],.im .none,.im .none,.im .none,.im .none,.un,.un,.un,.un,.un,.un] rfl (by kernel_rfl) (e6 [.un,.im (.lst [.aa X]),.im (.aa bK),.own [],.own [],.im .none,.im .none,.im .none,.im .none,.im .none,.un,.un,.un,.un,.un] rfl (by kernel_rfl) (e6 [.un,.im (.lst [.aa X]),.im (.aa bK),.own [],.own [],.im .none,.im .none,.im .none,.im .none,.im .none,.own [],.un,.un,.un,.un] rfl (by kernel_rfl) (e6 (ko (.lst [.aa X]) sP .none .un .un .un) rfl (by kernel_rfl) (LM [.lst [.aa X]] rfl (by kernel_rfl) ((if_pos rfl).trans DL) (GQ ?_ (λs m f v a b=>rfl) hs sP 0 .un .un rfl rfl (λp Y=>⟨V.nm p Y,?_⟩) ⟨Z2 _,Z2 _,Z2 _⟩ ((aay _).symm▸bU V.Qu (by decide))) h0 (λs v Y U=>?_))))))))))
 ·refine⟨λs k v hk hz hs=>?_,λs m U=>?_,λs m v U=>?_⟩
  ·refine fQ hs λz1 z2 z3=>?_;clear hs;obtain⟨ps,ex,tree,cU,cV,enc,a5,gK⟩:=s;by_cases q1:k=aw
   ·clear z1 z2 z3;subst q1;cases tree with
    |some t=>exact(show jX _ _ _ _ _ (some ⟨ps,ex,some t,cU,cV,enc,a5,false⟩)from(by kernel_rfl:Ap _ _=_))
    |none=>
    have hh:=(hk (.inl rfl)).tree;cases I:nm v with
    |false=>
     exact ag (show dJ ⟨ps,ex,none,cU,cV,enc,a5,gK⟩ aw v=none from if_neg (λh=>acN (I.symm.trans h.2))) (⟨_,iN (ko (.lst [.aa X]) ⟨ps,ex,none,cU,cV,enc,a5,gK⟩ .none (.im (.aa aw)) (.im (.aa v)) .un) rfl (by kernel_rfl)<|iN (ko (.lst [.aa X]) ⟨ps,ex,none,cU,cV,enc,a5,true⟩ .none (.im (.aa aw)) (.im (.aa v)) .un) rfl (by kernel_rfl)<|g_ rfl<|qh rfl (by kernel_rfl)<|g_ rfl<|qh rfl (by kernel_rfl)<|iN _ rfl (jH rfl (by kernel_rfl) rfl)<|MB _ rfl<|IT rfl<|aj [.aa v,.str pn] (by kernel_rfl) (MJ hh I),eV _ ⟨ps,ex,none,cU,cV,enc,a5,true⟩ _ (.im (.aa aw)) (.im (.aa v)) rfl rfl⟩)
    |true=>
     refine ag (show dJ ⟨ps,ex,none,cU,cV,enc,a5,gK⟩ aw v=some ⟨ps,ex,some v,cU,cV,enc,a5,true⟩from if_pos ⟨rfl,I⟩) ?_;exact iN (ko (.lst [.aa X]) ⟨ps,ex,none,cU,cV,enc,a5,gK⟩ .none (.im (.aa aw)) (.im (.aa v)) .un) rfl (by kernel_rfl)<|iN (ko (.lst [.aa X]) ⟨ps,ex,none,cU,cV,enc,a5,true⟩ .none (.im (.aa aw)) (.im (.aa v)) .un) rfl (by kernel_rfl)<|g_ rfl<|qh rfl (by kernel_rfl)<|g_ rfl<|qh rfl (by kernel_rfl)<|iN _ rfl (jH rfl (by kernel_rfl) rfl)<|iN _ rfl (iB _ rfl (aj [.aa v,.str pn] (by kernel_rfl) (zH hh I)) rfl) (by kernel_rfl)
   cases tree with
   |none=>
    exact ag (show dJ ⟨ps,ex,none,cU,cV,enc,a5,gK⟩ k v=none from if_neg (λh=>q1 h.1)) (⟨(ko (.lst [.aa X]) ⟨ps,ex,none,cU,cV,enc,a5,gK⟩ .none (.im (.aa k)) (.im (.aa v)) .un),MB _ rfl (qh rfl (ly (by kernel_rfl) (ly (kf (!(k==aw)) (by kernel_rfl) (congrArg not (beq_eq_false_iff_ne.mpr q1))) rfl)) (by kernel_rfl)),eV _ ⟨ps,ex,none,cU,cV,enc,a5,gK⟩ _ (.im (.aa k)) (.im (.aa v)) rfl rfl⟩)
   |some t=>
   by_cases Z:k=bw
   ·clear q1;clear z2 z3;subst Z;have hh:=(hk (.inr rfl)).par;cases gK with
    |false=>exact(show jX _ _ _ _ _ (some ⟨ps,ex,some t,cU,cV,enc,a5,false⟩)from(by kernel_rfl:Ap _ _=_))
    |true=>
    cases I:nm v with
    |false=>
     exact ag (show dJ ⟨ps,ex,some t,cU,cV,enc,a5,true⟩ bw v=none from abU (b:=if nm v=true then some ⟨ps++[v],ex,some t,cU,cV,enc,a5,true⟩else none) (by kernel_rfl) (if_neg (λh=>acN (I.symm.trans h)))) (⟨_,iN (ko (.lst [.aa X]) ⟨ps,ex,some t,cU,cV,enc,a5,true⟩ .none (.im (.aa bw)) (.im (.aa v)) .un) rfl (by kernel_rfl)<|iN (ko (.lst [.aa X]) ⟨ps,ex,some t,cU,cV,enc,a5,true⟩ .none (.im (.aa bw)) (.im (.aa v)) .un) rfl (by kernel_rfl)<|g_ rfl<|jH rfl (by kernel_rfl)<|g_ rfl<|qh rfl (by kernel_rfl)<|iN _ rfl (jH rfl (by kernel_rfl) rfl)<|g_ rfl<|qh rfl (by kernel_rfl)<|MB _ rfl<|IT rfl<|aj [.aa v,.str wU] (by kernel_rfl) (MJ hh I),eV _ ⟨ps,ex,some t,cU,cV,enc,a5,true⟩ _ (.im (.aa bw)) (.im (.aa v)) rfl rfl⟩)
    |true=>
     refine ag (show dJ ⟨ps,ex,some t,cU,cV,enc,a5,true⟩ bw v=some ⟨ps++[v],ex,some t,cU,cV,enc,a5,true⟩from abU (b:=if nm v=true then some ⟨ps++[v],ex,some t,cU,cV,enc,a5,true⟩else none) (by kernel_rfl) (if_pos I)) ?_;exact iN (ko (.lst [.aa X]) ⟨ps,ex,some t,cU,cV,enc,a5,true⟩ .none (.im (.aa bw)) (.im (.aa v)) .un) rfl (by kernel_rfl)<|iN (ko (.lst [.aa X]) ⟨ps,ex,some t,cU,cV,enc,a5,true⟩ .none (.im (.aa bw)) (.im (.aa v)) .un) rfl (by kernel_rfl)<|g_ rfl<|jH rfl (by kernel_rfl)<|g_ rfl<|qh rfl (by kernel_rfl)<|iN _ rfl (jH rfl (by kernel_rfl) rfl)<|g_ rfl<|qh rfl (by kernel_rfl)<|iN _ rfl (iB _ rfl (aj [.aa v,.str wU] (by kernel_rfl) (zH hh I)) rfl)<|g_ rfl<|Ep (xs:=ps.map .aa) (a:=.aa v) rfl (by kernel_rfl) (by rw[GB];exact bU z1 (by decide)) (by rw[uy];rfl)
   by_cases q3:k=cu
   ·clear hk Z;clear q1 z1;subst q3;cases cU with
    |none=>exact(show jX _ _ _ _ _ (some ⟨ps,ex,some t,some v,cV,enc,a5,false⟩)from(by kernel_rfl:Ap _ _=_))
    |some a=>exact(show jX _ _ _ _ _ (some ⟨ps,ex,some t,some a,cV,enc,a5,false⟩)from(by kernel_rfl:Ap _ _=_))
   by_cases q4:k=bY
   ·clear q3;clear hk Z;subst q4;cases cV with
    |none=>exact(show jX _ _ _ _ _ (some ⟨ps,ex,some t,cU,some v,enc,a5,false⟩)from(by kernel_rfl:Ap _ _=_))
    |some a=>exact(show jX _ _ _ _ _ (some ⟨ps,ex,some t,cU,some a,enc,a5,false⟩)from(by kernel_rfl:Ap _ _=_))
   by_cases q5:k=bT
   ·clear q4;clear q3;subst q5;cases enc with
    |none=>exact(show jX _ _ _ _ _ (some ⟨ps,ex,some t,cU,cV,some v,a5,false⟩)from(by kernel_rfl:Ap _ _=_))
    |some a=>exact(show jX _ _ _ _ _ (some ⟨ps,ex,some t,cU,cV,some a,a5,false⟩)from(by kernel_rfl:Ap _ _=_))
   by_cases q6:k=bK
   ·clear q5;clear q4;subst q6;exact(show jX _ _ _ _ _ (some ⟨ps,ex,some t,cU,cV,enc,a5++[v],false⟩)from iN (ko (.lst [.aa X]) ⟨ps,ex,some t,cU,cV,enc,a5,gK⟩ .none (.im (.aa bK)) (.im (.aa v)) .un) rfl (by kernel_rfl)<|iN (ko (.lst [.aa X]) ⟨ps,ex,some t,cU,cV,enc,a5,false⟩ .none (.im (.aa bK)) (.im (.aa v)) .un) rfl (by kernel_rfl)<|g_ rfl<|jH rfl (by kernel_rfl)<|g_ rfl<|jH rfl (by kernel_rfl)<|g_ rfl<|jH rfl (by kernel_rfl)<|g_ rfl<|jH rfl (by kernel_rfl)<|g_ rfl<|jH rfl (by kernel_rfl)<|g_ rfl<|qh rfl (by kernel_rfl)<|iN _ rfl (jH rfl (by kernel_rfl) rfl)<|
      g_ rfl<|Ep (xs:=a5.map .aa) (a:=.aa v) rfl (by kernel_rfl) (by rw[GB];exact bU z3 (by decide)) (by rw[uy];rfl))
   refine ag (show dJ ⟨ps,ex,some t,cU,cV,enc,a5,gK⟩ k v=some ⟨ps,ex++[.tup [.aa k,.aa v]],some t,cU,cV,enc,a5,false⟩from(if_neg q1).trans ((if_neg Z).trans ((if_neg q3).trans ((if_neg q4).trans ((if_neg q5).trans (if_neg q6)))))) ?_;have z:∀{K:B},¬k=K->(k==K)=false:=λh=>beq_eq_false_iff_ne.mpr h;exact iN (ko (.lst [.aa X]) ⟨ps,ex,some t,cU,cV,enc,a5,gK⟩ .none (.im (.aa k)) (.im (.aa v)) .un) rfl (jH rfl (by kernel_rfl) rfl)<|iN (ko (.lst [.aa X]) ⟨ps,ex,some t,cU,cV,enc,a5,false⟩ .none (.im (.aa k)) (.im (.aa v)) .un) rfl (qh rfl (kf (!(k==bw)) (by kernel_rfl) (congrArg not (z Z))) (by kernel_rfl))<|
    g_ rfl<|jH rfl (kf (k==aw) (by kernel_rfl) (z q1))<|g_ rfl<|jH rfl (kf (k==bw) (by kernel_rfl) (z Z))<|g_ rfl<|jH rfl (kf (k==cu) (by kernel_rfl) (z q3))<|g_ rfl<|jH rfl (kf (k==bY) (by kernel_rfl) (z q4))<|g_ rfl<|jH rfl (kf (k==bT) (by kernel_rfl) (z q5))<|g_ rfl<|jH rfl (kf (k==bK) (by kernel_rfl) (z q6))<|g_ rfl<|jH rfl (by kernel_rfl)<|
     iN (ko (.lst [.aa X]) ⟨ps,ex,some t,cU,cV,enc,a5,false⟩ .none (.im (.aa k)) (.im (.aa v)) .un) rfl (jH rfl (by kernel_rfl) rfl)<|g_ rfl<|Ep (xs:=ex) (a:=.tup [.aa k,.aa v]) rfl (by kernel_rfl) (bU z2 (by decide)) rfl
  ·obtain⟨ps,ex,tree,cU,cV,enc,a5,gK⟩:=s;cases (show tree=none from U);exact⟨ko (.lst [.aa X]) ⟨ps,ex,none,cU,cV,enc,a5,gK⟩ .none (.im .none) (.im (a9 m)) .un,by kernel_rfl,eV _ _ _ _ _ rfl rfl⟩
  ·obtain⟨ps,ex,tree,cU,cV,enc,a5,gK⟩:=s;cases (show tree=some v from U)
   kernel_rfl
 ·have:=DK Y;have:=V.len;exact Kt (bk ‹_› ‹_›)
 ·refine aX (aJ s v Y U) λz1 z2=>fP (h1 s v Y U) ?_;clear Y;obtain⟨ps,ex,tree,cU,cV,enc,a5,gK⟩:=s;cases (show tree=some v from U);refine e6 (ko (.lst [.aa X]) ⟨ps,ex,some v,cU,cV,enc,a5,false⟩ (a9 msg) (.im .none) (.im (a9 msg)) (.im (.tup [.none,.none,.tup [.none,.none]]))) rfl (by kernel_rfl) (abU ?_ (GR (A:=sz cU) (C:=sz cV) (v:=.aa v) (p:=.lst (ps.map .aa)) (e:=oB enc) (m:=a9 msg) (x:=.lst ex) (J:=yz 3 (yz 4 (ko (.lst [.aa X]) ⟨ps,ex,some v,cU,cV,enc,a5,false⟩ (a9 msg) (.im .none) (.im (a9 msg)) (.im (.tup [.none,.none,.tup [.none,.none]]))))) (LN (ss:=a5) z1 z2)));clear U;cases cU<;>cases cV<;>kernel_rfl
end
noncomputable def pJ:List Str:=["_sha","_chunked_text","_needs_serialization","object_format","_parents","_encoding","_gpgsig","_extra","_author_timezone_neg_utc","_commit_timezone_neg_utc"]
noncomputable def DM:List Str:=["_sha","_chunked_text","_needs_serialization","object_format","_parents","_encoding","_gpgsig","_extra","_author_timezone_neg_utc","_commit_timezone_neg_utc","_tree","_message","_author","_author_time","_author_timezone","_committer","_commit_time","_commit_timezone"]
noncomputable def DN(X:B)(t p a0 a1 a2 a3 c0 c1 c2 c3 e g m x:AV)(b:Bool):List AV:=[.none,.lst [.aa X],.bool b,.ref 76,p,e,g,x,a3,c3,t,m,a0,a1,a2,c0,c1,c2]
def eW(X:B)(t p a0 a1 a2 a3 c0 c1 c2 c3 e g m x:AV):AV:=.obj 501 DM (DN X t p a0 a1 a2 a3 c0 c1 c2 c3 e g m x false)
noncomputable def hH(ch:AV):List AV:=[.none,ch,.bool true,.ref 76,.lst [],.none,.none,.lst [],.bool false,.bool false]
section
variable (P:kX)
abbrev DO(ks:List Str)(xs ys:List AV):Option (Except cz (List Str×List AV)):=if ys.length=1 then eR 501 (xX.f (LV.ob 501 ks xs::aO 9 ys))else none
theorem GS:(λks xs ys=>match ys with|[]=>eR 501 (oR 501 (λks xs ys=>if ys.length=0 then eR 501 (nz.f (.ob 501 ks xs::aO 0 ys))else none) si.f ks xs (.ob 501 ks xs::aO 0 []))|_=>none:List Str->List AV->List AV->Option (Except cz (List Str×List AV))) [] [] []=
  some (.ok (pJ,[.none,.none,.bool true,.ref 76,.lst [],.none,.none,.lst [],.bool false,.bool false])):=by kernel_rfl
theorem DP:∀(ps:List B)(x:LV),cQ (λa J=>some (cy 0 a J)) (λx=>aA true) (λJ=>bindR (bindR (jR 0 J) λa=>bindR (aA []) λas=>aA (a::as)) (bz 1 1 o6.f)) (ps.map .aa) [x]=some (.ok (ps.map .aa)):=by
 intro ps
 induction ps with
 |nil=>
  intro x;exact rfl
 |cons p ps z=>
  intro x;have I:=z (.im (.aa p));have e:bz 1 1 o6.f [.aa p]=some (.ok (.aa p)):=by kernel_rfl
  have U:cQ (λa J=>some (cy 0 a J)) (λx=>aA true) (λJ=>bindR (bindR (jR 0 J) λa=>bindR (aA []) λas=>aA (a::as)) (bz 1 1 o6.f)) (.aa p::ps.map .aa) [x]=
    bindR (bz 1 1 o6.f [.aa p]) λy=>bindR (cQ (λa J=>some (cy 0 a J)) (λx=>aA true) (λJ=>bindR (bindR (jR 0 J) λa=>bindR (aA []) λas=>aA (a::as)) (bz 1 1 o6.f)) (ps.map .aa) [.im (.aa p)]) λys=>aA (y::ys):=rfl
  rw[G0,U,e,e9,I]
  rfl
theorem LO{t a0 a1 a2 a3 c0 c1 c2 c3 e g m x:AV}{ps:List B}(hz:ps.length<=5000)(h:Et [.lst [.aa X]]=some (.ok (.tup [t,.lst (ps.map .aa),.tup [a0,a1,.tup [a2,a3]],.tup [c0,c1,.tup [c2,c3]],e,g,m,x]))):DO pJ (hH (.lst [.aa X])) [.lst [.aa X]]=some (.ok (DM,DN X t (.lst (ps.map .aa)) a0 a1 a2 a3 c0 c1 c2 c3 e g m x true)):=by
 unfold DO xX hH;rw[if_pos (show[AV.lst [.aa X]].length=1 from rfl)];dsimp only;rw[sq [.ob 501 pJ [.none,.lst [.aa X],.bool true,.ref 76,.lst [],.none,.none,.lst [],.bool false,.bool false],.im (.lst [.aa X]),.im t,.im (.lst (ps.map .aa)),.im (.tup [a0,a1,.tup [a2,a3]]),.im (.tup [c0,c1,.tup [c2,c3]]),.im e,.im g,.im m,.im x] (by
  unfold Et at h;simp only[Xm,Z4,CV,Z5,aay,Nat.reduceAdd,if_true]at h;simp only[show aO 9 [AV.lst [.aa X]]=[.im (.lst [.aa X]),.un,.un,.un,.un,.un,.un,.un,.un]from rfl];simp[h,tK,tJ,rC])]
 rw[sq [.ob 501 (pJ++[("_tree":Str)]) [.none,.lst [.aa X],.bool true,.ref 76,.lst [],.none,.none,.lst [],.bool false,.bool false,t],.im (.lst [.aa X]),.im t,.im (.lst (ps.map .aa)),.im (.tup [a0,a1,.tup [a2,a3]]),.im (.tup [c0,c1,.tup [c2,c3]]),.im e,.im g,.im m,.im x] (by kernel_rfl)];rw[gj (a:=.lst (ps.map .aa)) (by
  show uW (if cq (ps.map AV.aa).length=true then cQ _ _ _ (ps.map .aa) [.un]else none)=_;rw[if_pos (ed (by simpa using hz)),DP]
  rfl)]
 generalize AV.lst (ps.map .aa)=p
 kernel_rfl
theorem bne{x:Rs α}{k:α->Rs β}{c:cz}(h:x=some (.error c)):bindR x k=some (.error c):=by refine ag h ?_;rfl
theorem GU{c:cz}(h:Et [.lst [.aa X]]=some (.error c))(ks:List Str)(xs:List AV):DO ks xs [.lst [.aa X]]=some (.error c):=by
 exact(if_pos (show[AV.lst [.aa X]].length=1 from rfl)).trans (congrArg (eR 501) (MB (.ob 501 ks xs::[.im (.lst [.aa X]),.un,.un,.un,.un,.un,.un,.un,.un]) rfl (show tK _ _ _ _=_ from(Ww (bne (aj [.lst [.aa X]] (by kernel_rfl) h))))))
theorem pz{C:fF}{g:St->Rs (List AV)}{spec:List Str->List AV->List AV->Option (Except cz (List Str×List AV))}{r:List Str×List AV}(h1:J.getD i .un= .ob C ks xs)(h2:eP ks xs name=none)(h3:g J=some (.ok ys))(h4:spec ks xs ys=some (.ok r))(z:J.set i (.ob C r.1 r.2)=ak):l6 i C name g spec J=some (.next ak):=by
 unfold l6 yv;simp only[h1,h2,and_self,if_true,h3,jt,h4,z]
theorem mf{C:fF}{g:St->Rs (List AV)}{spec:List Str->List AV->List AV->Option (Except cz (List Str×List AV))}{c:cz}(h1:J.getD i .un= .ob C ks xs)(h2:eP ks xs name=none)(h3:g J=some (.ok ys))(h4:spec ks xs ys=some (.error c)):l6 i C name g spec J=some (.ex c (J.set i .un)):=by
 unfold l6 yv;simp only[h1,h2,and_self,if_true,h3,jt,h4]
abbrev wX(ks:List Str)(xs ys:List AV):Option (Except cz (List Str×List AV)):=if ys.length=1 then eR 501 (uh.f (LV.ob 501 ks xs::aO 1 ys))else none
abbrev GV(ks:List Str)(xs ys:List AV):Option (Except cz (List Str×List AV)):=if ys.length=1 then eR 501 (xY.f (LV.ob 501 ks xs::aO 1 ys))else none
inductive Parsed(X:B):Rs AV->Rs AV->Prop
 |err (c:cz):Parsed X (some (.error c)) (some (.error c))
 |ok (t a0 a1 a2 a3 c0 c1 c2 c3 e g m x:AV) (ps:List B):ps.length<=5000->Parsed X (some (.ok (.tup [t,.lst (ps.map .aa),.tup [a0,a1,.tup [a2,a3]],.tup [c0,c1,.tup [c2,c3]],e,g,m,x])))
   (some (.ok (eW X t (.lst (ps.map .aa)) a0 a1 a2 a3 c0 c1 c2 c3 e g m x)))
theorem LP{t a0 a1 a2 a3 c0 c1 c2 c3 e g m x:AV}{ps:List B}(hz:ps.length<=5000)(h:Et [.lst [.aa X]]=some (.ok (.tup [t,.lst (ps.map .aa),.tup [a0,a1,.tup [a2,a3]],.tup [c0,c1,.tup [c2,c3]],e,g,m,x]))):wX pJ (hH .none) [.lst [.aa X]]=some (.ok (DM,DN X t (.lst (ps.map .aa)) a0 a1 a2 a3 c0 c1 c2 c3 e g m x false)):=by
 have hd:=LO hz h;unfold wX uh;refine ag (if_pos (show[AV.lst [.aa X]].length=1 from rfl)) ?_;dsimp only;refine ag (sq [.ob 501 pJ (hH (.lst [.aa X])),.im (.lst [.aa X])] (by kernel_rfl)) (ag (sq [.ob 501 pJ (hH (.lst [.aa X])),.im (.lst [.aa X])] (by kernel_rfl)) (ag (sq [.ob 501 DM (DN X t (.lst (ps.map .aa)) a0 a1 a2 a3 c0 c1 c2 c3 e g m x true),.im (.lst [.aa X])] (pz (spec:=DO) (ys:=[.lst [.aa X]]) (ks:=pJ) (xs:=hH (.lst [.aa X])) rfl (by kernel_rfl) rfl hd rfl)) ?_));generalize AV.lst (ps.map .aa)=p
 kernel_rfl
theorem GW{c:cz}(h:Et [.lst [.aa X]]=some (.error c)):wX pJ (hH .none) [.lst [.aa X]]=some (.error c):=by
 unfold wX uh;refine ag (if_pos (show[AV.lst [.aa X]].length=1 from rfl)) ?_;dsimp only;refine ag (sq [.ob 501 pJ (hH (.lst [.aa X])),.im (.lst [.aa X])] (by kernel_rfl)) (ag (sq [.ob 501 pJ (hH (.lst [.aa X])),.im (.lst [.aa X])] (by kernel_rfl)) (ag (Ql _ (mf (spec:=DO) (ys:=[.lst [.aa X]]) (ks:=pJ) (xs:=hH (.lst [.aa X])) (g:=λJ=>bindR (jR 1 J) λa=>bindR (aA []) λas=>aA (a::as)) (J:=[.ob 501 pJ (hH (.lst [.aa X])),.im (.lst [.aa X])]) (name:="_deserialize") (i:=0) (C:=501) rfl (by kernel_rfl) rfl (GU h _ _))) ?_))
 rfl
theorem DQ{r:Except cz (List Str×List AV)}(h:wX pJ (hH .none) [.lst [.aa X]]=some r):GV pJ (hH .none) [.aa X]=some r:=by
 unfold GV xY;refine ag (if_pos (show[AV.aa X].length=1 from rfl)) ?_;dsimp only;refine ag (sq [.ob 501 pJ (hH .none),.im (.aa X)] (by kernel_rfl)) ?_;rcases r with c|r
 ·refine ag (Ql _ (mf (spec:=wX) (ys:=[.lst [.aa X]]) (ks:=pJ) (xs:=hH .none) (by rfl) (by kernel_rfl) (by kernel_rfl) h)) ?_
  rfl
 ·refine ag (sq [.ob 501 r.1 r.2,.im (.aa X)] (pz (spec:=wX) (ys:=[.lst [.aa X]]) (ks:=pJ) (xs:=hH .none) (by rfl) (by kernel_rfl) (by kernel_rfl) h (by rfl))) ?_
  rfl
theorem yf{r q:Rs AV}(h:Et [.lst [.aa X]]=r)(z:Parsed X r q):bz 3 2 o7.f [.ref 501,.aa X]=q:=by
 have h0:=GS;cases z with
 |err c=>
  have hs:=DQ (GW h);unfold bz o7;refine ag (if_pos (show[AV.ref 501,AV.aa X].length=2 from rfl)) ?_;dsimp only;refine ag (sq [.im (.ref 501),.im (.aa X),.ob 501 pJ (hH .none)] (by kernel_rfl)) (ag (Ql _ (mf (spec:=GV) (ys:=[.aa X]) (ks:=pJ) (xs:=hH .none) (by rfl) (by kernel_rfl) (by rfl) hs)) ?_)
  rfl
 |ok t a0 a1 a2 a3 c0 c1 c2 c3 e g m x ps hz=>
  have hs:=DQ (LP hz h);unfold bz o7;refine ag (if_pos (show[AV.ref 501,AV.aa X].length=2 from rfl)) ?_;dsimp only;refine ag (sq [.im (.ref 501),.im (.aa X),.ob 501 pJ (hH .none)] (by kernel_rfl)) (ag (sq [.im (.ref 501),.im (.aa X),.ob 501 DM (DN X t (.lst (ps.map .aa)) a0 a1 a2 a3 c0 c1 c2 c3 e g m x false)] (pz (spec:=GV) (ys:=[.aa X]) (ks:=pJ) (xs:=hH .none) (by rfl) (by kernel_rfl) (by rfl) hs (by rfl))) ?_)
  rfl
end
end
section
set_option backward.eqns.nonrecursive true
set_option backward.match.sparseCases true
section
variable (P:kX)
theorem yg{K:B}(V:Vals hs)(I:K=cu\/K=bY):match fq (bE K hs)with
  |none=>sz (bE K hs).head? =some (.error (.ref 44))
  |some A=>∃n,U0 n/\sz (bE K hs).head? =some (.ok (DJ A n)):=by
 cases U:bE K hs with
 |nil=>exact⟨.none,.inl rfl,rfl⟩
 |cons u us=>
  have h:=V.pe (K,u) (sv (by refine ag U ?_;simp)) I;unfold uE at h;simp only[fq,List.head?_cons,sz];cases hs:sg u with
  |none=>rw[hs]at h;exact h.2
  |some x=>
   obtain⟨a,t,z⟩:=x;rw[hs]at h;exact Sj h λZ n h2 Z=>⟨.bool n,.inr ⟨n,rfl⟩,h2⟩
theorem DR:∀{r:List (B×B)}{qs:List B},gE r=some qs->qs.length<=r.length:=by
 intro r
 induction r with
 |nil=>
  intro qs h;cases h;simp
 |cons z r I=>
  intro qs h;obtain⟨k,v⟩:=z;rw[kl]at h;split at h
  ·split at h
   ·refine ax (r0.mp h) ?_;clear h;rintro q h1 rfl;have:=I h1;simp;assumption
   ·exact aZ h
  ·revert h;refine bc λe=>?_;subst e;simp
inductive LQ(X:B)(hs:List (B×B))(msg:Option B):Option (List AV)->Prop
 |no (h:Et [.lst [.aa X]]=some (.error (.ref 44))):LQ X hs msg none
 |ok (v:B) (r:List (B×B)) (ps:List B) (A C:Option B×Option Int×Option Int) (an cn:AV) (ex:List AV) (h1:hs=(aw,v)::r) (h2:nm v=true) (h3:gE r=some ps) (h4:fq (bE cu hs)=some A) (h5:fq (bE bY hs)=some C) (h6:U0 an) (h7:U0 cn)
   (h8:Et [.lst [.aa X]]=some (.ok (.tup [.aa v,.lst (ps.map .aa),DJ A an,DJ C cn,oB (bE bT hs).head?,dk (bE bK hs),a9 msg,.lst ex]))):
   LQ X hs msg (some [.aa v,.lst (ps.map .aa),oB A.1,oI A.2.1,oI A.2.2,oB C.1,oI C.2.1,oI C.2.2,oB (bE bT hs).head?,dk (bE bK hs),a9 msg])
theorem LR{msg:Option B}(Y:jv (wA.f (.un::aO 10 [.lst [.aa X]]))=some (hs.map aS++[.tup [.none,a9 msg]]))(V:Vals hs):LQ X hs msg (MF hs msg):=by
 cases hs with
 |nil=>
  exact .no (sA Y V (λZ=>rfl) (λs v h1 h2=>by refine dK ?_ h1;clear h1;intro h1;cases h1;exfalso;cases h2) (λs v h1 h2=>by refine dK ?_ h1;clear h1;intro h1;cases h1;exfalso;cases h2))
 |cons p r=>
  obtain⟨k,v⟩:=p;by_cases hk:k=aw/\nm v=true
  case neg=>
   rw[uF,if_neg hk];have e:b7 sP ((k,v)::r)=none:=by show(if k=aw/\nm v=true then some {sP with tree:=some v,gK:=true}else none).bind _=_;rw[if_neg hk];rfl
   exact .no (sA Y V (λZ=>rfl) (λs v h1 h2=>by rw[e]at h1;exact aZ h1) (λs v h1 h2=>by rw[e]at h1;exact aZ h1))
  refine aX hk ?_;clear hk;rintro rfl hn;have hv:∀K:B,K≠aw->bE K ((aw,v)::r)=bE K r:=λK h=>by rw[lB,if_neg (aaS h)]
  have e:b7 sP ((aw,v)::r)=b7 {sP with tree:=some v,gK:=true} r:=by show(if aw=aw/\nm v=true then some {sP with tree:=some v,gK:=true}else none).bind _=_;rw[if_pos ⟨rfl,hn⟩];rfl
  have z:=DH r {sP with tree:=some v,gK:=true} v rfl rfl;rw[uF,if_pos ⟨rfl,hn⟩];cases hp:gE r with
  |none=>
   rw[hp]at z;generalize hq:b7 {sP with tree:=some v,gK:=true} r=o at z;refine dK ?_ z;clear z;intro z;cases z;exact .no (sA Y V (λZ=>rfl) (λs v h1 h2=>by rw[e,hq]at h1;exact aZ h1) (λs v h1 h2=>by rw[e,hq]at h1;exact aZ h1))
  |some qs=>
   rw[hp]at z;generalize w1:b7 {sP with tree:=some v,gK:=true} r=o at z;cases z with
   |ok _ s' w2 w3 w4 w5 w6 w7=>
   have wa:s'.cU=(bE cu ((aw,v)::r)).head? :=by rw[w4,hv _ (by decide)];rfl
   have wc:s'.cV=(bE bY ((aw,v)::r)).head? :=by rw[w5,hv _ (by decide)];rfl
   have we:s'.enc=(bE bT ((aw,v)::r)).head? :=by rw[w6,hv _ (by decide)];rfl
   have ws:s'.a5=bE bK ((aw,v)::r):=by rw[w7,hv _ (by decide)];rfl
   have wp:s'.ps=qs:=by rw[w2];rfl
   have aJ:∀s v',b7 sP ((aw,v)::r)=some s->s.tree=some v'->(iz 10 s.a5).length<=5000/\s.a5.length<=5000:=λs v' h1 h2=>by
    rw[e,w1]at h1;revert h1;refine bc λe=>?_;clear h2;subst e;rw[ws,nC];have h1:=yc bK ((aw,v)::r);have h2:=V.len;exact⟨bU (Xs (aaB _ _) _) (bU h1 (bU h2 (by decide))),bU (ab0 _ _) (bU h1 (bU h2 (by decide)))⟩
   have I:=yg V (K:=cu) (.inl rfl);have U:=yg V (K:=bY) (.inr rfl);have GX:∀R,(bindR (sz s'.cU) λa=>bindR (sz s'.cV) λc=>some (.ok (.tup [.aa v,.lst (qs.map .aa),a,c,oB s'.enc,dk s'.a5,a9 msg,.lst s'.ex])))=R->Et [.lst [.aa X]]=R:=λR hR=>
    sA Y V (λh=>by rw[e,w1]at h;simp only[Mr]at h;rw[w3]at h;exact z9 h) aJ (λs v' h1 h2=>by
     rw[e,w1]at h1;revert h1;refine bc λe=>?_;subst e;rw[w3]at h2;revert h2;refine bc λe=>?_;subst e;rw[wp];exact hR)
   rw[wa,wc,we,ws]at GX;cases hA:fq (bE cu ((aw,v)::r))with
   |none=>
    rw[hA]at I;exact .no (GX _ (by rw[I];rfl))
   |some A=>
    rw[hA]at I;refine ax I ?_;clear I;intro an Rm I;cases hC:fq (bE bY ((aw,v)::r))with
    |none=>
     rw[hC]at U;exact .no (GX _ (by rw[I,U];rfl))
    |some C=>
     rw[hC]at U;refine ax U ?_;clear U;intro cn WG U;exact .ok v r qs A C an cn s'.ex rfl hn hp hA hC Rm WG (GX _ (by rw[I,U];rfl))
end
end
section
set_option backward.match.sparseCases true
def behind(k:B):Option (List B):=if k=bw then some [bw,aw]else if k=cu then some [aw,bw]else if k=bY then some [cu]else if k=bT then some [bY]else if k=aw then some []else none
def Eu(last:Option B)(k:B):Bool:=match behind k with
 |none=>true
 |some l=>match last with
  |none=>k==aw
  |some p=>l.contains p
def nf:Option B->List (B×B)->Bool
 |_,[]=>true
 |last,(k,_)::r=>Eu last k&&nf (some k) r
theorem LS:nf last []=true:=rfl
theorem sD:nf last ((c,u)::r)=(Eu last c&&nf (some c) r):=rfl
@[simp] theorem RX:eD true=some (.ok .none):=rfl
@[simp] theorem RY:eD false=some (.error (.ref 44)):=rfl
@[simp] theorem U1(b:B):AV.handed (.aa b)=true:=rfl
@[simp] theorem U2(b:Int):AV.handed (.int b)=true:=rfl
@[simp] theorem U3(b:List AV):AV.handed (.lst b)=true:=rfl
@[simp] theorem RZ:AV.handed .none=true:=rfl
@[simp] theorem qX(o:Option B):AV.handed (oB o)=true:=by cases o<;>rfl
@[simp] theorem mR(o:Option Int):AV.handed (oI o)=true:=by cases o<;>rfl
section
variable (P:kX)
def zX(A:Option B×Option Int×Option Int):Bool:=match A.1,A.2.1 with
 |some a,some t=>decide (t<9223372036854775808)&&nd a
 |_,_=>false
theorem nE(t:Int):bz 1 1 sh.f [.int t]=eD (decide (t<9223372036854775808)):=by
 unfold bz sh;simp only[CV,Z5,if_true];by_cases h:t<9223372036854775808
 ·rw[sq [.im (.int t)] (by
   have h2:¬9223372036854775807<t:=by exact Int.not_le.mpr ‹_›
   refine ag (gj (a:=false) (by simp[aO,h2])) ?_;rfl)]
  simp[h]
 ·rw[Ql (c:=.ref 44) [.im (.int t)] (by
   have h2:9223372036854775807<t:=by lia
   refine ag (gj (a:=true) (by simp[aO,h2])) (ag (if_pos rfl) ?_)
   kernel_rfl)]
  simp[h]
noncomputable def sC(obj:AV)(p l f u:LV):St:=[.im obj,p,l,f,u]
structure sE(obj:AV)(g:St->Option Ou):Prop where
 step:∀p last k v,g (sC obj p (.im (oB last)) (.im (.aa k)) (.im (.aa v)))=if Eu last k then some (.next (sC obj p (.im (.aa k)) (.im (.aa k)) (.im (.aa v))))else some (.ex (.ref 44) (sC obj p (.im (oB last)) (.im (.aa k)) (.im (.aa v))))
 last:∀p last m,g (sC obj p (.im (oB last)) (.im .none) (.im m))=some (.next (sC obj p (.im .none) (.im .none) (.im m)))
theorem jx(obj:AV)(p l f u:LV)(z:cL p=true)(I:cL l=true)(U:cL f=true)(V:cL u=true):bQ (sC obj p l f u)=true:=by
 show(true&&(cL p&&(cL l&&(cL f&&(cL u&&true)))))=true;refine ag z (ag I (ag U (ag V ?_)));rfl
theorem GY{obj m:AV}{g:St->Option Ou}(H:sE obj g)(Z:∀p l f u a b,set (.tup [a,b]) (sC obj p l f u)=some (sC obj p l (.im a) (.im b))):∀(hs:List (B×B))(last:Option B)(p f u:LV),cL p=true->cL f=true->cL u=true->∃ak,iv set g (hs.map aS++[.tup [.none,m]]) (sC obj p (.im (oB last)) f u)=if nf last hs then some (.next ak)else some (.ex (.ref 44) ak):=by
 intro hs
 induction hs with
 |nil=>
  intro last p f u z I U;refine⟨sC obj p (.im .none) (.im .none) (.im m),?_⟩;simp only[ab8,Z4,ke,kg,jx obj p (.im (oB last)) f u z rfl I U,if_true,Z,Mr,H.last,jx obj p (.im .none) (.im .none) (.im m) z rfl rfl rfl,LS]
 |cons p0 hs IH=>
  intro last p f u z I U;obtain⟨k,v⟩:=p0;have V:=H.step p last k v;cases Y:Eu last k with
  |false=>
   rw[Y]at V;simp only[G0,Xm,ke,kg,jx obj p (.im (oB last)) f u z rfl I U,if_true,Z,aS,Mr,V,sD,jx obj p (.im (oB last)) (.im (.aa k)) (.im (.aa v)) z rfl rfl rfl,Y,aaI,F3,if_false];exact⟨_,rfl⟩
  |true=>
   rw[Y]at V;simp only[G0,Xm,ke,kg,jx obj p (.im (oB last)) f u z rfl I U,if_true,Z,aS,Mr,V,sD,Y,aaE];exact IH (some k) p _ _ z rfl rfl
theorem DS{obj:AV}{g:St->Option Ou}:∀(ps:List B)(p l f u:LV),(∀a p,set a (sC obj p l f u)=some (sC obj (.im a) l f u))->(∀q∈ps,g (sC obj (.im (.aa q)) l f u)=some (.next (sC obj (.im (.aa q)) l f u)))->cL p=true->∃z,cL z=true/\dU set g (ps.map .aa) (sC obj p l f u)=some (.next (sC obj z l f u)):=by
 intro ps
 induction ps with
 |nil=>
  intro p l f u hs hg I;exact⟨p,I,rfl⟩
 |cons q ps U=>
  intro p l f u hs hg I;refine ax (U (.im (.aa q)) l f u hs (λx V=>hg x (AM _ V)) rfl) λz h1 h2=>⟨z,h1,?_⟩;simp only[G0,eJ,hs,hg q (T4 ..)];exact h2
theorem GZ{obj:AV}{F g K:St->Option Ou}{y:St->Rs (List AV)}{ps:List B}{p l f u:LV}{R:Rs AV}(e:F=λJ=>bu (aU (y J) J λxs=>dU set g xs J) K)(U:Ap y (sC obj p l f u)=some (.ok (ps.map .aa)))(hs:∀a p,set a (sC obj p l f u)=some (sC obj (.im a) l f u))(hg:∀q∈ps,Ap g (sC obj (.im (.aa q)) l f u)=some (.next (sC obj (.im (.aa q)) l f u)))(V:cL p=true)(Y:∀I,cL I=true->bg (Ap K (sC obj I l f u))=R):bg (Ap F (sC obj p l f u))=R:=by
 subst e;refine ax (DS ps p l f u hs hg V) λI h1 h2=>?_;refine(congrArg (λz=>bg (bu z K)) ((gj _ U).trans h2)).trans ?_;exact Y I h1
theorem LU{F g K:St->Option Ou}{y:St->Rs (List AV)}{z:List AV->Option (List AV)}{as:List AV}(e:F=λJ=>bu (aU (y J) J λxs=>(z xs).bind λys=>iv set g ys J) K)(I:Ap y J=some (.ok as))(hz:Ap z as=some ys)(h:∃ak,iv set g ys J=if b then some (.next ak)else some (.ex (.ref 44) ak))(U:∀ak,Ap K ak=some (.next ak)):bg (Ap F J)=eD b:=by
 subst e;refine au h ?_;clear h;intro ak h;refine(congrArg (λz=>bg (bu z K)) ((gj as I).trans ((IX _ hz).trans h))).trans ?_;clear h;cases b
 ·rfl
 ·exact congrArg bg (U ak)
theorem sE.of{obj:AV}{g:St->Option Ou}(h1:∀p last k v,Ap g (sC obj p (.im (oB last)) (.im (.aa k)) (.im (.aa v)))=if Eu last k then some (.next (sC obj p (.im (.aa k)) (.im (.aa k)) (.im (.aa v))))else some (.ex (.ref 44) (sC obj p (.im (oB last)) (.im (.aa k)) (.im (.aa v)))))(h2:∀p last m,Ap g (sC obj p (.im (oB last)) (.im .none) (.im m))=some (.next (sC obj p (.im .none) (.im .none) (.im m)))):sE obj g:=⟨h1,h2⟩
theorem yh{F A K y:St->Option Ou}{x:St->Rs Bool}{r:Option Ou}(e:F=λJ=>bu (aU (x J) J λc=>if c=true then A J else bu (y J) λJ=>some (.next J)) K)(h:Ap x J=some (.ok false))(I:Ap (λJ=>bu (y J) K) J=r):Ap F J=r:=by
 subst e I;refine(congrArg (λz=>bu z K) (IQ h rfl)).trans ?_;show bu (bu (y J) _) K=bu (y J) K;rcases y J with _|(_|_|_|_|_)<;>rfl
theorem R1{F A B K:St->Option Ou}{x:St->Rs Bool}{o:Bool}(e:F=λJ=>bu (aU (x J) J λc=>if c=true then A J else B J) K)(b:Bool)(h:Ap x J=some (.ok (!b)))(I:Ap A J=some (.ex (.ref 44) J))(U:Ap (λJ=>bu (B J) K) J=some (.next ak))(V:o=b):Ap F J=if o then some (.next ak)else some (.ex (.ref 44) J):=by
 subst e V;cases o
 ·exact(congrArg (λz=>bu z K) (Qm h I))
 ·exact(congrArg (λz=>bu z K) (IQ h rfl)).trans U
theorem IY{last:Option B}{k:B}(q1:¬k=aw)(z:¬k=bw)(q3:¬k=cu)(I:¬k=bY)(U:¬k=bT):Eu last k=true:=by
 unfold Eu behind;exact ag (if_neg z) (ag (if_neg q3) (ag (if_neg I) (ag (if_neg U) (ag (if_neg q1) rfl))))
theorem R2(u k l:B):([k,l]:List B).contains u=((k==u)||((l==u)||false)):=by
 refine ag (BEq.comm (a:=k)) (ag (BEq.comm (a:=l)) ?_);show(match u==k with|true=>true|false=>match u==l with|true=>true|false=>false)=_;cases u==k<;>cases u==l<;>rfl
theorem WH(u k:B):([k]:List B).contains u=(u==k):=by
 show(match u==k with|true=>true|false=>false)=_;cases u==k<;>rfl
theorem DT{v:B}{ps:List B}{A C:Option B×Option Int×Option Int}{an cn e g m x:AV}{msg:Option B}(DL:jv (wA.f (.un::aO 10 [.lst [.aa X]]))=some (hs.map aS++[.tup [.none,a9 msg]]))(hv:bz 2 2 dy.f [.aa v,.str pn]=some (.ok .none))(Lz:∀q∈ps,bz 2 2 dy.f [.aa q,.str wU]=some (.ok .none))(hA:∀a t,A.1=some a->A.2.1=some t->bz 4 2 dA.f [.aa a,.str wV]=eD (nd a))(hC:∀a t,C.1=some a->C.2.1=some t->bz 4 2 dA.f [.aa a,.str wW]=eD (nd a)):bz 5 1 nA.f [eW X (.aa v) (.lst (ps.map .aa)) (oB A.1) (oI A.2.1) (oI A.2.2) an (oB C.1) (oI C.2.1) (oI C.2.2) cn e g m x]=eD (zX A&&zX C&&nf none hs):=by
 obtain⟨a,t,V⟩:=A;obtain⟨c,ct,U⟩:=C;refine(if_pos rfl).trans ?_;show bg (Ap nA.f (aO 5 [eW X (.aa v) (.lst (ps.map .aa)) (oB a) (oI t) (oI V) an (oB c) (oI ct) (oI U) cn e g m x]))=_
 let O:=eW X (.aa v) (.lst (ps.map .aa)) (oB a) (oI t) (oI V) an (oB c) (oI ct) (oI U) cn e g m x
 refine e6 (sC O .un .un .un .un) rfl (by kernel_rfl) (e6 (sC O .un .un .un .un) rfl (by kernel_rfl) ?_);cases a with
 |none=>exact IU (c:=.ref 44) (sC (eW X (.aa v) (.lst (ps.map .aa)) .none (oI t) (oI V) an (oB c) (oI ct) (oI U) cn e g m x) .un .un .un .un) rfl (by kernel_rfl) (by kernel_rfl)
 |some a=>
 let O:=eW X (.aa v) (.lst (ps.map .aa)) (.aa a) (oI t) (oI V) an (oB c) (oI ct) (oI U) cn e g m x
 refine e6 (sC O .un .un .un .un) rfl (by kernel_rfl) ?_;cases c with
 |none=>
  rw[show zX (none,ct,U)=false from rfl,aap,aaI];exact IU (c:=.ref 44) (sC (eW X (.aa v) (.lst (ps.map .aa)) (.aa a) (oI t) (oI V) an .none (oI ct) (oI U) cn e g m x) .un .un .un .un) rfl (by kernel_rfl) rfl
 |some c=>
 let O:=eW X (.aa v) (.lst (ps.map .aa)) (.aa a) (oI t) (oI V) an (.aa c) (oI ct) (oI U) cn e g m x
 refine e6 (sC O .un .un .un .un) rfl (by kernel_rfl) ?_;cases t with
 |none=>exact IU (c:=.ref 44) (sC (eW X (.aa v) (.lst (ps.map .aa)) (.aa a) .none (oI V) an (.aa c) (oI ct) (oI U) cn e g m x) .un .un .un .un) rfl (by kernel_rfl) (by kernel_rfl)
 |some t=>
 let O:=eW X (.aa v) (.lst (ps.map .aa)) (.aa a) (.int t) (oI V) an (.aa c) (oI ct) (oI U) cn e g m x
 refine e6 (sC O .un .un .un .un) rfl (by kernel_rfl) ?_;cases ct with
 |none=>
  rw[show zX (some c,none,U)=false from rfl,aap,aaI];exact IU (c:=.ref 44) (sC (eW X (.aa v) (.lst (ps.map .aa)) (.aa a) (.int t) (oI V) an (.aa c) .none (oI U) cn e g m x) .un .un .un .un) rfl (by kernel_rfl) rfl
 |some ct=>
 have hA:=hA a t rfl rfl;have hC:=hC c ct rfl rfl;refine ag (show zX (some a,some t,V)=(decide (t<9223372036854775808)&&nd a)from rfl) (ag (show zX (some c,some ct,U)=(decide (ct<9223372036854775808)&&nd c)from rfl) ?_)
 let O:=eW X (.aa v) (.lst (ps.map .aa)) (.aa a) (.int t) (oI V) an (.aa c) (.int ct) (oI U) cn e g m x
 refine e6 (sC O .un .un .un .un) rfl (by kernel_rfl) (GZ (obj:=O) (p:=.un) (l:=.un) (f:=.un) (u:=.un) rfl (by kernel_rfl) (λa p=>rfl) (λq hq=>g_ rfl (iB _ rfl (aj [.aa q,.str wU] (by kernel_rfl) (Lz q hq)) rfl)) rfl (λI sM=>?_));refine e6 (sC O I .un .un .un) rfl (by kernel_rfl) (e6 (sC O I .un .un .un) rfl (iB _ rfl (aj [.aa v,.str pn] (by kernel_rfl) hv) rfl) (e6 (sC O I .un .un .un) rfl (by kernel_rfl) (e6 (sC O I .un .un .un) rfl (by kernel_rfl) ?_)));cases WJ:nd a with
 |false=>exact IU (c:=.ref 44) (sC O I .un .un .un) rfl (IT rfl (aj [.aa a,.str wV] (by kernel_rfl) (MJ hA WJ))) (by rw[aap];rfl)
 |true=>
 refine e6 (sC O I .un .un .un) rfl (iB _ rfl (aj [.aa a,.str wV] (by kernel_rfl) (zH hA WJ)) rfl) ?_;cases zI:nd c with
 |false=>exact IU (c:=.ref 44) (sC O I .un .un .un) rfl (IT rfl (aj [.aa c,.str wW] (by kernel_rfl) (MJ hC zI))) (by rw[aap (decide (ct<_)),aap];rfl)
 |true=>
 refine e6 (sC O I .un .un .un) rfl (iB _ rfl (aj [.aa c,.str wW] (by kernel_rfl) (zH hC zI)) rfl) (e6 (sC O I .un .un .un) rfl (by kernel_rfl) (e6 (sC O I .un .un .un) rfl (by kernel_rfl) ?_));cases h3:decide (t<9223372036854775808)with
 |false=>exact IU (c:=.ref 44) (sC O I .un .un .un) rfl (IT rfl (aj [.int t] (by kernel_rfl) (MJ (nE t) h3))) rfl
 |true=>
 refine e6 (sC O I .un .un .un) rfl (iB _ rfl (aj [.int t] (by kernel_rfl) (zH (nE t) h3)) rfl) ?_;cases h4:decide (ct<9223372036854775808)with
 |false=>exact IU (c:=.ref 44) (sC O I .un .un .un) rfl (IT rfl (aj [.int ct] (by kernel_rfl) (MJ (nE ct) h4))) rfl
 |true=>
 refine e6 (sC O I .un .un .un) rfl (iB _ rfl (aj [.int ct] (by kernel_rfl) (zH (nE ct) h4)) rfl) (e6 (sC O I (.im (oB none)) .un .un) rfl (by kernel_rfl) (LU (as:=[.lst [.aa X]]) (J:=sC O I (.im (oB none)) .un .un) rfl (by kernel_rfl) ((if_pos rfl).trans DL) (GY (sE.of (λp last k v=>?_) (λp last m=>by kernel_rfl)) (λp l f u a b=>rfl) hs none I .un .un sM rfl rfl) (λZ=>rfl)));by_cases q1:k=aw
 ·subst q1;cases last<;>kernel_rfl
 by_cases Y:k=bw
 ·clear q1;subst Y;cases last with
  |none=>kernel_rfl
  |some u=>exact yh rfl (by kernel_rfl) (R1 rfl ((bw==u)||((aw==u)||false)) (ly (by kernel_rfl) (zy (by kernel_rfl))) (by kernel_rfl) (by kernel_rfl) (R2 u bw aw))
 by_cases q3:k=cu
 ·clear Y;clear q1;subst q3;cases last with
  |none=>kernel_rfl
  |some u=>exact yh rfl (by kernel_rfl) (yh rfl (by kernel_rfl) (R1 rfl ((aw==u)||((bw==u)||false)) (ly (by kernel_rfl) (zy (by kernel_rfl))) (by kernel_rfl) (by kernel_rfl) (R2 u aw bw)))
 by_cases q4:k=bY
 ·clear q3;clear Y;subst q4;cases last with
  |none=>kernel_rfl
  |some u=>exact yh rfl (by kernel_rfl) (yh rfl (by kernel_rfl) (yh rfl (by kernel_rfl) (R1 rfl (u==cu) (ly (by kernel_rfl) (zy (by kernel_rfl))) (by kernel_rfl) (by kernel_rfl) (WH u cu))))
 by_cases q5:k=bT
 ·clear q4;clear q3;subst q5;cases last with
  |none=>kernel_rfl
  |some u=>exact yh rfl (by kernel_rfl) (yh rfl (by kernel_rfl) (yh rfl (by kernel_rfl) (yh rfl (by kernel_rfl) (R1 rfl (u==bY) (ly (by kernel_rfl) (zy (by kernel_rfl))) (by kernel_rfl) (by kernel_rfl) (WH u bY)))))
 refine ag (IY q1 Y q3 q4 q5) (ag (if_pos rfl) ?_);have z:∀{K:B},¬k=K->(k==K)=false:=λh=>beq_eq_false_iff_ne.mpr h;exact yh rfl (qg (kf (k==aw) (by kernel_rfl) (z q1))) (yh rfl (qg (kf (k==bw) (by kernel_rfl) (z Y))) (yh rfl (qg (kf (k==cu) (by kernel_rfl) (z q3))) (yh rfl (qg (kf (k==bY) (by kernel_rfl) (z q4))) (iN (sC O p (.im (oB last)) (.im (.aa k)) (.im (.aa v))) rfl (jH rfl (qg (kf (k==bT) (by kernel_rfl) (z q5))) rfl) (by kernel_rfl)))))
end
theorem pA(n:Nat):c_ 1 n 1=(aac 1 (n-1)).map λi:Nat=>AV.int i:=by
 unfold c_;have:(OR 1 n 1).toNat=n-1:=by
  have:=DB 1 n;rw[show((1:Nat):Int)=1 from rfl]at this;refine ag this ?_;rfl
 refine ag this (ag (show aac 1 (n-1)=(ZK (n-1)).map (1+·)from List.range'_eq_map_range) (ag List.map_map ?_));apply ab4;intro i _;simp
section
variable (P:kX)
noncomputable def s6(T K:AV)(p t b k:LV):St:=[.im T,.im K,p,t,b,k]
def yi:AV:=.Ef P [bw,cu,bY,bT,aw] [.lst [.aa aw,.aa bw],.lst [.aa aw,.aa bw],.lst [.aa cu],.lst [.aa bY],.lst []]
def IZ(k:B):List B:=if k=bw then[aw,bw]else if k=cu then[aw,bw]else if k=bY then[cu]else if k=bT then[bY]else[]
theorem lk(k:B):([bw,cu,bY,bT,aw].zip [AV.lst [.aa aw,.aa bw],.lst [.aa aw,.aa bw],.lst [.aa cu],.lst [.aa bY],.lst []]).lookup k=if(behind k).isSome then some (.lst ((IZ k).map .aa))else none:=by
 unfold behind IZ;by_cases q1:k=bw
 ·subst q1;rfl
 by_cases z:k=cu
 ·clear q1;subst z;rfl
 by_cases q3:k=bY
 ·clear z;clear q1;subst q3;rfl
 by_cases I:k=bT
 ·clear q3;clear z;subst I;rfl
 by_cases U:k=aw
 ·clear I;clear q3;subst U;rfl
 have f:∀c:B,k≠c->(k==c)=false:=λc h=>by simpa using h
 simp only[q1,z,q3,I,U,if_false,adv,F3,P8,zd,f _ q1,f _ z,f _ q3,f _ I,f _ U]
 rfl
theorem LW(k:B):inD P (.aa k) (yi P)=some (.ok (.bool (behind k).isSome)):=by
 unfold inD yi;simp only[ug,if_true,lk,x9];cases h:(behind k).isSome<;>simp
theorem getD_eq{k:B}(h:(behind k).isSome=true):xN P (yi P) (.aa k)=some (.ok (.lst ((IZ k).map .aa))):=by
 unfold xN yi;simp only[ug,if_true,lk,h,aaq]
theorem zJ(p:B):∀(l:List B),fa (.aa p) (l.map .aa)=some (l.contains p):=by
 intro l
 induction l with
 |nil=>
  exact rfl
 |cons q l z=>
  refine ag G0 (ag xa (ag z (ag List.contains_cons ?_)));show some (q==p||l.contains p)=_;exact ag (show(q==p)=(p==q)from BEq.comm) rfl
theorem G1(p:B)(l:List B):ER (.aa p) (.lst (l.map .aa))=some (.ok (.bool (!l.contains p))):=by
 unfold ER;simp only[zJ];rfl
theorem LX(p k:B):Eu (some p) k= !((behind k).isSome&& !(IZ k).contains p):=by
 by_cases q1:k=bw
 ·subst q1;show([bw,aw]:List B).contains p= !(true&& !([aw,bw]:List B).contains p);rw[R2,R2];cases bw==p<;>cases aw==p<;>rfl
 by_cases z:k=cu
 ·clear q1;subst z;show([aw,bw]:List B).contains p= !(true&& !([aw,bw]:List B).contains p);rw[aaE,adB]
 by_cases q3:k=bY
 ·clear z;clear q1;subst q3;show([cu]:List B).contains p= !(true&& !([cu]:List B).contains p);rw[aaE,adB]
 by_cases I:k=bT
 ·clear q3;clear z;subst I;show([bY]:List B).contains p= !(true&& !([bY]:List B).contains p);rw[aaE,adB]
 by_cases U:k=aw
 ·clear I;clear q3;subst U;kernel_rfl
 rw[IY U q1 z q3 I];unfold behind;rw[if_neg q1,if_neg z,if_neg q3,if_neg I,if_neg U];rfl
structure LY(T:AV)(hs:List (B×B))(g:St->Option Ou):Prop where
 step:∀i p q a b,hs[i]? =some p->hs[i+1]? =some q->g (s6 T (.lst (hs.map λp=>.aa p.1)) a b (.im (yi P)) (.im (.int ((i+1:Nat):Int))))=if Eu (some p.1) q.1 then some (.next (s6 T (.lst (hs.map λp=>.aa p.1)) a b (.im (yi P)) (.im (.int ((i+1:Nat):Int)))))else some (.ret (.bool false))
theorem G2{T:AV}{g:St->Option Ou}(H:LY P T hs g):∀(r:List (B×B))(i:Nat)(p:B×B)(a b k:LV),hs[i]? =some p->hs.drop (i+1)=r->∃k',dU (λa J=>some (cy 5 a J)) g ((aac (i+1) r.length).map λj:Nat=>AV.int j) (s6 T (.lst (hs.map λp=>.aa p.1)) a b (.im (yi P)) k)=if nf (some p.1) r then some (.next (s6 T (.lst (hs.map λp=>.aa p.1)) a b (.im (yi P)) k'))else some (.ret (.bool false)):=by
 intro r
 induction r with
 |nil=>
  intro i p a b k Y z;exact⟨k,rfl⟩
 |cons q r IH=>
  intro i p a b k Y z;have V:hs[i+1]? =some q:=by
   have:=congrArg List.head? z;rw[ac3]at this;simpa using this
  have mE:hs.drop (i+1+1)=r:=by refine fP adh (ag z ?_);rfl
  have I:=H.step i p q a b Y V;refine au (IH (i+1) q a b (.im (.int ((i+1:Nat):Int))) V mE) λk' ih=>?_;have Z:cy 5 (.int ((i+1:Nat):Int)) (s6 T (.lst (hs.map λp=>.aa p.1)) a b (.im (yi P)) k)=s6 T (.lst (hs.map λp=>.aa p.1)) a b (.im (yi P)) (.im (.int ((i+1:Nat):Int))):=rfl;refine⟨k',?_⟩;refine ag CV (ag acJ (ag G0 ?_));clear z V;obtain⟨qk,qv⟩:=q;cases U:Eu (some p.1) qk with
  |false=>
   rw[U]at I;simp only[lV,eJ,Z,I,sD,U,aaI,F3,if_false]
  |true=>
   rw[U]at I;simp only[lV,eJ,Z,I,sD,U,aaE];exact ih
theorem LZ{T:AV}{g K:St->Option Ou}{items:List AV}{a c:LV}(h:∃k',dU set g items J=if b then some (.next (s6 T (.lst (hs.map λp=>.aa p.1)) a c (.im (yi P)) k'))else some (.ret (.bool false)))(z:∀ak,K ak=some (.ret (.bool true))):bg (bu (dU set g items J) K)=some (.ok (.bool b)):=by
 refine au h ?_;clear h;intro k' h;refine ag h ?_;clear h;cases b
 ·rfl
 ·show bg (K _)=_;rw[z];rfl
theorem G3{T K:AV}{g V:St->Option Ou}{U I:Option B×Option Int×Option Int}{f:Option B×Option Int×Option Int->Bool}{a b c d:LV}{z:Bool}(hs:∀p t a b c d,set (.tup [p,t]) (s6 T K a b c d)=some (s6 T K (.im p) (.im t) c d))(h:∀o,o=U\/o=I->g (s6 T K (.im (oB o.1)) (.im (oI o.2.1)) c d)=if f o then some (.next (s6 T K (.im (oB o.1)) (.im (oI o.2.1)) c d))else some (.ret (.bool false)))(Y:bg (V (s6 T K (.im (oB I.1)) (.im (oI I.2.1)) c d))=some (.ok (.bool z))):bg (bu (dU set g [.tup [oB U.1,oI U.2.1],.tup [oB I.1,oI I.2.1]] (s6 T K a b c d)) V)=some (.ok (.bool (f U&&f I&&z))):=by
 have h1:=h U (.inl rfl);have h2:=h I (.inr rfl);rw[eJ];rw[hs];dsimp only;rw[h1];cases f U
 ·rfl
 ·rw[if_pos rfl];dsimp only;rw[eJ];rw[hs];dsimp only;rw[h2];cases f I
  ·rfl
  ·rw[if_pos rfl];exact Y
theorem L0{x:Rs AV}(h:x=some (.ok (.bool b))):i4 x=some (.ok b):=by refine ag h ?_;rfl
theorem QD{x:Rs Bool}(h:x=some (.ok b)):EM x=some (.ok !b):=by refine ag h ?_;rfl
theorem DU{v:B}{r:List (B×B)}{ps e sgn m:AV}{A C:Option B×Option Int×Option Int}(hA:∀a t,A.1=some a->A.2.1=some t->bz 2 1 dz.f [.aa a]=some (.ok (.bool (nd a))))(hC:∀a t,C.1=some a->C.2.1=some t->bz 2 1 dz.f [.aa a]=some (.ok (.bool (nd a))))(hl:r.length<=100):bz 6 2 (fJ P).f [.lst [.aa v,ps,oB A.1,oI A.2.1,oI A.2.2,oB C.1,oI C.2.1,oI C.2.2,e,sgn,m],.lst (((aw,v)::r).map λp=>.aa p.1)]=some (.ok (.bool (zX A&&zX C&&nf none ((aw,v)::r)))):=by
 have WK:(((aw,v)::r).map λp=>AV.aa p.1).length<=5000:=by simp;exact bU ‹_› (by decide)
 unfold bz fJ;refine(if_pos rfl).trans ?_;dsimp only;have ho:nf none ((aw,v)::r)=nf (some aw) r:=rfl;rw[ho];refine abU (congrArg bg (congrArg (λz=>bu z _) (gj (a:=[.tup [oB A.1,oI A.2.1],.tup [oB C.1,oI C.2.1]]) (by kernel_rfl)))) (G3 (T:=.lst [.aa v,ps,oB A.1,oI A.2.1,oI A.2.2,oB C.1,oI C.2.1,oI C.2.2,e,sgn,m]) (K:=.lst (((aw,v)::r).map λp=>.aa p.1)) (a:=.un) (b:=.un) (c:=.un) (d:=.un) (f:=zX) ?_ (λo Z=>?_) ?_)
 ·exact λp t a b c d=>rfl
 ·have U:∀a t,o.1=some a->o.2.1=some t->bz 2 1 dz.f [.aa a]=some (.ok (.bool (nd a))):=by(refine g' Z ?_ ?_;rotate_left;clear Z;rintro rfl;rotate_right;clear Z;rintro rfl)<;>assumption
  clear Z;obtain⟨a,t,z⟩:=o;cases a with
  |none=>kernel_rfl
  |some a=>
   cases t with
   |none=>kernel_rfl
   |some t=>
    have U:=U a t rfl rfl;rw[show zX (some a,some t,z)=(decide (t<9223372036854775808)&&nd a)from rfl];by_cases h3:t<9223372036854775808
    ·rw[decide_eq_true h3,aaE];have h4:decide (t>=9223372036854775808)=false:=decide_eq_false (by exact Int.not_le.mpr ‹_›);cases I:nd a with
     |true=>exact Ls (IQ (ux (by kernel_rfl) (ux (by kernel_rfl) (ux (kf (decide (t>=9223372036854775808)) (by kernel_rfl) h4) (ux (kf (!nd a) (QD (L0 (aj [.aa a] (by kernel_rfl) U))) (by rw[I];rfl)) rfl)))) rfl)
     |false=>exact Ls (Qm (ux (by kernel_rfl) (ux (by kernel_rfl) (ux (kf (decide (t>=9223372036854775808)) (by kernel_rfl) h4) (RO (kf (!nd a) (QD (L0 (aj [.aa a] (by kernel_rfl) U))) (by rw[I];rfl)))))) (by kernel_rfl))
    ·rw[decide_eq_false h3,aaI];exact Ls (Qm (ux (by kernel_rfl) (ux (by kernel_rfl) (RO (kf (decide (t>=9223372036854775808)) (by kernel_rfl) (decide_eq_true (by lia)))))) (by kernel_rfl))
 ·generalize AV.lst [.aa v,ps,oB A.1,oI A.2.1,oI A.2.2,oB C.1,oI C.2.1,oI C.2.2,e,sgn,m]=T;refine es (s6 T (.lst (((aw,v)::r).map λp=>AV.aa p.1)) (.im (oB C.1)) (.im (oI C.2.1)) (.im (yi P)) .un) (by kernel_rfl) ?_;have hs:=wN (m:=1) (n:=r.length+1) (by exact aam ‹_› (by decide)) (by exact ZW _);have e1:=(ph (xs:=[.int 1,.int ((r.length+1:Nat):Int)]) (a:=1) (b:=((r.length+1:Nat):Int)) (c:=1) rfl hs).trans (by rw[pA]);have UY:(((aw,v)::r).map λp=>AV.aa p.1).length=r.length+1:=ro ..;refine Wx ((aac 1 r.length).map λj:Nat=>AV.int j) (UR (xs:=[.int 1,.int (((((aw,v)::r).map λp=>AV.aa p.1).length:Nat):Int)]) (aj _ rfl (aj _ (aj _ (aj _ (aj _ rfl (aj _ rfl rfl)) (Dp WK)) (aj _ rfl rfl)) rfl)) (by rw[UY];exact e1)) (LZ P (b:=nf (some aw) r) (G2 P ?_ r 0 (aw,v) _ _ _ rfl rfl) (λak=>rfl));refine⟨λi p q a b U hq=>?_⟩;have gk:∀(j:Nat)(p:B×B),((aw,v)::r)[j]? =some p->fH (.lst (((aw,v)::r).map λp=>AV.aa p.1)) (.int (j:Nat))=some (.ok (.aa p.1)):=λj p h=>by
   have h_:=(gw.mp h).1;rw[getL WK (by simpa using h_),ra,Xv,h];rfl
  have gp:=gk i p U;have V:=gk (i+1) q hq;rw[LX];generalize AV.lst (((aw,v)::r).map λp=>AV.aa p.1)=KK at*;have Y:=LW P q.1;cases hb:(behind q.1).isSome with
  |false=>
   rw[hb]at Y;exact Ls (IQ (qg (L0 (aj (.aa q.1) V Y))) rfl)
  |true=>
   rw[hb]at Y;have uO:=getD_eq P hb;have I:=G1 p.1 (IZ q.1);have e2:((i+1:Nat):Int)-1=(i:Nat):=by lia
   cases hc:(IZ q.1).contains p.1 with
   |true=>
    rw[hc]at I;exact Ls (IQ (ly (L0 (aj (.aa q.1) V Y)) (qg (L0 (aj (.aa p.1) (by rw[<-e2]at gp;exact gp) (aj (.lst ((IZ q.1).map .aa)) (aj (yi P) rfl (aj (.aa q.1) V uO)) I))))) rfl)
   |false=>
    rw[hc]at I;exact Ls (Qm (ly (L0 (aj (.aa q.1) V Y)) (ly (L0 (aj (.aa p.1) (by rw[<-e2]at gp;exact gp) (aj (.lst ((IZ q.1).map .aa)) (aj (yi P) rfl (aj (.aa q.1) V uO)) I))) rfl)) (by kernel_rfl))
end
theorem lC(p:B):lH (.aa p) (.aa p)=some true:=congrArg some (beq_self_eq_true p)
theorem wY:∀o:Option B,lH (oB o) (oB o)=some true|none=>rfl|some p=>lC p
theorem sF:∀o:Option Int,lH (oI o) (oI o)=some true|none=>rfl|some i=>congrArg some (beq_self_eq_true i)
theorem G4:∀vs:List B,lH (dk vs) (dk vs)=some true|[]=>rfl|_::_=>lC _
theorem G5:∀o:Option B,lH (a9 o) (a9 o)=some true|none=>rfl|some p=>lC p
theorem DV{eq:AV->AV->Option Bool}{x y:AV}{l:List Bool}(h:eq x y=some b)(k:zo eq xs ys=some l):zo eq (x::xs) (y::ys)=some (b::l):=by
 show(eq x y).bind (λb=>(zo eq xs ys).map (b::·))=_;refine ag h (ag k ?_);rfl
theorem DW(ps:List B):∃l,zo lH (ps.map .aa) (ps.map .aa)=some l/\l.all _root_.id=true:=by
 induction ps with
 |nil=>exact⟨[],rfl,rfl⟩
 |cons p ps ih=>exact ih.elim λl h=>⟨true::l,DV (lC p) h.1,h.2⟩
theorem gP:∀{x:AV},lH x x=some true->eq1 x x=some true
 | .lst _,h=>nomatch h
 | .none,h| .bool _,h| .int _,h| .str _,h| .aa _,h| .tup _,h| .ty _,h| .bi _,h| .ref _,h| .obj ..,h| .Ef ..,h=>h
theorem G6(ps:List B):eq1 (.lst (ps.map .aa)) (.lst (ps.map .aa))=some true:=(DW ps).elim λl h=>by
 show(if(ps.map AV.aa).length=(ps.map AV.aa).length then(zo lH (ps.map .aa) (ps.map .aa)).map (·.all _root_.id)else some false)=_;refine ag (if_pos rfl) (ag h.1 ?_);exact congrArg some h.2
theorem DX{l:List AV}(h:∀x∈l,eq1 x x=some true):Ri (.lst l) (.lst l)=some (.ok (.bool false)):=by
 have key:∀(l:List AV),(∀x∈l,eq1 x x=some true)->∃bs,zo eq1 l l=some bs/\bs.all _root_.id=true:=by
  intro l
  induction l with
  |nil=>intro _;exact⟨[],rfl,rfl⟩
  |cons x l ih=>
   intro h;exact ax (ih λy z=>h y (AM _ z)) λbs h1 h2=>⟨true::bs,by simp[Pk,h x (T4 ..),h1],by simpa using h2⟩
 refine ax (key l h) λbs h1 h2=>?_;simp only[Ri,kI,if_true,h1,aaq,h2,Bool.not_true]
theorem zK{g:St->Rs AV}(hg:∀k v,g [.im (.tup [.aa k,.aa v])]=some (.ok (.aa k))):∀(hs:List (B×B))(x:LV),cQ (λa J=>some (cy 0 a J)) (λZ=>aA true) g (hs.map aS) [x]=some (.ok (hs.map λp=>.aa p.1)):=by
 intro hs
 induction hs with
 |nil=>
  intro x;exact rfl
 |cons z hs I=>
  intro x;obtain⟨k,v⟩:=z;have U:=I (.im (.tup [.aa k,.aa v]));have V:cQ (λa J=>some (cy 0 a J)) (λZ=>aA true) g (aS (k,v)::hs.map aS) [x]=bindR (g [.im (.tup [.aa k,.aa v])]) λy=>bindR (cQ (λa J=>some (cy 0 a J)) (λZ=>aA true) g (hs.map aS) [.im (.tup [.aa k,.aa v])]) λys=>aA (y::ys):=rfl;rw[G0,V,hg,e9,U]
  rfl
@[simp] theorem DY(vs:List B):AV.handed (dk vs)=true:=by unfold dk;split<;>rfl
@[simp] theorem DZ(o:Option B):AV.handed (a9 o)=true:=by cases o<;>rfl
section
variable (P:kX)
noncomputable def jy(a b c d e x f g h i:LV):St:=[a,b,c,d,e,x,f,g,h,i]
theorem D0{g h oe:St->Option Ou}{m:cz->Option Bool}{c:cz}(ak:St){a:AV}(e:Ap g J=some (.ex c ak))(hm:m c=some true)(z:Ap h ak=some (.ret a)):tv g h oe m J=some (.ret a):=by
 unfold tv;simp only[show g J=_ from e,hm,if_true,show h ak=_ from z]
theorem D1{g h oe:St->Option Ou}{m:cz->Option Bool}(ak:St)(e:Ap g J=some (.next ak)):tv g h oe m J=oe ak:=by
 unfold tv;simp only[show g J=_ from e]
structure QE(O:AV)(v p a0 a1 a2 c0 c1 c2 e g m:AV):Prop where
 tree:bz 1 1 o8.f [O]=some (.ok v)
 par:bz 1 1 jr.f [O]=some (.ok p)
 a0:bz 1 1 kh.f [O]=some (.ok a0)
 a1:bz 1 1 fC.f [O]=some (.ok a1)
 a2:bz 1 1 du.f [O]=some (.ok a2)
 c0:bz 1 1 gO.f [O]=some (.ok c0)
 c1:bz 1 1 fB.f [O]=some (.ok c1)
 c2:bz 1 1 dq.f [O]=some (.ok c2)
 e:bz 1 1 iw.f [O]=some (.ok e)
 g:bz 1 1 ki.f [O]=some (.ok g)
 m:bz 1 1 js.f [O]=some (.ok m)
noncomputable def Mh(a:AV):Rs AV:=if a.handed then some (.ok a)else none
def QF(a O:AV):Rs AV:=bg (bu (aU (Mh a) [.im O] λa=>some (.ret a)) λJ=>some (.next J))
theorem gm{a:AV}(O:AV)(h:a.handed=true):QF a O=some (.ok a):=by unfold QF Mh;refine ag (if_pos h) ?_;rfl
theorem D2{t p a0 a1 a2 a3 c0 c1 c2 c3 e g m x:AV}(h1:t.handed=true)(h2:p.handed=true)(h3:a0.handed=true)(h4:a1.handed=true)(h5:a2.handed=true)(h6:c0.handed=true)(h7:c1.handed=true)(h8:c2.handed=true)(h9:e.handed=true)(iJ:g.handed=true)(Q1:m.handed=true):QE (eW X t p a0 a1 a2 a3 c0 c1 c2 c3 e g m x) t p a0 a1 a2 c0 c1 c2 e g m:=by
 constructor
 ·refine fP (gm (eW X t p a0 a1 a2 a3 c0 c1 c2 c3 e g m x) h1) ?_;kernel_rfl
 ·refine fP (gm (eW X t p a0 a1 a2 a3 c0 c1 c2 c3 e g m x) h2) ?_;kernel_rfl
 ·refine fP (gm (eW X t p a0 a1 a2 a3 c0 c1 c2 c3 e g m x) h3) ?_;kernel_rfl
 ·refine fP (gm (eW X t p a0 a1 a2 a3 c0 c1 c2 c3 e g m x) h4) ?_;kernel_rfl
 ·refine fP (gm (eW X t p a0 a1 a2 a3 c0 c1 c2 c3 e g m x) h5) ?_;kernel_rfl
 ·refine fP (gm (eW X t p a0 a1 a2 a3 c0 c1 c2 c3 e g m x) h6) ?_;kernel_rfl
 ·refine fP (gm (eW X t p a0 a1 a2 a3 c0 c1 c2 c3 e g m x) h7) ?_;kernel_rfl
 ·refine fP (gm (eW X t p a0 a1 a2 a3 c0 c1 c2 c3 e g m x) h8) ?_;kernel_rfl
 ·refine fP (gm (eW X t p a0 a1 a2 a3 c0 c1 c2 c3 e g m x) h9) ?_;kernel_rfl
 ·refine fP (gm (eW X t p a0 a1 a2 a3 c0 c1 c2 c3 e g m x) iJ) ?_;kernel_rfl
 ·refine fP (gm (eW X t p a0 a1 a2 a3 c0 c1 c2 c3 e g m x) Q1) ?_;kernel_rfl
end
end
section
set_option backward.eqns.nonrecursive true
set_option backward.match.sparseCases true
section
variable (P:kX)
noncomputable def Y4:AV->B| .aa b=>b|_=>[]
def pB:List B:=match bz 0 0 sk.f []with|some (.ok (.lst xs))=>xs.map Y4|_=>[]
theorem qY:bz 0 0 sk.f []=some (.ok (.lst ((pB).map .aa))):=by kernel_rfl
theorem lE:(pB).length=30:=by kernel_rfl
theorem D3:bz 0 0 Di.f []=some (.ok (.lst ([5,7,9,2,13,12,11,14].map .int))):=by kernel_rfl
noncomputable def D4:List Int:=[5,7,9,2,13,12,11,14]
def ix(n:Int):Int:=if(n.fdiv 30).fmod 3<2 then n.fmod 30 else D4.getD (n.fmod 8).toNat 0
def pick(n:Int):B:=(pB).getD (ix n).toNat []
theorem uI(n:Int):0<=ix n/\ix n<30:=by
 unfold ix;split
 ·exact ag (Int.fmod_eq_emod_of_nonneg _ (by decide)) (z_ n (k:=30) (by decide))
 ·have:(n.fmod 8).toNat<8:=by refine ag (Int.fmod_eq_emod_of_nonneg _ (by decide)) ?_;exact EC (z_ n (k:=8) (by decide)).1 (z_ n (k:=8) (by decide)).2
  revert this;generalize (n.fmod 8).toNat=j;intro z;have:∀j:Fin 8,0<=D4.getD j.val 0/\D4.getD j.val 0<30:=by decide
  exact this ⟨j,z⟩
theorem getInt{xs:List Int}{n:Int}(h:xs[i]? =some n)(hz:xs.length<=100):fH (.lst (xs.map .int)) (.int (i:Nat))=some (.ok (.int n)):=by
 have z:=(gw.mp h).1;refine ag (getL (by simp;exact bU ‹_› (by decide)) (by simpa using z)) (ag (ra) (ag (Xv) (ag h ?_)));rfl
structure sG(X:B)(hs:List (B×B))(msg:Option B):Prop where
 split:bz 7 1 iy.f [.aa X]=some (.ok (.tup [.lst (hs.map aS),a9 msg]))
 pm:jv (wA.f (.un::aO 10 [.lst [.aa X]]))=some (hs.map aS++[.tup [.none,a9 msg]])
 vals:Vals hs
 size:X.length<=3000
theorem qZ{K:B}(V:Vals hs)(Y:K=cu\/K=bY){A:Option B×Option Int×Option Int}(I:fq (bE K hs)=some A):∀a t,A.1=some a->A.2.1=some t->bz 2 1 dz.f [.aa a]=some (.ok (.bool (nd a)))/\bz 4 2 dA.f [.aa a,.str wV]=eD (nd a)/\bz 4 2 dA.f [.aa a,.str wW]=eD (nd a):=λa t h1 h2=>by
 cases U:bE K hs with
 |nil=>rw[U]at I;simp only[fq,e4]at I;clear h2;subst I;exact aZ h1
 |cons u us=>
  have h:=V.pe (K,u) (sv (by refine ag U ?_;simp)) Y;rw[U]at I;unfold uE at h;simp only[fq]at I;cases hs:sg u with
  |none=>rw[hs]at I;exfalso;cases I
  |some x=>
   obtain⟨b,Z,z⟩:=x;rw[hs]at I h;simp only[aaq,e4]at I;clear hs;subst I;simp only[e4]at h1 h2;subst h1 h2;exact h.2.2 rfl
theorem D5:∀{r:List (B×B)}{qs:List B},gE r=some qs->∀{q},q∈qs->(bw,q)∈r/\nm q=true:=by
 intro r
 induction r with
 |nil=>
  intro qs h q z;refine dK ?_ h;clear h;intro h;cases h;exfalso;cases z
 |cons I r U=>
  intro qs h q z;obtain⟨k,v⟩:=I;rw[kl]at h;split at h
  ·rename_i V;split at h
   ·rename_i Y;refine ax (r0.mp h) ?_;clear h;rintro ps h1 rfl;refine g' (QX.mp z) ?_ ?_;rotate_left;intro z;rotate_right;clear z;rintro rfl
    ·subst V;exact⟨by simp,Y⟩
    ·have:=U h1 z;exact⟨AM _ this.1,this.2⟩
   ·exact aZ h
  ·revert h;refine bc λe=>?_;subst e;exfalso;cases z
theorem L1{t p a0 a1 a2 a3 c0 c1 c2 c3 e g m x:AV}(z:X.length<=3000):bz 1 1 xW.f [eW X t p a0 a1 a2 a3 c0 c1 c2 c3 e g m x]=some (.ok (.aa X)):=by
 have h1:eP DM (DN X t p a0 a1 a2 a3 c0 c1 c2 c3 e g m x false) "as_raw_chunks"=none:=by kernel_rfl
 have h2:bz 1 1 Df.f [.obj 501 DM (DN X t p a0 a1 a2 a3 c0 c1 c2 c3 e g m x false)]=some (.ok (.lst [.aa X])):=by kernel_rfl
 have h3:qM [.aa [],.lst [.aa X]]=some (.ok (.aa X)):=by simpa using uB (ps:=[X]) (by simp;exact bU ‹_› (by decide))
 unfold bz;unfold xW eW;generalize DN X t p a0 a1 a2 a3 c0 c1 c2 c3 e g m x false=xs at*;generalize DM=ks at*;simp only[CV,Z5,aay,if_true];simp[aO,KH,h1,h2,h3]
def pC(z:List B):List B:=z.dropWhile da
def rows0(m:Int):List B:=if m.fmod 11=10 then[]else[(pB).getD 0 []]
noncomputable def ends:List B:=[[10],[],[10,10,98,111,100,121,10]]
def endOf(sc:List Int):B:=match sc with|[]=>[10]|s::_=>ends.getD (((if s<0 then-s else s).fmod 3).toNat) []
def rowsOf(sc:List Int):List B:=pC (rows0 sc.sum++(sc.drop 1).map (pick))
def textOf(sc:List Int):B:=iz 10 (rowsOf sc)++endOf sc
theorem sum_ints:∀(xs:List Int),ji (xs.map .int)=some xs:=by
 intro xs
 induction xs with
 |nil=>
  exact rfl
 |cons x xs IH=>
  simp[Fo,IH]
theorem WL:∀(l:List Int)(j:Nat),j<l.length->(l.map AV.int).getD j .none= .int (l.getD j 0)
 |_::_,0,_=>rfl
 |_::l,j+1,h=>WL l j (Nat.lt_of_succ_lt_succ h)
theorem L2(xs:List Int):N8 [.lst (xs.map .int)]=some (.ok (.int xs.sum)):=congrArg (abp λns:List Int=>Except.ok (AV.int ns.sum)) (sum_ints xs)
theorem wZ:(pB).all (λr=>decide (r.length<=80))=true:=by kernel_rfl
theorem jI{r:B}(h:r∈pB):r.length<=80:=by
 have:=Y'.mp (wZ) r h;simpa using this
theorem D6{i:Int}(I:0<=i)(h1:i<30):fH (.lst ((pB).map .aa)) (.int i)=some (.ok (.aa ((pB).getD i.toNat []))):=by
 refine au (Int.eq_ofNat_of_zero_le I) ?_;rintro j rfl;have U:=lE;have z:j<(pB).length:=by exact Int.ofNat_lt.mp ‹_›
 refine ag (getL (by simp;lia) z) (ag (ra) (ag (Xv) (ag (AL z) ?_)));simp[z]
theorem lF(n:Int):pick n∈pB:=by
 have I:=lE;refine aX (uI n) λU h1=>?_;have z:(ix n).toNat<(pB).length:=by refine ag I ?_;exact EC U h1
 unfold pick;refine ag (ra) (ag (AL z) ?_);exact aa4 z
structure pD(xs:List Int)(q1 q2 x f g h i:LV)(G:St->Option Ou):Prop where
 step:∀acc j n u4,xs[j]? =some n->acc.length<=100->G (jy q1 q2 (.own (acc.map .aa)) (.im (.int (j:Nat))) u4 x f g h i)=some (.next (jy q1 q2 (.own ((acc++[pick n]).map .aa)) (.im (.int (j:Nat))) (.im (.int n)) x f g h i))
theorem pD.of{xs:List Int}{q1 z x f g h i:LV}{G:St->Option Ou}(H:∀acc j n u4,xs[j]? =some n->acc.length<=100->Ap G (jy q1 z (.own (acc.map .aa)) (.im (.int (j:Nat))) u4 x f g h i)=some (.next (jy q1 z (.own ((acc++[pick n]).map .aa)) (.im (.int (j:Nat))) (.im (.int n)) x f g h i))):pD xs q1 z x f g h i G:=⟨H⟩
theorem G7{xs:List Int}{q1 I x f g h i:LV}{G:St->Option Ou}(H:pD xs q1 I x f g h i G):∀(m j:Nat)(acc:List B)(U z:LV),j+m=xs.length->acc.length+m<=100->∃V Y,dU (λa J=>some (cy 3 a J)) G ((aac j m).map λj:Nat=>AV.int j) (jy q1 I (.own (acc.map .aa)) U z x f g h i)=some (.next (jy q1 I (.own ((acc++(xs.drop j).map (pick)).map .aa)) V Y x f g h i)):=by
 intro m
 induction m with
 |zero=>
  intro j acc U z Z hz;exact⟨U,z,by refine ag (aaN (by lia)) ?_;simp[lV]⟩
 |succ m IH=>
  intro j acc U z Z hz;have hn:xs[j]? =some (xs[j]'(by exact bk (Xw (ZW _)) (Kj ‹_›))):=AL (by exact bk (Xw (ZW _)) (Kj ‹_›));refine jY (IH (j+1) (acc++[pick (xs[j]'(by exact bk (Xw (ZW _)) (Kj ‹_›)))]) (.im (.int (j:Nat))) (.im (.int (xs[j]'(by exact bk (Xw (ZW _)) (Kj ‹_›))))) (by exact(acz _ _).trans ‹_›) (by simp;lia)) λV Y ih=>⟨V,Y,?_⟩;have e1:cy 3 (.int (j:Nat)) (jy q1 I (.own (acc.map .aa)) U z x f g h i)=jy q1 I (.own (acc.map .aa)) (.im (.int (j:Nat))) z x f g h i:=rfl;refine ag acJ (ag G0 ?_);simp only[eJ,e1,H.step acc j _ z hn (by exact bU (xm _ _) ‹_›)];rw[ih,ZH (by exact bk (Xw (ZW _)) (Kj ‹_›):j<xs.length),G0,SF];rfl
theorem L3{xs:List Int}{q1 I x f g h i U V:LV}{G K:St->Option Ou}{R:Rs AV}{m:Nat}{acc:List B}(H:pD xs q1 I x f g h i G)(z:1+m=xs.length\/(m=0/\xs=[]))(hz:acc.length+m<=100)(hK:∀Y Z,bg (Ap K (jy q1 I (.own ((acc++(xs.drop 1).map (pick)).map .aa)) Y Z x f g h i))=R):bg (bu (dU (λa J=>some (cy 3 a J)) G ((aac 1 m).map λj:Nat=>AV.int j) (jy q1 I (.own (acc.map .aa)) U V x f g h i)) K)=R:=by
 refine I7 z ?_ ?_;rotate_left;clear z;clear H hz;rintro rfl rfl;rotate_right;clear z;intro z
 ·exact jY (G7 H m 1 acc U V z hz) λY Z e=>ag e (hK Y Z)
 ·have:=hK U V
  simpa[lV,eJ]using this
theorem pE{q1 z I U x f g h i:LV}{t:St->Rs Bool}{G:St->Option Ou}(Y:Ap t (jy q1 z (.own (([]:List B).map .aa)) I U x f g h i)=some (.ok false))(Z:∀r rs,r.length<=80->rs.length<=100->Ap t (jy q1 z (.own ((r::rs).map .aa)) I U x f g h i)=some (.ok (da r)))(hG:∀r rs,rs.length<=100->Ap G (jy q1 z (.own (((r::rs):List B).map .aa)) I U x f g h i)=some (.next (jy q1 z (.own (rs.map .aa)) I U x f g h i))):∀(rs:List B)(n:Nat),(∀r∈rs,r.length<=80)->rs.length+1<=n->rs.length<=100->f7 t G n (jy q1 z (.own (rs.map .aa)) I U x f g h i)=some (.next (jy q1 z (.own ((pC rs).map .aa)) I U x f g h i))
 |[],n+1,_,_,_=>by rw[ja,show t _=_ from Y];rfl
 |r::rs,n+1,hr,V,hz=>by
  rw[ja,show t _=_ from Z r rs (hr r (by simp)) (by simp at hz;exact Qt ‹_›)];unfold pC;refine ag List.dropWhile_cons ?_;cases hs:da r with
  |false=>rfl
  |true=>
   simp only[jt,if_true,show G _=_ from hG r rs (by simp at hz;exact Qt ‹_›)];exact pE Y Z hG rs n (λx hx=>hr x (AM _ hx)) (by simp at V;assumption) (by simp at hz;exact Qt ‹_›)
 |[],0,_,V,_=>by simp at V
 |_::_,0,_,V,_=>by simp at V
theorem D7{y:Rs AV}{v:AV}(h:y=some (.ok v))(z:v.handed=true):FL y=some (.ok v):=by subst h;exact if_pos z
include P in
theorem L4{ns:List Int}{msg:Option B}(T:sG (textOf (ns.take 10)) hs msg)(hi:ns.length<=63):bz 10 1 x7.f [.lst (ns.map .int)]=some (.ok (.bool true)):=by
 have D8:=DF T.split T.vals;have zI:=LR T.pm T.vals;have hz:=T.size;obtain⟨px,DL,V,_⟩:=T;have hX:∃X,X=textOf (ns.take 10):=⟨_,rfl⟩;refine au hX ?_;clear hX;intro X hX;rw[<-hX]at D8 zI hz px DL;have G8:(ns.take 10).length<=10:=by rw[List.length_take];exact Nat.min_le_left _ _
 refine e6 (jy (.own ((ns.take 10).map .int)) .un .un .un .un .un .un .un .un .un) rfl (iB _ rfl (aj _ rfl (aj _ rfl (aj _ rfl ((GA (by rw[ro];exact bU hi (by decide)) rfl rfl).trans (congrArg (λz=>some (Except.ok z)) ((l9 _ 10).trans List.map_take.symm)))))) rfl) ?_;generalize ns.take 10=sc at hX G8⊢;have R4:(sc.map AV.int).length<=5000:=by rw[ro];exact bU G8 (by decide)
 have L5:(rows0 sc.sum).length<=1:=by unfold rows0;split<;>simp
 refine e6 (jy (.own (sc.map .int)) (.im (.int sc.sum)) .un .un .un .un .un .un .un .un) rfl (iB _ rfl (aj _ (aj _ rfl (aj _ rfl rfl)) (L2 sc)) rfl) (e6 (jy (.own (sc.map .int)) (.im (.int sc.sum)) (.own ((rows0 sc.sum).map .aa)) .un .un .un .un .un .un .un) rfl ?_ ?_)
 ·by_cases h:sc.sum.fmod 11=10
  ·rw[show rows0 sc.sum=[]from if_pos h];exact iB [] rfl (IS (gZ (aj _ (aj _ rfl (aj _ rfl rfl)) rfl) (beq_iff_eq.mpr h)) (by kernel_rfl)) rfl
  ·rw[show rows0 sc.sum=[pB.getD 0 []]from if_neg h];exact iB [.aa (pB.getD 0 [])] rfl (wL (gZ (aj _ (aj _ rfl (aj _ rfl rfl)) rfl) (beq_eq_false_iff_ne.mpr h)) (wK (aj (.aa (pB.getD 0 [])) (aj _ (aj _ rfl qY) (aj _ rfl (D6 (i:=0) (by decide) (by decide)))) (aj _ rfl rfl)) (oC rfl))) rfl
 have lJ:=wN (m:=1) (n:=sc.length) (bU G8 (by decide)) (by decide);have G9:=(ph (xs:=[.int 1,.int ((sc.length:Nat):Int)]) (a:=1) (b:=((sc.length:Nat):Int)) (c:=1) rfl lJ).trans (by rw[pA]);refine US ((aac 1 (sc.length-1)).map λj:Nat=>AV.int j) rfl (UR (xs:=[.int 1,.int (((sc.map AV.int).length:Nat):Int)]) (aj _ rfl (aj _ (aj _ (aj _ (aj _ rfl (aj _ rfl rfl)) (Dp R4)) (aj _ rfl rfl)) rfl)) (by rw[ro];exact G9)) (L3 (xs:=sc) (m:=sc.length-1) (acc:=rows0 sc.sum) ?_ (by clear hX G8 R4 L5 lJ G9;cases sc<;>simp<;>exact Z8 ..) (bU (aa0 L5 (bU (aaB _ _) G8)) (by decide)) (λY U=>?_))
 ·refine pD.of λacc j n U hn km=>?_;have hg:=getInt hn (bU G8 (by decide));refine aX (uI n) λi0 i1=>?_;have gr:=D6 i0 i1;refine iN (jy (.own (sc.map .int)) (.im (.int sc.sum)) (.own (acc.map .aa)) (.im (.int (j:Nat))) (.im (.int n)) .un .un .un .un .un) rfl (iB _ rfl (aj _ rfl (aj _ rfl hg)) rfl) (g_ rfl (Ep (xs:=acc.map .aa) (a:=.aa (pick n)) rfl (aj _ (aj _ rfl qY) (aj (.int (ix n)) ?_ gr)) (by rw[ro];exact bU km (by decide)) (by rw[uy];rfl)));refine g' (Classical.em ((n.fdiv 30).fmod 3<2)) (λh=>?_) λh=>?_
  ·exact IS (gZ (aj _ (aj _ (aj _ rfl (aj _ rfl rfl)) (aj _ rfl rfl)) (aj _ rfl rfl)) (decide_eq_true h)) (aj _ rfl (aj _ rfl (by rw[ix,if_pos h];rfl)))
  ·have e:ix n=D4.getD (n.fmod 8).toNat 0:=by unfold ix;rw[if_neg h]
   have h8:0<=n.fmod 8/\n.fmod 8<8:=by rw[Int.fmod_eq_emod_of_nonneg _ (by decide)];exact z_ n (k:=8) (by decide)
   have gf:fH (.lst ([5,7,9,2,13,12,11,14].map .int)) (.int (n.fmod 8))=some (.ok (.int (ix n))):=by
    refine au (Int.eq_ofNat_of_zero_le h8.1) λj8 WM=>?_;rw[e,WM];have:j8<8:=Int.ofNat_lt.mp (by have:=h8.2;rw[WM]at this;exact this);exact(getL (oC rfl) this).trans (congrArg (λa=>some (Except.ok a)) (WL D4 j8 this))
   exact wL (gZ (aj _ (aj _ (aj _ rfl (aj _ rfl rfl)) (aj _ rfl rfl)) (aj _ rfl rfl)) (decide_eq_false h)) (aj _ (aj _ rfl D3) (aj _ (aj _ rfl (aj _ rfl rfl)) gf))
 have Kw:(rows0 sc.sum++(sc.drop 1).map pick).length<=11:=by simp;exact aa0 L5 (bU (aaB _ _) G8)
 have Mi:∀r∈rows0 sc.sum++(sc.drop 1).map pick,r.length<=80:=λr hr=>by
  refine g' (aar.mp hr) (λh=>?_) λh=>?_
  ·unfold rows0 at h;split at h
   ·cases h
   ·simp only[aan]at h;clear hr;subst h;exact jI (lF 0)
  ·refine ax (ab6.mp h) ?_;clear h;clear hr;rintro n _ rfl;exact jI (lF n)
 have hm:∀(r:B)(rs:List B),rs.length<=100->((r::rs).map AV.aa).length<=5000:=λr rs h=>by rw[ro];exact bU (aa2 h) (by decide)
 refine e6 (jy (.own (sc.map .int)) (.im (.int sc.sum)) (.own ((rowsOf sc).map .aa)) Y U .un .un .un .un .un) rfl (pE (by kernel_rfl) (λr rs h1 h2=>?_) (λr rs h2=>?_) _ 20 Mi (bU (aa2 Kw) (by decide)) (bU Kw (by decide))) ?_
 ·exact ly (Eo rfl (iA (hm r rs h2))) (zy (gZ (aj _ (aj _ (aj _ rfl (aj _ rfl (getL (k:=0) (hm r rs h2) (ZW _)))) (aj _ rfl (aj _ rfl ((pb (bU h1 (by decide)) rfl rfl).trans (congrArg (λz=>some (Except.ok (AV.aa z))) (l9 r 1)))))) rfl) (by unfold da;rfl)))
 ·exact g_ rfl (iB _ rfl (aj _ rfl (aj _ rfl (aj _ rfl ((GA (hm r rs h2) rfl rfl).trans (congrArg (λz=>some (Except.ok z)) (gY _ 1)))))) rfl)
 have QG:(rowsOf sc).length<=11/\∀r∈rowsOf sc,r.length<=80:=by
  unfold rowsOf pC;have tD:=acZ da (l:=rows0 sc.sum++(sc.drop 1).map (pick));exact⟨bU tD.length_le Kw,λr hr=>Mi r (tD.subset hr)⟩
 have U4:(iz 10 (rowsOf sc)).length<=3000:=by
  rw[hX,textOf,nx]at hz;exact bU (xm _ _) hz
 have ej:=lx (a:=[10]) (ps:=rowsOf sc) (by rw[fp];exact bU U4 (by decide));rw[fp]at ej;have Pf:∀j:Nat,j<3->fH (.lst [.aa [10],.aa [],.aa [10,10,98,111,100,121,10]]) (.int (j:Nat))=some (.ok (.aa (ends.getD j []))):=λj hj=>
  match j,hj with|0,_=>rfl|1,_=>rfl|2,_=>rfl
 have eX:X=iz 10 (rowsOf sc)++endOf sc:=hX;have EN:=Gz (a:=iz 10 (rowsOf sc)) (b:=endOf sc) (by rw[<-nx,<-eX];exact bU hz (by decide));rw[<-eX]at EN;refine e6 (jy (.own (sc.map .int)) (.im (.int sc.sum)) (.own ((rowsOf sc).map .aa)) Y U (.im (.aa X)) .un .un .un .un) rfl (iB _ rfl (aj _ (zW rfl (aj _ rfl (aj _ rfl rfl)) ej) (aj (.aa (endOf sc)) (aj (.lst [.aa [10],.aa [],.aa [10,10,98,111,100,121,10]]) (by kernel_rfl) ?_) EN)) rfl) ?_
 ·clear Kw Mi QG U4 ej eX EN;clear hX L5 lJ G9;cases sc with
  |nil=>exact aj (.int 0) (wL (by kernel_rfl) rfl) rfl
  |cons n0 WN=>
   have h3:0<=(if n0<0 then-n0 else n0).fmod 3/\(if n0<0 then-n0 else n0).fmod 3<3:=by rw[Int.fmod_eq_emod_of_nonneg _ (by decide)];exact z_ _ (k:=3) (by decide)
   refine au (Int.eq_ofNat_of_zero_le h3.1) λj hj=>?_;have Y5:j<3:=by have:=h3.2;rw[hj]at this;exact Int.ofNat_lt.mp this
   have eE:endOf (n0::WN)=ends.getD j []:=by
    show ends.getD (((if n0<0 then-n0 else n0).fmod 3).toNat) []=_;rw[hj];rfl
   rw[eE];exact aj (.int (j:Nat)) (IS (Eo rfl (iA R4)) (aj _ (aj _ (aj _ (aj _ rfl (aj _ rfl (getInt (xs:=n0::WN) (i:=0) rfl (bU G8 (by decide))))) (aj _ rfl rfl)) rfl) (aj _ rfl (by rw[<-hj];rfl)))) (Pf j Y5)
 generalize Ro:LV.own (sc.map AV.int)=q1;generalize Y6:LV.im (AV.int sc.sum)=Z;generalize NJ:LV.own ((rowsOf sc).map AV.aa)=q3;clear Ro Y6 NJ hX eX EN ej U4 QG Mi Kw G9 lJ L5 R4 G8 Pf;refine e6 (jy q1 Z q3 Y U (.im (.aa X)) (.im (oL (MF hs msg))) .un .un .un) rfl (iB _ rfl (aj _ (aj _ rfl (aj _ rfl rfl)) D8) rfl) ?_;cases hd:MF hs msg with
 |none=>
  rw[hd]at zI;cases zI with
  |no zI=>
  have hf:=yf zI (.err (.ref 44));exact Lv rfl (D0 (jy q1 Z q3 Y U (.im (.aa X)) (.im (oL none)) .un .un .un) (c:=.ref 44) (a:=.bool true) (MB _ rfl (IT rfl (aj _ (aj _ rfl (aj _ rfl rfl)) hf))) (by kernel_rfl) (by kernel_rfl)) rfl
 |some l=>
  rw[hd]at zI;cases zI with
  |ok v r ps A C an cn ex e0 fK QH Y7 Y8 Rm WG zI=>
  subst e0;have hr:=V.Qu;have hf:=yf zI (.ok _ _ _ _ _ _ _ _ _ _ _ _ _ ps (bU (DR QH) (bU (Nat.le_of_succ_le hr) (by decide))));have zL:=D2 (X:=X) (t:=.aa v) (p:=.lst (ps.map .aa)) (a0:=oB A.1) (a1:=oI A.2.1) (a2:=oI A.2.2) (a3:=an) (c0:=oB C.1) (c1:=oI C.2.1) (c2:=oI C.2.2) (c3:=cn) (e:=oB (bE bT ((aw,v)::r)).head?) (g:=dk (bE bK ((aw,v)::r))) (m:=a9 msg) (x:=.lst ex) rfl rfl (qX _) (mR _) (mR _) (qX _) (mR _) (mR _) (qX _) (DY _) (DZ _);have WO:=qZ V (K:=cu) (.inl rfl) Y7;have WQ:=qZ V (K:=bY) (.inr rfl) Y8;have Y9:bz 2 2 dy.f [.aa v,.str pn]=some (.ok .none):=by
   have:=(V.nm (aw,v) (by simp) (.inl rfl)).tree;rw[fK]at this;exact this
  have Y_:∀q∈ps,bz 2 2 dy.f [.aa q,.str wU]=some (.ok .none):=λq hq=>by
   refine aX (D5 QH hq) λh1 h2=>?_;have:=(V.nm (bw,q) (AM _ h1) (.inr rfl)).par;rw[h2]at this;exact this
  have Ip:=DT (an:=an) (cn:=cn) (e:=oB (bE bT ((aw,v)::r)).head?) (g:=dk (bE bK ((aw,v)::r))) (m:=a9 msg) (x:=.lst ex) DL Y9 Y_ (λa t h1 h2=>(WO a t h1 h2).2.1) (λa t h1 h2=>(WQ a t h1 h2).2.2);have zU:=Gm (λP=>DU P (v:=v) (r:=r) (ps:=.lst (ps.map .aa)) (e:=oB (bE bT ((aw,v)::r)).head?) (sgn:=dk (bE bK ((aw,v)::r))) (m:=a9 msg) (λa t h1 h2=>(WO a t h1 h2).1) (λa t h1 h2=>(WQ a t h1 h2).1) (by exact bU (Kt ‹_›) (by decide))) P;have QI:=L1 (t:=.aa v) (p:=.lst (ps.map .aa)) (a0:=oB A.1) (a1:=oI A.2.1) (a2:=oI A.2.2) (a3:=an) (c0:=oB C.1) (c1:=oI C.2.1) (c2:=oI C.2.2) (c3:=cn) (e:=oB (bE bT ((aw,v)::r)).head?) (g:=dk (bE bK ((aw,v)::r))) (m:=a9 msg) (x:=.lst ex) hz;have f9:Ri (.lst [.aa v,.lst (ps.map .aa),oB A.1,oI A.2.1,oI A.2.2,oB C.1,oI C.2.1,oI C.2.2,oB (bE bT ((aw,v)::r)).head?,dk (bE bK ((aw,v)::r)),a9 msg]) (.lst [.aa v,.lst (ps.map .aa),oB A.1,oI A.2.1,oI A.2.2,oB C.1,oI C.2.1,oI C.2.2,oB (bE bT ((aw,v)::r)).head?,dk (bE bK ((aw,v)::r)),a9 msg])=some (.ok (.bool false)):=DX λx hx=>by
   simp only[QX,List.not_mem_nil,or_false]at hx;rcases hx with rfl|rfl|rfl|rfl|rfl|rfl|rfl|rfl|rfl|rfl|rfl
   ·exact gP (lC _)
   ·exact G6 ps
   ·exact gP (wY _)
   ·exact gP (sF _)
   ·exact gP (sF _)
   ·exact gP (wY _)
   ·exact gP (sF _)
   ·exact gP (sF _)
   ·exact gP (wY _)
   ·exact gP (G4 _)
   ·exact gP (G5 _)
  have QJ:eP DM (DN X (.aa v) (.lst (ps.map .aa)) (oB A.1) (oI A.2.1) (oI A.2.2) an (oB C.1) (oI C.2.1) (oI C.2.2) cn (oB (bE bT ((aw,v)::r)).head?) (dk (bE bK ((aw,v)::r))) (a9 msg) (.lst ex) false) "check"=none:=by kernel_rfl
  have KP:eP DM (DN X (.aa v) (.lst (ps.map .aa)) (oB A.1) (oI A.2.1) (oI A.2.2) an (oB C.1) (oI C.2.1) (oI C.2.2) cn (oB (bE bT ((aw,v)::r)).head?) (dk (bE bK ((aw,v)::r))) (a9 msg) (.lst ex) false) "as_raw_string"=none:=by kernel_rfl
  clear zI D8 hd;unfold eW at zL Ip QI hf;generalize DN X (.aa v) (.lst (ps.map .aa)) (oB A.1) (oI A.2.1) (oI A.2.2) an (oB C.1) (oI C.2.1) (oI C.2.2) cn (oB (bE bT ((aw,v)::r)).head?) (dk (bE bK ((aw,v)::r))) (a9 msg) (.lst ex) false=xs at*;generalize DM=ks at*;refine e6 (jy q1 Z q3 Y U (.im (.aa X)) (.im (oL (some [.aa v,.lst (ps.map .aa),oB A.1,oI A.2.1,oI A.2.2,oB C.1,oI C.2.1,oI C.2.2,oB (bE bT ((aw,v)::r)).head?,dk (bE bK ((aw,v)::r)),a9 msg]))) (.im (.obj 501 ks xs)) .un .un) rfl ((D1 (jy q1 Z q3 Y U (.im (.aa X)) (.im (oL (some [.aa v,.lst (ps.map .aa),oB A.1,oI A.2.1,oI A.2.2,oB C.1,oI C.2.1,oI C.2.2,oB (bE bT ((aw,v)::r)).head?,dk (bE bK ((aw,v)::r)),a9 msg]))) (.im (.obj 501 ks xs)) .un .un) (g_ rfl (iB _ rfl (aj _ (aj _ rfl (aj _ rfl rfl)) hf) rfl))).trans rfl) (e6 (jy q1 Z q3 Y U (.im (.aa X)) (.im (oL (some [.aa v,.lst (ps.map .aa),oB A.1,oI A.2.1,oI A.2.2,oB C.1,oI C.2.1,oI C.2.2,oB (bE bT ((aw,v)::r)).head?,dk (bE bK ((aw,v)::r)),a9 msg]))) (.im (.obj 501 ks xs)) .un .un) rfl (jH rfl (gZ (aj _ rfl (aj _ rfl rfl)) rfl) rfl)
   (e6 (jy q1 Z q3 Y U (.im (.aa X)) (.im (oL (some [.aa v,.lst (ps.map .aa),oB A.1,oI A.2.1,oI A.2.2,oB C.1,oI C.2.1,oI C.2.2,oB (bE bT ((aw,v)::r)).head?,dk (bE bK ((aw,v)::r)),a9 msg]))) (.im (.obj 501 ks xs)) (.own [.aa v,.lst (ps.map .aa),oB A.1,oI A.2.1,oI A.2.2]) .un) rfl (iB _ rfl (wK (aj _ (D7 zL.tree rfl) (aj _ (aj _ (D7 zL.par rfl) (aj _ (aj _ (D7 zL.a0 (qX _)) (aj _ (aj _ (D7 zL.a1 (mR _)) (aj _ (aj _ (D7 zL.a2 (mR _)) (aj _ rfl rfl)) rfl)) rfl)) rfl)) rfl)) (oC rfl)) rfl)
   (e6 (jy q1 Z q3 Y U (.im (.aa X)) (.im (oL (some [.aa v,.lst (ps.map .aa),oB A.1,oI A.2.1,oI A.2.2,oB C.1,oI C.2.1,oI C.2.2,oB (bE bT ((aw,v)::r)).head?,dk (bE bK ((aw,v)::r)),a9 msg]))) (.im (.obj 501 ks xs)) (.own [.aa v,.lst (ps.map .aa),oB A.1,oI A.2.1,oI A.2.2,oB C.1,oI C.2.1,oI C.2.2]) .un) rfl (iB _ rfl (aj _ rfl (aj _ (uw (wK (aj _ (D7 zL.c0 (qX _)) (aj _ (aj _ (D7 zL.c1 (mR _)) (aj _ (aj _ (D7 zL.c2 (mR _)) (aj _ rfl rfl)) rfl)) rfl)) (oC rfl))) ((nD _ _).trans (Gy (oC rfl))))) rfl)
   (e6 (jy q1 Z q3 Y U (.im (.aa X)) (.im (oL (some [.aa v,.lst (ps.map .aa),oB A.1,oI A.2.1,oI A.2.2,oB C.1,oI C.2.1,oI C.2.2,oB (bE bT ((aw,v)::r)).head?,dk (bE bK ((aw,v)::r)),a9 msg]))) (.im (.obj 501 ks xs)) (.own [.aa v,.lst (ps.map .aa),oB A.1,oI A.2.1,oI A.2.2,oB C.1,oI C.2.1,oI C.2.2,oB (bE bT ((aw,v)::r)).head?,dk (bE bK ((aw,v)::r)),a9 msg]) .un) rfl (iB _ rfl (aj _ rfl (aj _ (uw (wK (aj _ (D7 zL.e (qX _)) (aj _ (aj _ (D7 zL.g (DY _)) (aj _ (aj _ (D7 zL.m (DZ _)) (aj _ rfl rfl)) rfl)) rfl)) (oC rfl))) ((nD _ _).trans (Gy (oC rfl))))) rfl) ?_))))
  clear zL hf;generalize ([.aa v,.lst (ps.map .aa),oB A.1,oI A.2.1,oI A.2.2,oB C.1,oI C.2.1,oI C.2.2,oB (bE bT ((aw,v)::r)).head?,dk (bE bK ((aw,v)::r)),a9 msg]:List AV)=I at*;generalize hb:(zX A&&zX C&&nf none ((aw,v)::r))=b at Ip zU;have S6:fH (.tup [.lst (((aw,v)::r).map aS),a9 msg]) (.int 0)=some (.ok (.lst (((aw,v)::r).map aS))):=rfl;refine e6 (jy q1 Z q3 Y U (.im (.aa X)) (.im (oL (some I))) (.im (.obj 501 ks xs)) (.own I) .un) rfl (jH rfl (ux (gZ (aj _ rfl (aj _ rfl f9)) rfl) (ux (gZ (aj _ ((if_pos ⟨rfl,KP⟩).trans (aj _ rfl QI)) (aj _ rfl rfl)) (by rw[beq_self_eq_true];rfl)) rfl)) rfl)
   (e6 (jy q1 Z q3 Y U (.im (.aa X)) (.im (oL (some I))) (.im (.obj 501 ks xs)) (.own I) (.im (.bool b))) rfl (iB _ rfl (aj _ (aj _ rfl (aj _ (aj _ (uw (aj _ (aj _ (aj _ (aj _ (aj _ rfl (aj _ rfl rfl)) px) (aj _ rfl S6)) rfl) ((if_pos (ed (by rw[ro];exact bU hr (by decide)))).trans (zK (λk v=>aj _ rfl (aj _ rfl rfl)) _ _)))) (aj _ rfl rfl)) rfl)) zU) rfl) ?_)
  clear hb zU;cases b with
  |true=>exact e6 (jy q1 Z q3 Y U (.im (.aa X)) (.im (oL (some I))) (.im (.obj 501 ks xs)) (.own I) (.im (.bool true))) rfl ((D1 (jy q1 Z q3 Y U (.im (.aa X)) (.im (oL (some I))) (.im (.obj 501 ks xs)) (.own I) (.im (.bool true))) (g_ rfl (iB AV.none rfl ((if_pos ⟨rfl,QJ⟩).trans (aj [] rfl Ip)) rfl))).trans rfl) (Lv rfl (iB _ rfl rfl rfl) rfl)
  |false=>exact Lv rfl (D0 (jy q1 Z q3 Y U (.im (.aa X)) (.im (oL (some I))) (.im (.obj 501 ks xs)) (.own I) (.im (.bool false))) (c:=.ref 44) (a:=.bool true) (MB _ rfl (IT rfl ((if_pos ⟨rfl,QJ⟩).trans (aj _ rfl Ip)))) (by kernel_rfl) (by kernel_rfl)) rfl
end
end
section
set_option backward.match.sparseCases true
section
variable (P:kX)
noncomputable def two:Nat->B|0=>[]|j+1=>two j++[10,116,119,111]
theorem I0:two 0=[]:=rfl
theorem D9:two (j+1)=two j++[10,116,119,111]:=rfl
def row(i:Nat):B:=(pB).getD i []
def zM(b:Bool)(x:Rs AV):Bool:=match b with
 |true=>(match x with|some (.ok a)=>cN a|_=>false)
 |false=>(match x with|some (.error (.ref c))=>c==44|_=>false)
theorem D_{a:AV}(h:cN a=true):a= .none:=by
 cases a with
 |none=>rfl
 |_=>exact(nomatch h)
theorem lG{x:Rs AV}(h:zM b x=true):x=eD b:=by
 cases b
 ·rcases x with _|(c|a)
  ·exact(nomatch h)
  ·cases c with
   |ref c=>refine ag (show c=44 from eq_of_beq h) ?_;rfl
   |_=>exact(nomatch h)
  ·exact(nomatch h)
 ·rcases x with _|(c|a)
  ·exact(nomatch h)
  ·exact(nomatch h)
  ·refine ag (D_ (show cN a=true from h)) ?_;rfl
noncomputable def QK(x:Rs AV):Option AV:=match x with|some (.ok a)=>some a|_=>none
theorem sH{x:Rs AV}{a:AV}(h:QK x=some a):x=some (.ok a):=by
 rcases x with _|(c|b)
 ·exact(nomatch h)
 ·exact(nomatch h)
 ·exact congrArg (λz=>(some (Except.ok z):Rs AV)) (gq h)
noncomputable def G_(a:AV):Option Bool:=match a with| .bool b=>some b|_=>none
theorem sI{a:AV}(h:G_ a=some b):a= .bool b:=by
 cases a with
 |bool c=>exact congrArg AV.bool (gq h)
 |_=>exact(nomatch h)
noncomputable def QL(a:AV):Option B:=match a with| .aa b=>some b|_=>none
theorem Ha{a:AV}{b:B}(h:QL a=some b):a= .aa b:=by
 cases a with
 |aa c=>exact congrArg AV.aa (gq h)
 |_=>exact(nomatch h)
noncomputable def U5(a:AV):Option (List AV):=match a with| .tup l=>some l|_=>none
theorem D'{a:AV}{l:List AV}(h:U5 a=some l):a= .tup l:=by
 cases a with
 |tup c=>exact congrArg AV.tup (gq h)
 |_=>exact(nomatch h)
noncomputable def l2(l:List AV):Option (AV×AV):=match l with|[a,b]=>some (a,b)|_=>none
theorem QM{l:List AV}{q:AV×AV}(h:l2 l=some q):l=[q.1,q.2]:=by
 rcases l with _|⟨a,_|⟨b,_|⟨c,l⟩⟩⟩
 ·exact(nomatch h)
 ·exact(nomatch h)
 ·exact fP (gq h) rfl
 ·exact(nomatch h)
noncomputable def l3(l:List AV):Option (AV×AV×AV):=match l with|[a,b,c]=>some (a,b,c)|_=>none
theorem QN{l:List AV}{q:AV×AV×AV}(h:l3 l=some q):l=[q.1,q.2.1,q.2.2]:=by
 rcases l with _|⟨a,_|⟨b,_|⟨c,_|⟨d,l⟩⟩⟩⟩
 ·exact(nomatch h)
 ·exact(nomatch h)
 ·exact(nomatch h)
 ·exact fP (gq h) rfl
 ·exact(nomatch h)
theorem jz{o:Option α}{f:α->Option β}{r:β}(h:o.bind f=some r):∃a,o=some a/\f a=some r:=by
 cases o with
 |none=>exact(nomatch h)
 |some a=>exact⟨a,rfl,h⟩
def I3(v:B):Bool:=(((QK (bz 1 1 lr.f [.aa v])).bind G_).bind λb=>some (zM b (bz 2 2 dy.f [.aa v,.str pn])&&zM b (bz 2 2 dy.f [.aa v,.str wU]))).getD false
theorem pF{o:Option Bool}(h:o.getD false=true):o=some true:=by
 cases o with
 |none=>exact(nomatch h)
 |some b=>exact congrArg some h
theorem Ea{v:B}(h:I3 v=true):GJ v:=by
 refine ax (jz (pF h)) λb h1 h2=>ax (jz h1) λa h3 h4=>?_;have hb:=sH h3;rw[sI h4]at hb;refine aX (aad.mp (gq h2)) λz I=>?_;have e:nm v=b:=by unfold nm;refine ag hb ?_;rfl
 clear h1 h2 h4;subst e;exact⟨hb,lG z,lG I⟩
def Eb(a:B):Bool:=(((QK (bz 2 1 dz.f [.aa a])).bind G_).bind λb=>some (zM b (bz 4 2 dA.f [.aa a,.str wV])&&zM b (bz 4 2 dA.f [.aa a,.str wW]))).getD false
theorem Ec{a:B}(h:Eb a=true):bz 2 1 dz.f [.aa a]=some (.ok (.bool (nd a)))/\bz 4 2 dA.f [.aa a,.str wV]=eD (nd a)/\bz 4 2 dA.f [.aa a,.str wW]=eD (nd a):=by
 refine ax (jz (pF h)) λb h1 h2=>ax (jz h1) λx h3 h4=>?_;have hb:=sH h3;rw[sI h4]at hb;refine aX (aad.mp (gq h2)) λz I=>?_;have e:nd a=b:=by unfold nd;refine ag hb ?_;rfl
 clear h1 h2 h4;subst e;exact⟨hb,lG z,lG I⟩
def L6(a:AV):Option (B×Option Int×AV):=(U5 a).bind λl=>(l3 l).bind λq=>(QL q.1).bind λb=>(LF q.2.1).bind λt=>some (b,t,q.2.2)
theorem yj{a:AV}{r:B×Option Int×AV}(h:L6 a=some r):a= .tup [.aa r.1,oI r.2.1,r.2.2]:=by
 exact ax (jz h) λl h1 h=>ax (jz h) λq h2 h=>ax (jz h) λb h3 h=>ax (jz h) λt h4 h=>ag (D' h1) (ag (QN h2) (ag (Ha h3) (ag (wR h4) (fP (gq h) rfl))))
def I4(v:B):Bool:=((QK (bz 6 1 fo.f [.aa v])).bind λs=>if cN s then some (zM false (bz 10 1 lq.f [.aa v]))else
 (L6 s).bind λx=>(LF x.2.2).bind λz=>(QK (bz 10 1 lq.f [.aa v])).bind λy=>(L6 y).bind λy=>(U5 y.2.2).bind λl=>(l2 l).bind λq=>(LF q.1).bind λI=>(G_ q.2).bind λZ=>
  some (x.1==y.1&&(x.2.1==y.2.1&&(z==I&&(x.2.1.isNone||Eb x.1))))).getD false
theorem QO{v a:B}{t z:Option Int}{n:Bool}(k1:bz 6 1 fo.f [.aa v]=some (.ok (.tup [.aa a,oI t,oI z])))(k2:bz 10 1 lq.f [.aa v]=some (.ok (.tup [.aa a,oI t,.tup [oI z,.bool n]])))(g:(t.isNone||Eb a)=true):uE v:=by
 have e:sg v=some (a,t,z):=by unfold sg;refine ag k1 ?_;clear k1 k2 g;cases t<;>cases z<;>rfl
 unfold uE;refine ag e (⟨k1,⟨n,k2⟩,λhs=>?_⟩);clear e;cases t with
 |none=>exfalso;cases hs
 |some t=>exact Ec g
theorem Ed{v:B}(h:I4 v=true):uE v:=by
 refine ax (jz (pF h)) λs h1 h=>?_;have hs:=sH h1;cases I:cN s with
 |true=>
  rw[if_pos I]at h;rw[D_ I]at hs;have e:sg v=none:=by unfold sg;refine ag hs ?_;rfl
  unfold uE;exact ag e (⟨hs,lG (gq h)⟩)
 |false=>
  rw[if_neg (by refine ag I ?_;exact BA)]at h;refine ax (jz h) λx U h=>ax (jz h) λz hz h=>ax (jz h) λy V h=>ax (jz h) λy2 Y h=>ax (jz h) λl Z h=>ax (jz h) λq hq h=>ax (jz h) λz' j1 h=>ax (jz h) λn Hj h=>aX (aad.mp (gq h)) λg1 g=>aX (aad.mp g) λg2 g=>aX (aad.mp g) λg3 g=>?_;have k1:bz 6 1 fo.f [.aa v]=some (.ok (.tup [.aa x.1,oI x.2.1,oI z])):=by exact ag hs (ag (yj U) (ag (wR hz) rfl))
  have k2:bz 10 1 lq.f [.aa v]=some (.ok (.tup [.aa x.1,oI x.2.1,.tup [oI z,.bool n]])):=by exact ag (sH V) (ag (yj Y) (ag (D' Z) (ag (QM hq) (ag (wR j1) (ag (sI Hj) (ag (eq_of_beq g1) (ag (eq_of_beq g2) (ag (eq_of_beq g3) rfl))))))))
  exact QO k1 k2 g
def a8(i:Nat):Bool:=(!(key (row i)==aw||key (row i)==bw)||(ZK 10).all λj=>I3 (base (row i)++two j))&&
 (!(key (row i)==cu||key (row i)==bY)||(ZK 10).all λj=>I4 (base (row i)++two j))
theorem Za:a8 0=true:=by kernel_rfl
theorem Zb:a8 1=true:=by kernel_rfl
theorem Zc:a8 2=true:=by kernel_rfl
theorem Zd:a8 3=true:=by kernel_rfl
theorem Ze:a8 4=true:=by kernel_rfl
theorem Zf:a8 5=true:=by kernel_rfl
theorem Zg:a8 6=true:=by kernel_rfl
theorem Zh:a8 7=true:=by kernel_rfl
theorem Zi:a8 8=true:=by kernel_rfl
theorem Zj:a8 9=true:=by kernel_rfl
theorem U6:a8 10=true:=by kernel_rfl
theorem U7:a8 11=true:=by kernel_rfl
theorem U8:a8 12=true:=by kernel_rfl
theorem U9:a8 13=true:=by kernel_rfl
theorem U_:a8 14=true:=by kernel_rfl
theorem U':a8 15=true:=by kernel_rfl
theorem Va:a8 16=true:=by kernel_rfl
theorem Vb:a8 17=true:=by kernel_rfl
theorem Vc:a8 18=true:=by kernel_rfl
theorem Vd:a8 19=true:=by kernel_rfl
theorem Ve:a8 20=true:=by kernel_rfl
theorem Vf:a8 21=true:=by kernel_rfl
theorem Vg:a8 22=true:=by kernel_rfl
theorem Vh:a8 23=true:=by kernel_rfl
theorem Vi:a8 24=true:=by kernel_rfl
theorem Vj:a8 25=true:=by kernel_rfl
theorem Vk:a8 26=true:=by kernel_rfl
theorem Vl:a8 27=true:=by kernel_rfl
theorem Vm:a8 28=true:=by kernel_rfl
theorem Vn:a8 29=true:=by kernel_rfl
theorem yl(h:i<30):a8 i=true:=by
 match i,h with
 |0,_=>exact Za
 |1,_=>exact Zb
 |2,_=>exact Zc
 |3,_=>exact Zd
 |4,_=>exact Ze
 |5,_=>exact Zf
 |6,_=>exact Zg
 |7,_=>exact Zh
 |8,_=>exact Zi
 |9,_=>exact Zj
 |10,_=>exact U6
 |11,_=>exact U7
 |12,_=>exact U8
 |13,_=>exact U9
 |14,_=>exact U_
 |15,_=>exact U'
 |16,_=>exact Va
 |17,_=>exact Vb
 |18,_=>exact Vc
 |19,_=>exact Vd
 |20,_=>exact Ve
 |21,_=>exact Vf
 |22,_=>exact Vg
 |23,_=>exact Vh
 |24,_=>exact Vi
 |25,_=>exact Vj
 |26,_=>exact Vk
 |27,_=>exact Vl
 |28,_=>exact Vm
 |29,_=>exact Vn
 |n+30,h=>exact absurd h (by lia)
def uJ(i:Nat):Bool:= !(row i).contains 10&&((row i).isEmpty||(if da (row i)then row i==[32,116,119,111]else(row i).contains 32))
theorem zN:(ZK 30).all (uJ)=true:=by kernel_rfl
theorem shape(I:i<30):10∉row i/\(row i≠[]->(da (row i)=true->row i=[32,116,119,111])/\(da (row i)=false->32∈row i)):=by
 have h:=Y'.mp (zN) i (ZO.mpr I);unfold uJ at h;simp only[v3,aaT,ac4]at h;refine⟨by simpa using h.1,λz=>⟨λhs=>?_,λhs=>?_⟩⟩
 ·refine g' h.2 (λh2=>?_) λh2=>?_
  ·exact absurd (abL.mp h2) z
  ·rw[if_pos hs]at h2;simpa using h2
 ·refine g' h.2 (λh2=>?_) λh2=>?_
  ·exact absurd (abL.mp h2) z
  ·rw[hs]at h2;simpa using h2
theorem nF{r:B}(h:r∈pB):∃i,i<30/\r=row i:=by
 refine au (List.mem_iff_getElem.mp h) λi y=>au y ?_;clear y;rintro z rfl;have I:=lE;exact⟨i,by lia,by unfold row;refine ag (ra) (ag (AL z) ?_);rfl⟩
theorem Hb(h:i<30):row i∈pB:=by
 have z:=lE;unfold row;refine ag (ra) (ag (AL (by lia)) ?_);exact aa4 _
def Ew(w:Bool):Nat->List B->Prop
 |_,[]=>True
 |n,l::ls=>(l=[]->gD w ls=[10])/\(l≠[]->∃i m,i<30/\l=row i/\n=m+1/\Ew w m ls)
theorem q0:Ew w n []=True:=rfl
theorem q7:Ew w n (l::ls)=((l=[]->gD w ls=[10])/\(l≠[]->∃i m,i<30/\l=row i/\n=m+1/\Ew w m ls)):=rfl
theorem I5{w:Bool}:∀{ls:List B}{n:Nat},Ew w n ls->Er w ls:=by
 intro ls
 induction ls with
 |nil=>
  intro _ _;exact trivial
 |cons l ls IH=>
  intro n h;simp only[q0,q7]at h;simp only[Qp,Dw];by_cases I:l=[]
  ·exact⟨by simp[I],h.1,λz=>absurd I z⟩
  ·refine bF (h.2 I) ?_;rintro i m V rfl rfl Y;refine aX (shape V) λs1 U=>⟨s1,h.1,λz=>⟨λhs=>by refine ag ((U z).1 hs) ?_;decide,(U z).2,IH Y⟩⟩
def HV(p:B×B):Prop:=∃i j,i<30/\j<10/\p=(key (row i),base (row i)++two j)
theorem Hc(w:Bool):∀(ls:List B)(n:Nat)(cur:Option (B×B)),Ew w n ls->((cur=none/\n<=10)\/∃i j,i<30/\j+n<10/\cur=some (key (row i),base (row i)++two j))->∀p∈(pp w cur ls).1,HV p:=by
 intro ls
 induction ls with
 |nil=>
  intro n cur _ I p z;simp only[Qo,GC]at z;refine QR I ?_ ?_;rotate_left;clear I;rintro i j U V rfl;rotate_right;clear I;rintro rfl _
  ·exfalso;cases z
  ·simp only[Option.toList,aan]at z;exact⟨i,j,U,by lia,z⟩
 |cons l ls IH=>
  intro n cur Y I p z;have Z:∀p∈cur.toList,HV p:=λp z=>by
   refine QR I ?_ ?_;rotate_left;clear I;rintro i j U V rfl;rotate_right;clear I;rintro rfl _
   ·exfalso;cases z
   ·simp only[Option.toList,aan]at z;exact⟨i,j,U,by lia,z⟩
  rw[GC]at z;simp only[q0,q7]at Y;split at z
  ·exact Z p z
  ·rename_i hl;refine bF (Y.2 hl) ?_;clear Y;rintro i m U rfl rfl WR;split at z
   ·rename_i hs;have e:=((shape U).2 hl).1 hs;refine IH m _ WR ?_ p z;refine QR I ?_ ?_;rotate_left;clear I;clear Z z;rintro i' j OZ V rfl;rotate_right;clear I;rintro rfl h
    ·exact .inl ⟨rfl,by lia⟩
    ·exact .inr ⟨i',j+1,OZ,by lia,by refine ag e ?_;simp[I0,D9]⟩
   ·rename_i hs;refine g' (aar.mp z) (λz=>?_) λz=>?_
    ·exact Z p z
    ·refine IH m _ WR (.inr ⟨i,0,U,?_,by simp[I0,D9]⟩) p z
     (refine QR I ?_ ?_;rotate_left;clear I;rintro i' j OZ V rfl;rotate_right;clear I;rintro rfl h)<;>lia
theorem L7(w:Bool):∀(ls:List B)(cur:Option (B×B)),(pp w cur ls).1.length<=cur.toList.length+ls.length:=by
 intro ls
 induction ls with
 |nil=>
  intro cur;simp[Qo,GC]
 |cons l ls z=>
  intro cur;rw[GC];split
  ·simp
  ·split
   ·have:=z (cur.map λp=>(p.1,p.2++10::l.drop 1));cases cur<;>simp at this⊢<;>lia
   ·have:=z (some (key l,base l));simp at this⊢;lia
theorem ym:∀j,(two j).length=4*j
 |0=>rfl
 |j+1=>by rw[D9,nx,ym j];simp;lia
theorem L8{p:B×B}(h:HV p):p.2.length<=120:=by
 refine bV h ?_;clear h;rintro i j z I rfl;have:=jI (Hb z);have h2:=ym j;show(base (row i)++two j).length<=120;unfold base;refine ag nx (ag acM ?_);exact(aa0 (bU (aaB _ _) this) (bU (Kj h2) (aa8 4 (Kt I))):_<=80+4*10)
theorem Ee(f:α->Nat)(c:Nat):∀(xs:List α),(∀x∈xs,f x<=c)->(xs.map f).sum<=c*xs.length:=by
 intro xs
 induction xs with
 |nil=>
  intro _;simp
 |cons x xs z=>
  intro h;have h1:=h x (by simp);have h2:=z λy I=>h y (AM _ I);rw[G0,adt,CV,Nat.mul_succ];lia
theorem Hd(Z:hs.length<=19)(h:∀p∈hs,HV p):Vals hs:=by
 refine⟨Z,?_,λp U I=>?_,λp U I=>?_⟩
 ·have:=Ee (λp:B×B=>p.2.length+1) 121 hs λp U=>by have:=L8 (h p U);lia
  lia
 ·refine bV (h p U) ?_;rintro i j V Y rfl;have z:=yl V;unfold a8 at z;simp only[v3,ac4,aaT,adi]at z;refine g' z.1 (λz=>?_) λz=>?_
  ·simp only[beq_eq_false_iff_ne]at z;refine g' I (λI=>?_) λI=>?_
   ·exact absurd I z.1
   ·exact absurd I z.2
  ·exact Ea (Y'.mp z j (ZO.mpr Y))
 ·refine bV (h p U) ?_;rintro i j V Y rfl;have z:=yl V;unfold a8 at z;simp only[v3,ac4,aaT,adi]at z;refine g' z.2 (λz=>?_) λz=>?_
  ·simp only[beq_eq_false_iff_ne]at z;refine g' I (λI=>?_) λI=>?_
   ·exact absurd I z.1
   ·exact absurd I z.2
  ·exact Ed (Y'.mp z j (ZO.mpr Y))
theorem zO{w:Bool}{ls:List B}(U:n<=10)(z:Ew w n ls)(V:ls.length<=15)(iJ:∀l∈ls,10∉l)(hw:w=false->∃us u,ls=us++[u]/\u≠[])(I:(TT w ls).length<=3000):sG (TT w ls) (pp w none ls).1 (pp w none ls).2:=
 ⟨zD w (by lia) I (I5 z) iJ hw,zA w (by lia) I (I5 z),
  Hd (by have:=L7 w ls none;simp at this;lia) (Hc w ls n none z (.inl ⟨rfl,U⟩)),I⟩
theorem uK(rest:List B)(I:rest=[]\/∃t,rest=[]::t):∀(z:List B)(n:Nat),(∀r∈z,r∈pB)->z.length<=n->Ew true n (z++rest):=by
 intro z
 induction z with
 |nil=>
  intro n _ _;refine QQ I ?_ ?_;rotate_left;clear I;rintro t rfl;rotate_right;clear I;rintro rfl
  ·trivial
  ·simp only[Z4,q0,q7];exact⟨λZ=>rfl,λh=>absurd rfl h⟩
 |cons r z IH=>
  intro n h U;simp only[Xm,q0,q7];refine⟨λZ=>rfl,λZ=>?_⟩;refine ax (nF (h r (by simp))) λi V e=>?_;obtain⟨m,rfl⟩:∃m,n=m+1:=⟨n-1,(abl (bU (ab0 1 _) U)).symm⟩;exact⟨i,m,V,e,rfl,IH m (λx Y=>h x (AM _ Y)) (by simp at U;lia)⟩
theorem QP{u:B}(Y:u≠[]):∀(z:List B)(n:Nat),(∀r∈z++[u],r∈pB)->z.length+1<=n->Ew false n (z++[u]):=by
 intro z
 induction z with
 |nil=>
  intro n h I;simp only[Z4,q0,q7];refine ax (nF (h u (by simp))) λi U e=>?_;obtain⟨m,rfl⟩:∃m,n=m+1:=⟨n-1,by simp at I;lia⟩;exact⟨λe=>absurd e Y,λZ=>⟨i,m,U,e,rfl,trivial⟩⟩
 |cons r z IH=>
  intro n h I;simp only[Xm,q0,q7];refine⟨λZ=>by simp[gD],λZ=>?_⟩;refine ax (nF (h r (by simp))) λi U e=>?_;obtain⟨m,rfl⟩:∃m,n=m+1:=⟨n-1,by simp at I;lia⟩;exact⟨i,m,U,e,rfl,IH m (λx V=>h x (by simp at V⊢;exact .inr V)) (by simp at I;lia)⟩
theorem zP{z:List B}(h:∀r∈z,r∈pB)(I:z.length<=10):(iz 10 z).length<=820:=by
 have h1:=nC 10 z;have h2:=Ee ZL 80 z λr U=>jI (h r U);exact ag h1 (bU (aa0 (bU h2 (aa8 80 I)) (bU (aaB _ _) I)) (by decide))
theorem He{z e:List B}(Y:∀r∈z,r∈pB)(U:z.length<=10)(he:X=iz 10 z++[10]\/X=iz 10 z\/X=iz 10 z++[10,10,98,111,100,121,10]):∃hs msg,sG X hs msg:=by
 have hz:=zP Y U;have iJ:∀r∈z,10∉r:=λr h=>by refine ax (nF (Y r h)) ?_;clear h;rintro i hi rfl;exact(shape hi).1
 have I:∀(w:Bool)(ls:List B)(n:Nat),X=TT w ls->n<=10->Ew w n ls->ls.length<=15->(∀l∈ls,10∉l)->(w=false->∃V u,ls=V++[u]/\u≠[])->∃hs msg,sG X hs msg:=λw ls n e h1 h2 h3 h4 h5=>by
  refine⟨_,_,e▸zO h1 h2 h3 h4 h5 ?_⟩;refine fP e ?_;rcases he with h|h|h
  ·refine ag h ?_;simp;lia
  ·refine ag h ?_;lia
  ·refine ag h ?_;simp;lia
 by_cases hn:z=[]
 ·clear Y U hz iJ;subst hn;rcases he with rfl|rfl|rfl
  ·exact I true [[]] 10 rfl (t_ _) (uK [[]] (.inr ⟨_,rfl⟩) [] 10 (λZ h=>nomatch h) (Z2 _)) (oC rfl) (by decide) (λh=>nomatch h)
  ·exact I true [] 10 rfl (t_ _) trivial (Z2 _) (λZ h=>nomatch h) (λh=>nomatch h)
  ·exact I true [[],[],[98,111,100,121]] 10 rfl (t_ _) (uK _ (.inr ⟨_,rfl⟩) [] 10 (λZ h=>nomatch h) (Z2 _)) (oC rfl) (by decide) (λh=>nomatch h)
 ·rcases he with rfl|rfl|rfl
  ·refine I true z 10 ?_ (t_ _) (by simpa using uK [] (.inl rfl) z 10 Y U) (bU U (by decide)) iJ (λh=>nomatch h);rw[jw];simp[hn]
  ·refine Vr (ac7 z) (λh=>?_) λV u h=>?_
   ·exact absurd h hn
   ·have h:z=V++[u]:=by simpa using h
    clear hn;subst h;by_cases hu:u=[]
    ·subst hu;refine I true V 10 ?_ (t_ _) (by simpa using uK [] (.inl rfl) V 10 (λr h=>Y r (by simp[h])) (by simp at U;lia)) (by simp at U;lia) (λr h=>iJ r (by simp[h])) (λh=>nomatch h);rw[ya];simp
    ·refine I false (V++[u]) 10 ?_ (t_ _) (QP hu V 10 Y (by simpa using U)) (bU U (by decide)) iJ (λZ=>⟨V,u,rfl,hu⟩);rw[jw];simp
  ·refine I true (z++[[],[98,111,100,121]]) 10 ?_ (t_ _) (uK _ (.inr ⟨_,rfl⟩) z 10 Y U) (by refine ag nx ?_;exact bU (X1 U 2) (by decide)) (λr h=>?_) (λh=>nomatch h)
   ·rw[jw];have e1:z++[[],[98,111,100,121]]=(z++[[]])++[[98,111,100,121]]:=by simp
    rw[e1,lu 10 (by simp),lu 10 hn];simp
   ·refine g' (aar.mp h) (λh=>?_) λh=>?_
    ·exact iJ r h
    ·simp only[QX,List.not_mem_nil,or_false]at h
     (refine g' h ?_ ?_;rotate_left;clear h;rintro rfl;rotate_right;clear h;rintro rfl)<;>decide
include P in
theorem Hf{ns:List Int}(V:ns.length<=63):bz 10 1 x7.f [.lst (ns.map .int)]=some (.ok (.bool true)):=by
 have I:((rowsOf (ns.take 10))).length<=10/\∀r∈rowsOf (ns.take 10),r∈pB:=by
  have iJ:(ns.take 10).length<=10:=by simp;lia
  generalize ns.take 10=sc at iJ;have Y:(rows0 sc.sum).length<=1/\∀r∈rows0 sc.sum,r∈pB:=by
   unfold rows0;split
   ·exact⟨by simp,by simp⟩
   ·exact⟨by simp,λr h=>by simp only[aan]at h;subst h;exact lF 0⟩
  unfold rowsOf pC;generalize rows0 sc.sum=Z at*;have z:=acZ da (l:=Z++(sc.drop 1).map (pick));refine⟨bU z.length_le (by clear z;cases sc<;>simp at iJ⊢<;>lia),λr U=>?_⟩
  refine g' (aar.mp (z.subset U)) (λh=>?_) λh=>?_
  ·exact Y.2 r h
  ·refine ax (ab6.mp h) ?_;clear U h;rintro n _ rfl;exact lF n
 refine jY (He (X:=textOf (ns.take 10)) (e:=[]) I.2 I.1 (by
  unfold textOf endOf;cases ns.take 10 with
  |nil=>exact .inl rfl
  |cons s t=>
   have:∀j:Nat,ends.getD j []=[10]\/ends.getD j []=[]\/ends.getD j []=[10,10,98,111,100,121,10]:=λj=>match j with|0=>.inl rfl|1=>.inr (.inl rfl)|2=>.inr (.inr rfl)|_+3=>.inr (.inl rfl)
   rcases this (((if s<0 then-s else s).fmod 3).toNat)with h|h|h
   ·exact .inl (by exact fP h rfl)
   ·exact .inr (.inl (by show _++ends.getD _ []=_;rw[h,X5]))
   ·exact .inr (.inr (by exact fP h rfl)))) λhs msg T=>?_
 exact L4 P T V
end
end
section
open PySem.W.X
set_option backward.eqns.nonrecursive true
set_option backward.match.sparseCases true
theorem last:lw.Holds:=JU (entry (λP W G=>PU G) λP ns h=>Hf P h)
end
end
end Mine.Internal
theorem PySem.Challenge.cw_iy0012_03_holds : PySem.Challenge.rw_iy0012_03.Holds :=
 Mine.Internal.last
