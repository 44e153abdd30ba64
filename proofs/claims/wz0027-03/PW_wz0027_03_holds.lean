import PyProof.Rows.All
import KE.KItemsList
import KE.KxPercentT
import OpenK.KOwn
import Lean
import PySem.Challenge.RW_wz0027_03
set_option linter.all false
set_option Elab.async false
set_option maxRecDepth 100000
set_option compiler.extract_closed false
open PySem.Str renaming ofString->Mi,casesOn->agy,cps_append->ag2,append_right_empty->aka,length->akk,append_left_empty->akq,join->ala
open Nat renaming le_trans->abj,le_of_ble_eq_true->abk,le_refl->abm,lt_of_lt_of_le->aby,le_add_left->abz,le_add_right->ab0,le_of_eq->ab2,add_le_add_right->ab8,succ_add_eq_add_succ->ab9,le_succ->acg,lt_of_le_of_lt->acj,add_le_add_left->acs,mul_le_mul_left->acu,casesAuxOn->acw,le_of_lt->ac1,zero_le->ac4,succ_le_succ->adc,le_succ_of_le->adk,add_le_add->adt,le_of_succ_le->adz,succ_pos->ad0,ne_of_lt->aeb,lt_succ_self->aej,le_add_right_of_le->aek,not_lt->aem,le_of_not_lt->aes,not_le_of_lt->aeu,lt_add_of_pos_right->aew,ne_of_beq_eq_false->ae2,not_lt_of_le->ae5,zero_add->ae7,le_of_add_right_le->afi,add_right_comm->afp,lt_of_le_of_ne->aft,min_le_left->af1,lt_succ_of_lt->af8,min_self->af9,min_le_right->agi,exists_eq_add_of_le->agk,sub_eq_zero_of_le->ags,le_of_lt_succ->agu,mul_le_mul_right->ag0,succ_ne_zero->ag4,lt_trans->ag5,lt_irrefl->ahj,ne_of_gt->ahz,add_comm->ah0,add_zero->ah7,eq_zero_of_le_zero->ah8,sub_ne_zero_of_lt->aie,lt_of_not_le->aik,add_assoc->ain,sub_le_sub_right->aip,strongRecOn->ait,sub_lt_sub_left->aiy,add_sub_cancel'->aiz,sub_le->aje,lt_of_lt_of_eq->ajj,lt_of_succ_lt->ajq,beq->ajr,sub_pos_of_lt->ajv,lt_of_add_right_lt->ake,sub_zero->akg,sub_le_iff_le_add'->akj,one_le_iff_ne_zero->akl,min_eq_left->ako,le_of_sub_eq_zero->aks,add_lt_of_lt_sub'->aku,one_lt_succ_succ->ak5,pos_of_ne_zero->al7,sub_add_cancel->amd,ne_zero_of_lt->amh,lt_succ_of_le->amo,add_sub_assoc->ams,ble->anq,ne_add_one->an1,not_le->an2,sub_succ->aot,succ_add->aou,sub_self->ao0
open List renaming mem_cons_of_mem->abl,casesOn->abn,mem_cons_self->abq,getElem?_eq_getElem->abu,getElem?_eq_some_iff->abw,mem_cons->abx,map_cons->ab3,mem_singleton_self->ab5,all_eq_true->ab7,foldl_cons->acd,mem_singleton->ace,size_toArray->aci,mem_of_getElem?->acq,length_cons->acv,length_map->acx,mem_map->ac0,prefix_rfl->ac2,getElem_of_mem->ac5,append_cancel_right->ac8,append_assoc->adb,not_mem_nil->adh,take_of_length_le->adm,replicate->adn,length_eq_zero_iff->adp,isPrefixOf->adq,cons_append->adu,append_nil->adv,getElem?_map->ady,drop_eq_nil_iff->ad5,nodup_cons->ad8,mem_append->ad9,set_append_right->aea,getD_eq_getElem?_getD->aee,nil_append->aeg,length_take->aeh,map_map->aei,getElem?_append_left->ael,filterMap_cons->ae4,length_drop->ae6,zipWith->ae8,mem_of_mem_take->ae9,filter_cons_of_pos->afb,filter_cons_of_neg->afc,mem_filter->afe,findSome?_cons->afh,cons_ne_nil->afo,length_append->afs,foldl_nil->afu,length_filter_le->afw,getElem?_zip_eq_some->afy,of_mem_zip->af0,head?_drop->af2,length_zip->af3,map_append->af4,nodup_append->af6,any_eq_false->aga,flatMap_cons->agb,all_cons->age,tail_drop->agj,forIn_cons->agl,length_nil->agn,getElem?_zipWith->agr,contains_iff_mem->agt,find?_append->agw,forIn_nil->agx,isEmpty_iff->ag7,flatMap_nil->ag8,any_eq_true->ag9,map_nil->aha,drop_eq_getElem_cons->ahc,getElem?_eq_none_iff->ahd,getLast?_eq_getElem?->ahe,mem_or_eq_of_mem_set->ahf,append_toArray->ahh,mem_of_elem_eq_true->ahn,zip_cons_cons->ahp,mem_filterMap->ahq,toArray->ahy,foldl_append->aia,set_getElem_self->aif,perm_append_comm->aih,getElem_inj->aii,mem_append_left->air,find?_cons->ais,getElem?_range->aix,filter_eq_self->ai0,getElem?_concat_length->ai1,tail->ai3,prefix_append->ai4,getElem?_append_right->ai5,nodup_nil->ai7,range->ai9,contains_cons->ajd,drop_zero->ajf,isPrefixOf_iff_prefix->aji,mem_of_find?_eq_some->ajn,getLastD_eq_getLast?->ajo,getElem_take->aju,any_cons->ajx,lookup_cons->aj1,lookup_eq_none_iff->aj2,reverse_nil->aj6,getElem_mem->aj8,getElem?_set_self->aj9,head?->akc,drop_eq_nil_of_le->akh,forall_mem_append->akm,mem_of_mem_head?->akp,take_append_drop->akt,singleton_append->akx,getElem?_set_ne->akz,lookup->alc,reverse_reverse->ald,getLastD_concat->ale,contains_eq_mem->alh,take_succ_cons->aln,length_zipWith->alq,flatMap_append->als,replicate_succ->alu,drop_succ_cons->alv,sum_cons->aly,map_take->al0,filter_append->amb,find?_eq_none->amc,push_toArray->ami,take_sublist->amn,map->amq,getElem_drop->amr,flatten_cons->amt,length_range->amv,filter_congr->amw,find?_isSome->amx,map_fst_zip->am0,take_append->am2,zipIdx_cons->am4,zipIdx_nil->anj,head?_cons->anm,find?_some->ano,drop_drop->an3,take_zero->an7,foldl_map->an8,map_drop->aoi,extract->aoy,length->apd,range'->apg
open Bool renaming and_eq_true_iff->abo,and_eq_true->ab1,false_ne_true->acb,casesOn->aco,false_eq_true->acp,not_eq_true'->ac7,or_eq_true->aef,or_false->afm,eq_iff_iff->agp,and_true->ahk,false_and->ah4,true_and->aim,and_false->ak7,or_eq_false_iff->alb,false_or->aod
open PySem.PyData renaming keyHash->abp,strOk->acy,eqv->al1
open PySem.Heap renaming get?_push_of_some->abr,get?_push_size->ab4,lt_size->ado,size_push->adw,SameBut->ae0,get?_update_other->afk,ExtBut->ahv,get?_update_self->aid,MadeExcOf->ak4,FlyingW->aor,MadeExc->aos,IsTuple->aov
open Option renaming casesOn->abt,isSome_iff_exists->acz,bind_eq_some_iff->adi,map_eq_some_iff->adl,getD_some->aet,isSome_none->afq,isSome_some->ajc,bind_some->aj7,map_eq_none_iff->aki,map_some->akn,getD_none->amy,elim_some->am8
open PySem renaming Spec->abv,KeyKind->aep,call->agd,Builtin->ahm,Ctx->aoj
open PySem.Challenge renaming rw_wz0027_03->ab6
open Int renaming sign_eq_one_iff_pos->aca,fmod_nonneg_of_pos->acf,fmod_lt_of_pos->ack,le_trans->acr,ofNat_le->ac9,natCast_nonneg->adg,lt_of_le_of_lt->ad1,lt_of_lt_of_le->aer,le_of_lt->afl,not_lt->afr,ofNat_lt->af5,lt_add_one_of_le->agc,toNat_of_nonneg->agg,toNat_lt->ag6,fmod_two_eq->aho,eq_ofNat_of_zero_le->ahu,le_of_eq->ah9,sub_nonneg_of_le->aiq,fdiv_eq_ediv_of_nonneg->ajk,not_ofNat_neg->ajs,toNat_natCast->ajw,neg_nonpos_of_nonneg->aj0,natAbs_of_nonneg->aky,le_of_sub_nonneg->ak1,add_le_add_right->alf,le_of_lt_add_one->alg,ediv_le_self->am7,le_refl->am9,min_eq_left->ane,fdiv_nonneg->anp,neg_le_neg->anw,add_nonneg->an6,add_assoc->aoc,lt_trans->aom,zero_add->aox,ne_of_gt->ao1,sub_neg->apa
open Eq renaming symm->ach
open PySem.Builtin.Range renaming rangeSize->acl,small->aeo
open Option.some renaming inj->acn,injEq->ae1
open Exists renaming elim->ac3
open PySem.Expr renaming casesOn->ac6
open PySem.Txt renaming lower->ada,slice->adf,split->adx,item->ad2,find->ad3,replace->ad4,upper->aed,find3->afa,startswith->agz,endswith->ah1,splitMax->ah2,mul->ajp,slice_le->akb,join->ak3
open PySem.Builtin.Str renaming strKind->ade,tooLong->aec,strOf->amj,strSliceIndices->anr
open Array renaming getElem?_eq_getElem->ad6,getD_eq_getD_getElem?->agv,size_extract->ahs,size_push->aiu,length_toList->aiw,find?_toList->ajh,toList_inj->aj5,toList_extract->ak9,toList_append->alr,append_assoc->al9,size_append->aml
open PySem.Builtin.SmallTypes renaming nextOf->ad7,ownedTupleIsFree->aeq,ownedTupleHandOut->ahi
open PySem.Heap.SameBut renaming update->aen
open PySem.Sre renaming Seen->aev,forSearch->afn,M->anb
open PySem.F renaming slot_str_split->aex,excBase_Exception->afg,entry_str_split->af7,slot_dict_values->aht,slot_list_iadd->ah3,plainAttrs_dict->ah5,slot_dict_items->ah6,slot_dict_itemiterator_iter->aio,slot_zip_next->aiv,args_str_split_2->aja,args_str_split_3->ajb,slot_str_join->ajt,slot_list_extend->ajy,slot_list_pop->akr,slot_str_find->akv,slot_tuple_getitem->ak2,args_dict_values_1->ak6,slot_str_mod->ak8,slot_list_getitem->alj,plainAttrs_str->alk,entry_dict_values->alo,args_dict_items_1->alp,slot_str_replace->al3,type_dict_values->al5,entry_dict_items->al6,args_str_join_2->amg,type_dict_items->amm,args_zip_next_1->amu,entry_str_join->amz,args_str_mod_2->am3,entry_zip_next->am5,slot_int_repr->anf,fills_str_mod->ang,entry_str_mod->anh,slot_int_rmul->ani
open PySem.NameKind renaming free->aey,cell->agq,casesOn->aj3
open PySem.BindsTo renaming of_eq->aez,of_defaults->alw
open Function renaming comp_def->ae3,comp->alz
open PySem.Builtin renaming divisionGoesByPylong->afd
open PySem.Builtin.List renaming listSubscript?->afj,listTooLong->ahl,listAllItems->ajm,listItems->akf,listSliceParts->ant,listFitsIndex->an4
open Ne renaming symm->afv
open PySem.Builtin.Slice renaming slicePlaces->afx,sliceAdjust->ahb,sliceApplied->ai8,sliceFields->aoa
open PySem.Value renaming str->afz,ref->agh,none->ag1,int->ag3,bool->anu
open PySem.Builtin.Tuple renaming tupleExact->agf,tupleItemsOf->anx
open ForInStep renaming yield->agm
open List.cons renaming injEq->ago,inj->ajz
open PySem.Builtin.Int renaming intBits->ahg
open PySem.ScopeKind renaming function->ahr
open PySem.Sem renaming wp_mono->ahw,wp_bind'->amk,wp_holding->an0,casesOn->apc
open PySem.StrLaws renaming partsFrom->ahx,occ_length_le_len->ajl
open List.Perm renaming append_right->aib,refl->aic,append_left->aig
open PySem.Obj renaming mapSeq->aij,data_mapFields->al8,putName->apb
open PySem.Operator renaming casesOn->ail
open Prod renaming casesOn->ai2
open PyProof.Rows renaming List_->ai6,evalArgs_none->ajg,Tuple_->ali,floordiv_int->an9,truthy_none->aob,boot_tuple->aol,len_tuple->aoq,boot_list->aow,boot_str->ao3,boot_zip->ao4,sub_int->ao5,mod_int->ao6,mul_int->ao8,pow_int->ao9
open PySem.Heap.UpToSlots renaming of_keeps->aj4
open PySem.Flow renaming casesOn->akd
open PySem.Around renaming frames_deeper->ak0
open PySem.Heap.TupAt renaming of_slots->alm
open PySem.Env renaming blockKind->alx
open PySem.Heap.IsSliceOf renaming new->al2
open PySem.Code renaming quiet_builtin->al4,isCaller->aoe
open PySem.W.WData renaming list->ama,layableAll->am1
open List.Pairwise renaming nil->ame
open PySem.Keeper renaming boundFrame->amf,machine->anv,frame->aoo
open PySem.IntMulOk renaming of_left->am6
open PySem.IsRange renaming new->ana
open LT renaming lt->anc
open PySem.W.WShape renaming hasItems->ank
open PySem.UnaryOp renaming casesOn->anl
open PySem.Manifest renaming find?->anz
open PySem.BoolOp renaming casesOn->an5
open PySem.ExcName renaming means->aof
open PySem.CmpOp renaming casesOn->aog
open PySem.Const renaming casesOn->aoh
open Except renaming ok->aok
open Nat.succ renaming inj->aon
open PySem.Data renaming casesOn->aop
open Nat.le renaming intro->aoz
open Int.lt renaming intro->ao2
open PySem.Heap.Ns renaming new->ao7
open PySem.Shared renaming heap->ape
open PySem.W.OpenLaw renaming pre->apf
open PySem.Heap.FunFrames renaming cons->aph
open List.IsPrefix renaming trans->api
set_option genSizeOf false
set_option autoImplicit true
open PySem PySem.Calls PySem.Spec PyProof.Rows PySem.W
namespace Internal
section
open PySem PySem.W PyProof.Rows
set_option maxRecDepth 1000000
set_option maxHeartbeats 0
noncomputable def hd.top(i:Nat):Option Stmt:=ab6.row.prog.main.body[i]?
noncomputable def hd.inn(i j:Nat):Option Stmt:=match hd.top i with|some (.ClassDef _ _ _ b ..)=>b[j]?|_=>none
noncomputable def hd.mkF(s:Option Stmt)(q:Str)(d m:Value)(c:Addr):Obj:=match s with
|some (.FunctionDef n a b _ _ _ sc ..)=>{ cls:= .type "function",data:= .func { name:=n,qualname:=q,params:=a,body:= .stmts b,scope:=sc,globals:=3,closure:=[],defaults:=d,kwdefaults:= .none,pyModule:=m,code:= .ref c } }
|_=>default
noncomputable def hd.mkC(n q:Str)(t l:Nat)(a:List Int)(r u v:Nat)(w:List Value)(x y z:Nat):Obj:=
 { cls:= .type "code",data:= .fields (([afz n t,afz q (t+1),afz "/claim/cut.py" (t+2),ag3 l 0]++a.map (λi=>ag3 i 0)++[agh r,anu true,ag3 u 0,agh v]++w++[agh x,ag3 y 0,ag3 l 0,afz "/claim/cut.py" z]).toArray) }
open hd
noncomputable def hd.heap_39(P:Params):Frag:=[
(2,{cls:=.none,data:=.dict #[⟨abp P "\x69mport.loaded._sre",.str "\x69mport.loaded._sre" 183,.bool true⟩,⟨abp P "class._frozen_importlib.BuiltinImporter",.str "class._frozen_importlib.BuiltinImporter" 185,.ref 14⟩,⟨abp P "watched.\x69mport",.str "watched.\x69mport" 206,.ref 18⟩,⟨abp P "class._frozen_importlib.ModuleSpec",.str "class._frozen_importlib.ModuleSpec" 216,.ref 22⟩,⟨abp P "sys.modules.booked-epoch",.str "sys.modules.booked-epoch" 245,.int 3 0⟩,⟨abp P "\x69mport.later-laid._sre",.str "\x69mport.later-laid._sre" 270,.bool true⟩,⟨abp P "watched.library",.str "watched.library" 272,.ref 27⟩,⟨abp P "watched.library-objects",.str "watched.library-objects" 0,.str "\x0c" 0⟩,⟨abp P "watched.library-deep._sre",.str "watched.library-deep._sre" 273,.str "\x04\x00\x00\x0b\x04\x00\x00\x0b\x04\x00\x00\x03\x04\x00\x00\x0b\x08\x04dict\x02" 0⟩,⟨abp P "type.__subclasses__.Exception.0",.str "type.__subclasses__.Exception.0" 379,.int 97 0⟩,⟨abp P "type.__subclasses__.Exception.n",.str "type.__subclasses__.Exception.n" 380,.int 1 0⟩] 11}),
(3,{cls:=.type "dict",data:=.dict #[⟨abp P "__name__",.str "__name__" 165,.str "law_wz0027_03" 774⟩,⟨abp P "__doc__",.str "__doc__" 166,.none⟩,⟨abp P "__package__",.str "__package__" 167,.none⟩,⟨abp P "__loader__",.str "__loader__" 168,.builtin "__main__.__loader__#opaque"⟩,⟨abp P "__spec__",.str "__spec__" 169,.none⟩,⟨abp P "__annotations__",.str "__annotations__" 170,.ref 6⟩,⟨abp P "__builtins__",.str "__builtins__" 171,.ref 4⟩,⟨abp P "__file__",.str "__file__" 173,.str "/claim/cut.py" 172⟩,⟨abp P "__cached__",.str "__cached__" 174,.none⟩,⟨abp P "_sre",.str "_sre" 275,.ref 12⟩,⟨abp P "_wall",.str "_wall" 288,.ref 38⟩,⟨abp P "TupleComp",.str "TupleComp" 332,.ref 62⟩,⟨abp P "func_std_string",.str "func_std_string" 340,.ref 73⟩,⟨abp P "add_callers",.str "add_callers" 351,.ref 80⟩,⟨abp P "count_calls",.str "count_calls" 360,.ref 87⟩,⟨abp P "Error",.str "Error" 382,.ref 97⟩,⟨abp P "error_reply",.str "error_reply" 398,.ref 110⟩,⟨abp P "error_proto",.str "error_proto" 414,.ref 122⟩,⟨abp P "parse229",.str "parse229" 427,.ref 131⟩,⟨abp P "parse257",.str "parse257" 438,.ref 138⟩,⟨abp P "_twin_re_1",.str "_twin_re_1" 456,.ref 143⟩,⟨abp P "_twin_re_2",.str "_twin_re_2" 498,.ref 148⟩,⟨abp P "CRLF",.str "CRLF" 500,.str "\x0d\n" 499⟩,⟨abp P "quotedata",.str "quotedata" 507,.ref 155⟩,⟨abp P "tspecials",.str "tspecials" 543,.ref 160⟩,⟨abp P "_name_disallowed_re",.str "_name_disallowed_re" 569,.ref 165⟩,⟨abp P "_value_disallowed_re",.str "_value_disallowed_re" 603,.ref 170⟩,⟨abp P "_formatparam",.str "_formatparam" 613,.ref 178⟩,⟨abp P "Headers",.str "Headers" 773,.ref 301⟩,⟨abp P "_law_letter",.str "_law_letter" 795,.ref 312⟩,⟨abp P "_law_read",.str "_law_read" 801,.ref 317⟩,⟨abp P "_law_unlike",.str "_law_unlike" 807,.ref 322⟩,⟨abp P "_law_counted",.str "_law_counted" 813,.ref 327⟩,⟨abp P "_law_close",.str "_law_close" 819,.ref 332⟩,⟨abp P "_law_below",.str "_law_below" 829,.ref 339⟩,⟨abp P "law",.str "law" 835,.ref 344⟩] 36}),
(37,mkC "_wall" "_wall" 282 2 [1,0,0,3] 32 276 33 [.none,.ref 34,.ref 35] 36 286 287),
(38,mkF (top 1) "_wall" (.none) (.str "__main__" 164) 37),
(51,mkC "__init__" "TupleComp.__init__" 303 8 [2,0,0,3] 46 276 47 [.none,.ref 48,.ref 49] 50 308 309),
(52,mkF (inn 3 0) "TupleComp.__init__" (.none) (.str "cpy313.pstats" 289) 51),
(58,mkC "compare" "TupleComp.compare" 311 11 [3,0,0,3] 53 276 54 [.none,.ref 55,.ref 56] 57 321 322),
(59,mkF (inn 3 1) "TupleComp.compare" (.none) (.str "cpy313.pstats" 289) 58),
(61,{cls:=.type "dict",data:=.dict #[⟨abp P "__module__",.str "__module__" 298,.str "cpy313.pstats" 289⟩,⟨abp P "__firstlineno__",.str "__firstlineno__" 302,.int 6 301⟩,⟨abp P "__init__",.str "__init__" 310,.ref 52⟩,⟨abp P "compare",.str "compare" 323,.ref 59⟩,⟨abp P "__static_attributes__",.str "__static_attributes__" 325,.ref 60⟩,⟨abp P "__dict__",.str "__dict__" 327,.ref 63⟩,⟨abp P "__weakref__",.str "__weakref__" 329,.ref 64⟩,⟨abp P "__doc__",.str "__doc__" 330,.none⟩] 4}),
(62,{cls:=.type "type",data:=.cls {name:="TupleComp",bases:=[.type "object"],mro:=[.ref 62,.type "object"],ns:=61,qualname:="TupleComp"},slots:=#[none,none,some (.str "TupleComp" 291),some (.str "TupleComp" 299),some (.builtin "object.__new__"),some (.bool true)]}),
(72,mkC "func_std_string" "func_std_string" 333 20 [1,0,0,3] 67 276 68 [.none,.ref 69,.ref 70] 71 338 339),
(73,mkF (top 4) "func_std_string" (.none) (.str "cpy313.pstats" 289) 72),
(79,mkC "add_callers" "add_callers" 341 29 [2,0,0,3] 74 276 75 [.none,.ref 76,.ref 77] 78 349 350),
(80,mkF (top 5) "add_callers" (.none) (.str "cpy313.pstats" 289) 79),
(86,mkC "count_calls" "count_calls" 352 42 [1,0,0,3] 81 276 82 [.none,.ref 83,.ref 84] 85 358 359),
(87,mkF (top 6) "count_calls" (.none) (.str "cpy313.pstats" 289) 86),
(88,{cls:=.type "tuple",data:=.seq #[.type "Exception"]}),
(96,{cls:=.type "dict",data:=.dict #[⟨abp P "__module__",.str "__module__" 370,.str "cpy313.ftplib" 361⟩,⟨abp P "__firstlineno__",.str "__firstlineno__" 374,.int 48 373⟩,⟨abp P "__static_attributes__",.str "__static_attributes__" 375,.ref 95⟩,⟨abp P "__weakref__",.str "__weakref__" 377,.ref 98⟩,⟨abp P "__doc__",.str "__doc__" 378,.none⟩] 3}),
(97,{cls:=.type "type",data:=.cls {name:="Error",bases:=[.type "Exception"],mro:=[.ref 97,.type "Exception",.type "BaseException",.type "object"],ns:=96,qualname:="Error",subclasses:=[.ref 110,.ref 122]},slots:=#[some (.ref 88),none,some (.str "Error" 363),some (.str "Error" 371),some (.builtin "Exception.__new__"),some (.bool true)]}),
(101,{cls:=.type "tuple",data:=.seq #[.ref 97]}),
(109,{cls:=.type "dict",data:=.dict #[⟨abp P "__module__",.str "__module__" 390,.str "cpy313.ftplib" 361⟩,⟨abp P "__firstlineno__",.str "__firstlineno__" 394,.int 50 393⟩,⟨abp P "__static_attributes__",.str "__static_attributes__" 395,.ref 108⟩,⟨abp P "__doc__",.str "__doc__" 396,.none⟩] 2}),
(110,{cls:=.type "type",data:=.cls {name:="error_reply",bases:=[.ref 97],mro:=[.ref 110,.ref 97,.type "Exception",.type "BaseException",.type "object"],ns:=109,qualname:="error_reply"},slots:=#[some (.ref 101),none,some (.str "error_reply" 383),some (.str "error_reply" 391),some (.builtin "Exception.__new__"),some (.bool true)]}),
(121,{cls:=.type "dict",data:=.dict #[⟨abp P "__module__",.str "__module__" 406,.str "cpy313.ftplib" 361⟩,⟨abp P "__firstlineno__",.str "__firstlineno__" 410,.int 52 409⟩,⟨abp P "__static_attributes__",.str "__static_attributes__" 411,.ref 120⟩,⟨abp P "__doc__",.str "__doc__" 412,.none⟩] 2}),
(122,{cls:=.type "type",data:=.cls {name:="error_proto",bases:=[.ref 97],mro:=[.ref 122,.ref 97,.type "Exception",.type "BaseException",.type "object"],ns:=121,qualname:="error_proto"},slots:=#[some (.ref 113),none,some (.str "error_proto" 399),some (.str "error_proto" 407),some (.builtin "Exception.__new__"),some (.bool true)]}),
(130,mkC "parse229" "parse229" 415 54 [2,0,0,3] 125 276 126 [.none,.ref 127,.ref 128] 129 425 426),
(131,mkF (top 11) "parse229" (.none) (.str "cpy313.ftplib" 361) 130),
(137,mkC "parse257" "parse257" 428 71 [1,0,0,3] 132 276 133 [.none,.ref 134,.ref 135] 136 436 437),
(138,mkF (top 12) "parse257" (.none) (.str "cpy313.ftplib" 361) 137),
(142,{cls:=.type "tuple",data:=.seq #[.int 14 0,.int 4 0,.int 0 0,.int 1 0,.int 1 0,.int 6 0,.int 1 0,.int 16 0,.int 46 0,.int 1 0]}),
(143,{cls:=.type "re.Pattern",data:=.fields #[.str "(?m)^\\." 442,.int 40 455,.int 0 0,.none,.none,.ref 142,.int 0 0]}),
(147,{cls:=.type "tuple",data:=.seq #[.int 14 0,.int 9 0,.int 4 0,.int 1 0,.int 2 0,.int 16 0,.int 10 0,.int 16 0,.int 13 0,.int 0 0,.int 7 0,.int 7 0,.int 16 0,.int 13 0,.int 16 0,.int 10 0,.int 15 0,.int 18 0,.int 5 0,.int 16 0,.int 10 0,.int 15 0,.int 13 0,.int 11 0,.int 16 0,.int 13 0,.int 5 0,.int 5 0,.int 0 0,.int 16 0,.int 10 0,.int 1 0,.int 15 0,.int 2 0,.int 0 0,.int 1 0]}),
(148,{cls:=.type "re.Pattern",data:=.fields #[.str "(?:\\r\\n|\\n|\\r(?!\\n))" 458,.int 32 497,.int 0 0,.none,.none,.ref 147,.int 0 0]}),
(154,mkC "quotedata" "quotedata" 501 92 [1,0,0,3] 149 276 150 [.none,.ref 151,.ref 152] 153 505 506),
(155,mkF (top 17) "quotedata" (.none) (.str "cpy313.smtplib" 439) 154),
(159,{cls:=.type "tuple",data:=.seq #[.int 14 0,.int 14 0,.int 4 0,.int 1 0,.int 1 0,.int 9 0,.int 0 0,.int 4227896069 0,.int 939524097 0,.int 0 0,.int 0 0,.int 0 0,.int 0 0,.int 0 0,.int 0 0,.int 13 0,.int 11 0,.int 9 0,.int 0 0,.int 4227896069 0,.int 939524097 0,.int 0 0,.int 0 0,.int 0 0,.int 0 0,.int 0 0,.int 0 0,.int 1 0]}),
(160,{cls:=.type "re.Pattern",data:=.fields #[.str "[ \\(\\)<>@,;:\\\\\"/\\[\\]\\?=]" 511,.int 32 542,.int 0 0,.none,.none,.ref 159,.int 0 0]}),
(164,{cls:=.type "tuple",data:=.seq #[.int 14 0,.int 10 0,.int 4 0,.int 1 0,.int 1 0,.int 22 0,.int 0 0,.int 31 0,.int 16 0,.int 127 0,.int 0 0,.int 13 0,.int 7 0,.int 22 0,.int 0 0,.int 31 0,.int 16 0,.int 127 0,.int 0 0,.int 1 0]}),
(165,{cls:=.type "re.Pattern",data:=.fields #[.str "[\\x00-\\x1F\\x7F]" 545,.int 32 568,.int 0 0,.none,.none,.ref 164,.int 0 0]}),
(169,{cls:=.type "tuple",data:=.seq #[.int 14 0,.int 14 0,.int 4 0,.int 1 0,.int 1 0,.int 9 0,.int 4294966783 0,.int 0 0,.int 0 0,.int 2147483648 0,.int 0 0,.int 0 0,.int 0 0,.int 0 0,.int 0 0,.int 13 0,.int 11 0,.int 9 0,.int 4294966783 0,.int 0 0,.int 0 0,.int 2147483648 0,.int 0 0,.int 0 0,.int 0 0,.int 0 0,.int 0 0,.int 1 0]}),
(170,{cls:=.type "re.Pattern",data:=.fields #[.str "[\\x00-\\x08\\x0A-\\x1F\\x7F]" 571,.int 32 602,.int 0 0,.none,.none,.ref 169,.int 0 0]}),
(171,{cls:=.type "tuple",data:=.seq #[.none,.int 1 604]}),
(186,{cls:=.type "tuple",data:=.seq #[.none]}),
(192,mkC "__init__" "Headers.__init__" 626 109 [2,0,0,3] 187 276 188 [.none,.ref 189,.ref 190] 191 633 634),
(193,mkF (inn 23 0) "Headers.__init__" (.ref 186) (.str "cpy313.wsgiref.headers" 508) 192),
(199,mkC "_convert_string_type" "Headers._convert_string_type" 636 119 [2,0,1,3] 194 276 195 [.none,.ref 196,.ref 197] 198 643 644),
(200,mkF (inn 23 1) "Headers._convert_string_type" (.none) (.str "cpy313.wsgiref.headers" 508) 199),
(213,mkC "__setitem__" "Headers.__setitem__" 653 130 [3,0,0,3] 208 276 209 [.none,.ref 210,.ref 211] 212 659 660),
(214,mkF (inn 23 3) "Headers.__setitem__" (.none) (.str "cpy313.wsgiref.headers" 508) 213),
(218,mkC "__delitem__" "Headers.__delitem__" 662 134 [2,0,0,3] 215 276 216 [.none,.none,.none] 217 665 666),
(219,mkF (inn 23 4) "Headers.__delitem__" (.none) (.str "cpy313.wsgiref.headers" 508) 218),
(225,mkC "__getitem__" "Headers.__getitem__" 668 138 [2,0,0,3] 220 276 221 [.none,.ref 222,.ref 223] 224 673 674),
(226,mkF (inn 23 5) "Headers.__getitem__" (.none) (.str "cpy313.wsgiref.headers" 508) 225),
(239,mkC "get_all" "Headers.get_all" 684 144 [2,0,0,3] 234 276 235 [.none,.ref 236,.ref 237] 238 689 690),
(240,mkF (inn 23 7) "Headers.get_all" (.none) (.str "cpy313.wsgiref.headers" 508) 239),
(241,{cls:=.type "tuple",data:=.seq #[.none]}),
(247,mkC "get" "Headers.get" 692 147 [3,0,0,3] 242 276 243 [.none,.ref 244,.ref 245] 246 700 701),
(248,mkF (inn 23 8) "Headers.get" (.ref 241) (.str "cpy313.wsgiref.headers" 508) 247),
(252,mkC "keys" "Headers.keys" 703 154 [1,0,0,3] 249 276 250 [.none,.none,.none] 251 706 707),
(253,mkF (inn 23 9) "Headers.keys" (.none) (.str "cpy313.wsgiref.headers" 508) 252),
(257,mkC "values" "Headers.values" 709 157 [1,0,0,3] 254 276 255 [.none,.none,.none] 256 712 713),
(258,mkF (inn 23 10) "Headers.values" (.none) (.str "cpy313.wsgiref.headers" 508) 257),
(264,mkC "items" "Headers.items" 715 160 [1,0,0,3] 259 276 260 [.none,.ref 261,.ref 262] 263 719 720),
(265,mkF (inn 23 11) "Headers.items" (.none) (.str "cpy313.wsgiref.headers" 508) 264),
(290,mkC "setdefault" "Headers.setdefault" 742 172 [3,0,0,3] 285 276 286 [.none,.ref 287,.ref 288] 289 749 750),
(291,mkF (inn 23 15) "Headers.setdefault" (.none) (.str "cpy313.wsgiref.headers" 508) 290),
(297,mkC "add_header" "Headers.add_header" 752 180 [3,0,0,11] 292 276 293 [.none,.ref 294,.ref 295] 296 762 763),
(298,mkF (inn 23 16) "Headers.add_header" (.none) (.str "cpy313.wsgiref.headers" 508) 297),
(300,{cls:=.type "dict",data:=.dict #[⟨abp P "__module__",.str "__module__" 621,.str "cpy313.wsgiref.headers" 508⟩,⟨abp P "__firstlineno__",.str "__firstlineno__" 625,.int 107 624⟩,⟨abp P "__init__",.str "__init__" 635,.ref 193⟩,⟨abp P "_convert_string_type",.str "_convert_string_type" 645,.ref 200⟩,⟨abp P "__len__",.str "__len__" 652,.ref 207⟩,⟨abp P "__setitem__",.str "__setitem__" 661,.ref 214⟩,⟨abp P "__delitem__",.str "__delitem__" 667,.ref 219⟩,⟨abp P "__getitem__",.str "__getitem__" 675,.ref 226⟩,⟨abp P "__contains__",.str "__contains__" 683,.ref 233⟩,⟨abp P "get_all",.str "get_all" 691,.ref 240⟩,⟨abp P "get",.str "get" 702,.ref 248⟩,⟨abp P "keys",.str "keys" 708,.ref 253⟩,⟨abp P "values",.str "values" 714,.ref 258⟩,⟨abp P "items",.str "items" 721,.ref 265⟩,⟨abp P "__repr__",.str "__repr__" 728,.ref 272⟩,⟨abp P "__str__",.str "__str__" 734,.ref 277⟩,⟨abp P "__bytes__",.str "__bytes__" 741,.ref 284⟩,⟨abp P "setdefault",.str "setdefault" 751,.ref 291⟩,⟨abp P "add_header",.str "add_header" 764,.ref 298⟩,⟨abp P "__static_attributes__",.str "__static_attributes__" 766,.ref 299⟩,⟨abp P "__dict__",.str "__dict__" 768,.ref 302⟩,⟨abp P "__weakref__",.str "__weakref__" 770,.ref 303⟩,⟨abp P "__doc__",.str "__doc__" 771,.none⟩] 4}),
(301,{cls:=.type "type",data:=.cls {name:="Headers",bases:=[.type "object"],mro:=[.ref 301,.type "object"],ns:=300,qualname:="Headers"},slots:=#[none,none,some (.str "Headers" 614),some (.str "Headers" 622),some (.builtin "object.__new__"),some (.bool true)]}),
(311,mkC "_law_letter" "_law_letter" 776 194 [5,0,0,3] 306 276 307 [.none,.ref 308,.ref 309] 310 793 794),
(312,mkF (top 25) "_law_letter" (.none) (.str "law_wz0027_03" 774) 311),
(316,mkC "_law_read" "_law_read" 796 206 [2,0,0,3] 313 276 314 [.none,.none,.none] 315 799 800),
(317,mkF (top 26) "_law_read" (.none) (.str "law_wz0027_03" 774) 316),
(321,mkC "_law_unlike" "_law_unlike" 802 218 [2,0,0,3] 318 276 319 [.none,.none,.none] 320 805 806),
(322,mkF (top 27) "_law_unlike" (.none) (.str "law_wz0027_03" 774) 321),
(326,mkC "_law_counted" "_law_counted" 808 225 [3,0,0,3] 323 276 324 [.none,.none,.none] 325 811 812),
(327,mkF (top 28) "_law_counted" (.none) (.str "law_wz0027_03" 774) 326),
(331,mkC "_law_close" "_law_close" 814 242 [3,0,0,3] 328 276 329 [.none,.none,.none] 330 817 818),
(332,mkF (top 29) "_law_close" (.none) (.str "law_wz0027_03" 774) 331),
(338,mkC "_law_below" "_law_below" 820 250 [2,0,0,3] 333 276 334 [.none,.ref 335,.ref 336] 337 827 828),
(339,mkF (top 30) "_law_below" (.none) (.str "law_wz0027_03" 774) 338),
(343,mkC "law" "law" 830 253 [1,0,0,3] 340 276 341 [.none,.none,.none] 342 833 834),
(344,mkF (top 31) "law" (.none) (.str "law_wz0027_03" 774) 343)]
noncomputable def hd.as_:List Nat:=[2,3,37,38,51,52,58,59,61,62,72,73,79,80,86,87,88,96,97,101,109,110,121,122,130,131,137,138,142,143,147,148,154,155,159,160,164,165,169,170,171,186,192,193,199,200,213,214,218,219,225,226,239,240,241,247,248,252,253,257,258,264,265,290,291,297,298,300,301,311,312,316,317,321,322,326,327,331,332,338,339,343,344]
noncomputable def hd.view_39:Program:={ ab6.row.prog with main:={ ab6.row.prog.main with body:=[0,1,2,3,4,5,6,7,8,9,10,11,12,13,16,17,18,23,24,25,26,27,28,29,30,31].filterMap λi=>ab6.row.prog.main.body[i]? } }
noncomputable def hd.loose:List Str:=[Mi "_twin_re_1",Mi "_twin_re_2",Mi "tspecials",Mi "_name_disallowed_re",Mi "_value_disallowed_re",Mi "_formatparam"]
noncomputable def hd.rec_:DefRec:=((defOf hd.view_39 ab6.row.name).get (by decide +kernel)).1
theorem hd.asK:∀ P,hd.as_=(hd.heap_39 P).map (·.1):=λP=>by kernel_rfl
noncomputable abbrev hd.hook:Hook:=kHook hd.heap_39 hd.as_ hd.asK
theorem hd.said:ab6.wellSaid=true:=by decide +kernel
theorem hd.left1:∀ w,(openEnds treeTable ab6.row.prog w 5106).map (λs=>openSeen hd.view_39 hd.loose (importedModules ab6.row.prog.main.body) (λs=>xlAt hd.view_39 [] s&&recOk ab6.row.records s) true s)=some (openGood hd.view_39 hd.loose):=λw=>by kernel_rfl
theorem hd.left2:∀ w,(openEnds treeTable ab6.row.prog w 5106).map hd.hook.obs=some (hd.hook.val w):=λw=>by kernel_rfl
theorem hd.left:LeftO ab6.row.prog hd.view_39 hd.loose (λs=>xlAt hd.view_39 [] s&&recOk ab6.row.records s) hd.hook.obs hd.hook.val 5106:=λw=>
 (adl.mp (hd.left1 w)).elim λs z=>(adl.mp (hd.left2 w)).elim λt y=>by cases acn (z.1.symm.trans y.1);rw[z.1,←z.2,←y.2];rfl
theorem hd.ok:(chainsOk hd.view_39&&opensWell ab6.row.prog&&(frees ab6.row.toRowW&&ab6.row.within.isEmpty))=true:=by decide +kernel
end
section
theorem aD{bP:Sort _}{p0:bP->Prop}{G:Prop}(h:∃ x0,p0 x0)(k:∀ x0,p0 x0->G):G:=h.elim k
theorem Gf{bP cn:Sort _}{p0:bP->cn->Prop}{G:Prop}(h:∃ x0 x1,p0 x0 x1)(k:∀ x0 x1,p0 x0 x1->G):G:=h.elim λx h=>aD h (k x)
theorem T4{bP cn dx:Sort _}{p0:bP->cn->dx->Prop}{G:Prop}(h:∃ x0 x1 x2,p0 x0 x1 x2)(k:∀ x0 x1 x2,p0 x0 x1 x2->G):G:=h.elim λx h=>Gf h (k x)
theorem Wu{bP cn dx eW:Sort _}{p0:bP->cn->dx->eW->Prop}{G:Prop}(h:∃ x0 x1 x2 x3,p0 x0 x1 x2 x3)(k:∀ x0 x1 x2 x3,p0 x0 x1 x2 x3->G):G:=h.elim λx h=>T4 h (k x)
theorem Ww{bP cn dx eW jp:Sort _}{p0:bP->cn->dx->eW->jp->Prop}{G:Prop}(h:∃ x0 x1 x2 x3 x4,p0 x0 x1 x2 x3 x4)(k:∀ x0 x1 x2 x3 x4,p0 x0 x1 x2 x3 x4->G):G:=h.elim λx h=>Wu h (k x)
theorem T8{bP cn dx eW jp ox:Sort _}{p0:bP->cn->dx->eW->jp->ox->Prop}{G:Prop}(h:∃ x0 x1 x2 x3 x4 x5,p0 x0 x1 x2 x3 x4 x5)(k:∀ x0 x1 x2 x3 x4 x5,p0 x0 x1 x2 x3 x4 x5->G):G:=h.elim λx h=>Ww h (k x)
theorem bw{p0 p1:Prop}{G:Prop}(h:p0/\p1)(k:p0->p1->G):G:=k h.1 h.2
theorem ak{bP:Sort _}{p0 p1:bP->Prop}{G:Prop}(h:∃ x0,p0 x0/\p1 x0)(k:∀ x0,p0 x0->p1 x0->G):G:=h.elim λx h=>bw h (k x)
theorem dY{bP cn:Sort _}{p0 p1:bP->cn->Prop}{G:Prop}(h:∃ x0 x1,p0 x0 x1/\p1 x0 x1)(k:∀ x0 x1,p0 x0 x1->p1 x0 x1->G):G:=h.elim λx h=>ak h (k x)
theorem T5{bP cn dx:Sort _}{p0 p1:bP->cn->dx->Prop}{G:Prop}(h:∃ x0 x1 x2,p0 x0 x1 x2/\p1 x0 x1 x2)(k:∀ x0 x1 x2,p0 x0 x1 x2->p1 x0 x1 x2->G):G:=h.elim λx h=>dY h (k x)
theorem Mp{bP cn dx eW:Sort _}{p0 p1:bP->cn->dx->eW->Prop}{G:Prop}(h:∃ x0 x1 x2 x3,p0 x0 x1 x2 x3/\p1 x0 x1 x2 x3)(k:∀ x0 x1 x2 x3,p0 x0 x1 x2 x3->p1 x0 x1 x2 x3->G):G:=h.elim λx h=>T5 h (k x)
theorem Wx{bP cn dx eW jp:Sort _}{p0 p1:bP->cn->dx->eW->jp->Prop}{G:Prop}(h:∃ x0 x1 x2 x3 x4,p0 x0 x1 x2 x3 x4/\p1 x0 x1 x2 x3 x4)(k:∀ x0 x1 x2 x3 x4,p0 x0 x1 x2 x3 x4->p1 x0 x1 x2 x3 x4->G):G:=h.elim λx h=>Mp h (k x)
theorem bK{p0 p1 p2:Prop}{G:Prop}(h:p0/\p1/\p2)(k:p0->p1->p2->G):G:=bw h.2 (k h.1)
theorem iR{bP:Sort _}{p0 p1 p2:bP->Prop}{G:Prop}(h:∃ x0,p0 x0/\p1 x0/\p2 x0)(k:∀ x0,p0 x0->p1 x0->p2 x0->G):G:=h.elim λx h=>bK h (k x)
theorem au{bP cn:Sort _}{p0 p1 p2:bP->cn->Prop}{G:Prop}(h:∃ x0 x1,p0 x0 x1/\p1 x0 x1/\p2 x0 x1)(k:∀ x0 x1,p0 x0 x1->p1 x0 x1->p2 x0 x1->G):G:=h.elim λx h=>iR h (k x)
theorem Mm{bP cn dx:Sort _}{p0 p1 p2:bP->cn->dx->Prop}{G:Prop}(h:∃ x0 x1 x2,p0 x0 x1 x2/\p1 x0 x1 x2/\p2 x0 x1 x2)(k:∀ x0 x1 x2,p0 x0 x1 x2->p1 x0 x1 x2->p2 x0 x1 x2->G):G:=h.elim λx h=>au h (k x)
theorem T6{bP cn dx eW:Sort _}{p0 p1 p2:bP->cn->dx->eW->Prop}{G:Prop}(h:∃ x0 x1 x2 x3,p0 x0 x1 x2 x3/\p1 x0 x1 x2 x3/\p2 x0 x1 x2 x3)(k:∀ x0 x1 x2 x3,p0 x0 x1 x2 x3->p1 x0 x1 x2 x3->p2 x0 x1 x2 x3->G):G:=h.elim λx h=>Mm h (k x)
theorem qz{p0 p1 p2 p3:Prop}{G:Prop}(h:p0/\p1/\p2/\p3)(k:p0->p1->p2->p3->G):G:=bK h.2 (k h.1)
theorem Ml{bP:Sort _}{p0 p1 p2 p3:bP->Prop}{G:Prop}(h:∃ x0,p0 x0/\p1 x0/\p2 x0/\p3 x0)(k:∀ x0,p0 x0->p1 x0->p2 x0->p3 x0->G):G:=h.elim λx h=>qz h (k x)
theorem bT{bP cn:Sort _}{p0 p1 p2 p3:bP->cn->Prop}{G:Prop}(h:∃ x0 x1,p0 x0 x1/\p1 x0 x1/\p2 x0 x1/\p3 x0 x1)(k:∀ x0 x1,p0 x0 x1->p1 x0 x1->p2 x0 x1->p3 x0 x1->G):G:=h.elim λx h=>Ml h (k x)
theorem Gg{bP cn dx:Sort _}{p0 p1 p2 p3:bP->cn->dx->Prop}{G:Prop}(h:∃ x0 x1 x2,p0 x0 x1 x2/\p1 x0 x1 x2/\p2 x0 x1 x2/\p3 x0 x1 x2)(k:∀ x0 x1 x2,p0 x0 x1 x2->p1 x0 x1 x2->p2 x0 x1 x2->p3 x0 x1 x2->G):G:=h.elim λx h=>bT h (k x)
theorem T7{bP cn dx eW:Sort _}{p0 p1 p2 p3:bP->cn->dx->eW->Prop}{G:Prop}(h:∃ x0 x1 x2 x3,p0 x0 x1 x2 x3/\p1 x0 x1 x2 x3/\p2 x0 x1 x2 x3/\p3 x0 x1 x2 x3)(k:∀ x0 x1 x2 x3,p0 x0 x1 x2 x3->p1 x0 x1 x2 x3->p2 x0 x1 x2 x3->p3 x0 x1 x2 x3->G):G:=h.elim λx h=>Gg h (k x)
theorem n8{p0 p1 p2 p3 p4:Prop}{G:Prop}(h:p0/\p1/\p2/\p3/\p4)(k:p0->p1->p2->p3->p4->G):G:=qz h.2 (k h.1)
theorem TY{bP:Sort _}{p0 p1 p2 p3 p4:bP->Prop}{G:Prop}(h:∃ x0,p0 x0/\p1 x0/\p2 x0/\p3 x0/\p4 x0)(k:∀ x0,p0 x0->p1 x0->p2 x0->p3 x0->p4 x0->G):G:=h.elim λx h=>n8 h (k x)
theorem mX{bP cn:Sort _}{p0 p1 p2 p3 p4:bP->cn->Prop}{G:Prop}(h:∃ x0 x1,p0 x0 x1/\p1 x0 x1/\p2 x0 x1/\p3 x0 x1/\p4 x0 x1)(k:∀ x0 x1,p0 x0 x1->p1 x0 x1->p2 x0 x1->p3 x0 x1->p4 x0 x1->G):G:=h.elim λx h=>TY h (k x)
theorem Ws{bP cn dx:Sort _}{p0 p1 p2 p3 p4:bP->cn->dx->Prop}{G:Prop}(h:∃ x0 x1 x2,p0 x0 x1 x2/\p1 x0 x1 x2/\p2 x0 x1 x2/\p3 x0 x1 x2/\p4 x0 x1 x2)(k:∀ x0 x1 x2,p0 x0 x1 x2->p1 x0 x1 x2->p2 x0 x1 x2->p3 x0 x1 x2->p4 x0 x1 x2->G):G:=h.elim λx h=>mX h (k x)
theorem Wv{bP cn dx eW:Sort _}{p0 p1 p2 p3 p4:bP->cn->dx->eW->Prop}{G:Prop}(h:∃ x0 x1 x2 x3,p0 x0 x1 x2 x3/\p1 x0 x1 x2 x3/\p2 x0 x1 x2 x3/\p3 x0 x1 x2 x3/\p4 x0 x1 x2 x3)(k:∀ x0 x1 x2 x3,p0 x0 x1 x2 x3->p1 x0 x1 x2 x3->p2 x0 x1 x2 x3->p3 x0 x1 x2 x3->p4 x0 x1 x2 x3->G):G:=h.elim λx h=>Ws h (k x)
theorem Mj{p0 p1 p2 p3 p4 p5:Prop}{G:Prop}(h:p0/\p1/\p2/\p3/\p4/\p5)(k:p0->p1->p2->p3->p4->p5->G):G:=n8 h.2 (k h.1)
theorem T3{bP:Sort _}{p0 p1 p2 p3 p4 p5:bP->Prop}{G:Prop}(h:∃ x0,p0 x0/\p1 x0/\p2 x0/\p3 x0/\p4 x0/\p5 x0)(k:∀ x0,p0 x0->p1 x0->p2 x0->p3 x0->p4 x0->p5 x0->G):G:=h.elim λx h=>Mj h (k x)
theorem zG{bP cn:Sort _}{p0 p1 p2 p3 p4 p5:bP->cn->Prop}{G:Prop}(h:∃ x0 x1,p0 x0 x1/\p1 x0 x1/\p2 x0 x1/\p3 x0 x1/\p4 x0 x1/\p5 x0 x1)(k:∀ x0 x1,p0 x0 x1->p1 x0 x1->p2 x0 x1->p3 x0 x1->p4 x0 x1->p5 x0 x1->G):G:=h.elim λx h=>T3 h (k x)
theorem Wt{bP cn dx:Sort _}{p0 p1 p2 p3 p4 p5:bP->cn->dx->Prop}{G:Prop}(h:∃ x0 x1 x2,p0 x0 x1 x2/\p1 x0 x1 x2/\p2 x0 x1 x2/\p3 x0 x1 x2/\p4 x0 x1 x2/\p5 x0 x1 x2)(k:∀ x0 x1 x2,p0 x0 x1 x2->p1 x0 x1 x2->p2 x0 x1 x2->p3 x0 x1 x2->p4 x0 x1 x2->p5 x0 x1 x2->G):G:=h.elim λx h=>zG h (k x)
theorem Wy{bP cn dx eW jp ox s9:Sort _}{p0 p1 p2 p3 p4:bP->cn->dx->eW->jp->ox->s9->Prop}{G:Prop}(h:∃ x0 x1 x2 x3 x4 x5 x6,p0 x0 x1 x2 x3 x4 x5 x6/\p1 x0 x1 x2 x3 x4 x5 x6/\p2 x0 x1 x2 x3 x4 x5 x6/\p3 x0 x1 x2 x3 x4 x5 x6/\p4 x0 x1 x2 x3 x4 x5 x6)(k:∀ x0 x1 x2 x3 x4 x5 x6,p0 x0 x1 x2 x3 x4 x5 x6->p1 x0 x1 x2 x3 x4 x5 x6->p2 x0 x1 x2 x3 x4 x5 x6->p3 x0 x1 x2 x3 x4 x5 x6->p4 x0 x1 x2 x3 x4 x5 x6->G):G:=h.elim λx0 h=>h.elim λx1 h=>h.elim λx2 h=>Wv h (k x0 x1 x2)
@[elab_as_elim] theorem aa{α:Sort _}{a:α}{motive:α->Prop}{b:α}(h:a=b)(k:motive b):motive a:=h▸k
theorem Jo{x:Int}(h0:0<=x)(h1:x<=2 ^ 40):x.natAbs<2 ^ 60:=af5.mp (by rw[aky h0];exact ad1 h1 (by decide))
theorem cps{G:Prop}(h:∀ P:Prop,(G->P)->P):G:=h G id
theorem tl(h:a<=b)(e:anq b c=true):a<=c:=abj h (abk e)
theorem Um(h:a<=m)(k:b<=n)(e:anq (m+n) c=true):a+b<=c:=tl (adt h k) e
theorem pP{x:Int}{P:Int->Prop}(h0:0<=x)(h1:x<(n:Nat))(k:∀ i:Nat,i<n->P i):P x:=(ahu h0).elim λi e=>e▸k i (af5.mp (e▸h1))
theorem XK{k:Int}:k.fmod 3=0\/k.fmod 3=1\/k.fmod 3=2:=pP (n:=3) (P:=λx=>x=0\/x=1\/x=2) (acf k (by decide)) (ack k (by decide)) (by decide)
theorem Ys{k:Int}:k.fmod 2=0\/k.fmod 2=1:=pP (n:=2) (P:=λx=>x=0\/x=1) (acf k (by decide)) (ack k (by decide)) (by decide)
theorem Yo{x:Int}(h:x.fmod 6=(n:Nat)):n<6:=af5.mp (h▸ack x (by decide):(n:Int)<(6:Nat))
theorem XS{x:Int}(h0:0<=x)(h1:x<2 ^ 50):x.natAbs<2 ^ 60:=af5.mp (by rw[aky h0];exact aom h1 (by decide))
theorem Qg{α:Type _}{x:α}(h:none=some x):False:=nomatch h
end
section
structure Wd where
 prog:Program
 w:World
 B:Heap
structure Gh where
 F:Addr->Prop
 ρ:List Addr
structure Thing where
 P:Wd->Gh->Heap->Value->List Value->Prop
 keep:∀ W g h g' h' y vs,(∀ a,g.F a->g'.F a)->(∀ a o,g.F a->h.get? a=some o->h'.get? a=some o)->P W g h y vs->P W g' h' y vs
 ref:∀ W g h y vs,P W g h y vs-> ∃ a,y= .ref a
inductive V where
|none
|bool (b:Bool)
|int (i:Int)
|str (s:Str)
|tup (xs:List V)
|lst (xs:List V)
|dS (ks:List Str) (vs:List V)
|dI (ks:List Int) (vs:List V)
|ref (i:Nat)
|iref (c:Addr) (i:Nat)
|gl (a:Addr)
|ty (T:String)
|exc (C:Addr) (x:Str)
|raw (T:Thing) (xs:List V)
inductive Ob where
|list (xs:List V)
|dS (ks:List Str) (vs:List V)
|dI (ks:List Int) (vs:List V)
|ns (ks:List Str) (vs:List V)
|tab (P:Addr) (ps:Array Value)
def jk(h:Heap)(a:Addr)(av:Array Value):Prop:= ∃ n,h.get? a=some { cls:= .type "tuple",data:= .seq av n }
theorem jk.isTuple(x:jk h a av):h.IsTuple a av:=let⟨n,e⟩:=x;⟨_,e,rfl,n,rfl⟩
mutual
noncomputable def RV(W:Wd)(g:Gh)(h:Heap):V->Value->Prop
|.none,y=>y= .none
|.bool b,y=>y= .bool b
|.int i,y=> ∃ t,y= .int i t
|.str s,y=> ∃ t,y= .str s t
|.tup xs,y=> ∃ a vs,y= .ref a/\g.F a/\jk h a (ahy vs)/\aQ W g h xs vs
|.lst xs,y=> ∃ a vs,y= .ref a/\g.F a/\h.PlainList a (ahy vs)/\aQ W g h xs vs
|.dS ks xs,y=> ∃ a vs,y= .ref a/\g.F a/\ks.length=xs.length/\h.DictOf (strKind W.prog W.w) a (ks.zip vs)/\aQ W g h xs vs
|.dI ks xs,y=> ∃ a vs,y= .ref a/\g.F a/\ks.length=xs.length/\h.DictOf (intKind W.prog W.w) a (ks.zip vs)/\aQ W g h xs vs
|.ref i,y=> ∃ a,g.ρ[i]? =some a/\y= .ref a
|.iref c i,y=> ∃ a o d,y= .ref a/\g.F a/\h.get? a=some o/\o.cls= .ref c/\o.dict=some d/\o.data= .plain/\g.ρ[i]? =some d
|.gl a,y=>y= .ref a/\ ∃ o,W.B.get? a=some o
|.ty T,y=>y= .type T
|.exc C x,y=> ∃ a o vs t u,y= .ref a/\g.F a/\h.get? a=some o/\o.cls= .ref C/\o.data= .fields vs/\vs[0]? =some (.ref t)/\g.F t/\h.TupAt t [.str x u]
|.raw T xs,y=> ∃ vs,T.P W g h y vs/\aQ W g h xs vs
noncomputable def aQ(W:Wd)(g:Gh)(h:Heap):List V->List Value->Prop
|[],ys=>ys=[]
|x::xs,ys=> ∃ y r,ys=y::r/\RV W g h x y/\aQ W g h xs r
end
structure bU(g:Gh)(h:Heap)(g':Gh)(h':Heap):Prop where
 F:∀ a,g.F a->g'.F a
 obj:∀ a o,g.F a->h.get? a=some o->h'.get? a=some o
 ρ:g.ρ <+: g'.ρ
theorem iw{α:Type}{l l':List α}(h:l <+: l'){i:Nat}{a:α}(e:l[i]? =some a):l'[i]? =some a:=by obtain⟨t,rfl⟩:=h;refine aa (ael (abw.mp e).1) ?_;exact e
theorem bU.isTuple(K:bU g h g' h')(ha:g.F a)(x:jk h a xs):jk h' a xs:=
 let⟨n,e⟩:=x;⟨n,K.obj a _ ha e⟩
theorem bU.isList(K:bU g h g' h')(ha:g.F a)(x:h.PlainList a xs):h'.PlainList a xs:=
 let⟨n,e⟩:=x;⟨n,K.obj a _ ha e⟩
theorem pI{h h':Heap}{K:Type}[DecidableEq K]{prog w}{knd:KeyKind prog w K}{a:Addr}{kvs}(x:h.DictOf knd a kvs)(e:h'.get? a=h.get? a):h'.DictOf knd a kvs:=by obtain⟨o,es,ep,ho,r⟩:=x;exact⟨o,es,ep,e.trans ho,r⟩
theorem bU.dictOf{g g':Gh}{h h':Heap}(K:bU g h g' h'){a:Addr}{L:Type}[DecidableEq L]{prog w}{knd:KeyKind prog w L}{kvs}(ha:g.F a)(x:h.DictOf knd a kvs):h'.DictOf knd a kvs:=by obtain⟨o,es,ep,ho,r⟩:=x;exact⟨o,es,ep,K.obj a o ha ho,r⟩
mutual
theorem RV.keep(K:bU g h g' h'):∀{x:V}{y:Value},RV W g h x y->RV W g' h' x y
|.none,_,r=>r
|.bool _,_,r=>r
|.int _,_,r=>r
|.str _,_,r=>r
|.tup xs,_,r=>by refine bT r λa vs e ha hl hr=> ?_;exact⟨a,vs,e,K.F a ha,K.isTuple ha hl,aQ.keep K hr⟩
|.lst xs,_,r=>by refine bT r λa vs e ha hl hr=> ?_;exact⟨a,vs,e,K.F a ha,K.isList ha hl,aQ.keep K hr⟩
|.dS ks xs,_,r=>by refine mX r λa vs e ha hk hl hr=> ?_;exact⟨a,vs,e,K.F a ha,hk,K.dictOf ha hl,aQ.keep K hr⟩
|.dI ks xs,_,r=>by refine mX r λa vs e ha hk hl hr=> ?_;exact⟨a,vs,e,K.F a ha,hk,K.dictOf ha hl,aQ.keep K hr⟩
|.ref i,_,r=>by refine ak r λa ha e=> ?_;exact⟨a,iw K.ρ ha,e⟩
|.iref c i,_,r=>by obtain⟨a,o,d,e,ha,ho,h1,h2,h3,h4⟩:=r;exact⟨a,o,d,e,K.F a ha,K.obj a o ha ho,h1,h2,h3,iw K.ρ h4⟩
|.gl a,_,r=>r
|.ty T,_,r=>r
|.exc C x,_,r=>by obtain⟨a,o,vs,t,u,e,ha,ho,h1,h2,h3,ht,⟨ot,n,mv,qo,fA⟩⟩:=r;exact⟨a,o,vs,t,u,e,K.F a ha,K.obj a o ha ho,h1,h2,h3,K.F t ht,ot,n,K.obj t ot ht mv,qo,fA⟩
|.raw T xs,_,r=>by refine ak r λvs h1 h2=> ?_;exact⟨vs,T.keep _ _ _ _ _ _ _ K.F K.obj h1,aQ.keep K h2⟩
theorem aQ.keep(K:bU g h g' h'):∀{xs:List V}{ys:List Value},aQ W g h xs ys->aQ W g' h' xs ys
|[],_,r=>r
|x::xs,_,r=>by refine au r λy t e h1 h2=> ?_;exact⟨y,t,e,RV.keep K h1,aQ.keep K h2⟩
end
theorem aQ.length:∀{xs:List V}{ys:List Value},aQ W g h xs ys->ys.length=xs.length:=by intro ah;induction ah with
|nil=>intro _ r;obtain rfl:=r;rfl
|cons x xs ih=>intro _ r;refine au r λy t e _ h2=> ?_;subst e;simp[ih h2]
theorem aQ.get:∀{xs:List V}{ys:List Value},aQ W g h xs ys-> ∀{i:Nat}{x:V},xs[i]? =some x-> ∃ y,ys[i]? =some y/\RV W g h x y:=by intro ah;induction ah with
|nil=>intro _ _ i x e;simp at e
|cons x xs ih=>intro _ r i z e;(refine au r λy t an h1 h2=> ?_;obtain rfl:=an);induction i using acw with
 |zero=>simp at e;subst e;exact⟨y,rfl,h1⟩|succ n=>simp at e ⊢;exact ih h2 e
theorem aQ.append:∀{xs:List V}{ys:List Value}{xs' bS},aQ W g h xs ys->aQ W g h xs' bS->aQ W g h (xs++xs') (ys++bS):=by intro ah;induction ah with
|nil=>intro _ _ _ r r';obtain rfl:=r;exact r'
|cons x xs ih=>intro _ _ _ r r';(refine au r λy t an h1 h2=> ?_;obtain rfl:=an);exact⟨y,_,rfl,h1,ih h2 r'⟩
theorem aQ.drop:∀{n:Nat}{xs:List V}{ys:List Value},aQ W g h xs ys->aQ W g h (xs.drop n) (ys.drop n):=by intro ah;induction ah with
|zero=>intro _ _ r;assumption
|succ n ih=>intro bi;induction bi using abn with
 |nil=>intro _ r;obtain rfl:=r;rfl
 |cons x xs=>intro _ r;(refine au r λy t an h1 h2=> ?_;obtain rfl:=an);simpa using ih h2
theorem aQ.take:∀{n:Nat}{xs:List V}{ys:List Value},aQ W g h xs ys->aQ W g h (xs.take n) (ys.take n):=by intro ah;induction ah with
|zero=>intro _ _ r;exact rfl
|succ n ih=>intro bi;induction bi using abn with
 |nil=>intro _ r;obtain rfl:=r;rfl
 |cons x xs=>intro _ r;(refine au r λy t an h1 h2=> ?_;obtain rfl:=an);exact⟨y,_,rfl,h1,ih h2⟩
theorem aQ.set:∀{xs:List V}{ys:List Value}{i:Nat}{x y},aQ W g h xs ys->RV W g h x y->aQ W g h (xs.set i x) (ys.set i y):=by intro ah;induction ah with
|nil=>intro _ _ _ _ r _;obtain rfl:=r;rfl
|cons x xs ih=>intro _ i _ _ r rv;(refine au r λy t an h1 h2=> ?_;obtain rfl:=an);induction i using acw with
 |zero=>exact⟨_,_,rfl,rv,h2⟩|succ n=>exact⟨_,_,rfl,h1,ih h2 rv⟩
noncomputable def RO(W:Wd)(g:Gh)(h:Heap)(a:Addr):Ob->Prop
|.list xs=> ∃ vs,h.PlainList a (ahy vs)/\aQ W g h xs vs
|.dS ks xs=> ∃ vs,ks.length=xs.length/\h.DictOf (strKind W.prog W.w) a (ks.zip vs)/\aQ W g h xs vs
|.dI ks xs=> ∃ vs,ks.length=xs.length/\h.DictOf (intKind W.prog W.w) a (ks.zip vs)/\aQ W g h xs vs
|.ns ks xs=> ∃ vs m,ks.length=xs.length/\h.Ns a m/\(∀(i:Nat) k y,ks[i]? =some k->vs[i]? =some y->m k=some y)/\(∀ k,k∉ks->m k=none)/\aQ W g h xs vs
|.tab P ps=>a=P/\ ∃ eM:Array Value,h.get? a=some { cls:= .none,data:= .fields (ps++eM) }/\TriplesOk (ps++eM).toList
theorem RO.keep(K:bU g h g' h')(e:h'.get? a=h.get? a)(r:RO W g h a o):RO W g' h' a o:=by induction o using Ob.casesOn with
|list xs=>exact ac3 r λvs z=>ac3 z.1 λn ho=>⟨vs,⟨n,e.trans ho⟩,z.2.keep K⟩
|dS ks xs=>exact ac3 r λvs z=>⟨vs,z.1,pI z.2.1 e,z.2.2.keep K⟩
|dI ks xs=>exact ac3 r λvs z=>⟨vs,z.1,pI z.2.1 e,z.2.2.keep K⟩
|ns ks xs=>exact ac3 r λvs z=>ac3 z λm z=>⟨vs,m,z.1,ac3 z.2.1 λo w=>ac3 w λes w=>ac3 w λep w=>⟨o,es,ep,e.trans w.1,w.2⟩,z.2.2.1,z.2.2.2.1,z.2.2.2.2.keep K⟩
|tab P ps=>exact⟨r.1,ac3 r.2 λm z=>⟨m,e.trans z.1,z.2⟩⟩
theorem RO.some(r:RO W g h a o):∃ O,h.get? a=some O:=by induction o using Ob.casesOn with
|list xs=>exact ac3 r λ_ z=>ac3 z.1 λ_ ho=>⟨_,ho⟩
|dS ks xs=>exact ac3 r λ_ z=>ac3 z.2.1 λo w=>ac3 w λ_ w=>ac3 w λ_ w=>⟨o,w.1⟩
|dI ks xs=>exact ac3 r λ_ z=>ac3 z.2.1 λo w=>ac3 w λ_ w=>ac3 w λ_ w=>⟨o,w.1⟩
|ns ks xs=>exact ac3 r λ_ z=>ac3 z λ_ z=>ac3 z.2.1 λo w=>ac3 w λ_ w=>ac3 w λ_ w=>⟨o,w.1⟩
|tab P ps=>exact ac3 r.2 λ_ z=>⟨_,z.1⟩
structure FC where
 nm:List (Str×NameKind)
 wr:List Str
 k:Nat
 q:Bool
 t:Bool
 c:Value:= .none
structure Cx where
 menv:Env
 own:List Addr
 l:List Env
 A:Around
noncomputable abbrev aj:=List (Option V)
noncomputable abbrev Names:=List (Str×NameKind)
class inductive Look:Names->aj->Str->NameKind->V->Prop
|here {x k v r e}:Look ((x,k)::r) (some v::e) x k v
|there {x k v r e p o}:Look r e x k v->Look (p::r) (o::e) x k v
class inductive pC:Names->aj->Str->NameKind->V->aj->Prop
|here {x k v r e o}:pC ((x,k)::r) (o::e) x k v (some v::e)
|new {x k v r}:pC ((x,k)::r) [] x k v [some v]
|there {x k v r e p o e'}:pC r e x k v e'->pC (p::r) (o::e) x k v (o::e')
|far {x k v r p e'}:pC r [] x k v e'->pC (p::r) [] x k v (none::e')
class inductive ni:Names->Str->NameKind->Prop
|here {x k r}:ni ((x,k)::r) x k
|there {x k r p}:ni r x k->ni (p::r) x k
theorem Look.has(h:Look nm e x k v):ni nm x k:=by induction h with
|here=>exact .here
|there _ ih=>exact .there ih
theorem pC.has(h:pC nm e x k v e'):ni nm x k:=by induction h with
|here=>exact .here
|new=>exact .here
|there _ ih=>exact .there ih
|far _ ih=>exact .there ih
theorem ni.mem(h:ni nm x k):(x,k)∈nm:=by induction h with
|here=>exact .head _
|there _ ih=>exact .tail _ ih
theorem name_mem{nm:Names}{x y:Str}{k:NameKind}(h:(x,k)∈nm)(e:x=y):y∈nm.map (·.1):=e▸ac0.mpr ⟨_,h,rfl⟩
theorem fY{nm:Names}(hn:(nm.map (·.1)).Nodup){x:Str}{k:NameKind}(h:(x,k)∈nm):nm.lookup x=some k:=by induction nm with
|nil=>cases h
|cons p r ih=>
  obtain⟨y,j⟩:=p;rw[ab3,ad8]at hn;rcases abx.mp h with e|h
  ·cases e;exact List.lookup_cons_self
  ·have dv:x≠y:=λe=>hn.1 (name_mem h e);have:(x==y)=false:=beq_false_of_ne dv;(refine aa aj1 ?_;refine aa this ?_);exact ih hn.2 h
theorem ni.lookup(hn:(nm.map (·.1)).Nodup)(h:ni nm x k):nm.lookup x=some k:=fY hn h.mem
theorem Look.inv(l:Look (p::r) (o::e) x k v):(x=p.1/\k=p.2/\o=some v)\/Look r e x k v:=by cases l with
|here=>exact .inl ⟨rfl,rfl,rfl⟩
|there l=>exact .inr l
theorem Look.idx(h:Look nm e x k v):∃ i:Nat,nm[i]? =some (x,k)/\e[i]? =some (some v):=by induction h with
|here=>exact⟨0,rfl,rfl⟩
|there _ ih=>exact ak ih λi a b=>⟨i+1,a,b⟩
theorem Look.of:∀{i:Nat}{nm:Names}{e:aj},nm[i]? =some (x,k)->e[i]? =some (some v)->Look nm e x k v:=by intro i;induction i with
|zero=>intro nm e a b;induction nm using abn with
 |nil=>cases a|cons p nm=>induction e using abn with
  |nil=>cases b|cons o e=>obtain rfl:=acn (show some p=some (x,k)from a);obtain rfl:=acn (show some o=some (some v)from b);exact .here
|succ i ih=>intro nm e a b;induction nm using abn with
 |nil=>cases a|cons p nm=>induction e using abn with
  |nil=>cases b|cons o e=>exact .there (ih a b)
theorem pC.idx(h:pC nm e x k v e'):∃ i:Nat,nm[i]? =some (x,k)/\ ∀(j:Nat) u,e'[j]? =some (some u)->(j=i/\u=v)\/(j≠i/\e[j]? =some (some u)):=by induction h with
|here=>exact⟨0,rfl,λj u q=>by induction j using acw with
 |zero=>exact .inl ⟨rfl,(acn (acn q)).symm⟩|succ j=>exact .inr ⟨ag4 j,q⟩⟩
|new=>exact⟨0,rfl,λj u q=>by induction j using acw with
 |zero=>exact .inl ⟨rfl,(acn (acn q)).symm⟩|succ j=>cases q⟩
|there _ ih=>exact ak ih λi a b=>⟨i+1,a,λj u q=>by induction j using acw with
 |zero=>exact .inr ⟨(ag4 i).symm,q⟩|succ j=>exact(b j u q).imp (λz=>⟨congrArg (· +1) z.1,z.2⟩) λz=>⟨λn=>z.1 (aon n),z.2⟩⟩
|far _ ih=>exact ak ih λi a b=>⟨i+1,a,λj u q=>by induction j using acw with
 |zero=>cases acn q|succ j=>exact(b j u q).imp (λz=>⟨congrArg (· +1) z.1,z.2⟩) λz=>nomatch z.2⟩
theorem pC.look(hn:(nm.map (·.1)).Nodup)(h:pC nm e x k v e')(l:Look nm e' y j u) :
  (y=x/\j=k/\u=v)\/(y≠x/\Look nm e y j u):=
 ak h.idx λi a b=>ak l.idx λn c d=>(b n u d).elim
  (λz=> .inl (by have q:(y,j)=(x,k):=acn (c.symm.trans (z.1▸a));exact⟨congrArg Prod.fst q,congrArg Prod.snd q,z.2⟩))
  λz=> .inr ⟨λq=>z.1 ((List.getElem?_inj (abw.mp (show(nm.map (·.1))[n]? =some y by rw[ady,c];rfl)).1 hn).mp
   (by rw[ady,ady,a,c];exact congrArg some q)),.of c z.2⟩
class inductive bh:aj->aj->Prop
|nil {e}:bh [] e
|drop {o e e'}:bh e e'->bh (none::e) (o::e')
|dropN {e}:bh e []->bh (none::e) []
|same {o e e'}:bh e e'->bh (o::e) (o::e')
theorem bh.idx(h:bh e e'):∀(j:Nat) v,e[j]? =some (some v)->e'[j]? =some (some v):=by induction h with
|nil=>intro j v q;injection q
|drop _ ih=>intro j v q;induction j using acw with
 |zero=>cases acn q|succ j=>exact ih j v q
|dropN _ ih=>intro j v q;induction j using acw with
 |zero=>cases acn q|succ j=>injection ih j v q
|same _ ih=>intro j v q;induction j using acw with
 |zero=>exact q|succ j=>exact ih j v q
theorem bh.look(h:bh e e')(l:Look nm e x k v):Look nm e' x k v:=
 ak l.idx λi a b=> .of a (h.idx i v b)
def Kc(A:Around)(k:Nat):Prop:=A.depth+k+1<recursionLimit/\A.units+8 * (k+1)<cLine
structure Inv(W:Wd)(g:Gh)(hp:List Ob)(h:Heap):Prop where
 base:∀ b o,W.B.get? b=some o->h.get? b=some o
 len:g.ρ.length=hp.length
 obs:∀(i:Nat) o a,hp[i]? =some o->g.ρ[i]? =some a->RO W g h a o
 ρB:∀ a,a∈g.ρ->W.B.get? a=none
 ρF:∀ a,a∈g.ρ-> ¬g.F a
 nd:g.ρ.Nodup
 fz:∀ a,g.F a-> ∃ o,h.get? a=some o
 sys:(∃ o,W.B.get? sysModules=some o)/\ ¬g.F sysModules
structure Fm(W:Wd)(fc:FC)(cx:Cx)(g:Gh)(env:aj)(h:Heap):Prop where
 kind:cx.menv.scope.kind= .function
 globals:cx.menv.globals=mainGlobals
 builtins:cx.menv.builtins=builtinsNs
 names:∀ x,cx.menv.kindOf x=fc.nm.lookup x
 nodup:(fc.nm.map (·.1)).Nodup
 plain:∀ x k,(x,k)∈fc.nm->((x==("__debug__" : Str))=false/\(x==("__classdict__" : Str))=false)\/(x=("__debug__" : Str)/\k= .globalImplicit)
 ns:∃ m,h.Ns cx.menv.locals m/\ ∀ x v,Look fc.nm env x .local v-> ∃ y,m x=some y/\RV W g h v y
 cl:∀ x k v,Look fc.nm env x k v->k= .cell\/k= .free-> ∃ c y,cx.menv.cells.lookup x=some c/\h.IsCell c (some y)/\RV W g h v y
 loc:cx.menv.locals∈cx.own
 cell:∀ x,x∈fc.wr->ni fc.nm x .cell-> ∃ c v,cx.menv.cells.lookup x=some c/\c∈cx.own/\h.IsCell c v
 apart:∀ x y c,cx.menv.cells.lookup x=some c->cx.menv.cells.lookup y=some c->x=y
 ownF:∀ a,a∈cx.own-> ¬g.F a
 ownρ:∀ a,a∈cx.own->a∉g.ρ
 ownB:∀ a,a∈cx.own->W.B.get? a=none
 ownD:∀ a,a∈cx.own-> ∃ o,h.get? a=some o
 room:Kc cx.A fc.k
 hnd:fc.q=true->cx.A.handled=none
 frames:cx.A.frames=some cx.l
 fun_:h.FunFrames W.B cx.l
 lF:∀ a,a∈cx.l.filterMap (·.frame)-> ¬g.F a/\a∉g.ρ
 frame:cx.menv.frame∈cx.l.map (·.frame)
 head:fc.t=true-> ∃ outer,cx.l=cx.menv::outer
 code:fc.t=true->cx.menv.code=fc.c
theorem Fm.plainL(f:Fm W fc cx g env h)(hm:(x,k)∈fc.nm)(hk:k≠ .globalImplicit):(x==("__debug__" : Str))=false/\(x==("__classdict__" : Str))=false:=(f.plain x k hm).resolve_right λq=>hk q.2
structure Pre(W:Wd)(fc:FC)(cx:Cx)(g:Gh)(env:aj)(hp:List Ob)(h:Heap):Prop where
 inv:Inv W g hp h
 fm:Fm W fc cx g env h
structure jZ(cx:Cx)(g:Gh)(h:Heap)(g':Gh)(h':Heap):Prop where
 F:∀ a,g.F a->g'.F a
 Fnew:∀ a,g'.F a->g.F a\/h.get? a=none
 ρ:g.ρ <+: g'.ρ
 ρnew:∀ a,a∈g'.ρ->a∈g.ρ\/h.get? a=none
 dom:∀ a o,h.get? a=some o-> ∃ o',h'.get? a=some o'
 keep:∀ a o,h.get? a=some o->a∉g.ρ->a∉cx.own->h'.get? a=some o\/(a∈cx.l.filterMap (·.frame)/\ ∃ sl,h'.get? a=some { o with slots:=sl })
theorem jZ.refl(cx:Cx)(g:Gh)(h:Heap):jZ cx g h g h:=
 ⟨λ_ x=>x,λ_ x=> .inl x,ac2,λ_ x=> .inl x,λ_ o e=>⟨o,e⟩,λ_ _ e _ _=> .inl e⟩
theorem jZ.trans(x:jZ cx g h Yx YF)(y:jZ cx Yx YF Yy YK):jZ cx g h Yy YK:=by
 refine⟨λa ha=>y.F a (x.F a ha),λa ha=> ?_,x.ρ.trans y.ρ,λa ha=> ?_,λa o e=> ?_,λa o e h1 h2=> ?_⟩
 ·rcases y.Fnew a ha with h1|h1
  ·exact x.Fnew a h1
  ·refine .inr ?_;induction hq:h.get? a using abt with
  |none=>rfl|some o=>obtain⟨o',e'⟩:=x.dom a o hq;rw[e']at h1;injection h1
 ·rcases y.ρnew a ha with h1|h1
  ·exact x.ρnew a h1
  ·refine .inr ?_;induction hq:h.get? a using abt with
  |none=>rfl|some o=>obtain⟨o',e'⟩:=x.dom a o hq;rw[e']at h1;injection h1
 ·obtain⟨AY,YB⟩:=x.dom a o e;exact y.dom a AY YB
 ·have yy:a∉Yx.ρ:=λhm=>by
   rcases x.ρnew a hm with q|q
   ·exact h1 q
   ·rw[e]at q;injection q
  rcases x.keep a o e h1 h2 with YB|⟨hl,sl,YB⟩
  ·exact y.keep a o YB yy h2
  ·rcases y.keep a _ YB yy h2 with e₂|⟨_,sl',e₂⟩
   ·exact .inr ⟨hl,sl,e₂⟩
   ·exact .inr ⟨hl,sl',e₂⟩
theorem jZ.keeps(x:jZ cx g h g' h')(P:Pre W fc cx g env hp h):bU g h g' h':=by
 refine⟨x.F,λa o ha e=> ?_,x.ρ⟩;rcases x.keep a o e (λhm=>P.inv.ρF a hm ha) (λhm=>P.fm.ownF a hm ha)with h1|⟨h1,_⟩
 ·exact h1
 ·exact absurd ha (P.fm.lF a h1).1
end
section
variable{h h':Heap}
theorem aV{h h':Heap}:∀{l:List Env},h.FunFrames B l->(∀ a o,a∈l.filterMap (·.frame)->h.get? a=some o-> ∃ sl,h'.get? a=some { o with slots:=sl })->h'.FunFrames B l
|[],_,_=>trivial
|env::r,⟨hk,⟨L,o,hf,hn,ho,hd⟩,hr⟩,k=>by refine⟨hk,?_,aV hr λa o ha e=>k a o (by(refine aa ae4 ?_;refine aa hf ?_);exact abl _ ha) e⟩;obtain⟨sl,e⟩:=k L o (by(refine aa ae4 ?_;refine aa hf ?_);exact abq) ho;exact⟨L,_,hf,hn,e,hd⟩
structure Step(g:Gh)(h:Heap)(g':Gh)(h':Heap):Prop where
 F:∀ a,g.F a->g'.F a
 Fnew:∀ a,g'.F a->g.F a\/h.get? a=none
 ρ:g.ρ <+: g'.ρ
 ρnew:∀ a,a∈g'.ρ->a∈g.ρ\/h.get? a=none
 keep:∀ a o,h.get? a=some o->a∉g.ρ->h'.get? a=some o
theorem Step.evo(x:Step g h g' h')(I:Inv W g hp h)(I':Inv W g' hp' h'):jZ cx g h g' h':=by
 refine⟨x.F,x.Fnew,x.ρ,x.ρnew,λa o e=> ?_,λa o e h1 _=> .inl (x.keep a o e h1)⟩
 by_cases ha:a∈g.ρ
 ·obtain⟨i,hi,rfl⟩:=ac5 ha;have e1:g.ρ[i]? =some g.ρ[i]:=abu hi;have e2:=iw x.ρ e1;have eA:i<hp'.length:=by exact aa (ach I'.len) ((abw.mp e2).1)
  exact(I'.obs i hp'[i] _ (abu eA) e2).some
 ·exact⟨o,x.keep a o e ha⟩
theorem Step.keeps(x:Step g h g' h')(I:Inv W g hp h):bU g h g' h':=
 ⟨x.F,λa o ha e=>x.keep a o e λhm=>I.ρF a hm ha,x.ρ⟩
theorem RO.noCell(r:RO W g h a ob)(hc:h.IsCell a v):False:=by
 obtain⟨o,ho,hd⟩:=hc;have no:∀{o':Obj},h.get? a=Option.some o'->o'.data= .cell v:=λe=>by rw[ho]at e;cases e;exact hd
 induction ob using Ob.casesOn with
|list xs=>obtain⟨_,⟨n,ca⟩,_⟩:=r;have e:=no ca;cases e
|dS ks xs=>obtain⟨_,_,⟨o',es,ep,ca,_,bE,_⟩,_⟩:=r;have e:=bE.symm.trans (no ca);cases e
|dI ks xs=>obtain⟨_,_,⟨o',es,ep,ca,_,bE,_⟩,_⟩:=r;have e:=bE.symm.trans (no ca);cases e
|ns ks xs=>obtain⟨_,_,_,⟨o',es,ep,ca,bE,_⟩,_⟩:=r;have e:=bE.symm.trans (no ca);cases e
|tab P ps=>obtain⟨_,_,ca,_⟩:=r;have e:=no ca;injection e
theorem Step.fm(x:Step g h g' h')(I:Inv W g hp h)(f:Fm W fc cx g env h):Fm W fc cx g' env h':=by
 have K:=x.keeps I;have own:∀ a o,a∈cx.own->h.get? a=some o->h'.get? a=some o:=λa o ha e=>x.keep a o e (f.ownρ a ha);have fresh:∀ a o,h.get? a=some o-> ¬g.F a-> ¬g'.F a:=λa o e hn hF=>by
  rcases x.Fnew a hF with q|q
  ·exact hn q
  ·rw[e]at q;injection q
 have freshρ:∀ a o,h.get? a=some o->a∉g.ρ->a∉g'.ρ:=λa o e hn hF=>by
  rcases x.ρnew a hF with q|q
  ·exact hn q
  ·rw[e]at q;injection q
 refine{ kind:=f.kind,globals:=f.globals,builtins:=f.builtins,names:=f.names,nodup:=f.nodup,plain:=f.plain,ns:= ?_,cl:= ?_,loc:=f.loc,cell:= ?_,apart:=f.apart,ownF:= ?_,ownρ:= ?_,ownB:=f.ownB,ownD:= ?_,room:=f.room,hnd:=f.hnd,frames:=f.frames,fun_:= ?_,lF:= ?_,frame:=f.frame,head:=f.head,code:=f.code }
 ·(refine ak f.ns λm dy hm=> ?_;obtain⟨o,es,ep,ho,r⟩:=dy);exact⟨m,⟨o,es,ep,own _ o f.loc ho,r⟩,λy v e1=>let⟨z,e3,e4⟩:=hm y v e1;⟨z,e3,e4.keep K⟩⟩
 ·intro y k v e1 e2;(refine au (f.cl y k v e1 e2) λc z e3 ez e4=> ?_;obtain⟨o,ho,hd⟩:=ez);refine⟨c,z,e3,⟨o,?_,hd⟩,e4.keep K⟩;refine x.keep c o ho λhm=> ?_;obtain⟨i,hi,rfl⟩:=ac5 hm;have eA:i<hp.length:=by exact aa (ach I.len) hi
  exact(I.obs i hp[i] _ (abu eA) (abu hi)).noCell ⟨o,ho,hd⟩
 ·intro y e1 e2;(refine au (f.cell y e1 e2) λc v e3 e4 dn=> ?_;obtain⟨o,ho,hd⟩:=dn);exact⟨c,v,e3,e4,⟨o,own c o e4 ho,hd⟩⟩
 ·intro a ha;obtain⟨o,e⟩:=f.ownD a ha;exact fresh a o e (f.ownF a ha)
 ·intro a ha;obtain⟨o,e⟩:=f.ownD a ha;exact freshρ a o e (f.ownρ a ha)
 ·intro a ha;obtain⟨o,e⟩:=f.ownD a ha;exact⟨o,own a o ha e⟩
 ·exact aV f.fun_ λa o ha e=>⟨o.slots,x.keep a o e (f.lF a ha).2⟩
 ·intro a ha;obtain⟨_,o,e,_⟩:=f.fun_.mem ha;exact⟨fresh a o e (f.lF a ha).1,freshρ a o e (f.lF a ha).2⟩
theorem Step.pre(x:Step g h g' h')(P:Pre W fc cx g env hp h)(I':Inv W g' hp' h'):Pre W fc cx g' env hp' h':=⟨I',x.fm P.inv P.fm⟩
theorem Step.ext(hk:∀ b o,h.get? b=some o->h'.get? b=some o):Step g h g h':=
 ⟨λ_ x=>x,λ_ x=> .inl x,ac2,λ_ x=> .inl x,λa o e _=>hk a o e⟩
theorem Inv.ext(I:Inv W g hp h)(hk:∀ b o,h.get? b=some o->h'.get? b=some o):Inv W g hp h':=by have K:=(Step.ext (g:=g) hk).keeps I;refine⟨λb o e=>hk b o (I.base b o e),I.len,λi o a e1 e2=> ?_,I.ρB,I.ρF,I.nd,λa ha=>(let⟨o,e⟩:=I.fz a ha;⟨o,hk a o e⟩),I.sys⟩;have r:=I.obs i o a e1 e2;obtain⟨O,eO⟩:=r.some;exact r.keep K ((hk a O eO).trans eO.symm)
theorem Pre.ext(P:Pre W fc cx g env hp h)(hk:∀ b o,h.get? b=some o->h'.get? b=some o):Pre W fc cx g env hp h'/\jZ cx g h g h':=
 let I':=P.inv.ext hk
 ⟨(Step.ext hk).pre P I',(Step.ext hk).evo P.inv I'⟩
theorem get?_size_none(h:Heap):h.get? h.objs.size=none:=by induction hq:h.get? h.objs.size using abt with
|none=>rfl
|some o=>exact absurd (ado hq) (ahj _)
noncomputable def Gh.freeze(g:Gh)(a:Addr):Gh:=⟨λb=>g.F b\/b=a,g.ρ⟩
noncomputable def Gh.grow(g:Gh)(a:Addr):Gh:=⟨g.F,g.ρ++[a]⟩
theorem Step.freeze(ha:h.get? a=none)(hk:∀ b o,h.get? b=some o->h'.get? b=some o):Step g h (g.freeze a) h':=
 ⟨λ_ x=> .inl x,λb x=>x.elim .inl λe=> .inr (e▸ha),ac2,λ_ x=> .inl x,λa o e _=>hk a o e⟩
theorem Inv.freeze(I:Inv W g hp h)(ha:h.get? a=none)(ho:h'.get? a=some o)(hk:∀ b o,h.get? b=some o->h'.get? b=some o):Inv W (g.freeze a) hp h':=by
 have K:=(Step.freeze (g:=g) ha hk).keeps I;refine⟨λb o e=>hk b o (I.base b o e),I.len,λi o a e1 e2=> ?_,I.ρB,λb hb hF=> ?_,I.nd,λb hb=> ?_,I.sys.1,λhF=> ?_⟩
 ·have r:=I.obs i o a e1 e2;obtain⟨O,eO⟩:=r.some;exact r.keep K ((hk a O eO).trans eO.symm)
 ·rcases hF with q|q
  ·exact I.ρF b hb q
  ·subst q;obtain⟨i,hi,ei⟩:=ac5 (show b∈g.ρ from hb);have eA:i<hp.length:=by exact aa (ach I.len) hi
   obtain⟨O,eO⟩:=(I.obs i hp[i] b (abu eA) (by(refine aa (abu hi) ?_;exact aa ei rfl))).some;rw[ha]at eO;injection eO
 ·rcases hb with q|q
  ·obtain⟨o,e⟩:=I.fz b q;exact⟨o,hk b o e⟩
  ·subst q;exact⟨_,ho⟩
 ·rcases hF with q|q
  ·exact I.sys.2 q
  ·obtain⟨o,e⟩:=I.sys.1;have:=I.base _ o e;rw[q,ha]at this;injection this
theorem Pre.freeze(P:Pre W fc cx g env hp h)(ha:h.get? a=none)(ho:h'.get? a=some o)(hk:∀ b o,h.get? b=some o->h'.get? b=some o) :
  Pre W fc cx (g.freeze a) env hp h'/\jZ cx g h (g.freeze a) h'/\bU g h (g.freeze a) h':=
 let I':=P.inv.freeze ha ho hk
 ⟨(Step.freeze ha hk).pre P I',(Step.freeze ha hk).evo P.inv I',(Step.freeze ha hk).keeps P.inv⟩
theorem Step.grow(ha:h.get? a=none)(hk:∀ b o,h.get? b=some o->h'.get? b=some o):Step g h (g.grow a) h':=
 ⟨λ_ x=>x,λb x=> .inl x,ai4 ..,λb x=>by
  rcases ad9.mp x with q|q
  ·exact .inl q
  ·rw[ace]at q;subst q;exact .inr ha,λa o e _=>hk a o e⟩
theorem Inv.grow(I:Inv W g hp h)(ha:h.get? a=none)(hk:∀ b o,h.get? b=some o->h'.get? b=some o)(ho:RO W (g.grow a) h' a ob):Inv W (g.grow a) (hp++[ob]) h':=by
 have K:=(Step.grow (g:=g) ha hk).keeps I;refine⟨λb o e=>hk b o (I.base b o e),by simp[Gh.grow,I.len],λi o b e1 e2=> ?_,λb hb=> ?_,λb hb hF=> ?_,?_,λb hb=> ?_,I.sys⟩
 ·by_cases hi:i<hp.length
  ·rw[ael hi]at e1;rw[Gh.grow,ael (by exact aa I.len hi)]at e2;have r:=I.obs i o b e1 e2;obtain⟨O,eO⟩:=r.some;exact r.keep K ((hk b O eO).trans eO.symm)
  ·rw[ai5 (aes hi)]at e1;rw[Gh.grow,ai5 (by exact aa I.len (aes hi))]at e2;rw[I.len]at e2;have h0:i - hp.length=0:=by have:=(abw.mp e1).1;simp at this;assumption
   rw[h0]at e1 e2;simp at e1 e2;subst e1 e2;exact ho
 ·rcases ad9.mp hb with q|q
  ·exact I.ρB b q
  ·rw[ace]at q;subst q;induction hq:W.B.get? b using abt with
  |none=>rfl|some o=>have:=I.base b o hq;rw[ha]at this;injection this
 ·rcases ad9.mp hb with q|q
  ·exact I.ρF b q hF
  ·rw[ace]at q;subst q;obtain⟨o,e⟩:=I.fz b hF;rw[ha]at e;injection e
 ·refine(?_:(g.ρ++[a]).Nodup);rw[af6];refine⟨I.nd,by simp,λb hb c hc e=> ?_⟩;rw[ace]at hc;subst hc;subst e;obtain⟨i,hi,rfl⟩:=ac5 hb;have eA:i<hp.length:=by exact aa (ach I.len) hi
  obtain⟨O,eO⟩:=(I.obs i hp[i] _ (abu eA) (abu hi)).some;rw[ha]at eO;injection eO
 ·obtain⟨o,e⟩:=I.fz b hb;exact⟨o,hk b o e⟩
theorem Pre.grow(P:Pre W fc cx g env hp h)(ha:h.get? a=none)(hk:∀ b o,h.get? b=some o->h'.get? b=some o)(ho:bU g h (g.grow a) h'->RO W (g.grow a) h' a ob) :
  Pre W fc cx (g.grow a) env (hp++[ob]) h'/\jZ cx g h (g.grow a) h':=
 let I':=P.inv.grow ha hk (ho ((Step.grow ha hk).keeps P.inv))
 ⟨(Step.grow ha hk).pre P I',(Step.grow ha hk).evo P.inv I'⟩
theorem lZ(g:Gh)(I:Inv W g hp h)(a:Addr):(g.grow a).ρ[hp.length]? =some a:=by refine(?_:(g.ρ++[a])[hp.length]? =_);exact aa (ach I.len) (ai1)
theorem Step.upd(ha:a∈g.ρ)(hs:ae0 a h h'):Step g h g h':=
 ⟨λ_ x=>x,λ_ x=> .inl x,ac2,λ_ x=> .inl x,λb o e hb=>(hs.2 b λq=>hb (q▸ha)).trans e⟩
theorem Inv.upd(I:Inv W g hp h)(hi:g.ρ[i]? =some a)(hs:ae0 a h h')(ho:RO W g h' a ob):Inv W g (hp.set i ob) h':=by
 have ha:a∈g.ρ:=acq hi;have K:=(Step.upd (g:=g) ha hs).keeps I;refine⟨λb o e=>(hs.2 b λq=> ?_).trans (I.base b o e),by simp[I.len],λj o b e1 e2=> ?_,I.ρB,I.ρF,I.nd,λb hb=> ?_,I.sys⟩
 ·subst q;rw[I.ρB b ha]at e;injection e
 ·by_cases hj:i=j
  ·subst hj;rw[hi]at e2;cases e2;have bq:i<hp.length:=by exact aa (ach I.len) ((abw.mp hi).1)
   rw[aj9 bq]at e1;cases e1;exact ho
  ·rw[akz hj]at e1;have Ct:b≠a:=λq=>by subst q;obtain⟨l1,e3⟩:=abw.mp hi;obtain⟨l2,e4⟩:=abw.mp e2;exact hj ((aii I.nd).mp (e3.trans e4.symm))
   exact(I.obs j o b e1 e2).keep K (hs.2 b Ct)
 ·obtain⟨o,e⟩:=I.fz b hb;exact⟨o,(hs.2 b λq=>I.ρF a ha (q▸hb)).trans e⟩
theorem Pre.weaken(P:Pre W fc cx g env hp h)(he:bh ag env):Pre W fc cx g ag hp h:=
 ⟨P.inv,{ P.fm with ns:=(let⟨m,hm,r⟩:=P.fm.ns;⟨m,hm,λx v e1=>r x v (he.look e1)⟩),cl:=λx k v e1 e2=>P.fm.cl x k v (he.look e1) e2 }⟩
structure j_(s s':Shared):Prop where
 os:s'.os=s.os
 gens:AllBare s.gens->AllBare s'.gens
 tk:s.toks<=s'.toks
theorem j_.refl(s:Shared):j_ s s:=⟨rfl,id,abm _⟩
theorem j_.trans(x:j_ s s₁)(y:j_ s₁ Yv):j_ s Yv:=⟨y.os.trans x.os,λb=>y.gens (x.gens b),abj x.tk y.tk⟩
structure Run(W:Wd)(fc:FC)(cx:Cx)(g:Gh)(s:Shared)(ag:aj)(hp':List Ob)(g':Gh)(s':Shared):Prop where
 evo:jZ cx g s.heap g' s'.heap
 pre:Pre W fc cx g' ag hp' s'.heap
 same:j_ s s'
theorem Run.t(x:Run W fc cx g s e hp' g' s')(t0:0<s.toks):0<s'.toks:=aby t0 x.same.tk
theorem Run.refl(P:Pre W fc cx g env hp s.heap):Run W fc cx g s env hp g s:=⟨.refl ..,P,.refl _⟩
theorem Run.trans(x:Run W fc cx g s e1 hp₁ Yx s₁)(y:Run W fc cx Yx s₁ e2 YC Yy Yv):Run W fc cx g s e2 YC Yy Yv:=
 ⟨x.evo.trans y.evo,y.pre,x.same.trans y.same⟩
theorem Run.keep(x:Run W fc cx g s e1 hp₁ Yx s₁)(P:Pre W fc cx g env hp s.heap):bU g s.heap Yx s₁.heap:=x.evo.keeps P
structure Ev(W:Wd)(fc:FC)(env:aj)(hp:List Ob)(e:Expr)(v:V)(hp':List Ob):Prop where
 go:∀(cx:Cx)(g:Gh)(s:Shared)(Q:Value->Shared->Prop)(E:Value->Shared->Prop),Pre W fc cx g env hp s.heap->0<s.toks->
  (∀ g' s' y,Run W fc cx g s env hp' g' s'->RV W g' s'.heap v y->Q y s')->wpAny (model W.prog W.w) cx.A (eval e cx.menv) Q E s
noncomputable def isStar(e:Expr):Bool:=swappedStores.match_5 (λ_=>Bool) e (λ_ _=>true) λ_=>false
theorem aY(e:Expr)(rest:List Expr)(m:Env)(hs:isStar e=false):starEach (e::rest) m=(false,eval e m)::starEach rest m:=by induction e using ac6<;>first|rfl|injection hs
structure wI(W:Wd)(fc:FC)(env:aj)(hp:List Ob)(es:List Expr)(vs:List V)(hp':List Ob):Prop where
 go:∀(pos:Pos)(cx:Cx)(g:Gh)(s:Shared)(Q:List Value->Shared->Prop)(E:Value->Shared->Prop),Pre W fc cx g env hp s.heap->0<s.toks->
  (∀ g' s' ys,Run W fc cx g s env hp' g' s'->aQ W g' s'.heap vs ys->Q ys s')->wpAny (model W.prog W.w) cx.A (spliced (backTo pos (starEach es cx.menv))) Q E s
theorem rn:wI W fc env hp [] [] hp:= .mk λpos cx g s Q E P t0 hQ=>spliced_nil (hQ g s [] (.refl P) rfl)
theorem kY(hs:isStar e=false)(h1:Ev W fc env hp e v hp₁)(h2:wI W fc env hp₁ es vs YC) :
  wI W fc env hp (e::es) (v::vs) YC:=by
 refine .mk ?_;intro pos cx g s Q E P t0 hQ;refine aa (aY e es cx.menv hs) ?_;refine spliced_cons (h1.go cx g s _ E P t0 λYx s₁ y Yw YL=>h2.go pos cx Yx s₁ _ E Yw.pre (Yw.t t0) λYy Yv ys Yz Y0=> ?_);exact hQ Yy Yv _ (Yw.trans Yz) ⟨y,ys,rfl,YL.keep (Yz.keep Yw.pre),Y0⟩
theorem Q_:Ev W fc env hp (.Constant .none k pos) .none hp:= .mk λcx g s Q E P t0 hQ=>λ_ _ _=>hQ g s _ (.refl P) rfl
theorem Q4:Ev W fc env hp (.Constant (.bool b) k pos) (.bool b) hp:= .mk λcx g s Q E P t0 hQ=>λ_ _ _=>hQ g s _ (.refl P) rfl
theorem Run.toks(P:Pre W fc cx g env hp s.heap)(hn:s.toks<=n):Run W fc cx g s env hp g { s with toks:=n }:=⟨.refl ..,P,⟨rfl,id,hn⟩⟩
theorem U6{i:Int}:Ev W fc env hp (.Constant (.int i) k pos) (.int i) hp:= .mk λcx g s Q E P t0 hQ=>
 wpAny_Constant_int (hQ g _ _ (.toks P (acg _)) ⟨_,rfl⟩)
theorem Va:Ev W fc env hp (.Constant (.str x) k pos) (.str x) hp:= .mk λcx g s Q E P t0 hQ=>
 Constant_str (hQ g _ _ (.toks P (acg _)) ⟨_,rfl⟩)
theorem U7(hv:Look fc.nm env x .local v):Ev W fc env hp (.Name x pos) v hp:=by refine .mk ?_;intro cx g s Q E P t0 hQ;refine ak P.fm.ns λm hm hr=> ?_;refine ak (hr x v hv) λy hy rv=> ?_;exact wpAny_Name (wpAny_loadName_local P.fm.kind ((P.fm.names x).trans (hv.has.lookup P.fm.nodup)) hm hy (hQ g s y (.refl P) rv)) (P.fm.plainL hv.has.mem (by decide)).1
theorem Q6(hv:Look fc.nm env x .cell v):Ev W fc env hp (.Name x pos) v hp:=by refine .mk ?_;intro cx g s Q E P t0 hQ;refine au (P.fm.cl x _ v hv (.inl rfl)) λc y hc hi rv=> ?_;exact wpAny_Name (wpAny_loadName_cell P.fm.kind ((P.fm.names x).trans (hv.has.lookup P.fm.nodup)) hc hi (hQ g s y (.refl P) rv)) (P.fm.plainL hv.has.mem (by decide)).1
theorem Q7(hv:Look fc.nm env x .free v):Ev W fc env hp (.Name x pos) v hp:=by refine .mk ?_;intro cx g s Q E P t0 hQ;refine au (P.fm.cl x _ v hv (.inr rfl)) λc y hc hi rv=> ?_;exact wpAny_Name (wpAny_loadName_free P.fm.kind ((P.fm.names x).trans (hv.has.lookup P.fm.nodup)) hc hi (hQ g s y (.refl P) rv) (P.fm.plainL hv.has.mem (by decide)).2) (P.fm.plainL hv.has.mem (by decide)).1
theorem Vc(h1:wI W fc env hp dA vs hp₁)(hl:vs.length<=1000):Ev W fc env hp (.Tuple dA k pos) (.tup vs) hp₁:=by refine .mk ?_;intro cx g s Q E P t0 hQ;refine ali (h1.go pos cx g s _ E P t0 λYx s₁ ys Yw YL=> ?_);have ar:=YL.length;refine wpAny_newObj_type ?_ (by refine(?_:ys.toArray.size<=sizeLine);(refine aa aci ?_;refine aa sizeLine_eq ?_);exact tl (abj (ab2 ar) hl) rfl);have ho:=ab4 s₁.heap (o:={ cls:= .type "tuple",dict:=none,data:= .seq ys.toArray }) rfl;refine bK (Yw.pre.freeze (get?_size_none _) ho (λb o e=>abr _ e)) λP' ev K=> ?_;refine hQ _ { s₁ with heap:=s₁.heap.push { cls:= .type "tuple",dict:=none,data:= .seq ys.toArray } } _ (Yw.trans ⟨ev,P',⟨rfl,id,abm _⟩⟩) ?_;exact⟨_,ys,rfl,.inr rfl,⟨0,ho⟩,YL.keep K⟩
theorem Q9(h1:wI W fc env hp dA vs hp₁)(hl:vs.length<=1000):Ev W fc env hp (.List dA pos) (.lst vs) hp₁:=by refine .mk ?_;intro cx g s Q E P t0 hQ;refine ai6 (h1.go pos cx g s _ E P t0 λYx s₁ ys Yw YL=> ?_);have ar:=YL.length;refine wpAny_newObj_type ?_ (by refine(?_:ys.toArray.size<=sizeLine);(refine aa aci ?_;refine aa sizeLine_eq ?_);exact tl (abj (ab2 ar) hl) rfl);have ho:=ab4 s₁.heap (o:={ cls:= .type "list",dict:=none,data:= .seq ys.toArray }) rfl;refine bK (Yw.pre.freeze (get?_size_none _) ho (λb o e=>abr _ e)) λP' ev K=> ?_;refine hQ _ { s₁ with heap:=s₁.heap.push { cls:= .type "list",dict:=none,data:= .seq ys.toArray } } _ (Yw.trans ⟨ev,P',⟨rfl,id,abm _⟩⟩) ?_;exact⟨_,ys,rfl,.inr rfl,⟨0,ho⟩,YL.keep K⟩
theorem Mf(h1:wI W fc env hp dA vs hp₁)(hl:vs.length<=1000):Ev W fc env hp (.List dA pos) (.ref hp₁.length) (hp₁++[.list vs]):=by refine .mk ?_;intro cx g s Q E P t0 hQ;refine ai6 (h1.go pos cx g s _ E P t0 λYx s₁ ys Yw YL=> ?_);have ar:=YL.length;refine wpAny_newObj_type ?_ (by refine(?_:ys.toArray.size<=sizeLine);(refine aa aci ?_;refine aa sizeLine_eq ?_);exact tl (abj (ab2 ar) hl) rfl);have ho:=ab4 s₁.heap (o:={ cls:= .type "list",dict:=none,data:= .seq ys.toArray }) rfl;obtain⟨P',ev⟩:=Yw.pre.grow (ob:= .list vs) (get?_size_none _) (λb o e=>abr _ e) (λK=>⟨ys,⟨0,ho⟩,YL.keep K⟩);refine hQ _ { s₁ with heap:=s₁.heap.push { cls:= .type "list",dict:=none,data:= .seq ys.toArray } } _ (Yw.trans ⟨ev,P',⟨rfl,id,abm _⟩⟩) ?_;exact⟨_,lZ Yx Yw.pre.inv _,rfl⟩
structure uP(W:Wd)(fc:FC)(env:aj)(hp:List Ob)(op:Operator)(a b v:V)(hp':List Ob):Prop where
 go:∀(cx:Cx)(g:Gh)(s:Shared)(x y:Value)(Q:Value->Shared->Prop)(E:Value->Shared->Prop),Pre W fc cx g env hp s.heap->0<s.toks->RV W g s.heap a x->RV W g s.heap b y->
  (∀ g' s' z,Run W fc cx g s env hp' g' s'->RV W g' s'.heap v z->Q z s')->wpAny (model W.prog W.w) cx.A (binaryOp op x y) Q E s
theorem Dn(h1:Ev W fc env hp l a hp₁)(h2:Ev W fc env hp₁ r b YC)(h3:uP W fc env YC op a b v YQ) :
  Ev W fc env hp (.BinOp l op r pos) v YQ:=by
 refine .mk ?_;intro cx g s Q E P t0 hQ;refine wpAny_BinOp (h1.go cx g s _ E P t0 λYx s₁ x Yw YL=>h2.go cx Yx s₁ _ E Yw.pre (Yw.t t0) λYy Yv y Yz Y0=> ?_);exact h3.go cx Yy Yv x y Q E Yz.pre (Yz.t (Yw.t t0)) (YL.keep (Yz.keep Yw.pre)) Y0 λYM s₃ z YH A7=>hQ YM s₃ z ((Yw.trans Yz).trans YH) A7
theorem yJ{a b:Int}:uP W fc env hp .Add (.int a) (.int b) (.int (a+b)) hp:=by refine .mk ?_;intro cx g s x y Q E P t0 ra rb hQ;obtain⟨t,rfl⟩:=ra;obtain⟨u,rfl⟩:=rb;exact wpAny_add_int (hQ g _ _ (.toks P (acg _)) ⟨_,rfl⟩)
theorem yP{a b:Int}:uP W fc env hp .Sub (.int a) (.int b) (.int (a - b)) hp:=by refine .mk ?_;intro cx g s x y Q E P t0 ra rb hQ;obtain⟨t,rfl⟩:=ra;obtain⟨u,rfl⟩:=rb;exact ao5 (hQ g _ _ (.toks P (acg _)) ⟨_,rfl⟩)
theorem yL{a b:Int}(hb:b≠0):uP W fc env hp .Mod (.int a) (.int b) (.int (a.fmod b)) hp:=by refine .mk ?_;intro cx g s x y Q E P t0 ra rb hQ;obtain⟨t,rfl⟩:=ra;obtain⟨u,rfl⟩:=rb;exact ao6 hb (hQ g _ _ (.toks P (acg _)) ⟨_,rfl⟩)
end
section
variable{cx:Cx}{h:Heap}
theorem Inv.other(I:Inv W g hp h)(hρ:a∉g.ρ)(hF:¬g.F a)(hB:W.B.get? a=none)(hs:ae0 a h h'):Inv W g hp h':=by
 have K:bU g h g h':=⟨λ_ x=>x,λb o hb e=>(hs.2 b λq=>hF (q▸hb)).trans e,ac2⟩;refine⟨λb o e=>(hs.2 b λq=>by subst q;rw[hB]at e;cases e).trans (I.base b o e),I.len,λi o b e1 e2=> ?_,I.ρB,I.ρF,I.nd,λb hb=> ?_,I.sys⟩
 ·exact(I.obs i o b e1 e2).keep K (hs.2 b λq=>hρ (q▸acq e2))
 ·obtain⟨o,e⟩:=I.fz b hb;exact⟨o,(hs.2 b λq=>hF (q▸hb)).trans e⟩
theorem jZ.own(ha:a∈cx.own)(hs:ae0 a h h')(hd:∃ o,h'.get? a=some o):jZ cx g h g h':=by
 refine⟨λ_ x=>x,λ_ x=> .inl x,ac2,λ_ x=> .inl x,λb o e=> ?_,λb o e _ h2=> .inl ((hs.2 b λq=>h2 (q▸ha)).trans e)⟩
 by_cases hb:b=a
 ·subst hb;exact hd
 ·exact⟨o,(hs.2 b hb).trans e⟩
theorem t8(f:Fm W fc cx g env h)(ha:a∈cx.own)(hs:ae0 a h h'):bU g h g h':=
 ⟨λ_ x=>x,λb o hb e=>(hs.2 b λq=>f.ownF a ha (q▸hb)).trans e,ac2⟩
theorem jf(hl:h.FunFrames B l)(hs:ae0 a h h')(hd:∃ o,h'.get? a=some o/\ ∀ vs,o.data≠ .fields vs):h'.FunFrames B l:=by induction l with
|nil=>trivial
|cons env r ih=>
  obtain⟨hk,⟨L,o,hf,hn,ho,dP⟩,hr⟩:=hl;refine⟨hk,?_,ih hr⟩
  by_cases hL:L=a
  ·subst hL;refine ak hd λo' ca bE=> ?_;exact⟨L,o',hf,hn,ca,bE⟩
  ·exact⟨L,o,hf,hn,(hs.2 L hL).trans ho,dP⟩
theorem ie{f:Fm W fc cx g env h}{c:Addr}{v:Option Value}(hc:h.IsCell c v):c≠cx.menv.locals:=by rintro rfl;(refine ak f.ns λm dy _=> ?_;obtain⟨o,es,ep,ho,hd,_⟩:=dy);obtain⟨o',ca,bE⟩:=hc;rw[ho]at ca;cases ca;rw[hd]at bE;cases bE
theorem dw{s:Shared}{x:Str}{v:V}{y:Value}{Q:Unit->Shared->Prop}{E:Value->Shared->Prop}(P:Pre W fc cx g env hp s.heap)(p:pC fc.nm env x .local v ag)(rv:RV W g s.heap v y)
  (hQ:∀ s',Run W fc cx g s ag hp g s'->Q () s'):wpAny (model W.prog W.w) cx.A (storeName cx.menv x y) Q E s:=by
 refine ak P.fm.ns λm hm hr=> ?_;have f:=P.fm;have hk:=(f.names x).trans (p.has.lookup f.nodup);refine wpAny_storeName_local hk hm (λh' hn hs=> ?_) (by exact aa f.kind rfl);have K:=t8 f f.loc hs;obtain⟨o',tx,yk,ca,bE,mx⟩:=id hn;have alive:∃ o,h'.get? cx.menv.locals=some o:=⟨o',ca⟩;refine hQ { s with heap:=h',toks:=s.toks+1 } ⟨jZ.own f.loc hs alive,⟨P.inv.other (f.ownρ _ f.loc) (f.ownF _ f.loc) (f.ownB _ f.loc) hs,?_⟩,⟨rfl,id,acg _⟩⟩;refine{ kind:=f.kind,globals:=f.globals,builtins:=f.builtins,names:=f.names,nodup:=f.nodup,plain:=f.plain,ns:= ?_,cl:= ?_,loc:=f.loc,cell:= ?_,apart:=f.apart,ownF:=f.ownF,ownρ:=f.ownρ,ownB:=f.ownB,ownD:= ?_,room:=f.room,hnd:=f.hnd,frames:=f.frames,fun_:= ?_,lF:=f.lF,frame:=f.frame,head:=f.head,code:=f.code }
 ·refine⟨_,hn,λz u l=> ?_⟩;rcases p.look f.nodup l with⟨rfl,_,rfl⟩|⟨dv,l⟩
  ·exact⟨y,by exact if_pos rfl,rv.keep K⟩
  ·refine ak (hr z u l) λw e r=> ?_;exact⟨w,by simp[dv,e],r.keep K⟩
 ·intro z k u l gI;rcases p.look f.nodup l with⟨rfl,rfl,rfl⟩|⟨dv,l⟩
  ·rcases gI with q|q<;>cases q
  ·refine au (f.cl z k u l gI) λc w e hc r=> ?_;exact⟨c,w,e,hc.sameBut hs (ie (f:=f) hc),r.keep K⟩
 ·intro z hz hh;refine au (f.cell z hz hh) λc w e ho hc=> ?_;exact⟨c,w,e,ho,hc.sameBut hs (ie (f:=f) hc)⟩
 ·intro a ha
  by_cases q:a=cx.menv.locals
  ·subst q;exact alive
  ·obtain⟨o,e⟩:=f.ownD a ha;exact⟨o,(hs.2 a q).trans e⟩
 ·exact jf f.fun_ hs ⟨o',ca,λvs q=>by rw[bE]at q;cases q⟩
theorem nO{s:Shared}{x:Str}{v:V}{y:Value}{Q:Unit->Shared->Prop}{E:Value->Shared->Prop}(P:Pre W fc cx g env hp s.heap)(p:pC fc.nm env x .cell v ag)(hw:x∈fc.wr)(rv:RV W g s.heap v y)
  (hQ:∀ s',Run W fc cx g s ag hp g s'->Q () s'):wpAny (model W.prog W.w) cx.A (storeName cx.menv x y) Q E s:=by
 have f:=P.fm;refine ak f.ns λm hm hr=> ?_;have hk:=(f.names x).trans (p.has.lookup f.nodup);refine au (f.cell x hw p.has) λc EV hc db ga=> ?_;refine wpAny_storeName_cell f.kind hk hc ga λh' fe hs=> ?_;have K:=t8 f db hs;obtain⟨o',ca,bE⟩:=id fe;have alive:∃ o,h'.get? c=some o:=⟨o',ca⟩;have dv:c≠cx.menv.locals:=ie (f:=f) ga;refine hQ { s with heap:=h' } ⟨jZ.own db hs alive,⟨P.inv.other (f.ownρ _ db) (f.ownF _ db) (f.ownB _ db) hs,?_⟩,⟨rfl,id,abm _⟩⟩;refine{ kind:=f.kind,globals:=f.globals,builtins:=f.builtins,names:=f.names,nodup:=f.nodup,plain:=f.plain,ns:= ?_,cl:= ?_,loc:=f.loc,cell:= ?_,apart:=f.apart,ownF:=f.ownF,ownρ:=f.ownρ,ownB:=f.ownB,ownD:= ?_,room:=f.room,hnd:=f.hnd,frames:=f.frames,fun_:= ?_,lF:=f.lF,frame:=f.frame,head:=f.head,code:=f.code }
 ·refine⟨m,hm.sameBut hs dv.symm,λz u l=> ?_⟩;rcases p.look f.nodup l with⟨_,q,_⟩|⟨_,l⟩
  ·cases q
  ·refine ak (hr z u l) λw e r=> ?_;exact⟨w,e,r.keep K⟩
 ·intro z k u l gI;rcases p.look f.nodup l with⟨rfl,rfl,rfl⟩|⟨hz,l⟩
  ·exact⟨c,y,hc,fe,rv.keep K⟩
  ·refine au (f.cl z k u l gI) λY_ w e ZS r=> ?_;exact⟨Y_,w,e,ZS.sameBut hs (λq=>hz (f.apart z x c (q▸e) hc)),r.keep K⟩
 ·intro z hz hh;refine au (f.cell z hz hh) λY_ w e ho ZS=> ?_
  by_cases q:Y_=c
  ·subst q;exact⟨Y_,_,e,ho,fe⟩
  ·exact⟨Y_,w,e,ho,ZS.sameBut hs q⟩
 ·intro a ha
  by_cases q:a=c
  ·subst q;exact alive
  ·obtain⟨o,e⟩:=f.ownD a ha;exact⟨o,(hs.2 a q).trans e⟩
 ·exact jf f.fun_ hs ⟨o',ca,λvs q=>by rw[bE]at q;cases q⟩
inductive Out where
|next (env:aj) (hp:List Ob)
|ret (v:V) (hp:List Ob)
|brk (env:aj) (hp:List Ob)
|cont (env:aj) (hp:List Ob)
noncomputable def After(W:Wd)(fc:FC)(cx:Cx)(g:Gh)(s:Shared):Out->Flow->Gh->Shared->Prop
|.next e hp,f,g',s'=>f= .next/\Run W fc cx g s e hp g' s'
|.ret v hp,f,g',s'=> ∃ y,f= .ret y/\Run W fc cx g s [] hp g' s'/\RV W g' s'.heap v y
|.brk e hp,f,g',s'=>f= .brk/\Run W fc cx g s e hp g' s'
|.cont e hp,f,g',s'=>f= .cont/\Run W fc cx g s e hp g' s'
theorem After.trans(x:Run W fc cx g s e1 hp₁ Yx s₁)(y:After W fc cx Yx s₁ o f Yy Yv):After W fc cx g s o f Yy Yv:=by induction o using Out.casesOn with
|next=>exact⟨y.1,x.trans y.2⟩
|ret=>obtain⟨z,e,r,rv⟩:=y;exact⟨z,e,x.trans r,rv⟩
|brk=>exact⟨y.1,x.trans y.2⟩
|cont=>exact⟨y.1,x.trans y.2⟩
structure Ex(W:Wd)(fc:FC)(env:aj)(hp:List Ob)(st:Stmt)(o:Out):Prop where
 go:∀(cx:Cx)(g:Gh)(s:Shared)(Q:Flow->Shared->Prop)(E:Value->Shared->Prop),Pre W fc cx g env hp s.heap->0<s.toks->
  (∀ g' s' f,After W fc cx g s o f g' s'->Q f s')->wpAny (model W.prog W.w) cx.A (exec st cx.menv) Q E s
structure cU(W:Wd)(fc:FC)(env:aj)(hp:List Ob)(iX:List Stmt)(o:Out):Prop where
 go:∀(cx:Cx)(g:Gh)(s:Shared)(Q:Flow->Shared->Prop)(E:Value->Shared->Prop),Pre W fc cx g env hp s.heap->0<s.toks->
  (∀ g' s' f,After W fc cx g s o f g' s'->Q f s')->wpAny (model W.prog W.w) cx.A (execs iX cx.menv) Q E s
theorem xm:cU W fc env hp [] (.next env hp):= .mk λcx g s Q E P t0 hQ=>wpAny_execs_nil (hQ g s .next ⟨rfl,.refl P⟩)
theorem gq{st:Stmt}{r:List Stmt}{YZ:aj}{hp₁:List Ob}{o:Out}(h1:Ex W fc env hp st (.next YZ hp₁))(h2:cU W fc YZ hp₁ r o):cU W fc env hp (st::r) o:=by refine .mk ?_;intro cx g s Q E P t0 hQ;refine wpAny_execs_cons (h1.go cx g s _ E P t0 λYx s₁ f a=> ?_);obtain⟨rfl,Yw⟩:=a;exact h2.go cx Yx s₁ Q E Yw.pre (Yw.t t0) λYy Yv f a=>hQ Yy Yv f (a.trans Yw)
noncomputable def Out.leaves:Out->Prop
|.next .. =>False
|_=>True
theorem fM{st:Stmt}{r:List Stmt}{o:Out}(hl:o.leaves)(h1:Ex W fc env hp st o):cU W fc env hp (st::r) o:=by refine .mk ?_;intro cx g s Q E P t0 hQ;refine wpAny_execs_cons (h1.go cx g s _ E P t0 λYx s₁ f a=> ?_);have:=hQ Yx s₁ f a;induction o using Out.casesOn with
|next=>exact hl.elim
|ret=>obtain⟨z,rfl,_⟩:=a;exact this
|brk=>obtain⟨rfl,_⟩:=a;exact this
|cont=>obtain⟨rfl,_⟩:=a;exact this
theorem Rm:Ex W fc env hp (.Pass pos) (.next env hp):= .mk λcx g s Q E P t0 hQ=>wpAny_Pass (hQ g s .next ⟨rfl,.refl P⟩)
theorem Vh:Ex W fc env hp (.Break pos) (.brk env hp):= .mk λcx g s Q E P t0 hQ=>λ_ _ _=>hQ g s .brk ⟨rfl,.refl P⟩
theorem bh.refl:∀ e:aj,bh e e:=by intro ah;induction ah with
|nil=>exact .nil
|cons o e ih=>exact .same (ih)
theorem Vi(h1:Ev W fc env hp e v hp₁):Ex W fc env hp (.Return (some e) pos) (.ret v hp₁):= .mk λcx g s Q E P t0 hQ=>
 wpAny_Return_some (h1.go cx g s _ E P t0 λYx s₁ y r rv=>hQ Yx s₁ _ ⟨y,rfl,⟨r.evo,r.pre.weaken .nil,r.same⟩,rv⟩)
noncomputable def lq(e:Expr):Bool:=anq 8 e.ctorIdx&&anq e.ctorIdx 10
theorem cI(h:lq e=false):swapsWith e t n m=pure false:=by induction e using ac6<;>first|rfl|cases h
structure g8(W:Wd)(fc:FC)(env:aj)(hp:List Ob)(e:Expr)(b:Bool)(hp':List Ob):Prop where
 go:∀(cx:Cx)(g:Gh)(s:Shared)(Q:Bool->Shared->Prop)(E:Value->Shared->Prop),Pre W fc cx g env hp s.heap->0<s.toks->
  (∀ g' s',Run W fc cx g s env hp' g' s'->Q b s')->wpAny (model W.prog W.w) cx.A (isTrue e cx.menv (eval e cx.menv)) Q E s
theorem WD(h1:g8 W fc env hp t true hp₁)(h2:cU W fc env hp₁ body o):Ex W fc env hp (.If t body orelse pos) o:= .mk λcx g s Q E P t0 hQ=>
 wpAny_If (h1.go cx g s _ E P t0 λYx s₁ r=>by simp only[if_true];exact h2.go cx Yx s₁ Q E r.pre (r.t t0) λYy Yv f a=>hQ Yy Yv f (a.trans r))
theorem Rj(h1:g8 W fc env hp t false hp₁)(h2:cU W fc env hp₁ orelse o):Ex W fc env hp (.If t body orelse pos) o:= .mk λcx g s Q E P t0 hQ=>
 wpAny_If (h1.go cx g s _ E P t0 λYx s₁ r=>by simp only[acp,if_false];exact h2.go cx Yx s₁ Q E r.pre (r.t t0) λYy Yv f a=>hQ Yy Yv f (a.trans r))
end
section
variable{cx:Cx}
structure Bl(W:Wd)(k:Nat)(q:Bool)(cx:Cx)(g:Gh)(h:Heap):Prop where
 room:Kc cx.A k
 hnd:q=true->cx.A.handled=none
 frames:cx.A.frames=some cx.l
 fun_:h.FunFrames W.B cx.l
 lF:∀ a,a∈cx.l.filterMap (·.frame)-> ¬g.F a/\a∉g.ρ
theorem Fm.bl(f:Fm W fc cx g env h):Bl W fc.k fc.q cx g h:=⟨f.room,f.hnd,f.frames,f.fun_,f.lF⟩
noncomputable def Cx.out(cx:Cx):Cx:={ cx with own:=[] }
theorem jZ.of_out(x:jZ cx.out g h g' h'):jZ cx g h g' h':=
 ⟨x.F,x.Fnew,x.ρ,x.ρnew,x.dom,λa o e h1 _=>x.keep a o e h1 (by simp[Cx.out])⟩
theorem jZ.keeps_out(x:jZ cx.out g h g' h')(I:Inv W g hp h)(lF:∀ a,a∈cx.l.filterMap (·.frame)-> ¬g.F a/\a∉g.ρ):bU g h g' h':=by
 refine⟨x.F,λa o ha e=> ?_,x.ρ⟩;rcases x.keep a o e (λhm=>I.ρF a hm ha) (by simp[Cx.out])with h1|⟨h1,_⟩
 ·exact h1
 ·exact absurd ha (lF a h1).1
theorem gP(x:jZ cx.out g h g' h')(e:h.get? a=some o)(hρ:a∉g.ρ):∃ sl,h'.get? a=some { o with slots:=sl }:=by
 rcases x.keep a o e hρ (by simp[Cx.out])with h1|⟨_,h1⟩
 ·exact⟨o.slots,h1⟩
 ·exact h1
theorem fK(x:jZ cx g h g' h')(e:h.get? a=some o)(hF:¬g.F a):¬g'.F a:=λhn=>by
 rcases x.Fnew a hn with q|q
 ·exact hF q
 ·rw[e]at q;cases q
theorem evo_freshρ(x:jZ cx g h g' h')(e:h.get? a=some o)(hF:a∉g.ρ):a∉g'.ρ:=λhn=>by
 rcases x.ρnew a hn with q|q
 ·exact hF q
 ·rw[e]at q;cases q
theorem cell_notρ(I:Inv W g hp h)(hc:h.IsCell c v):c∉g.ρ:=λhm=>by obtain⟨i,hi,rfl⟩:=ac5 hm;exact(I.obs i _ _ (abu (I.len▸hi)) (abu hi)).noCell hc
theorem Fm.out(f:Fm W fc cx g env h)(I:Inv W g hp h)(x:jZ cx.out g h g' h'):Fm W fc cx g' env h':=by
 have K:=x.keeps_out I f.lF;refine{ kind:=f.kind,globals:=f.globals,builtins:=f.builtins,names:=f.names,nodup:=f.nodup,plain:=f.plain,ns:= ?_,cl:= ?_,loc:=f.loc,cell:= ?_,apart:=f.apart,ownF:= ?_,ownρ:= ?_,ownB:=f.ownB,ownD:= ?_,room:=f.room,hnd:=f.hnd,frames:=f.frames,fun_:= ?_,lF:= ?_,frame:=f.frame,head:=f.head,code:=f.code }
 ·refine cps λ_ c_=> ?_;(refine ak f.ns λm dy hm=> ?_;obtain⟨o,es,ep,ho,r⟩:=dy);refine aD (gP x ho (f.ownρ _ f.loc)) λsl e=> ?_;refine c_ ?_;exact⟨m,⟨_,es,ep,e,r⟩,λy v e1=>let⟨z,e3,e4⟩:=hm y v e1;⟨z,e3,e4.keep K⟩⟩
 ·intro y k v e1 e2;refine au (f.cl y k v e1 e2) λc z e3 hc e4=> ?_;obtain⟨o,ho,hd⟩:=id hc;refine aD (gP x ho (cell_notρ I hc)) λsl e=> ?_;exact⟨c,z,e3,⟨_,e,hd⟩,e4.keep K⟩
 ·intro y e1 e2;refine cps λ_ c_=> ?_;(refine au (f.cell y e1 e2) λc v e3 e4 dn=> ?_;obtain⟨o,ho,hd⟩:=dn);refine aD (gP x ho (f.ownρ _ e4)) λsl e=> ?_;refine c_ ?_;exact⟨c,v,e3,e4,⟨_,e,hd⟩⟩
 ·intro a ha;refine aD (f.ownD a ha) λo e=> ?_;exact fK x e (f.ownF a ha)
 ·intro a ha;refine aD (f.ownD a ha) λo e=> ?_;exact evo_freshρ x e (f.ownρ a ha)
 ·intro a ha;refine aD (f.ownD a ha) λo e=> ?_;refine aD (gP x e (f.ownρ a ha)) λsl e'=> ?_;exact⟨_,e'⟩
 ·exact aV f.fun_ λa o ha e=>gP x e (f.lF a ha).2
 ·intro a ha;obtain⟨_,o,e,_⟩:=f.fun_.mem ha;exact⟨fK x e (f.lF a ha).1,evo_freshρ x e (f.lF a ha).2⟩
structure aH(W:Wd)(cx:Cx)(g:Gh)(s:Shared)(hp':List Ob)(g':Gh)(s':Shared):Prop where
 evo:jZ cx.out g s.heap g' s'.heap
 inv:Inv W g' hp' s'.heap
 same:j_ s s'
theorem aH.run(x:aH W cx g s hp' g' s')(P:Pre W fc cx g env hp s.heap):Run W fc cx g s env hp' g' s':=
 ⟨x.evo.of_out,⟨x.inv,P.fm.out P.inv x.evo⟩,x.same⟩
structure Call(W:Wd)(k:Nat)(q:Bool)(f:Value)(kw:List Str)(args:List V)(hp:List Ob)(v:V)(hp':List Ob):Prop where
 go:∀(cx:Cx)(g:Gh)(s:Shared)(ys:List Value)(ai:List (Str×Value))(Q:Value->Shared->Prop)(E:Value->Shared->Prop),Bl W k q cx g s.heap->Inv W g hp s.heap->aQ W g s.heap args (ys++ai.map (·.2))->ai.map (·.1)=kw->0<s.toks->
  (∀ g' s' y,aH W cx g s hp' g' s'->RV W g' s'.heap v y->Q y s')->wpAny (model W.prog W.w) cx.A (agd f ys ai) Q E s
structure CallD(W:Wd)(k:Nat)(q:Bool)(f:Value)(kw:List Str)(args:List V)(hp:List Ob)(v:V)(hp':List Ob):Prop where
 go:∀(cx:Cx)(g:Gh)(s:Shared)(ys:List Value)(ai:List (Str×Value))(Q:Value->Shared->Prop)(E:Value->Shared->Prop),Bl W k q cx g s.heap->Inv W g hp s.heap->aQ W g s.heap args (ys++ai.map (·.2))->ai.map (·.1)=kw->0<s.toks->
  (∀ g' s' y,aH W cx g s hp' g' s'->RV W g' s'.heap v y->Q y s')->codeAny (model W.prog W.w) cx.A (.call f ⟨ys,ai⟩) (λr s'=>match r with|.ok (.ret v)=>Q v s'|.ok _=>False|.error e=>E e s') s
theorem CallD.call(x:CallD W k q f kw args hp v hp'):Call W k q f kw args hp v hp':=
 .mk λcx g s ys ai Q E bl I rv hk t0 hQ=>wpAny_call (x.go cx g s ys ai Q E bl I rv hk t0 hQ)
class inductive Puts:Names->aj->List Str->List V->aj->Prop
|nil {nm e}:Puts nm e [] [] e
|cons {nm e x k v YB xs vs e'}:pC nm e x k v YB->(k= .local\/k= .cell)->Puts nm YB xs vs e'->Puts nm e (x::xs) (v::vs) e'
theorem Look.nil(h:Look nm [] x k v):False:=by cases h
theorem HS(hn:(nm.map (·.1)).Nodup)(nN:∀ x,ko x=nm.lookup x)(p:Puts nm e xs vs e') :
  ∀{ys:List Value}{m cm:Str->Option Value},aQ W g h vs ys->(∀ x v,Look nm e x .local v-> ∃ y,m x=some y/\RV W g h v y)->(∀ x v,Look nm e x .cell v-> ∃ y,cm x=some y/\RV W g h v y)->
   (∀ x v,Look nm e' x .local v-> ∃ y,bindL ko (xs.zip ys) m x=some y/\RV W g h v y)/\(∀ x v,Look nm e' x .cell v-> ∃ y,bindC ko (xs.zip ys) cm x=some y/\RV W g h v y):=by
 induction p with
|nil=>intro ys m cm r h1 h2;subst r;exact⟨h1,h2⟩
|cons p hk hr ih=>
  intro ys m cm r h1 h2;rename_i x k v YB xs vs e';(refine au r λy bS an r1 r2=> ?_;obtain rfl:=an);dsimp only[ahp,bindL,bindC];have vn:ko x=some k:=(nN x).trans (p.has.lookup hn);rcases hk with rfl|rfl
  ·(refine aa (if_pos vn) ?_;refine aa (if_pos vn) ?_);refine ih r2 (λz u l=> ?_) (λz u l=> ?_)
   ·rcases p.look hn l with⟨rfl,_,rfl⟩|⟨dv,l⟩
    ·exact⟨y,by exact if_pos rfl,r1⟩
    ·refine ak (h1 z u l) λw e r=> ?_;exact⟨w,by simp[dv,e],r⟩
   ·rcases p.look hn l with⟨_,q,_⟩|⟨dv,l⟩
    ·cases q
    ·exact h2 z u l
  ·have qh:¬ko x=some .local:=by refine aa vn ?_;decide
   (refine aa (if_neg qh) ?_;refine aa (if_neg qh) ?_);refine ih r2 (λz u l=> ?_) (λz u l=> ?_)
   ·rcases p.look hn l with⟨_,q,_⟩|⟨dv,l⟩
    ·cases q
    ·exact h1 z u l
   ·rcases p.look hn l with⟨rfl,_,rfl⟩|⟨dv,l⟩
    ·exact⟨y,by exact if_pos rfl,r1⟩
    ·refine ak (h2 z u l) λw e r=> ?_;exact⟨w,by simp[dv,e],r⟩
structure FnAt(W:Wd)(f:Addr)(fd:FuncData)(body:List Stmt):Prop where
 obj:∃ o,W.B.get? f=some o/\o.data= .func fd
 body:fd.body= .stmts body
 clo:fd.closure=[]
 glob:fd.globals=mainGlobals
 blt:fd.builtins=builtinsNs
 code:W.B.CodeRec fd.code fd.qualname
 lim:W.B.NoLimit
 co:fd.scope.isCoroutine=false
 gen:fd.scope.isGenerator=false
 kind:fd.scope.kind= .function
 nodup:(fd.scope.names.map (·.1)).Nodup
 plain:∀ x k,(x,k)∈fd.scope.names->((x==("__debug__" : Str))=false/\(x==("__classdict__" : Str))=false)\/(x=("__debug__" : Str)/\k= .globalImplicit)
noncomputable def cellNames(nm:Names):List Str:=nm.filterMap λp=>if p.2== .cell then some p.1 else none
noncomputable def cH(fd:FuncData)(k:Nat)(q:Bool):FC:=⟨fd.scope.names,cellNames fd.scope.names,k,q,true,fd.code⟩
theorem cellsFrom_some:∀{nm:Names}{acc:List (Str×Addr)}{x:Str},(x,agq)∈nm\/(acc.lookup x).isSome=true->((cellsFrom n nm acc).lookup x).isSome=true:=by intro nm;induction nm generalizing n with
|nil=>
      intro acc x h;rcases h with h|h
      ·contradiction
      ·exact h
|cons p r ih=>
  obtain⟨y,k⟩:=p;intro acc x h;unfold cellsFrom
  split
  ·rename_i hk;refine ih ?_;rcases h with h|h
   ·rcases abx.mp h with e|h
    ·cases e;right;simp
    ·exact .inl h
   ·right;refine aa aj1 ?_
    split
    ·rfl
    ·exact h
  ·rename_i hk;refine ih ?_;rcases h with h|h
   ·rcases abx.mp h with e|h
    ·cases e;simp at hk
    ·exact .inl h
   ·exact .inr h
theorem Ba(r:Kc A (k+1)):Kc (A.deeper e) k:=by refine bw r λh1 h2=> ?_;exact⟨by refine(?_:A.depth+1+k+1<_);exact acj (ab2 (congrArg (· +1) (ab9 A.depth k))) h1,by refine(?_:A.units+3+8 * (k+1)<_);exact acj (abj (ab8 (acs (abk rfl:3<=8) _) _) (ab2 (afp ..))) h2⟩
theorem fO(hnd:(nm.map (·.1)).Nodup)(p:Puts nm e xs vs e') :
  ∀ x∈xs,nm.lookup x=some .local\/(nm.lookup x=some .cell/\((cellsFrom n nm []).lookup x).isSome=true):=by
 induction p with
|nil=>intro x hx;contradiction
|cons p hk hr ih=>
  intro x hx;rcases abx.mp hx with rfl|hx
  ·rcases hk with rfl|rfl
   ·exact .inl (p.has.lookup hnd)
   ·exact .inr ⟨p.has.lookup hnd,cellsFrom_some (.inl p.has.mem)⟩
  ·exact ih x hx
theorem Jz(hnd:(nm.map (·.1)).Nodup)(p:Puts nm e xs vs e') :
  (∀ z u,¬Look nm e z .free u)-> ∀ z u,¬Look nm e' z .free u:=by
 induction p with
|nil=>intro h;exact h
|cons p hk hr ih=>
  intro h0;refine ih λz u l=> ?_;rcases p.look hnd l with⟨_,q,_⟩|⟨_,l⟩
  ·rcases hk with rfl|rfl<;>injection q
  ·exact h0 z u l
noncomputable def Out.value:Out->V->List Ob->Prop
|.ret v hp,u,hp'=>u=v/\hp'=hp
|.next _ hp,u,hp'=>u= .none/\hp'=hp
|_,_,_=>False
section
theorem Xh(x:InCallC s₀ env.locals m env.cells cm s)(hk:env.scope.kind= .function)(hl:env.kindOf n=some .local)
  (h:∀ s',InCallC s₀ env.locals (λy=>if y=n then some v else m y) env.cells cm s'->s.toks<=s'.toks->Q () s'):wpAny M A (storeName env n v) Q E s:=by
 refine wpAny_storeName_local hl x.toInCall.ns (λh' kS eK=>h _ ⟨⟨?_,kS,λb o e=> ?_,x.toInCall.fresh⟩,λk c hc=> ?_,x.apart,x.above⟩ (acg _)) (by exact aa hk rfl)
 ·(refine Gf x.toInCall.same λYF tk an=> ?_;obtain rfl:=an);exact⟨h',_,rfl⟩
 ·exact eK.extBut b o (aeb (aby (ado e) x.toInCall.fresh)) (x.toInCall.keep b o e)
 ·exact(x.cell k c hc).sameBut eK (ahz (x.above k c (mem_of_lookup hc)))
theorem Xg(x:InCallC s₀ env.locals m env.cells cm s)(hk:env.scope.kind= .function)(hl:env.kindOf n=some .cell)
  (hc:env.cells.lookup n=some c)
  (h:∀ s',InCallC s₀ env.locals m env.cells (λy=>if y=n then some v else cm y) s'->s.toks<=s'.toks->Q () s'):wpAny M A (storeName env n v) Q E s:=by
 have y8:=x.above n c (mem_of_lookup hc);refine wpAny_storeName_cell hk hl hc (x.cell n c hc) λh' fe eK=>h _ ⟨⟨?_,x.toInCall.ns.sameBut eK (aeb y8),λb o e=> ?_,x.toInCall.fresh⟩,λk c' gI=> ?_,x.apart,x.above⟩ (abm _)
 ·(refine Gf x.toInCall.same λYF tk an=> ?_;obtain rfl:=an);exact⟨h',_,rfl⟩
 ·exact eK.extBut b o (aeb (ag5 (aby (ado e) x.toInCall.fresh) y8)) (x.toInCall.keep b o e)
 ·by_cases pV:k=n
  ·subst pV;rw[hc]at gI;cases gI;simpa using fe
  ·exact aa (if_neg pV) ((x.cell k c' gI).sameBut eK λe=>pV (name_of_addr x.apart (mem_of_lookup gI) (e▸mem_of_lookup hc)))
theorem pq(f:Str×Value->PUnit->Sem (ForInStep PUnit))(hf:∀ n v u,f (n,v) u=(do storeName env n v;pure (.yield ⟨⟩)))(hk:env.scope.kind= .function) :
  ∀(cE:List (Str×Value))(m cm:Str->Option Value)(s:Shared)(Q:PUnit->Shared->Prop),InCallC s₀ env.locals m env.cells cm s->
   (∀ x∈cE,env.kindOf x.1=some .local\/(env.kindOf x.1=some .cell/\(env.cells.lookup x.1).isSome=true))->
   (∀ s',InCallC s₀ env.locals (bindL env.kindOf cE m) env.cells (bindC env.kindOf cE cm) s'->s.toks<=s'.toks->Q ⟨⟩ s')->wpAny M A (forIn cE ⟨⟩ f) Q E s:=by
 intro ah;induction ah with
|nil=>intro m cm s Q x _ h;exact aa agx (wpAny_pure (h s x (abm _)))
|cons bi r ih=>
  obtain⟨n,v⟩:=bi;intro m cm s Q x ax h;rw[agl,hf];have hr:∀ y∈r,env.kindOf y.1=some .local\/(env.kindOf y.1=some .cell/\(env.cells.lookup y.1).isSome=true):=λy hy=>ax y (abl _ hy);rcases ax (n,v) abq with hl|⟨hl,hc⟩
  ·refine wpAny_bind (wpAny_bind (Xh x hk hl λs' x' t1=>wpAny_pure (ih _ _ s' Q x' hr λg9 xB t2=>h g9 ?_ (abj t1 t2))));unfold bindL bindC;(refine aa (if_pos hl) ?_;refine aa (if_pos hl) ?_);exact xB
  ·refine aD (acz.mp hc) λc hc=> ?_;have qh:¬env.kindOf n=some .local:=by refine aa hl ?_;decide
   refine wpAny_bind (wpAny_bind (Xg x hk hl hc λs' x' t1=>wpAny_pure (ih _ _ s' Q x' hr λg9 xB t2=>h g9 ?_ (abj t1 t2))));unfold bindL bindC;(refine aa (if_neg qh) ?_;refine aa (if_neg qh) ?_);exact xB
theorem aR{scope:Scope}{globals:Addr}{cE:List (Str×Value)}{qual:Str}{func:Option Addr}{code:Value}{builtins:Addr}{Q:Env->Shared->Prop}
  (hk:scope.kind= .function)
  (ax:∀ x∈cE,scope.names.lookup x.1=some .local\/(scope.names.lookup x.1=some .cell/\((cellsFrom (s.heap.objs.size+1) scope.names []).lookup x.1).isSome=true))
  (hQ:∀ env,env=newEnv scope s.heap.objs.size globals (cellsFrom (s.heap.objs.size+1) scope.names []) qual func code none builtins->
   ∀ s',InCallC s env.locals (bindL env.kindOf cE λ_=>none) env.cells (bindC env.kindOf cE λ_=>none) s'->s.toks<=s'.toks->Q env s') :
  wpAny M A (newFunctionEnv scope globals [] cE qual func code none builtins) Q E s:=by
 dsimp only[newFunctionEnv,afq,acp,if_false];refine wpAny_bind (wpAny_alloc ?_);refine wpAny_bind (wpAny_layCells _ (λname kind cells=>by induction hkc:kind==agq using aco<;>rfl) _ _ _ _ ?_);have ok:=cellsFrom_ok scope.names (s.heap.push { cls:= .type "frame",data:= .dict #[] }) (s.heap.objs.size+1) [] ⟨λ_ _ hm=>(nomatch hm),ame⟩ (by rw[adw];exact abm _);rw[adw]at ok;refine aa (show({ s with heap:=s.heap.push { cls:= .type "frame",data:= .dict #[] } }:Shared).heap.objs.size=s.heap.objs.size+1 from adw ..) ?_;refine wpAny_bind (pq (s₀:=s) (env:=newEnv scope s.heap.objs.size globals (cellsFrom (s.heap.objs.size+1) scope.names []) qual func code none builtins)
  _ (λ_ _ _=>rfl) hk cE (λ_=>none) (λ_=>none) _ _
  ⟨⟨⟨_,_,rfl⟩,(ao7 s.heap (.type "frame")).keeps (pushCells_keeps _ _),λb o e=>pushCells_keeps _ _ b o (abr _ e),abm _⟩,
   λn c hc=>(ok.empty n c (mem_of_lookup hc)).1,ok.apart,λn c hm=>(ok.empty n c hm).2⟩
  ax λs' x t=>wpAny_pure (hQ _ rfl s' x t))
end
noncomputable def Cx.under(cx:Cx)(menv:Env):Cx:=⟨menv,menv.locals::menv.cells.map (·.2),menv::cx.l,cx.A.deeper menv⟩
structure wH(W:Wd)(fc:FC)(cx:Cx)(g:Gh)(s:Shared)(YJ:aj)(hp:List Ob)(menv:Env)(s₁:Shared):Prop where
 lim:s₁.heap.NoLimit
 pre:Pre W fc (cx.under menv) g YJ hp s₁.heap
 fr:menv.frame=some menv.locals
 tk:s.toks<=s₁.toks
 keep:∀ b o,s.heap.get? b=some o->s₁.heap.get? b=some o
 loc:s.heap.get? menv.locals=none
 fin:∀{e1:aj}{YC:List Ob}{Yy:Gh}{Yv:Shared},Run W fc (cx.under menv) g s₁ e1 YC Yy Yv->aH W cx g s YC Yy Yv
theorem entered(hf:FnAt W f fd body)
  (bl:Bl W (k+1) q cx g s.heap) (I:Inv W g hp s.heap) (df:aQ W g s.heap args' bS) (aI:Puts fd.scope.names [] xs args' YJ) (ix:menv=callEnvC fd s.heap.objs.size f)
  (x:InCallC s menv.locals (bindL menv.kindOf (xs.zip bS) λ_=>none) menv.cells (bindC menv.kindOf (xs.zip bS) λ_=>none) s₁) (eB:s.toks<=s₁.toks):wH W (cH fd k q) cx g s YJ hp menv s₁:=by
 refine dY x.done λYF tk Zi cS=> ?_;subst Zi;have hL:menv.locals=s.heap.objs.size:=by exact aa ix rfl
 have nN:∀ z,menv.kindOf z=fd.scope.names.lookup z:=by refine aa ix ?_;intro z;rfl
 obtain⟨fq,ft⟩:=HS (W:=W) (g:=g) (h:=YF) hf.nodup nN aI (ys:=bS) (m:=λ_=>none) (cm:=λ_=>none) (df.keep ⟨λ_ x=>x,λa o _ e=>cS a o e,ac2⟩)
  (λx v l=>l.nil.elim) (λx v l=>l.nil.elim)
 have ff:menv.cells=cellsFrom (s.heap.objs.size+1) fd.scope.names []:=by exact aa ix rfl
 have cc:∀ n c,menv.cells.lookup n=some c->YF.IsCell c (bindC menv.kindOf (xs.zip bS) (λ_=>none) n):=x.cell;have db:∀ a,a∈(cx.under menv).own->s.heap.objs.size<=a:=by
  intro a ha;rcases abx.mp ha with rfl|ha
  ·exact aa hL (abm _)
  ·(refine ak (ac0.mp ha) λp hp an=> ?_;obtain rfl:=an);have:=x.above p.1 p.2 hp;rw[hL]at this;exact ac1 this
 have fresh:∀ a,s.heap.objs.size<=a->s.heap.get? a=none:=λa ha=>by induction e:s.heap.get? a using abt with
 |none=>rfl|some o=>exact absurd (ado e) (aem.mpr ha)
 have ZD:Inv W g hp YF:=I.ext cS;have ii:menv.frame=some menv.locals:=by exact aa ix rfl
 have sk:∀ a,s.heap.objs.size<=a->W.B.get? a=none:=λa ha=>by induction e:W.B.get? a using abt with
 |none=>rfl|some o=>have:=I.base a o e;rw[fresh a ha]at this;injection this
 obtain⟨on,es,ep,DJ,E2,fT⟩:=id x.toInCall.ns;have P':Pre W (cH fd k q) (cx.under menv) g YJ hp YF:=by
  refine⟨ZD,{ kind:=(by refine(?_:menv.scope.kind=_);exact aa ix hf.kind),globals:=(by refine(?_:menv.globals=_);exact aa ix hf.glob),builtins:=(by refine(?_:menv.builtins=_);exact aa ix hf.blt),names:=nN,nodup:=hf.nodup,plain:=hf.plain,ns:=⟨_,x.toInCall.ns,fq⟩,cl:= ?_,loc:=abq,cell:= ?_,apart:= ?_,ownF:= ?_,ownρ:= ?_,ownB:=λa ha=>sk a (db a ha),ownD:= ?_,room:=Ba bl.room,hnd:=bl.hnd,frames:=ak0 bl.frames,fun_:= ?_,lF:= ?_,frame:= ?_,head:=λ_=>⟨_,rfl⟩,code:=λ_=>(by refine(?_:menv.code=_);exact aa ix rfl) }⟩
  ·intro z j u l hj;rcases hj with rfl|rfl
   ·obtain⟨y,e,r⟩:=ft z u l;have hc:=cellsFrom_some (n:=s.heap.objs.size+1) (nm:=fd.scope.names) (acc:=[]) (.inl l.has.mem);refine aD (acz.mp hc) λc hc=> ?_;rw[←ff]at hc;exact⟨c,y,hc,e▸cc z c hc,r⟩
   ·exfalso
    exact Jz hf.nodup aI (λz u l=>l.nil) z u l
  ·intro z _ hz;have hc:=cellsFrom_some (n:=s.heap.objs.size+1) (nm:=fd.scope.names) (acc:=[]) (.inl hz.mem);refine aD (acz.mp hc) λc hc=> ?_;rw[←ff]at hc;exact⟨c,_,hc,abl _ (ac0.mpr ⟨_,mem_of_lookup hc,rfl⟩),cc z c hc⟩
  ·intro a b c h1 h2;exact name_of_addr x.apart (mem_of_lookup h1) (mem_of_lookup h2)
  ·intro a ha hF;refine aD (I.fz a hF) λo e=> ?_;rw[fresh a (db a ha)]at e;injection e
  ·intro a ha hm;obtain⟨i,hi,rfl⟩:=ac5 hm;have eA:i<hp.length:=by exact aa (ach I.len) hi
   refine aD ((I.obs i hp[i] _ (abu eA) (abu hi)).some) λO eO=> ?_;rw[fresh _ (db _ ha)]at eO;injection eO
  ·intro a ha;rcases abx.mp ha with rfl|ha
   ·exact⟨on,DJ⟩
   ·(refine ak (ac0.mp ha) λp hp an=> ?_;obtain rfl:=an);have hc:=cellsFrom_ok fd.scope.names (s.heap.push { cls:= .type "frame",data:= .dict #[] }) (s.heap.objs.size+1) [] ⟨λ_ _ hm=>(nomatch hm),ame⟩ (by rw[adw];exact abm _);rw[adw,←ff]at hc;have:∃ v,YF.IsCell p.2 v:=by
     have hl:∃ c,menv.cells.lookup p.1=some c:=by
      have:(menv.cells.lookup p.1).isSome=true:=by induction e:menv.cells.lookup p.1 using abt with
      |some c=>rfl|none=>
        exfalso
        exact absurd (aj2.mp e p hp) (by simp)
      exact acz.mp this
     refine aD hl λc fe=> ?_
     by_cases ss:p.2=c
     ·exact⟨_,ss▸cc p.1 c fe⟩
     ·exfalso
      have hnd:(menv.cells.map (·.1)).Nodup:=by
       refine aa ff ?_;have key:∀(nm:Names)(n:Nat)(acc:List (Str×Addr)),(nm.map (·.1)).Nodup->(acc.map (·.1)).Nodup->(∀ x,x∈nm.map (·.1)->x∉acc.map (·.1))->((cellsFrom n nm acc).map (·.1)).Nodup:=by intro nm;induction nm with
       |nil=>intro n acc _ h _;exact h|cons q r ih=>
         obtain⟨y,kk⟩:=q;intro n acc h1 h2 h3;rw[ab3,ad8]at h1;unfold cellsFrom
         split
         ·refine ih _ _ h1.2 ?_ ?_
          ·(refine aa ab3 ?_;rw[ad8]);exact⟨h3 y (akp rfl),h2⟩
          ·intro z hz hm;rw[ab3]at hm;rcases abx.mp hm with e|hm
           ·exact h1.1 (e▸hz)
           ·exact h3 z (by exact aa ab3 (abl _ hz)) hm
         ·exact ih _ _ h1.2 h2 λz hz=>h3 z (by exact aa ab3 (abl _ hz))
       exact key _ _ _ hf.nodup ai7 (λx _ h=>by contradiction)
      have m1:=mem_of_lookup fe;have:∀{l:List (Str×Addr)},(l.map (·.1)).Nodup-> ∀{n c c'},(n,c)∈l->(n,c')∈l->c=c':=by intro l;induction l with
      |nil=>intro _ n c c' h;contradiction|cons q r ih=>
        obtain⟨y,d⟩:=q;intro hn n c c' h1 h2;rw[ab3,ad8]at hn;rcases abx.mp h1 with e1|h1<;>rcases abx.mp h2 with e2|h2
        ·cases e1;cases e2;rfl
        ·cases e1;exact absurd (ac0.mpr ⟨_,h2,rfl⟩) hn.1
        ·cases e2;exact absurd (ac0.mpr ⟨_,h1,rfl⟩) hn.1
        ·exact ih hn.2 h1 h2
      exact ss (this hnd (n:=p.1) (c:=p.2) (c':=c) hp m1)
    refine dY this λv o ho _=> ?_;exact⟨o,ho⟩
  ·refine aph (by refine aa ix ?_;refine(?_:fd.scope.kind≠_);refine aa hf.kind ?_;decide) ii x.toInCall.ns (sk _ (by exact aa hL (abm _))) (aV bl.fun_ λa o _ e=>⟨o.slots,cS a o e⟩)
  ·intro a ha;refine(?_:_/\_);have sb:a∈(menv::cx.l).filterMap (·.frame):=ha;rw[ae4,ii]at sb;rcases abx.mp sb with rfl|sb
   ·refine⟨λhF=> ?_,λhm=> ?_⟩
    ·refine aD (I.fz _ hF) λo e=> ?_;rw[fresh _ (by exact aa hL (abm _))]at e;injection e
    ·obtain⟨i,hi,e1⟩:=ac5 hm;have eA:i<hp.length:=by exact aa (ach I.len) hi
     refine aD ((I.obs i hp[i] _ (abu eA) (abu hi)).some) λO eO=> ?_;rw[e1,fresh _ (by exact aa hL (abm _))]at eO;injection eO
   ·exact bl.lF a sb
  ·refine(?_:menv.frame∈(menv::cx.l).map _);exact abq
 refine⟨hf.lim.keeps λb o e=>cS b o (I.base b o e),P',ii,eB,cS,fresh _ (by exact aa hL (abm _)),λ{e1 YC Yy Yv} r=> ?_⟩;refine⟨⟨r.evo.F,λa ha=> ?_,r.evo.ρ,λa ha=> ?_,λa o e=>r.evo.dom a o (cS a o e),λa o e h1 _=> ?_⟩,r.pre.inv,⟨r.same.os,r.same.gens,abj eB r.same.tk⟩⟩
 ·rcases r.evo.Fnew a ha with q|q
  ·exact .inl q
  ·refine .inr ?_;induction e:s.heap.get? a using abt with
  |none=>rfl|some o=>have:=cS a o e;rw[this]at q;injection q
 ·rcases r.evo.ρnew a ha with q|q
  ·exact .inl q
  ·refine .inr ?_;induction e:s.heap.get? a using abt with
  |none=>rfl|some o=>have:=cS a o e;rw[this]at q;injection q
 ·have mu:a∉(cx.under menv).own:=λhm=>by rw[fresh a (db a hm)]at e;injection e
  rcases r.evo.keep a o (cS a o e) h1 mu with q|⟨hl,sl,q⟩
  ·exact .inl q
  ·refine .inr ⟨?_,sl,q⟩;have kR:a∈(menv::cx.l).filterMap (·.frame):=hl;rw[ae4,ii]at kR;rcases abx.mp kR with rfl|kR
   ·rw[fresh _ (by exact aa hL (abm _))]at e;injection e
   ·exact kR
theorem s6(hf:FnAt W f fd body)
  (hb:∀(g:Gh)(s:Shared)(ys:List Value)(ai:List (Str×Value)),(∀ b o,W.B.get? b=some o->s.heap.get? b=some o)->aQ W g s.heap args (ys++ai.map (·.2))->ai.map (·.1)=kw-> ∃ bS,aQ W g s.heap args' bS/\BindsTo s fd ⟨ys,ai⟩ (xs.zip bS))
  (aI:Puts fd.scope.names [] xs args' YJ) (aw:cU W (cH fd k q) YJ hp body o) (ho:o.value v hp₁):CallD W (k+1) q (.ref f) kw args hp v hp₁:=by
 refine .mk ?_;intro cx g s ys ai Q E bl I rv eC t0 hQ;refine ak (hb g s ys ai I.base rv eC) λbS df hZ=> ?_;refine ak hf.obj λob gL dP=> ?_;have ch:cx.A.depth<recursionLimit:=by have:=bl.room.1;exact acj (ab0 _ (k+1+1)) this
 have ax:∀ x∈xs.zip bS,fd.scope.names.lookup x.1=some .local\/(fd.scope.names.lookup x.1=some .cell/\((cellsFrom (s.heap.objs.size+1) fd.scope.names []).lookup x.1).isSome=true):=
  λx hx=>fO hf.nodup aI x.1 (af0 hx).1
 refine codeAny_call_function ch (I.base _ _ gL) dP hf.co hf.gen hf.body ?_ (hZ _ _ _ _ ?_)
 ·obtain⟨c,oc,vs,t,e,hc,r⟩:=hf.code;exact⟨c,oc,vs,t,e,I.base _ _ hc,r⟩
 refine aa hf.clo ?_;refine aR hf.kind ax λmenv he s₁ x eB=> ?_;have en:=entered hf bl I df aI he x eB;refine⟨en.lim,codeAny_func ?_⟩;refine aw.go (cx.under menv) g s₁ _ _ en.pre (aby t0 eB) λYy Yv fl af=> ?_;induction o using Out.casesOn with
|next e1 YC=>obtain⟨rfl,r⟩:=af;obtain⟨rfl,rfl⟩:=ho;exact hQ Yy Yv .none (en.fin r) rfl
|ret u YC=>obtain⟨y,rfl,r,Y0⟩:=af;obtain⟨rfl,rfl⟩:=ho;exact hQ Yy Yv y (en.fin r) Y0
|brk=>exact ho.elim
|cont=>exact ho.elim
theorem lU(hf:FnAt W f fd body)
  (hb:∀(g:Gh)(s:Shared)(ys:List Value)(ai:List (Str×Value)),(∀ b o,W.B.get? b=some o->s.heap.get? b=some o)->aQ W g s.heap args (ys++ai.map (·.2))->ai.map (·.1)=kw-> ∃ bS,aQ W g s.heap args' bS/\BindsTo s fd ⟨ys,ai⟩ (xs.zip bS))
  (aI:Puts fd.scope.names [] xs args' YJ) (aw:cU W (cH fd k q) YJ hp body o) (ho:o.value v hp₁):Call W (k+1) q (.ref f) kw args hp v hp₁:=(s6 hf hb aI aw ho).call
end
section
structure Gn(W:Wd)(fc:FC)(e:Expr)(f:Value):Prop where
 go:∀(env:aj)(hp:List Ob)(cx:Cx)(g:Gh)(s:Shared)(Q:Value->Shared->Prop)(E:Value->Shared->Prop),Pre W fc cx g env hp s.heap->Q f s->wpAny (model W.prog W.w) cx.A (eval e cx.menv) Q E s
theorem Vn(hm:W.B.Ns mainGlobals mg)(hv:mg x=some f)(hh:ni fc.nm x .globalImplicit)(hd:(x==("__debug__" : Str))=false):Gn W fc (.Name x pos) f:=by refine .mk ?_;intro env hp cx g s Q E P hQ;have hk:=(P.fm.names x).trans (hh.lookup P.fm.nodup);exact Name_function_global P.fm.kind hk (loadGlobal_global (by exact aa P.fm.globals (hm.keeps P.inv.base)) hv hQ) hd
theorem Vk(hm:W.B.Ns mainGlobals mg)(hv:mg x=none)(hb:W.B.Ns builtinsNs mb)(hf:mb x=some f)(hh:ni fc.nm x .globalImplicit)(hd:(x==("__debug__" : Str))=false):Gn W fc (.Name x pos) f:=by refine .mk ?_;intro env hp cx g s Q E P hQ;have hk:=(P.fm.names x).trans (hh.lookup P.fm.nodup);exact Name_function_global P.fm.kind hk (loadGlobal_builtin (by exact aa P.fm.globals (hm.keeps P.inv.base)) hv (by exact aa P.fm.builtins (hb.keeps P.inv.base)) hf hQ) hd
theorem Wo(hg:Gn W fc e (.ref a))(ha:∃ o,W.B.get? a=some o):Ev W fc env hp e (.gl a) hp:= .mk λcx g s Q E P t0 hQ=>hg.go env hp cx g s Q E P (hQ g s _ (.refl P) ⟨rfl,ha⟩)
theorem Wq(hg:Gn W fc e (.type T)):Ev W fc env hp e (.ty T) hp:= .mk λcx g s Q E P t0 hQ=>hg.go env hp cx g s Q E P (hQ g s _ (.refl P) (rfl))
def Kp(W:Wd)(f:Value):Prop:= ∀(M:Model)(h:Heap),(∀ b o,W.B.get? b=some o->h.get? b=some o)-> ∃ k,(k=aoo\/k=anv\/k=amf)/\Looks M h (keeperOf f) k
theorem ik{id:String}:Kp W (.builtin id):=λM h _=>⟨.machine,.inr (.inl rfl),.now⟩
theorem eQ:Kp W (.type T):=λM h _=>⟨.machine,.inr (.inl rfl),.now⟩
theorem W0(ho:W.B.get? a=some o)(hd:o.data= .func fd):Kp W (.ref a):=λM h hk=>
 ⟨.frame,.inl rfl,(Looks.ld (part:=none) (hk _ _ ho)).andThen (by exact aa hd (.now))⟩
theorem bM(hs:es.all (λe=> !isStar e)=true):(backTo pos (starEach es m)).any (·.1)=false:=by induction es with
|nil=>rfl
|cons e r ih=>rw[age,ab1]at hs;refine aa (aY e r m (by simpa using hs.1)) ?_;simpa[backTo]using ih hs.2
theorem xf
  (h:wpAny M A (spliced []) (λvs s'=>Q ⟨vs,[]⟩ s') E s):wpAny M A (evalArgs f true [] []) Q E s:=by
 unfold evalArgs;refine(?_:wpAny M A (spliced [] >>= _) Q E s);refine wpAny_bind (wpAny_mono h (λvs s' h'=> ?_) λ_ _ x=>x);refine wpAny_bind (wpAny_pure ?_);refine wpAny_holding ?_;exact wpAny_bind (wpAny_pure (wpAny_bind (wpAny_pure (wpAny_pure h'))))
theorem bk(hs:es.all (λe=> !isStar e)=true)
  (h:wpAny M A (spliced (backTo pos (starEach es m))) (λvs s'=>Q ⟨vs,[]⟩ s') E s):wpAny M A (evalArgs f true (backTo pos (starEach es m)) []) Q E s:=by
 induction es using abn with
|nil=>exact xf h
|cons e r=>rw[age,ab1]at hs;rw[aY e r m (by simpa using hs.1)]at h ⊢;exact evalArgs_plain h
theorem aQ.kw0(r:aQ W g h vs ys):aQ W g h vs (ys++([]:List (Str×Value)).map (·.2)):=by simpa using r
theorem Q5(hk:Kp W f)(hs:es.all (λe=> !isStar e)=true)(hf:Gn W fc (.Name x p) f)(ha:wI W fc env hp es vs hp₁)(hc:Call W fc.k fc.q f [] vs hp₁ v YC):Ev W fc env hp (.Call (.Name x p) es [] pos) v YC:=by refine .mk ?_;intro cx g s Q E P t0 hQ;refine wpAny_Call_Name_kw (hf.go env hp cx g s _ E P ?_);refine callWith_of (P:=λh=> ∀ b o,W.B.get? b=some o->h.get? b=some o) (by refine(?_:(_||false)=false);rw[afm];exact bM hs) (λh hh=>hk _ h hh) (bk hs ?_);refine ha.go pos cx g s _ E P t0 λYx s₁ ys Yw rv=>⟨Yw.pre.inv.base,?_⟩;refine hc.go cx Yx s₁ ys [] Q E Yw.pre.fm.bl Yw.pre.inv rv.kw0 rfl (Yw.t t0) λYy Yv y Yz g7=>hQ Yy Yv y (Yw.trans (Yz.run Yw.pre)) g7
end
section
theorem vz(r:aQ W g h [] ys):ys=[]:=r
theorem Em(r:aQ W g h [a] ys):∃ y,ys=[y]/\RV W g h a y:=by(refine au r λy t an h1 dn=> ?_;obtain rfl:=an;obtain rfl:=dn);exact⟨y,rfl,h1⟩
theorem Eo(r:aQ W g h [a,b] ys):∃ y z,ys=[y,z]/\RV W g h a y/\RV W g h b z:=by obtain⟨y,t,rfl,h1,z,t,rfl,h2,rfl⟩:=r;exact⟨y,z,rfl,h1,h2⟩
theorem VJ(r:aQ W g h [a,b,c] ys):∃ y z u,ys=[y,z,u]/\RV W g h a y/\RV W g h b z/\RV W g h c u:=by obtain⟨y,t,rfl,h1,z,t,rfl,h2,u,t,rfl,h3,rfl⟩:=r;exact⟨y,z,u,rfl,h1,h2,h3⟩
theorem aP(r:RV W g h a y):aQ W g h [a] [y]:=⟨y,[],rfl,r,rfl⟩
theorem aJ(r:RV W g h a y)(rs:aQ W g h vs ys):aQ W g h (a::vs) (y::ys):=⟨y,ys,rfl,r,rs⟩
theorem aH.refl(I:Inv W g hp s.heap):aH W cx g s hp g s:=⟨.refl ..,I,.refl _⟩
theorem aH.toks(I:Inv W g hp s.heap)(hn:s.toks<=n):aH W cx g s hp g { s with toks:=n }:=⟨.refl ..,I,⟨rfl,id,hn⟩⟩
theorem aH.step(I:Inv W g hp s.heap)(x:Step g s.heap g' s'.heap)(I':Inv W g' hp' s'.heap)(sm:j_ s s'):aH W cx g s hp' g' s':=⟨x.evo I I',I',sm⟩
theorem aH.ext(I:Inv W g hp s.heap)(hk:∀ b o,s.heap.get? b=some o->h'.get? b=some o)(hn:s.toks<=n) :
  aH W cx g s hp g { s with heap:=h',toks:=n }:=
 .step I (Step.ext hk) (I.ext hk) ⟨rfl,id,hn⟩
theorem aH.freeze(I:Inv W g hp s.heap)(ha:s.heap.get? a=none)(ho:h'.get? a=some o)(hk:∀ b o,s.heap.get? b=some o->h'.get? b=some o)(hn:s.toks<=n) :
  aH W cx g s hp (g.freeze a) { s with heap:=h',toks:=n }/\bU g s.heap (g.freeze a) h':=
 ⟨.step I (Step.freeze ha hk) (I.freeze ha ho hk) ⟨rfl,id,hn⟩,(Step.freeze ha hk).keeps I⟩
theorem aH.upd(I:Inv W g hp s.heap)(hi:g.ρ[i]? =some a)(hs:ae0 a s.heap h')(ho:bU g s.heap g h'->RO W g h' a ob)(hn:s.toks<=n) :
  aH W cx g s (hp.set i ob) g { s with heap:=h',toks:=n }:=
 let ha:a∈g.ρ:=acq hi
 .step I (Step.upd ha hs) (I.upd hi hs (ho ((Step.upd ha hs).keeps I))) ⟨rfl,id,hn⟩
theorem aK{s:Shared}:s.heap.get? s.heap.objs.size=none:=get?_size_none _
theorem Call.of1
  (H:∀(cx:Cx)(g:Gh)(s:Shared)(y:Value)(Q:Value->Shared->Prop)(E:Value->Shared->Prop),Bl W k q cx g s.heap->Inv W g hp s.heap->RV W g s.heap a y->
   (∀ g' s' z,aH W cx g s hp' g' s'->RV W g' s'.heap v z->Q z s')->wpAny (model W.prog W.w) cx.A (agd f [y]) Q E s):Call W k q f [] [a] hp v hp':=by
 refine .mk ?_;intro cx g s ys ai Q E bl I rv eC t0 hQ;obtain rfl:ai=[]:=by simpa using eC
 refine ak (Em rv) λy hy r=> ?_;obtain rfl:ys=[y]:=ac8 hy;exact H cx g s y Q E bl I r hQ
theorem Call.of2
  (H:∀(cx:Cx)(g:Gh)(s:Shared)(y z:Value)(Q:Value->Shared->Prop)(E:Value->Shared->Prop),Bl W k q cx g s.heap->Inv W g hp s.heap->RV W g s.heap a y->RV W g s.heap b z->
   (∀ g' s' z,aH W cx g s hp' g' s'->RV W g' s'.heap v z->Q z s')->wpAny (model W.prog W.w) cx.A (agd f [y,z]) Q E s):Call W k q f [] [a,b] hp v hp':=by
 refine .mk ?_;intro cx g s ys ai Q E bl I rv eC t0 hQ;obtain rfl:ai=[]:=by simpa using eC
 refine au (Eo rv) λy z hy r1 r2=> ?_;obtain rfl:ys=[y,z]:=ac8 hy;exact H cx g s y z Q E bl I r1 r2 hQ
theorem Call.of3
  (H:∀(cx:Cx)(g:Gh)(s:Shared)(y z u:Value)(Q:Value->Shared->Prop)(E:Value->Shared->Prop),Bl W k q cx g s.heap->Inv W g hp s.heap->RV W g s.heap a y->RV W g s.heap b z->RV W g s.heap c u->
   (∀ g' s' z,aH W cx g s hp' g' s'->RV W g' s'.heap v z->Q z s')->wpAny (model W.prog W.w) cx.A (agd f [y,z,u]) Q E s):Call W k q f [] [a,b,c] hp v hp':=by
 refine .mk ?_;intro cx g s ys ai Q E bl I rv eC t0 hQ;obtain rfl:ai=[]:=by simpa using eC
 refine Gg (VJ rv) λy z u hy r1 r2 r3=> ?_;obtain rfl:ys=[y,z,u]:=ac8 hy;exact H cx g s y z u Q E bl I r1 r2 r3 hQ
theorem aA{i:Int}(r:RV W g h (.int i) y):∃ t,y= .int i t:=r
theorem aG(r:RV W g h (.str x) y):∃ t,y= .str x t:=r
theorem Hn(r:RV W g h (.bool b) y):y= .bool b:=r
theorem iW(r:RV W g h .none y):y= .none:=r
theorem VG(r:RV W g h (.lst xs) y):∃ a vs,y= .ref a/\g.F a/\h.PlainList a (ahy vs)/\aQ W g h xs vs:=r
theorem eY(r:RV W g h (.tup xs) y):∃ a vs,y= .ref a/\g.F a/\jk h a (ahy vs)/\aQ W g h xs vs:=r
theorem iB(r:RV W g h (.ref i) y):∃ a,g.ρ[i]? =some a/\y= .ref a:=r
theorem cA{i:Int}:RV W g h (.int i) (.int i t):=⟨t,rfl⟩
theorem bx:RV W g h (.str x) (.str x t):=⟨t,rfl⟩
theorem mK:RV W g h (.bool b) (.bool b):=rfl
theorem of_none:RV W g h .none .none:=rfl
theorem uP.of
  (H:∀(cx:Cx)(g:Gh)(s:Shared)(x y:Value)(Q:Value->Shared->Prop)(E:Value->Shared->Prop),Bl W fc.k fc.q cx g s.heap->Inv W g hp s.heap->RV W g s.heap a x->RV W g s.heap b y->
   (∀ g' s' z,aH W cx g s hp' g' s'->RV W g' s'.heap v z->Q z s')->wpAny (model W.prog W.w) cx.A (binaryOp op x y) Q E s):uP W fc env hp op a b v hp':=
 .mk λcx g s x y Q E P t0 ra rb hQ=>H cx g s x y Q E P.fm.bl P.inv ra rb λg' s' z r rv=>hQ g' s' z (r.run P) rv
theorem pG{a b:Int}(hb:b≠0)(hs:a.natAbs.log2<1920)(aI:afd a b=false):uP W fc env hp .FloorDiv (.int a) (.int b) (.int (a.fdiv b)) hp:=
 .of λcx g s x y Q E bl I ra rb hQ=>by obtain⟨t,rfl⟩:=aA ra;obtain⟨u,rfl⟩:=aA rb;exact an9 hb (hQ g _ _ (.toks I (acg _)) cA) (.inl aI)
theorem yM{a b:Int}(hm:IntMulOk a b):uP W fc env hp .Mult (.int a) (.int b) (.int (a * b)) hp:=
 .of λcx g s x y Q E bl I ra rb hQ=>by obtain⟨t,rfl⟩:=aA ra;obtain⟨u,rfl⟩:=aA rb;exact ao8 (hQ g _ _ (.toks I (acg _)) cA) hm
theorem yO{a n:Int}(hn:0<=n)(et:(ahg a:Int) * n<=2 ^ 27):uP W fc env hp .Pow (.int a) (.int n) (.int (a ^ n.toNat)) hp:=
 .of λcx g s x y Q E bl I ra rb hQ=>by obtain⟨t,rfl⟩:=aA ra;obtain⟨u,rfl⟩:=aA rb;exact ao9 hn et (hQ g _ _ (.toks I (acg _)) cA)
theorem qw(hl:a.length+b.length<=16777216):uP W fc env hp .Add (.str a) (.str b) (.str (a++b)) hp:=
 .of λcx g s x y Q E bl I ra rb hQ=>by
  obtain⟨t,rfl⟩:=aG ra;obtain⟨u,rfl⟩:=aG rb;refine P.add_str ?_
  by_cases hx:(a.length==0)=true
  ·refine aa (if_pos hx) ?_;have h':=hQ g s (.str b u) (.refl I) (by exact aa (akq hx) bx);exact h'
  ·refine aa (if_neg hx) ?_
   by_cases hy:(b.length==0)=true
   ·refine aa (if_pos hy) ?_;have h':=hQ g s (.str a t) (.refl I) (by exact aa (aka hy) bx);exact h'
   ·exact aa (if_neg hy) ⟨by(rewrite[size_cat];refine aa sizeLine_eq ?_);exact hl,hQ g _ _ (.toks I (acg _)) bx⟩
theorem yN{n:Int}(aT:MulOk a n):uP W fc env hp .Mult (.str a) (.int n) (.str (ajp a n)) hp:=
 .of λcx g s x y Q E bl I ra rb hQ=>by
  obtain⟨t,rfl⟩:=aG ra;obtain⟨u,rfl⟩:=aA rb;refine P.mul_str aT.1 aT.2.1 aT.2.2 ?_
  by_cases h1:n<1
  ·exact aa (if_pos h1) ⟨by decide,hQ g _ _ (.toks I (acg _)) (by unfold ajp;refine aa (if_pos h1) ?_;exact bx)⟩
  ·refine aa (if_neg h1) ?_
   by_cases h2:(n==1||a.length==0)=true
   ·exact aa (if_pos h2) (hQ g s (.str a t) (.refl I) (by unfold ajp;(refine aa (if_neg h1) ?_;refine aa (if_pos h2) ?_);exact bx))
   ·exact aa (if_neg h2) ⟨fits_reps (aT.2.2 h1 (by exact ach ((λ{a b}=>Bool.not_not_eq.mp) λAP=>h2 (id (ach AP))))),hQ g _ _ (.toks I (acg _)) (by unfold ajp;(refine aa (if_neg h1) ?_;refine aa (if_neg h2) ?_);exact bx)⟩
inductive Lst(hp:List Ob):V->List V->Prop
|lst {xs}:Lst hp (.lst xs) xs
|ref {i xs}:hp[i]? =some (.list xs)->Lst hp (.ref i) xs
theorem Lst.at(l:Lst hp x xs)(I:Inv W g hp h)(r:RV W g h x y):∃ a vs,y= .ref a/\h.PlainList a (ahy vs)/\aQ W g h xs vs:=by cases l with
|lst=>refine bT (VG r) λa vs e _ h1 h2=> ?_;exact⟨a,vs,e,h1,h2⟩
|ref hi=>(refine ak (iB r) λa ea an=> ?_;obtain rfl:=an);obtain⟨vs,h1,h2⟩:=I.obs _ _ a hi ea;exact⟨a,vs,rfl,h1,h2⟩
theorem wN(la:Lst hp a xs)(lb:Lst hp b ys)(hl:xs.length+ys.length<=16777216):uP W fc env hp .Add a b (.lst (xs++ys)) hp:=
 .of λcx g s x y Q E bl I ra rb hQ=>by
  (refine au (la.at I ra) λl vs an ez r1=> ?_;obtain rfl:=an;obtain⟨n,ho⟩:=ez);(refine au (lb.at I rb) λl2 ws an ez r2=> ?_;obtain rfl:=an;obtain⟨n2,so⟩:=ez);have ar:vs.length+ws.length<=sizeLine:=by(refine aa r1.length ?_;refine aa r2.length ?_;refine aa sizeLine_eq ?_);exact hl
  have e:vs.toArray++ws.toArray=(vs++ws).toArray:=ahh vs ws;refine concat_meets ⟨_,ho,rfl⟩ ⟨_,so,rfl⟩ noFill_list_add seq_list_add PySem.F.slot_list_add PySem.F.entry_list_add (PySem.F.args_list_add_2 _ _) (list_addW l l2 vs.toArray ws.toArray n n2 none none #[] #[] (by assumption)) ⟨ho,so,?_⟩;refine aa e ?_;have hn:=ab4 s.heap (o:={ cls:= .type "list",data:= .seq (vs++ws).toArray }) rfl;refine bw (aH.freeze (hn:=abm _) (cx:=cx) (n:=s.toks) I aK hn (λb o e=>abr _ e)) λr K=> ?_;refine hQ _ _ _ r ?_;exact⟨_,_,rfl,.inr rfl,⟨0,hn⟩,(r1.append r2).keep K⟩
theorem yK(h1:xs≠[])(h2:ys≠[])(hl:xs.length+ys.length<=16777216):uP W fc env hp .Add (.tup xs) (.tup ys) (.tup (xs++ys)) hp:=
 .of λcx g s x y Q E bl I ra rb hQ=>by
  (refine bT (eY ra) λl vs an _ dn r1=> ?_;obtain rfl:=an;obtain⟨n,ho⟩:=dn);(refine bT (eY rb) λl2 ws an _ dn r2=> ?_;obtain rfl:=an;obtain⟨n2,so⟩:=dn);have ar:vs.length+ws.length<=sizeLine:=by(refine aa r1.length ?_;refine aa r2.length ?_;refine aa sizeLine_eq ?_);exact hl
  have e:vs.toArray++ws.toArray=(vs++ws).toArray:=ahh vs ws;have n1:¬vs.toArray.isEmpty=true:=by have:=r1.length;induction vs using abn with
  |nil=>induction xs using abn with
   |nil=>exact absurd rfl h1|cons=>simp at this
  |cons=>exact ne_true_of_eq_false rfl
  have EE:¬ws.toArray.isEmpty=true:=by have:=r2.length;induction ws using abn with
  |nil=>induction ys using abn with
   |nil=>exact absurd rfl h2|cons=>simp at this
  |cons=>exact ne_true_of_eq_false rfl
  refine P.add_tuple ho so n1 EE ?_ (by assumption);refine aa e ?_;have hn:=ab4 s.heap (o:={ cls:= .type "tuple",data:= .seq (vs++ws).toArray }) rfl;refine bw (aH.freeze (hn:=abm _) (cx:=cx) (n:=s.toks) I aK hn (λb o e=>abr _ e)) λr K=> ?_;refine hQ _ _ _ r ?_;exact⟨_,_,rfl,.inr rfl,⟨0,hn⟩,(r1.append r2).keep K⟩
end
section
theorem rN(h:u+8<c)(d:a<=6):u+1+min a b<c:=acj (acs (abj (af1 a b) d) (u+1)) (ajq h)
variable{fc:FC}
mutual
noncomputable def V.dat:V->PyData
|.bool b=> .bool b
|.int i=> .int i
|.str s=> .str s
|.tup xs=> .tuple (wZ xs)
|.lst xs=> .list (wZ xs)
|_=> .none
noncomputable def wZ:List V->List PyData
|[]=>[]
|x::xs=>x.dat::wZ xs
end
def B_(x:Str):Prop:=acy x=true
mutual
noncomputable def V.fit:Nat->V->Prop
|_,.none=>True
|_,.bool _=>True
|_,.int _=>True
|_,.str s=>B_ s
|n+1,.tup xs=>fits n xs
|n+1,.lst xs=>fits n xs
|_,_=>False
noncomputable def fits:Nat->List V->Prop
|_,[]=>True
|n,x::xs=>x.fit n/\fits n xs
end
theorem zN:(V.bool b).fit n=True:=rfl
theorem Gp:(V.lst xs).fit (n+1)=fits n xs:=rfl
theorem zP:fits n []=True:=rfl
theorem vX:fits n (x::xs)=(x.fit n/\fits n xs):=rfl
theorem zO:fits n xs↔ ∀ x∈xs,x.fit n:=by induction xs with
|nil=>exact⟨λ_ _ h=>(adh h).elim,λ_=>trivial⟩
|cons x xs ih=>exact⟨λh y hy=>(abx.mp hy).elim (λe=>e▸h.1) (ih.mp h.2 y),λh=>⟨h x abq,ih.mpr λy hy=>h y (abl _ hy)⟩⟩
mutual
theorem V.reads:∀{n:Nat}{x:V}{y:Value},x.fit n->RV W g h x y-> ∃ as,Reads h y x.dat as
|_,.none,_,_,r=>by obtain rfl:=r;exact⟨_,.none⟩
|_,.bool b,_,_,r=>by subst r;exact⟨_,.bool b⟩
|_,.int i,_,_,r=>by obtain⟨t,rfl⟩:=r;exact⟨_,.int i t⟩
|_,.str s,_,_,r=>by obtain⟨t,rfl⟩:=r;exact⟨_,.str s t⟩
|n+1,.tup xs,_,f,r=>by(refine bT r λa vs an _ dn hr=> ?_;obtain rfl:=an;obtain⟨m,ho⟩:=dn);obtain⟨as,ra⟩:=fits.reads (n:=n) f hr;exact⟨_,.tuple ho rfl rfl (by simpa using ra)⟩
|n+1,.lst xs,_,f,r=>by(refine bT r λa vs an _ dn hr=> ?_;obtain rfl:=an;obtain⟨m,ho⟩:=dn);obtain⟨as,ra⟩:=fits.reads (n:=n) f hr;exact⟨_,.list ho rfl rfl (by simpa using ra)⟩
|0,.tup _,_,f,_=>f.elim
|0,.lst _,_,f,_=>f.elim
|_,.dS _ _,_,f,_=>f.elim
|_,.dI _ _,_,f,_=>f.elim
|_,.ref _,_,f,_=>f.elim
|_,.iref _ _,_,f,_=>f.elim
|_,.gl _,_,f,_=>f.elim
|_,.ty _,_,f,_=>f.elim
|_,.exc _ _,_,f,_=>f.elim
|_,.raw _ _,_,f,_=>f.elim
theorem fits.reads:∀{n:Nat}{xs:List V}{ys:List Value},fits n xs->aQ W g h xs ys-> ∃ as,ReadsAll h ys (wZ xs) as
|_,[],_,_,r=>by subst r;exact⟨_,.nil⟩
|n,x::xs,_,f,r=>by(refine au r λy t an h1 h2=> ?_;obtain rfl:=an);refine aD (V.reads f.1 h1) λas ra=> ?_;obtain⟨bs,rb⟩:=fits.reads f.2 h2;exact⟨_,.cons ra rb⟩
end
mutual
theorem V.fit_lay:∀{n:Nat}{x:V},x.fit n->x.dat.canLay0=true/\x.dat.depth<=n
|_,.none,_=>⟨rfl,ac4 _⟩
|_,.bool b,_=>⟨rfl,ac4 _⟩
|_,.int i,_=>⟨rfl,ac4 _⟩
|_,.str s,f=>by exact⟨f,ac4 _⟩
|n+1,.tup xs,f=>by refine bw (fits.fit_lay (n:=n) f) λh1 h2=> ?_;exact⟨h1,adc h2⟩
|n+1,.lst xs,f=>by obtain⟨h1,h2⟩:=fits.fit_lay (n:=n) f;exact⟨h1,adc h2⟩
|0,.tup _,f=>f.elim
|0,.lst _,f=>f.elim
|_,.dS _ _,f=>f.elim
|_,.dI _ _,f=>f.elim
|_,.ref _,f=>f.elim
|_,.iref _ _,f=>f.elim
|_,.gl _,f=>f.elim
|_,.ty _,f=>f.elim
|_,.exc _ _,f=>f.elim
|_,.raw _ _,f=>f.elim
theorem fits.fit_lay:∀{n:Nat}{xs:List V},fits n xs->PyData.canLayAll0 (wZ xs)=true/\PyData.depthAll (wZ xs)<=n
|_,[],_=>⟨rfl,ac4 _⟩
|n,x::xs,f=>by refine bw (V.fit_lay f.1) λh1 h2=> ?_;refine bw (fits.fit_lay f.2) λh3 h4=> ?_;exact⟨abo.mpr ⟨h1,h3⟩,Nat.max_le.mpr ⟨h2,h4⟩⟩
end
inductive Now(hp:List Ob):V->V->Prop
|same {x}:Now hp x x
|list {i xs}:hp[i]? =some (.list xs)->Now hp (.ref i) (.lst xs)
theorem Now.reads(w:Now hp x u)(f:u.fit n)(I:Inv W g hp h)(r:RV W g h x y):∃ as,Reads h y u.dat as:=by cases w with
|same=>exact V.reads f r
|list hi=>(refine ak (iB r) λa ea an=> ?_;obtain rfl:=an);obtain⟨vs,⟨m,ho⟩,h2⟩:=I.obs _ _ a hi ea;induction n using acw with
 |zero=>exact f.elim|succ n=>obtain⟨as,ra⟩:=fits.reads (n:=n) f h2;exact⟨_,.list ho rfl rfl (by simpa using ra)⟩
noncomputable def V.eq(x y:V):Bool:=al1 x.dat y.dat
noncomputable def eqs(xs ys:List V):Bool:=PyData.eqvAll (wZ xs) (wZ ys)
structure j9(W:Wd)(hp:List Ob)(op:CmpOp)(a b:V)(r:Bool):Prop where
 go:∀(A:Around)(g:Gh)(s:Shared)(x y:Value)(Q:Value->Shared->Prop)(E:Value->Shared->Prop),A.units+8<cLine->Inv W g hp s.heap->RV W g s.heap a x->RV W g s.heap b y->
  (∀ n,s.toks<=n->Q (.bool r) { s with toks:=n })->wpAny (model W.prog W.w) A (compareOp op x y) Q E s
theorem Inv.units(b:Bl W fc.k fc.q cx g h):cx.A.units+8<cLine:=by have:=b.room.2;exact acj (acs (abk rfl) _) this
theorem U4(hm:behindInMarks op r=false)(h1:Ev W fc env hp l a hp₁)(h2:Ev W fc env hp₁ r b YC)(h3:j9 W YC op a b t) :
  Ev W fc env hp (.Compare l [op] [r] pos) (.bool t) YC:=by
 refine .mk ?_;intro cx g s Q E P t0 hQ;refine wpAny_Compare1 (h1.go cx g s _ E P t0 λYx s₁ x Yw YL=>h2.go cx Yx s₁ _ E Yw.pre (Yw.t t0) λYy Yv y Yz Y0=> ?_) hm;exact h3.go cx.A Yy Yv x y Q E (Inv.units Yz.pre.fm.bl) Yz.pre.inv (YL.keep (Yz.keep Yw.pre)) Y0 λn hn=>hQ Yy _ _ ((Yw.trans Yz).trans (.toks Yz.pre hn)) mK
theorem Tf(hm:behindInMarks op r=false)(h1:Ev W fc env hp l a hp₁)(h2:Ev W fc env hp₁ r b YC)(h3:j9 W YC op a b t) :
  g8 W fc env hp (.Compare l [op] [r] pos) t YC:=by
 refine .mk ?_;intro cx g s Q E P t0 hQ;refine wpAny_isTrue_Compare1 (h1.go cx g s _ E P t0 λYx s₁ x Yw YL=>h2.go cx Yx s₁ _ E Yw.pre (Yw.t t0) λYy Yv y Yz Y0=> ?_) hm;exact h3.go cx.A Yy Yv x y _ E (Inv.units Yz.pre.fm.bl) Yz.pre.inv (YL.keep (Yz.keep Yw.pre)) Y0 λn hn=>wpAny_truthy_bool (hQ Yy _ ((Yw.trans Yz).trans (.toks Yz.pre hn)))
theorem wV(ha:Now hp a u)(hb:Now hp b w)(fa:u.fit 6)(fb:w.fit 6):j9 W hp .Eq a b (u.eq w):=by refine .mk ?_;intro A g s x y Q E hu I ra rb hQ;refine aD (ha.reads fa I ra) λas nh=> ?_;refine aD (hb.reads fb I rb) λbs nk=> ?_;refine bw (V.fit_lay fa) λl1 d1=> ?_;refine bw (V.fit_lay fb) λl2 d2=> ?_;exact SeqAt.compareEq_reads nh nk l1 l2 (acj (ab8 (acg _) _) (rN hu d1)) (hQ s.toks (abm _))
theorem UV(ha:Now hp a u)(hb:Now hp b w)(fa:u.fit 6)(fb:w.fit 6):j9 W hp .NotEq a b (!u.eq w):=by refine .mk ?_;intro A g s x y Q E hu I ra rb hQ;refine aD (ha.reads fa I ra) λas nh=> ?_;refine aD (hb.reads fb I rb) λbs nk=> ?_;refine bw (V.fit_lay fa) λl1 d1=> ?_;refine bw (V.fit_lay fb) λl2 d2=> ?_;exact SeqAt.compareNe_reads nh nk l1 l2 (acj (ab8 (acg _) _) (rN hu d1)) (hQ s.toks (abm _))
noncomputable def isIn(x:V)(xs:List V):Bool:=xs.any λy=>y.eq x
theorem yH(xs:List V)(d:PyData):((wZ xs).any λy=>al1 y d)=xs.any λy=>al1 y.dat d:=by induction xs with
|nil=>rfl
|cons x xs ih=>exact congrArg (al1 x.dat d|| ·) ih
theorem zj{a b u:V}{xs:List V}(hb:Now hp b (.lst xs))(fa:a.fit 6)(fb:fits 5 xs):j9 W hp .In a b (isIn a xs):=by refine .mk ?_;intro A g s x y Q E hu I ra rb hQ;refine aD (V.reads fa ra) λas nh=> ?_;refine aD (hb.reads (n:=6) fb I rb) λbs nk=> ?_;refine bw (V.fit_lay fa) λl1 d1=> ?_;refine bw (fits.fit_lay fb) λl2 d2=> ?_;refine SeqAt.in_list_reads nk nh l2 l1 (rN hu (adk d2)) ?_;rw[yH];exact hQ s.toks (abm _)
theorem CP(fa:a.fit 6)(fb:fits 5 xs):j9 W hp .In a (.tup xs) (isIn a xs):=by refine .mk ?_;intro A g s x y Q E hu I ra rb hQ;refine aD (V.reads fa ra) λas nh=> ?_;refine aD (V.reads (n:=6) (x:= .tup xs) fb rb) λbs nk=> ?_;refine bw (V.fit_lay fa) λl1 d1=> ?_;obtain⟨l2,d2⟩:=fits.fit_lay fb;refine SeqAt.in_tuple_reads nk nh l2 l1 (rN hu (adk d2)) ?_;rw[yH];exact hQ s.toks (abm _)
theorem CG{a b:Int}:j9 W hp .Eq (.int a) (.int b) (a==b):=by refine .mk ?_;intro A g s x y Q E hu I ra rb hQ;obtain⟨t,rfl⟩:=aA ra;obtain⟨u,rfl⟩:=aA rb;exact P.eq_int (hQ s.toks (abm _))
theorem CV{a b:Int}:j9 W hp .NotEq (.int a) (.int b) (a !=b):=by refine .mk ?_;intro A g s x y Q E hu I ra rb hQ;obtain⟨t,rfl⟩:=aA ra;obtain⟨u,rfl⟩:=aA rb;exact P.ne_int (hQ s.toks (abm _))
theorem CT{a b:Int}:j9 W hp .Lt (.int a) (.int b) (decide (a<b)):=by refine .mk ?_;intro A g s x y Q E hu I ra rb hQ;obtain⟨t,rfl⟩:=aA ra;obtain⟨u,rfl⟩:=aA rb;exact P.lt_int (hQ s.toks (abm _))
theorem CQ{a b:Int}:j9 W hp .LtE (.int a) (.int b) (decide (a<=b)):=by refine .mk ?_;intro A g s x y Q E hu I ra rb hQ;obtain⟨t,rfl⟩:=aA ra;obtain⟨u,rfl⟩:=aA rb;exact P.le_int (hQ s.toks (abm _))
theorem CN{a b:Int}:j9 W hp .Gt (.int a) (.int b) (decide (a>b)):=by refine .mk ?_;intro A g s x y Q E hu I ra rb hQ;obtain⟨t,rfl⟩:=aA ra;obtain⟨u,rfl⟩:=aA rb;exact PySem.P.gt_int (hQ s.toks (abm _))
theorem CK{a b:Int}:j9 W hp .GtE (.int a) (.int b) (decide (a>=b)):=by refine .mk ?_;intro A g s x y Q E hu I ra rb hQ;obtain⟨t,rfl⟩:=aA ra;obtain⟨u,rfl⟩:=aA rb;exact PySem.P.ge_int (hQ s.toks (abm _))
theorem str_beq(a b:Str):(a.cps.toList==b.cps.toList)=(a==b):=by
 by_cases h:a=b
 ·subst h;exact eq_meets a a
 ·(refine aa (beq_eq_false_iff_ne.mpr h) ?_;rw[beq_eq_false_iff_ne]);intro q;exact h (by induction a using agy;induction b using agy;simp_all)
theorem CJ:j9 W hp .Eq (.str a) (.str b) (a==b):=by refine .mk ?_;intro A g s x y Q E hu I ra rb hQ;obtain⟨t,rfl⟩:=aG ra;obtain⟨u,rfl⟩:=aG rb;exact P.eq_str (by rw[str_beq];exact hQ s.toks (abm _))
theorem CW:j9 W hp .NotEq (.str a) (.str b) (a !=b):=by refine .mk ?_;intro A g s x y Q E hu I ra rb hQ;obtain⟨t,rfl⟩:=aG ra;obtain⟨u,rfl⟩:=aG rb;exact P.ne_str (by rw[bne,str_beq];exact hQ s.toks (abm _))
theorem p_{P:Value->Prop}(p:∀ a,P (.ref a))(h:∃ a,y= .ref a):P y:=h.elim λa e=>e▸p a
@[elab_as_elim] theorem RV.on{P:Value->Prop}(r:RV W g h x y)(pn:x= .none->P .none)(pb:∀ b,P (.bool b))(pi:∀ i t,P (.int i t))(ps:∀ s t,P (.str s t))(pt:∀ T,P (.type T))(p:∀ a,P (.ref a)):P y:=by
 induction x using V.casesOn
 case none=>obtain rfl:=r;exact pn rfl
 case bool=>obtain rfl:=r;exact pb _
 case int=>obtain⟨t,rfl⟩:=r;exact pi _ t
 case str=>obtain⟨t,rfl⟩:=r;exact ps _ t
 case ty=>obtain rfl:=r;exact pt _
 case ref=>exact p_ p (ak r λa _ e=>⟨a,e⟩)
 case iref=>exact p_ p (T5 r λa _ _ e _=>⟨a,e⟩)
 case gl=>exact p_ p ⟨_,r.1⟩
 case exc=>exact p_ p (Wx r λa _ _ _ _ e _=>⟨a,e⟩)
 case raw T xs=>exact p_ p (ak r λvs h1 _=>T.ref _ _ _ _ _ h1)
 all_goals exact p_ p (dY r λa _ e _=>⟨a,e⟩)
theorem qI(hx:x≠ .none)(r:RV W g h x y):y≠ .none:=r.on (λe=>(hx e).elim) (λ_=>nofun) (λ_ _=>nofun) (λ_ _=>nofun) (λ_=>nofun) λ_=>nofun
theorem Bc(r:RV W g h x y):plainIs y .none=true:=r.on (λ_=>rfl) (λ_=>rfl) (λ_ _=>rfl) (λ_ _=>rfl) (λ_=>rfl) λ_=>rfl
theorem JF(r:RV W g h x y):handedIn y=true:=r.on (λ_=>rfl) (λ_=>rfl) (λ_ _=>rfl) (λ_ _=>rfl) (λ_=>rfl) λ_=>rfl
theorem zm:j9 W hp .Is .none .none true:=by refine .mk ?_;intro A g s x y Q E hu I ra rb hQ;obtain rfl:=iW ra;obtain rfl:=iW rb;exact wpAny_is_self rfl (hQ s.toks (abm _))
theorem tu:j9 W hp .IsNot .none .none false:=by refine .mk ?_;intro A g s x y Q E hu I ra rb hQ;obtain rfl:=iW ra;obtain rfl:=iW rb;exact wpAny_isNot_self rfl (hQ s.toks (abm _))
theorem zq(ha:a≠ .none):j9 W hp .Is a .none false:=by refine .mk ?_;intro A g s x y Q E hu I ra rb hQ;obtain rfl:=iW rb;exact wpAny_is_other (Bc ra) (qI ha ra) (hQ s.toks (abm _))
theorem tB(ha:a≠ .none):j9 W hp .IsNot a .none true:=by refine .mk ?_;intro A g s x y Q E hu I ra rb hQ;obtain rfl:=iW rb;exact wpAny_isNot_other (Bc ra) (qI ha ra) (hQ s.toks (abm _))
structure Kd(W:Wd)(hp:List Ob)(a:V)(r:Bool):Prop where
 go:∀(A:Around)(g:Gh)(s:Shared)(x:Value)(Q:Bool->Shared->Prop)(E:Value->Shared->Prop),Inv W g hp s.heap->RV W g s.heap a x->
  (∀ n,s.toks<=n->Q r { s with toks:=n })->wpAny (model W.prog W.w) A (truthy x) Q E s
theorem PJ:Kd W hp (.bool b) b:= .mk λA g s x Q E I r hQ=>by obtain rfl:=Hn r;exact wpAny_truthy_bool (hQ s.toks (abm _))
theorem PK:Kd W hp .none false:= .mk λA g s x Q E I r hQ=>by obtain rfl:=iW r;exact aob (hQ s.toks (abm _))
theorem Te{i:Int}:Kd W hp (.int i) (i !=0):= .mk λA g s x Q E I r hQ=>by obtain⟨t,rfl⟩:=aA r;exact P.truthy_int (hQ s.toks (abm _))
theorem Th(he:∀ m whole,isTrue e m whole=(do let v ←whole;standAt e.pos;holding [v] (truthy v)))(h1:Ev W fc env hp e v hp₁)(h2:Kd W hp₁ v b):g8 W fc env hp e b hp₁:=
 .mk λcx g s Q E P t0 hQ=>wpAny_isTrue_value (h1.go cx g s _ E P t0 λYx s₁ y r rv=>h2.go cx.A Yx s₁ y Q E r.pre.inv rv λn hn=>hQ Yx _ (r.trans (.toks r.pre hn))) (he _ _)
theorem Tg(h1:g8 W fc env hp e b hp₁):g8 W fc env hp (.UnaryOp .Not e pos) (!b) hp₁:=
 .mk λcx g s Q E P t0 hQ=>wpAny_isTrue_Not (h1.go cx g s _ E P t0 λYx s₁ r=>hQ Yx s₁ r)
theorem Bt:g8 W fc env hp (.BoolOp .And [] pos) true hp:= .mk λcx g s Q E P t0 hQ=>isTrue_and_nil (hQ g s (.refl P))
theorem EY:g8 W fc env hp (.BoolOp .Or [] pos) false hp:= .mk λcx g s Q E P t0 hQ=>isTrue_or_nil (hQ g s (.refl P))
theorem vD(h1:g8 W fc env hp e false hp₁):g8 W fc env hp (.BoolOp .And (e::r) pos) false hp₁:=
 .mk λcx g s Q E P t0 hQ=>isTrue_and (h1.go cx g s _ E P t0 λYx s₁ r=>by exact ite_ff (hQ Yx s₁ r))
theorem yj(h1:g8 W fc env hp e true hp₁)(h2:g8 W fc env hp₁ (.BoolOp .And r pos) b YC):g8 W fc env hp (.BoolOp .And (e::r) pos) b YC:=
 .mk λcx g s Q E P t0 hQ=>isTrue_and (h1.go cx g s _ E P t0 λYx s₁ r=>by simp only[if_true];exact h2.go cx Yx s₁ Q E r.pre (r.t t0) λYy Yv r'=>hQ Yy Yv (r.trans r'))
theorem Bu(h1:g8 W fc env hp e true hp₁):g8 W fc env hp (.BoolOp .Or (e::r) pos) true hp₁:=
 .mk λcx g s Q E P t0 hQ=>isTrue_or (h1.go cx g s _ E P t0 λYx s₁ r=>by exact ite_tt (hQ Yx s₁ r))
theorem yl(h1:g8 W fc env hp e false hp₁)(h2:g8 W fc env hp₁ (.BoolOp .Or r pos) b YC):g8 W fc env hp (.BoolOp .Or (e::r) pos) b YC:=
 .mk λcx g s Q E P t0 hQ=>isTrue_or (h1.go cx g s _ E P t0 λYx s₁ r=>by simp only[acp,if_false];exact h2.go cx Yx s₁ Q E r.pre (r.t t0) λYy Yv r'=>hQ Yy Yv (r.trans r'))
theorem L_(h1:g8 W fc env hp t true hp₁)(h2:Ev W fc env hp₁ x v YC):Ev W fc env hp (.IfExp t x y pos) v YC:=
 .mk λcx g s Q E P t0 hQ=>wpAny_IfExp (h1.go cx g s _ E P t0 λYx s₁ r=>by simp only[if_true];exact h2.go cx Yx s₁ Q E r.pre (r.t t0) λYy Yv z r' rv=>hQ Yy Yv z (r.trans r') rv)
theorem LR(h1:g8 W fc env hp t false hp₁)(h2:Ev W fc env hp₁ y v YC):Ev W fc env hp (.IfExp t x y pos) v YC:=
 .mk λcx g s Q E P t0 hQ=>wpAny_IfExp (h1.go cx g s _ E P t0 λYx s₁ r=>by simp only[acp,if_false];exact h2.go cx Yx s₁ Q E r.pre (r.t t0) λYy Yv z r' rv=>hQ Yy Yv z (r.trans r') rv)
theorem U5(h1:g8 W fc env hp t b hp₁)(h2:Ev W fc env hp₁ x v YC)(h3:Ev W fc env hp₁ y w YC):Ev W fc env hp (.IfExp t x y pos) (if b then v else w) YC:=by
 induction b using aco
 ·exact LR h1 h3
 ·exact L_ h1 h2
theorem U9(h1:Ev W fc env hp e v hp₁)(h2:Kd W hp₁ v b):Ev W fc env hp (.UnaryOp .Not e pos) (.bool (!b)) hp₁:=
 .mk λcx g s Q E P t0 hQ=>wpAny_UnaryOp (h1.go cx g s _ E P t0 λYx s₁ y r rv=>by unfold unaryOp;refine wpAny_holding ?_;refine(?_:wpAny _ _ (do return .bool (!(←truthy y))) Q E s₁);exact wpAny_bind (wpAny_mono (h2.go cx.A Yx s₁ y (λc Yv=>c=b/\ ∃ n,s₁.toks<=n/\Yv={ s₁ with toks:=n }) E r.pre.inv rv λn hn=>⟨rfl,⟨n,hn,rfl⟩⟩) (λc Yv h=>by obtain⟨rfl,n,hn,rfl⟩:=h;exact wpAny_pure (hQ Yx _ _ (r.trans (.toks r.pre hn)) mK)) λ_ _ x=>x))
theorem U8{i:Int}(h1:Ev W fc env hp e (.int i) hp₁):Ev W fc env hp (.UnaryOp .USub e pos) (.int (-i)) hp₁:=
 .mk λcx g s Q E P t0 hQ=>wpAny_UnaryOp (h1.go cx g s _ E P t0 λYx s₁ y r rv=>by obtain⟨t,rfl⟩:=aA rv;exact PySem.P.neg_int (hQ Yx _ _ (r.trans (.toks r.pre (acg _))) cA))
theorem w7(h1:Ev W fc env hp e v hp₁)(ht:Kd W hp₁ v false):Ev W fc env hp (.BoolOp .And (e::e2::r) pos) v hp₁:=
 .mk λcx g s Q E P t0 hQ=>BoolOp_and (h1.go cx g s _ E P t0 λYx s₁ y r rv=>ht.go cx.A Yx s₁ y _ E r.pre.inv rv λn hn=>by have q:=hQ Yx _ y (r.trans (.toks (n:=n) r.pre hn)) rv;assumption)
theorem zE(h1:Ev W fc env hp e v hp₁)(ht:Kd W hp₁ v true)(h2:Ev W fc env hp₁ (.BoolOp .And (e2::r) pos) w YC):Ev W fc env hp (.BoolOp .And (e::e2::r) pos) w YC:=
 .mk λcx g s Q E P t0 hQ=>BoolOp_and (h1.go cx g s _ E P t0 λYx s₁ y r rv=>ht.go cx.A Yx s₁ y _ E r.pre.inv rv λn hn=>by simp only[if_true];have q:=r.trans (.toks (n:=n) r.pre hn);exact h2.go cx Yx _ Q E q.pre (q.t t0) λYy Yv z r' rv=>hQ Yy Yv z (q.trans r') rv)
theorem Do(h1:Ev W fc env hp e v hp₁)(ht:Kd W hp₁ v true):Ev W fc env hp (.BoolOp .Or (e::e2::r) pos) v hp₁:=
 .mk λcx g s Q E P t0 hQ=>BoolOp_or (h1.go cx g s _ E P t0 λYx s₁ y r rv=>ht.go cx.A Yx s₁ y _ E r.pre.inv rv λn hn=>by have q:=hQ Yx _ y (r.trans (.toks (n:=n) r.pre hn)) rv;assumption)
theorem zF(h1:Ev W fc env hp e v hp₁)(ht:Kd W hp₁ v false)(h2:Ev W fc env hp₁ (.BoolOp .Or (e2::r) pos) w YC):Ev W fc env hp (.BoolOp .Or (e::e2::r) pos) w YC:=
 .mk λcx g s Q E P t0 hQ=>BoolOp_or (h1.go cx g s _ E P t0 λYx s₁ y r rv=>ht.go cx.A Yx s₁ y _ E r.pre.inv rv λn hn=>by simp only[acp,if_false];have q:=r.trans (.toks (n:=n) r.pre hn);exact h2.go cx Yx _ Q E q.pre (q.t t0) λYy Yv z r' rv=>hQ Yy Yv z (q.trans r') rv)
theorem U_(h1:Ev W fc env hp e v hp₁):Ev W fc env hp (.BoolOp op [e] pos) v hp₁:=
 .mk λcx g s Q E P t0 hQ=>BoolOp_one (h1.go cx g s Q E P t0 hQ)
end
section
variable{W:Wd}
noncomputable def isSlice(e:Expr):Bool:=ajr e.ctorIdx 26
structure Itm(W:Wd)(hp:List Ob)(a i v:V):Prop where
 go:∀(A:Around)(g:Gh)(s:Shared)(x y:Value)(Q:Value->Shared->Prop)(E:Value->Shared->Prop),Inv W g hp s.heap->RV W g s.heap a x->RV W g s.heap i y->
  (∀ n z,s.toks<=n->RV W g s.heap v z->Q z { s with toks:=n })->ItemOn (model W.prog W.w) A E x y Q s
theorem Bo(hi:ItemOn (model W.prog W.w) A E o i Q s)
  (hs:subscripted slice false o i=operate ops (getItem o i)):wpAny (model W.prog W.w) A (subscriptTail value slice o i) Q E s:=by
 obtain⟨T,id,hl,hT,hg⟩:=hi;unfold subscriptTail;refine wpAny_bind ?_;refine aa (getitemInPython_of_ne hT.not_modules) ?_;refine wpAny_bind (wpAny_specialOf hT hl ?_);have fin:wpAny (model W.prog W.w) A (subscripted slice false o i) (λr s₃=>wpAny (model W.prog W.w) A (letTemporaryGo value o r >>= λ_=>pure r) Q E s₃) E s:=by exact aa hs (wpAny_operating (wpAny_mono hg (λr s₃ YT=>wpAny_bind (wpAny_letTemporaryGo (wpAny_pure YT))) λ_ _ x=>x))
 first
 |exact wpAny_pure (wpAny_bind fin)
 |exact wpAny_bind (wpAny_pure (wpAny_bind fin))
 |exact wpAny_bind fin
theorem o9(h:isSlice slice=false):subscripted slice false o i=operate [o,i] (getItem o i):=by induction slice using ac6<;>first|rfl|cases h
theorem Vb(hs:isSlice slice=false)(h1:Ev W fc env hp value a hp₁)(h2:Ev W fc env hp₁ slice i YC)(h3:Itm W YC a i v) :
  Ev W fc env hp (.Subscript value slice pos) v YC:=by
 refine .mk ?_;intro cx g s Q E P t0 hQ;refine Subscript_ (h1.go cx g s _ E P t0 λYx s₁ x Yw YL=>h2.go cx Yx s₁ _ E Yw.pre (Yw.t t0) λYy Yv y Yz Y0=> ?_);exact Bo (h3.go cx.A Yy Yv x y Q E Yz.pre.inv (YL.keep (Yz.keep Yw.pre)) Y0 λn z hn rz=>hQ Yy _ z ((Yw.trans Yz).trans (.toks Yz.pre hn)) rz) (o9 hs)
noncomputable def cN{α:Type}(xs:List α)(i:Int):Option α:=(seqIndex? i xs.length).bind (xs[·]?)
theorem s7(h:n<=l):clipAt l (n:Int)=n:=by delta clipAt;rw[if_neg (afr.mpr (adg n)),ane (ac9.mpr h),Int.max_eq_right (adg n)];rfl
theorem Bf{i:Int}(h:seqIndex? i n=some j):j<n:=by
 unfold seqIndex? at h;simp only at h
 split at h<;>rename_i h0<;>simp at h0 h<;>exact h.2▸(ag6 h.1.1).mpr h.1.2
theorem fits63{i:Int}(h:seqIndex? i n=some j)(hn:n<=16777216):-(2:Int) ^ 63<=i/\i<(2:Int) ^ 63:=by
 unfold seqIndex? at h;simp only at h
 by_cases hi:i<0
 ·simp only[hi,if_true]at h
  split at h<;>rename_i h0<;>simp at h0 h
  exact⟨acr (acr (by decide:-(2:Int) ^ 63<= -16777216) (anw (ac9.mpr hn))) (ak1 (by rw[apa];exact h0.1)),aom hi (by decide)⟩
 ·simp only[hi,if_false]at h
  split at h<;>rename_i h0<;>simp at h0 h
  exact⟨acr (by decide) h0.1,aer h0.2 (acr (ac9.mpr hn) (by decide))⟩
theorem aF{i:Int}(l:Lst hp x xs)(hv:cN xs i=some v)(hl:xs.length<=16777216):Itm W hp x (.int i) v:=by refine .mk ?_;intro A g s y z Q E I ra ri hQ;obtain⟨t,rfl⟩:=aA ri;(refine au (l.at I ra) λa vs an ho rs=> ?_;obtain rfl:=an);have ar:=rs.length;unfold cN at hv;induction hk:seqIndex? i xs.length using abt with
|none=>rw[hk]at hv;injection hv
|some j=>
  rw[hk]at hv;obtain⟨u,hu,rv⟩:=rs.get (show xs[j]? =some v from hv);have hj:=Bf hk;have hf:=fits63 hk hl;refine⟨"list",_,alj.lookup,ho.isList.typeIs,?_⟩
  by_cases h0:i<0
  ·have e:(i+(vs.toArray.size:Int)).toNat=j:=by
    unfold seqIndex? at hk;simp only[h0,if_true]at hk
    split at hk<;>simp at hk;simp[ar];assumption
   have e1:-(vs.toArray.size:Int)<=i:=by
    delta seqIndex? at hk;simp only[h0,if_true]at hk
    split at hk<;>rename_i h1<;>simp at h1 hk;simp[ar];exact ak1 (by rw[apa];exact h1.1)
   exact wpAny_getItem_list_neg ho.isList h0 e1 hf.1 (by refine aa e ?_;simpa using hu) (hQ s.toks u (abm _) rv)
  ·have e:i.toNat=j:=by
    delta seqIndex? at hk;simp only[h0,if_false]at hk
    split at hk<;>simp at hk;assumption
   exact wpAny_getItem_list ho.isList ((λ{a b}=>afr.mp) h0) hf.2 (by refine aa e ?_;simpa using hu) (hQ s.toks u (abm _) rv)
theorem dN{i:Int}(hv:cN xs i=some v)(hl:xs.length<=16777216):Itm W hp (.tup xs) (.int i) v:=by refine .mk ?_;intro A g s y z Q E I ra ri hQ;obtain⟨t,rfl⟩:=aA ri;(refine bT (eY ra) λa vs an _ dn rs=> ?_;obtain rfl:=an;obtain⟨n,ho⟩:=dn);have ar:=rs.length;delta cN at hv;induction hk:seqIndex? i xs.length using abt with
|none=>rw[hk]at hv;injection hv
|some j=>rw[hk]at hv;obtain⟨u,hu,rv⟩:=rs.get (show xs[j]? =some v from hv);have hf:=fits63 hk hl;refine⟨"tuple",_,ak2.lookup,⟨_,ho,rfl⟩,?_⟩;exact P.getItem_tuple ho hf.1 hf.2 (by simpa[ar]using hk) (by simpa using hu) (hQ s.toks u (abm _) rv)
theorem oA{i:Int}(h1:-(x.length:Int)<=i)(h2:i<x.length)(hl:x.length<=16777216):Itm W hp (.str x) (.int i) (.str (ad2 x i)):=by refine .mk ?_;intro A g s y z Q E I ra ri hQ;obtain⟨t,rfl⟩:=aG ra;obtain⟨u,rfl⟩:=aA ri;exact SB.item (fitsSsize_of (N:=9223372036854775808) (aer (aer (by decide:(-9223372036854775808:Int)< -16777216) (anw (ac9.mpr hl))) h1) (aer h2 (acr (ac9.mpr hl) (by decide))) (am9 _)) (charAt_isSome h1 h2) (hQ _ _ (acg _) bx)
inductive Ur(W:Wd)(fc:FC)(env:aj):List Ob->Option Expr->Option Int->List Ob->Prop
|none {hp:List Ob}:Ur W fc env hp none none hp
|some {hq qB:List Ob} {e:Expr} {i:Int}:Ev W fc env hq e (.int i) qB->Ur W fc env hq (some e) (some i) qB
theorem Ur.run(p:Ur W fc env hp e i hp')(P:Pre W fc cx g env hp s.heap)(t0:0<s.toks)
  (hQ:∀ g' s' t,Run W fc cx g s env hp' g' s'->Q (partValue (i.map λj=>(j,t))) s'):wpAny (model W.prog W.w) cx.A (evalPart e cx.menv) Q E s:=by
 cases p with
|none=>exact evalPart_none_step (hQ g s 0 (.refl P))
|some h1=>exact evalPart_some_step (h1.go cx g s _ E P t0 λYx s₁ y r rv=>by obtain⟨t,rfl⟩:=aA rv;exact hQ Yx s₁ t r)
structure Qk(W:Wd)(hp:List Ob)(a:V)(lo hi:Option Int)(v:V):Prop where
 go:∀(cx:Cx)(g:Gh)(s:Shared)(x:Value)(sl:Addr)(t u:Tok)(Q:Value->Shared->Prop)(E:Value->Shared->Prop),Inv W g hp s.heap->RV W g s.heap a x->
  s.heap.IsSliceOf sl (partValue (lo.map λj=>(j,t))) (partValue (hi.map λj=>(j,u))) .none->
  (∀ g' s' z,aH W cx g s hp g' s'->RV W g' s'.heap v z->Q z s')->ItemOn (model W.prog W.w) cx.A E x (.ref sl) Q s
theorem Mh{value:Expr}{l u:Option Expr}{p pos:Pos}{a v:V}{lo hi:Option Int}(h1:Ev W fc env hp value a hp₁)(h2:Ur W fc env hp₁ l lo YC)(h3:Ur W fc env YC u hi YQ)(h4:Qk W YQ a lo hi v) :
  Ev W fc env hp (.Subscript value (.Slice l u none p) pos) v YQ:=by
 refine .mk ?_;intro cx g s Q E P t0 hQ;refine Subscript_ (h1.go cx g s _ E P t0 λYx s₁ x Yw YL=>wpAny_Slice (h2.run Yw.pre (Yw.t t0) λYy Yv t Yz=>h3.run Yz.pre (Yz.t (Yw.t t0)) λYM s₃ t' YH=> ?_));rw[evalPart_none];refine wpAny_pure ?_;have hk:∀ b o,s₃.heap.get? b=some o->(s₃.heap.push { cls:= .type "slice",data:= .fields #[partValue (lo.map λj=>(j,t)),partValue (hi.map λj=>(j,t')),.none] }).get? b=some o:=λb o e=>abr _ e;have r:aH W cx YM s₃ YQ YM { s₃ with heap:=s₃.heap.push { cls:= .type "slice",data:= .fields #[partValue (lo.map λj=>(j,t)),partValue (hi.map λj=>(j,t')),.none] },toks:=s₃.toks }:=aH.ext (hn:=abm _) YH.pre.inv hk;have r':=r.run YH.pre;refine Bo (h4.go cx YM _ x _ t t' Q E r.inv (((YL.keep (Yz.keep Yw.pre)).keep (YH.keep Yz.pre)).keep (r'.keep YH.pre)) (al2 ..) λZk Zg z ZL rz=>hQ Zk Zg z ((((Yw.trans Yz).trans YH).trans r').trans (ZL.run r'.pre)) rz) rfl
noncomputable def pick{α:Type}(xs:List α)(lo hi:Option Int):List α:=
 (xs.drop (lo.elim 0 (clipAt xs.length))).take (hi.elim xs.length (clipAt xs.length) - lo.elim 0 (clipAt xs.length))
theorem Nh:IsPart (partValue (i.map λj=>(j,t))) i:=by induction i using abt with
|none=>exact .none
|some j=>exact .int j t
theorem jX{x:V}{xs:List V}{lo hi:Option Int}(l:Lst hp x xs)(hl:xs.length<=16777216):Qk W hp x lo hi (.lst (pick xs lo hi)):=by
 refine .mk ?_;intro cx g s y sl t u Q E I ra em hQ;(refine au (l.at I ra) λa vs an ho rs=> ?_;obtain rfl:=an);have ar:=rs.length;refine⟨"list",_,alj.lookup,ho.isList.typeIs,wpAny_getItem_list_slice ho.isList em Nh Nh .none (afv (Option.some_ne_none 0)) ?_ (by(refine aa aci ?_;refine aa ar ?_;refine aa sizeLine_eq ?_);exact hl)⟩;have e:slicePick vs.toArray lo hi none=(pick vs lo hi).toArray:=by rw[slicePick_plain];rfl
 refine aa e ?_;have hn:=ab4 s.heap (o:={ cls:= .type "list",data:= .seq (pick vs lo hi).toArray }) rfl;refine bw (aH.freeze (hn:=abm _) (cx:=cx) (n:=s.toks) I aK hn (λb o e=>abr _ e)) λr K=> ?_;refine hQ _ _ _ r ?_;refine⟨_,_,rfl,.inr rfl,⟨0,hn⟩,aQ.keep K ?_⟩;delta pick;exact aa ar (aQ.take (aQ.drop rs))
theorem o5{x:Str}{lo hi:Option Int}(hl:x.length<=16777216):Qk W hp (.str x) lo hi (.str (adf x lo hi)):=by
 refine .mk ?_;intro cx g s y sl t u Q E I ra em hQ;obtain⟨tk,rfl⟩:=aG ra;obtain⟨o,ho,hc,hd⟩:=em;refine⟨"str",_,F.slot_str_getitem.lookup,typeIs_str _ _ _,wpAny_getItem_str_slice (l:=lo.map λj=>(j,t)) (u:=hi.map λj=>(j,u)) (st:=none) ⟨o,ho,hc,hd⟩ rfl ?_⟩;have key:sliceMade x tk (lo.map λj=>(j,t)) (hi.map λj=>(j,u)) none=if((1:Int)==1&&(anr lo hi 1 x.length).length==x.length)=true then .val (.str x tk)else .str (adf x lo hi):=by
  delta sliceMade slicePicked adf;simp only[Option.map_none,amy,Option.map_map];have e1:(lo.map ((λp:Int×Tok=>p.1)∘λj=>(j,t)))=lo:=by induction lo using abt<;>rfl
  have e2:(hi.map ((λp:Int×Tok=>p.1)∘λj=>(j,u)))=hi:=by induction hi using abt<;>rfl
  (refine aa e1 ?_;refine aa e2 ?_)
  split<;>rfl
 refine aa key ?_
 split
 ·rename_i hc;have e:adf x lo hi=x:=by delta adf;(exact aa (if_pos hc) rfl)
  refine hQ g _ _ (.refl I) ?_;exact aa e bx
 ·exact⟨by have:=akb x lo hi;exact aa sizeLine_eq (abj this hl),hQ g _ _ (.toks I (acg _)) bx⟩
theorem yF(b n:Nat)(hb:b<=n):ahb none (some (b:Int)) 1 (n:Int)=(0,(b:Int)):=by
 delta ahb;have h1:¬((1:Int)<0):=by nofun
 have h2:¬((b:Int)<0):=ajs b;simp only[h1,h2,if_false];congr 1;exact ane (ac9.mpr hb)
theorem Aw(b:Nat):afx 0 (b:Int) 1=b:=by
 delta afx;have h1:(1:Int)>0:=Int.one_pos;simp only[h1,if_true,Int.ediv_one]
 split<;>lia
theorem o6{prog:Program}{w:World}{A:Around}{E:Value->Shared->Prop}{s:Shared}{sl:Addr}{b n:Nat}{u:Tok}{Q:Int×Int×Nat->Shared->Prop}(hs:s.heap.IsSliceOf sl .none (.int b u) .none)(hb:b<=n)(h:Q (0,1,b) s) :
  wpAny (model prog w) A (ai8 (.ref sl) (pure (n:Int))) Q E s:=by
 obtain⟨os,hU,sf,kN⟩:=id hs;delta ai8 aoa;refine wpAny_bind (wpAny_bind (wpAny_field hU kN (x:= .none) rfl (wpAny_bind (wpAny_field hU kN (x:= .int b u) rfl (wpAny_bind (wpAny_field hU kN (x:= .none) rfl (wpAny_pure ?_)))))));refine wpAny_bind (slicePart_none ?_);refine(?_:wpAny _ _ (if((1:Int)==0)=true then _ else _) _ _ s);refine aa (if_neg (by decide)) ?_;refine wpAny_bind (slicePart_none (wpAny_bind (slicePart_int (wpAny_bind (wpAny_pure ?_)))));refine(?_:wpAny _ _ (match ahb none (some (b:Int)) 1 (n:Int)with|(lo,hi)=>pure (lo,(1:Int),afx lo hi 1)) _ _ s);refine aa (yF b n hb) ?_;refine(?_:wpAny _ _ (pure ((0:Int),(1:Int),afx 0 (b:Int) 1)) _ _ s);exact aa (Aw b) (wpAny_pure h)
theorem Jv(xs:Array Value)(b:Nat)(hb:b<=xs.size):((ai9 b).filterMap λ(k:Nat)=>xs[((0:Int)+(k:Int) * 1).toNat]?).toArray=(xs.toList.take b).toArray:=by
 have e:(λ(k:Nat)=>xs[((0:Int)+(k:Int) * 1).toNat]?)=λk=>xs[0+k]? :=by
  funext k
  have:((0:Int)+(k:Int) * 1).toNat=0+k:=ah0 _ _;(exact aa this rfl)
 refine aa e ?_;have:=pick_run xs 0 b;rw[List.filterMap_map]at this;have e2:((λx=>xs[x]?)∘λx=>0+x)=λk=>xs[0+k]? :=rfl;rw[e2]at this;exact aa this rfl
theorem yd{xs:List V}{b:Nat}(hb:b<xs.length)(hl:xs.length<=16777216):Qk W hp (.tup xs) none (some (b:Int)) (.tup (xs.take b)):=by
 refine .mk ?_;intro cx g s y sl t u Q E I ra em hQ;(refine bT (eY ra) λa vs an _ ho rs=> ?_;obtain rfl:=an);have ar:=rs.length;have ht:IsTup s.heap a vs.toArray:=let⟨n,e⟩:=ho;⟨_,e,rfl,n,rfl⟩;have kM:b<vs.toArray.size:=by(refine aa aci ?_;refine aa ar ?_);exact hb
 refine⟨"tuple",_,ak2.lookup,ht.typeIs,?_⟩;have qV:s.heap.IsSliceOf sl .none (.int b u) .none:=em;obtain⟨os,hU,sf,kN⟩:=id qV;have sa:s.TypeIs (.ref sl) "slice" :=⟨os,hU,sf⟩;have gu:sizeOk (.seq (vs.toArray.toList.take b).toArray):=by refine(?_:(vs.toArray.toList.take b).toArray.size<=sizeLine);(refine aa aci ?_;refine aa aeh ?_;refine aa sizeLine_eq ?_);simp only[aiw];exact abj (agi _ _) (abj (ab2 ar) hl)
 have hn:=ab4 s.heap (o:={ cls:= .type "tuple",data:= .seq (vs.toArray.toList.take b).toArray }) rfl;have fin:Q (.ref s.heap.objs.size) { s with heap:=s.heap.push { cls:= .type "tuple",data:= .seq (vs.toArray.toList.take b).toArray } }:=by refine bw (aH.freeze (hn:=abm _) (cx:=cx) (n:=s.toks) I aK hn (λb o e=>abr _ e)) λr K=> ?_;refine hQ _ _ _ r ?_;exact⟨_,vs.take b,rfl,.inr rfl,⟨0,by simpa using hn⟩,aQ.keep K (aQ.take rs)⟩
 delta getItem
 try with_reducible refine wpAny_holding ?_
 first|refine wpAny_bind (wpAny_pure ?_)|skip
 refine wpAny_bind (wpAny_sequenceKey ht.typeIs (by decide) ?_);refine wpAny_bind (wpAny_callSpecial?_slot (name:=Mi "__getitem__") ht.typeIs slot_tuple_getitem
  (wpAny_call_entry slot_tuple_getitem ht.typeIs entry_tuple_getitem ?_ (args_tuple_getitem _ _)))
 refine(?_:wpAny _ _ (anx (.ref a) >>= _) _ _ s);refine wpAny_bind (tupleItemsOf_ ht ?_);refine wpAny_bind (wpAny_typeOf sa ?_);refine aa (if_pos (by decide)) ?_;refine wpAny_bind (o6 qV (ac1 kM) ?_);have v2:¬(((0:Int)==0&&(1:Int)==1&&b==vs.toArray.size)=true):=by
  have:(b==vs.toArray.size)=false:=by rw[beq_eq_false_iff_ne];exact aeb kM
  exact aa this (ne_true_of_eq_false rfl)
 refine(?_:wpAny _ _ (if((0:Int)==0&&(1:Int)==1&&b==vs.toArray.size)=true then _ else _) _ _ s);(refine aa (if_neg v2) ?_;refine aa (Jv vs.toArray b (ac1 kM)) ?_)
 first
 |exact wpAny_bind (m:=agf _) (wpAny_newObj_type (wpAny_pure ⟨_,rfl,wpAny_pure fin⟩) gu)
 |exact wpAny_bind (m:=agf _) (wpAny_newObj_type (wpAny_bind (wpAny_pure (wpAny_pure ⟨_,rfl,wpAny_pure fin⟩))) gu)
 |exact wpAny_bind (wpAny_bind (m:=agf _) (wpAny_newObj_type (wpAny_pure (wpAny_pure ⟨_,rfl,wpAny_pure fin⟩)) gu))
 |exact wpAny_bind (wpAny_bind (m:=agf _) (wpAny_newObj_type (wpAny_pure ⟨_,rfl,wpAny_pure fin⟩) gu))
noncomputable def valOf{K:Type}[DecidableEq K]:List K->List V->K->Option V
|k::ks,v::vs,x=>if k=x then some v else valOf ks vs x
|_,_,_=>none
theorem yq{K:Type}[DecidableEq K]{ks:List K}{k x:K}{v:V}{vs:List V}(h:k=x):valOf (k::ks) (v::vs) x=some v:=if_pos h
theorem yp{K:Type}[DecidableEq K]{ks:List K}{k x:K}{v:V}{vs:List V}(h:¬k=x):valOf (k::ks) (v::vs) x=valOf ks vs x:=if_neg h
theorem BJ{K:Type}[DecidableEq K]:∀{ks:List K}{vs:List V}{ys:List Value}{k:K}{v:V},aQ W g h vs ys->valOf ks vs k=some v-> ∃ y,valueAt (ks.zip ys) k=some y/\RV W g h v y:=by intro ah;induction ah with
|nil=>intro _ _ _ _ _ e;exact(Qg e).elim
|cons k ks ih=>intro bi;induction bi using abn with
 |nil=>intro _ _ _ _ e;exact(Qg e).elim|cons x xs=>
   intro ys k' v r e;(refine au r λy t an h1 h2=> ?_;obtain rfl:=an)
   by_cases hb:k=k'
   ·cases(yq hb).symm.trans e;exact⟨y,by simp[valueAt,hb],h1⟩
   ·refine ak (ih h2 ((yp hb).symm.trans e)) λz e1 e2=> ?_;refine⟨z,?_,e2⟩;unfold valueAt at e1 ⊢;(refine aa ahp ?_;refine aa (ais) ?_);simp only[hb,decide_false];exact e1
theorem uM{K:Type}[DecidableEq K]:∀{ks:List K}{ys:List Value}{k:K},ks.length=ys.length->(valueAt (ks.zip ys) k).isSome=decide (k∈ks):=by intro ah;induction ah with
|nil=>intro _ _ _;rfl
|cons k ks ih=>intro bi;induction bi using abn with
 |nil=>intro _ e;simp at e|cons y ys=>
   intro k' e;have ih:=ih (ys:=ys) (k:=k') (by simpa using e);unfold valueAt at ih ⊢;(refine aa ahp ?_;refine aa (ais) ?_)
   by_cases hb:k=k'
   ·simp[hb]
   ·simp only[hb,decide_false];refine aa ih ?_;simp[afv hb]
inductive nP(hp:List Ob):V->List Int->List V->Prop
|dI {ks vs}:nP hp (.dI ks vs) ks vs
|ref {i ks vs}:hp[i]? =some (.dI ks vs)->nP hp (.ref i) ks vs
theorem G9(h:g.F a\/a∈g.ρ)(I:Inv W g hp h'):(a==sysModules)=false:=by
 rw[beq_eq_false_iff_ne];rintro rfl;rcases h with q|q
 ·exact I.sys.2 q
 ·obtain⟨o,e⟩:=I.sys.1;rw[I.ρB _ q]at e;injection e
theorem nP.at(l:nP hp x ks xs)(I:Inv W g hp h)(r:RV W g h x y):∃ a vs,y= .ref a/\(a==sysModules)=false/\ks.length=xs.length/\h.DictOf (intKind W.prog W.w) a (ks.zip vs)/\aQ W g h xs vs:=by cases l with
|dI=>refine mX r λa vs e hF h1 h2 h3=> ?_;exact⟨a,vs,e,G9 (.inl hF) I,h1,h2,h3⟩
|ref hi=>(refine ak (iB r) λa ea an=> ?_;obtain rfl:=an);obtain⟨vs,h0,h1,h2⟩:=I.obs _ _ a hi ea;exact⟨a,vs,rfl,G9 (.inr (acq ea)) I,h0,h1,h2⟩
theorem Vt{k:Int}(l:nP hp x ks xs)(hv:valOf ks xs k=some v):Itm W hp x (.int k) v:=by refine .mk ?_;intro A g s y z Q E I ra ri hQ;obtain⟨t,rfl⟩:=aA ri;(refine mX (l.at I ra) λa vs an _ _ hd rs=> ?_;obtain rfl:=an);refine ak (BJ rs hv) λu hu rv=> ?_;exact⟨"dict",_,F.slot_dict_getitem.lookup,hd.typeIs,wpAny_getItem_of (knd:=intKind W.prog W.w) (k:=k) (intKind_is _ _ _ _) hd.mapOf hu (hQ _ u (acg _) rv)⟩
theorem Ii{k:Int}(l:nP hp x ks xs):j9 W hp .In (.int k) x (decide (k∈ks)):=by refine .mk ?_;intro A g s y z Q E hu I ra rb hQ;obtain⟨t,rfl⟩:=aA ra;(refine mX (l.at I rb) λa vs an hs hl hd rs=> ?_;obtain rfl:=an);refine wpAny_in_of (knd:=intKind W.prog W.w) (k:=k) (intKind_is _ _ _ _) hs hd.mapOf ?_;rw[uM (by(refine aa hl ?_;exact aa rs.length rfl))];exact hQ _ (acg _)
end
section
open Builtin Builtin.Str
noncomputable def sL(l:List Str):List V:=l.map V.str
noncomputable def iL(l:List Int):List V:=l.map V.int
class inductive Strs:List V->List Str->Prop
|nil:Strs [] []
|cons {x xs ys}:Strs xs ys->Strs (.str x::xs) (x::ys)
theorem Strs.map:∀(l:List Str),Strs (sL l) l:=by intro ah;induction ah with
|nil=>exact .nil
|cons x l ih=>exact .cons (ih)
class inductive pD:List V->List Int->Prop
|nil:pD [] []
|cons {x xs ys}:pD xs ys->pD (.int x::xs) (x::ys)
theorem pD.map:∀(l:List Int),pD (iL l) l:=by intro ah;induction ah with
|nil=>exact .nil
|cons x l ih=>exact .cons (ih)
theorem Strs.values(t:Strs xs l):∀{ys:List Value},aQ W g h xs ys-> ∃ p:List (Str×Tok),ys=strValues p/\p.map (·.1)=l:=by induction t with
|nil=>intro ys r;exact⟨[],by assumption,rfl⟩
|cons _ ih=>intro ys r;(refine au r λy t an h1 h2=> ?_;obtain rfl:=an);obtain⟨u,rfl⟩:=h1;(refine ak (ih h2) λp dy e=> ?_;obtain rfl:=dy);exact⟨(_,u)::p,rfl,by simp[e]⟩
theorem Ep:∀(p:List (Str×Tok)),aQ W g h (sL (p.map (·.1))) (strValues p):=by intro ah;induction ah with
|nil=>exact rfl
|cons bi p ih=>
  obtain⟨x,t⟩:=bi
  skip
  exact⟨_,_,rfl,⟨t,rfl⟩,ih⟩
theorem Cr(hf:tooLong (ada x).length=false):Call W k q (.builtin "str.lower") [] [.str x] hp (.str (ada x)) hp:=
 .of1 λcx g s y Q E bl I r hQ=>by obtain⟨t,rfl⟩:=aG r;exact SC.lower hf (hQ g _ _ (.toks I (acg _)) bx)
theorem Cv(hf:tooLong (aed x).length=false):Call W k q (.builtin "str.upper") [] [.str x] hp (.str (aed x)) hp:=
 .of1 λcx g s y Q E bl I r hQ=>by obtain⟨t,rfl⟩:=aG r;exact SC.upper hf (hQ g _ _ (.toks I (acg _)) bx)
theorem qT:Call W k q (.builtin "str.startswith") [] [.str x,.str y] hp (.bool (agz x y)) hp:=
 .of2 λcx g s a b Q E bl I r1 r2 hQ=>by obtain⟨t,rfl⟩:=aG r1;obtain⟨u,rfl⟩:=aG r2;exact SC.startswith (hQ g _ _ (.refl I) mK)
theorem uW:Call W k q (.builtin "str.endswith") [] [.str x,.str y] hp (.bool (ah1 x y)) hp:=
 .of2 λcx g s a b Q E bl I r1 r2 hQ=>by obtain⟨t,rfl⟩:=aG r1;obtain⟨u,rfl⟩:=aG r2;exact SC.endswith (hQ g _ _ (.refl I) mK)
theorem H4:Call W k q (.builtin "str.find") [] [.str x,.str y] hp (.int (ad3 x y)) hp:=
 .of2 λcx g s a b Q E bl I r1 r2 hQ=>by obtain⟨t,rfl⟩:=aG r1;obtain⟨u,rfl⟩:=aG r2;exact SC.find (hQ g _ _ (.toks I (acg _)) cA)
theorem Cp{i:Int}:Call W k q (.builtin "str.find") [] [.str x,.str y,.int i] hp (.int (afa x y i)) hp:=
 .of3 λcx g s a b c Q E bl I r1 r2 r3 hQ=>by obtain⟨t,rfl⟩:=aG r1;obtain⟨u,rfl⟩:=aG r2;obtain⟨v,rfl⟩:=aA r3;exact SC.find3 (hQ g _ _ (.toks I (acg _)) cA)
theorem jE{p:List (Str×Tok)}{Q:Value->Shared->Prop}(I:Inv W g hp s.heap)(hp':p.map (·.1)=l)(hn:s.toks<=n)
  (hQ:∀ g' s' z,aH W cx g s hp g' s'->RV W g' s'.heap (.lst (sL l)) z->Q z s') :
  Q (.ref s.heap.objs.size) { s with heap:=s.heap.push { cls:= .type "list",data:= .seq (strValues p).toArray },toks:=n }:=by
 have ho:=ab4 s.heap (o:={ cls:= .type "list",data:= .seq (strValues p).toArray }) rfl;obtain⟨r,K⟩:=aH.freeze (cx:=cx) (n:=n) I aK ho (λb o e=>abr _ e) hn;refine hQ _ _ _ r ?_;subst hp';exact⟨_,_,rfl,.inr rfl,⟨0,ho⟩,Ep p⟩
theorem Cu(hy:(y.length==0)=false)(hl:x.length+2<=16777216):Call W k q (.builtin "str.split") [] [.str x,.str y] hp (.lst (sL (adx x y))) hp:=
 .of2 λcx g s a b Q E bl I r1 r2 hQ=>by
  obtain⟨t,rfl⟩:=aG r1;obtain⟨u,rfl⟩:=aG r2;have et:x.length<=sizeLine:=by exact aa sizeLine_eq (afi hl)
  have mT:(partsBetween x (occurrences x y 0 x.length (x.length+1)) y.length).length<=sizeLine:=by have e1:=ajl x y 0 x.length (x.length+1);(rewrite[length_partsBetween];refine aa sizeLine_eq ?_);exact acj e1 hl
  induction h1:(decide (x.length<y.length)||decide (ade x<ade y))using aco
  ·induction hf:(occurrences x y 0 x.length (x.length+1)).isEmpty using aco
   ·refine call_meets aex (typeIs_str _ _ _) af7 (aja _ _) (meets_str_split_sep x y t u h1 hy hf et mT) ?_;refine(?_:wants Q E _ { s with toks:=_,heap:=s.heap.push { cls:= .type "list",data:= .seq (strsFrom s.toks (partsBetween x (occurrences x y 0 x.length (x.length+1)) y.length)).toArray } });rw[strsFrom_eq];exact jE (cx:=cx) I ((numbered_texts _ _).trans ((if_neg (ne_true_of_eq_false h1)).trans (if_neg (ne_true_of_eq_false hf))).symm) (ab0 _ _) hQ
   ·exact call_meets aex (typeIs_str _ _ _) af7 (aja _ _) (meets_str_split_not_found x y t u h1 hy hf)
     (jE (cx:=cx) (p:=[(x,t)]) I ((if_neg (ne_true_of_eq_false h1)).trans (if_pos hf)).symm (abm _) hQ)
  ·exact call_meets aex (typeIs_str _ _ _) af7 (aja _ _) (meets_str_split_cannot_occur x y t u h1)
    (jE (cx:=cx) (p:=[(x,t)]) I (if_pos h1).symm (abm _) hQ)
theorem yX{n:Int}(hy:(y.length==0)=false)(hk:(decide (n< -(2 ^ 63:Int))||decide (n>=2 ^ 63))=false)(hl:x.length+2<=16777216) :
  Call W k q (.builtin "str.split") [] [.str x,.str y,.int n] hp (.lst (sL (ah2 x y n))) hp:=
 .of3 λcx g s a b c Q E bl I r1 r2 r3 hQ=>by
  obtain⟨t,rfl⟩:=aG r1;obtain⟨u,rfl⟩:=aG r2;obtain⟨v,rfl⟩:=aA r3;have et:x.length<=sizeLine:=by exact aa sizeLine_eq (afi hl)
  have mT:(partsBetween x (occurrences x y 0 x.length (limitOf x n)) y.length).length<=sizeLine:=by have e1:=ajl x y 0 x.length (limitOf x n);(rewrite[length_partsBetween];refine aa sizeLine_eq ?_);exact acj e1 hl
  induction h1:(decide (x.length<y.length)||decide (ade x<ade y))using aco
  ·induction hf:(occurrences x y 0 x.length (limitOf x n)).isEmpty using aco
   ·refine call_meets aex (typeIs_str _ _ _) af7 (ajb _ _ _) (meets_str_split_sep_max x y n t u v hk h1 hy hf et mT) ?_;refine(?_:wants Q E _ { s with toks:=_,heap:=s.heap.push { cls:= .type "list",data:= .seq (strsFrom s.toks (partsBetween x (occurrences x y 0 x.length (limitOf x n)) y.length)).toArray } });rw[strsFrom_eq];exact jE (cx:=cx) I ((numbered_texts _ _).trans ((if_neg (ne_true_of_eq_false h1)).trans (if_neg (ne_true_of_eq_false hf))).symm) (ab0 _ _) hQ
   ·exact call_meets aex (typeIs_str _ _ _) af7 (ajb _ _ _) (meets_str_split_max_not_found x y n t u v hk h1 hy hf)
     (jE (cx:=cx) (p:=[(x,t)]) I ((if_neg (ne_true_of_eq_false h1)).trans (if_pos hf)).symm (abm _) hQ)
  ·exact call_meets aex (typeIs_str _ _ _) af7 (ajb _ _ _) (meets_str_split_max_cannot_occur x y n t u v hk h1)
    (jE (cx:=cx) (p:=[(x,t)]) I (if_pos h1).symm (abm _) hQ)
theorem H8(la:Lst hp a xs)(st:Strs xs l)(aT:JoinOk x l=true):Call W k q (.builtin "str.join") [] [.str x,a] hp (.str (ak3 x l)) hp:=
 .of2 λcx g s y z Q E bl I r1 r2 hQ=>by obtain⟨t,rfl⟩:=aG r1;(refine au (la.at I r2) λD vs an ho rs=> ?_;obtain rfl:=an);(refine ak (st.values rs) λp dy an=> ?_;obtain rfl:=dy;obtain rfl:=an);unfold JoinOk at aT;rw[ac7]at aT;refine call_meets ajt (typeIs_str _ _ _) amz (amg _ _) (meets_str_join_list x t D p aT) ⟨ho.isList,?_⟩;have ar:=joinFit_length aT;induction p using abn with
 |nil=>exact⟨ar,hQ g _ _ (.toks I (acg _)) bx⟩|cons p r=>induction r using abn with
  |nil=>exact hQ g _ _ (.refl I) bx|cons _ _=>exact⟨ar,hQ g _ _ (.toks I (acg _)) bx⟩
theorem Oa{z:Str}(hb:x.length+(x.length+1) * z.length<=16777216):tooLong (x.length+(occurrences x y 0 x.length (x.length+1)).length * z.length)=false:=by
 have e:(2:Nat) ^ 24=16777216:=by decide
 have h1:=StrLaws.occ_length_le x y 0 x.length (x.length+1);have h2:(occurrences x y 0 x.length (x.length+1)).length * z.length<=(x.length+1) * z.length:=ag0 _ h1;unfold tooLong sizeLine;exact decide_eq_false (aem.mpr (abj (acs h2 _) hb))
theorem Eu:∀(g:Gh)(hp:List Ob)(s:Shared)(y:Value),Inv W g hp s.heap->RV W g s.heap (.str x) y->s.TypeIs y "str" /\ ∀ a,y= .ref a-> ∃ ob,s.heap.get? a=some ob/\ob.dict=none:=
 λg hp s y I r=>by obtain⟨t,rfl⟩:=aG r;exact⟨typeIs_str _ _ _,λa e=>nomatch e⟩
theorem Dp(EA:(y==z)=false)(da:∀ m,attributeBase o "replace" m (eval o m)=eval o m)(b9:(cb.endLine==pos.line)=true)(ho:Ev W fc env hp o (.str x) hp₁)(hb:x.length+(x.length+1) * z.length<=16777216) :
  Ev W fc env hp (.Call (.Attribute o "replace" cb) [.Constant (.str y) k1 p1,.Constant (.str z) k2 p2] [] pos) (.str (ad4 x y z)) hp₁:=by
 refine .mk ?_;intro cx g s Q E P t0 hQ;refine wpAny_Call_method (T:= "str") (id:= "str.replace") (da _) rfl b9 alk al3 F.type_str_replace (ho.go cx g s _ E P t0 λYx s₁ v Yw YL=> ?_);have h1:=Yw.t t0;refine⟨(Eu Yx _ s₁ v Yw.pre.inv YL).1,(Eu Yx _ s₁ v Yw.pre.inv YL).2,?_⟩;obtain⟨t,rfl⟩:=aG YL;refine callWith_of (P:=λh=> ∀ b o,W.B.get? b=some o->h.get? b=some o) (by rfl) (λh hh=>ik _ h hh) (bk (by rfl) ?_);refine(?_:wpAny _ _ (spliced [(false,eval (.Constant (.str y) k1 p1) cx.menv),(false,eval (.Constant (.str z) k2 p2) cx.menv)]) _ _ s₁);refine spliced_cons (Constant_str (spliced_cons (Constant_str (spliced_nil ⟨Yw.pre.inv.base,?_⟩))));refine call_gives al3 (typeIs_str _ _ _) F.entry_str_replace (F.args_str_replace_3 _ _ _)
  (gives_str_replace x y z t s₁.toks (s₁.toks+1) λ_=>⟨?_,?_,EA,Oa hb⟩) ?_
 ·have:¬s₁.toks=0:=amh h1;simp[this]
 ·simp
 ·have key:ad4 x y z=if((occurrences x y 0 x.length (x.length+1)).isEmpty||(y.length==0&&z.length==0))=true then x else glued z (partsBetween x (occurrences x y 0 x.length (x.length+1)) y.length):=rfl
  by_cases hc:((occurrences x y 0 x.length (x.length+1)).isEmpty||(y.length==0&&z.length==0))=true
  ·rw[if_pos hc]at key ⊢;rw[key]at hQ;exact hQ Yx _ _ (Yw.trans (.toks Yw.pre (ab0 _ 2))) bx
  ·rw[if_neg hc]at key ⊢;rw[key]at hQ;exact⟨fits_replaced y hb,hQ Yx _ _ (Yw.trans (.toks Yw.pre (ab0 _ 3))) bx⟩
end
section
variable{h:Heap}
structure cF(wr:List Addr)(g:Gh)(s:Shared)(g':Gh)(s':Shared):Prop where
 F:∀ a,g.F a->g'.F a
 Fnew:∀ a,g'.F a->g.F a\/(s.heap.get? a=none/\ ∃ o,s'.heap.get? a=some o)
 ρ:g'.ρ=g.ρ
 keep:∀ b o,b∉wr->s.heap.get? b=some o->s'.heap.get? b=some o
 same:j_ s s'
structure Loose(W:Wd)(wr:List Addr)(g:Gh)(YS h:Heap):Prop where
 F:∀ b,b∈wr-> ¬g.F b
 ρ:∀ b,b∈wr->b∉g.ρ
 new:∀ b,b∈wr->YS.get? b=none
 now:∀ b,b∈wr-> ∃ o,h.get? b=some o
 kind:∀ b o,b∈wr->h.get? b=some o->(∀ v,o.data≠ .cell v)
theorem cF.extBut(hi:it∈wr)(hs:ahv it s.heap h')(hn:s.toks<=n) :
  cF wr g s g { s with heap:=h',toks:=n }:=
 ⟨λ_ x=>x,λ_ x=> .inl x,rfl,λb o hb e=>hs b o (λq=>hb (q▸hi)) e,⟨rfl,id,hn⟩⟩
theorem cF.keeps(x:cF wr g s g' s')(l:Loose W wr g YS s.heap):bU g s.heap g' s'.heap:=
 ⟨x.F,λa o ha e=>x.keep a o (λhb=>l.F a hb ha) e,by exact aa x.ρ ac2⟩
theorem cF.inv(x:cF wr g s g' s')(l:Loose W wr g YS s.heap)(I:Inv W g hp s.heap)(hB:∀ b o,W.B.get? b=some o->YS.get? b=some o):Inv W g' hp s'.heap:=by
 have K:=x.keeps l;refine⟨λb o e=>x.keep b o (λhb=> ?_) (I.base b o e),by exact aa x.ρ I.len,λi o a e1 e2=> ?_,λa ha=>I.ρB a (x.ρ▸ha),λa ha hF=> ?_,by exact aa x.ρ I.nd,λa ha=> ?_,I.sys.1,λhF=> ?_⟩
 ·have:=l.new b hb;rw[hB b o e]at this;injection this
 ·rw[x.ρ]at e2;have r:=I.obs i o a e1 e2;obtain⟨O,eO⟩:=r.some;exact r.keep K ((x.keep a O (λhb=>l.ρ a hb (acq e2)) eO).trans eO.symm)
 ·rw[x.ρ]at ha;rcases x.Fnew a hF with q|⟨q,_⟩
  ·exact I.ρF a ha q
  ·obtain⟨i,hi,rfl⟩:=ac5 ha;have eA:i<hp.length:=by exact aa (ach I.len) hi
   obtain⟨O,eO⟩:=(I.obs i hp[i] _ (abu eA) (abu hi)).some;rw[q]at eO;injection eO
 ·rcases x.Fnew a ha with q|⟨_,q⟩
  ·obtain⟨o,e⟩:=I.fz a q;exact⟨o,x.keep a o (λhb=>l.F a hb q) e⟩
  ·exact q
 ·rcases x.Fnew _ hF with q|⟨q,_⟩
  ·exact I.sys.2 q
  ·obtain⟨o,e⟩:=I.sys.1;rw[I.base _ o e]at q;injection q
theorem cF.fm(x:cF wr g s g' s')(l:Loose W wr g YS s.heap)(f:Fm W fc cx g env s.heap)(h0:∀ a,a∈cx.own-> ∃ o,YS.get? a=some o)
  (h1:∀ a,a∈cx.l.filterMap (·.frame)-> ∃ o,YS.get? a=some o):Fm W fc cx g' env s'.heap:=by
 have K:=x.keeps l;have nw:∀ a,a∈cx.own->a∉wr:=λa ha hb=>by obtain⟨o,e⟩:=h0 a ha;rw[l.new a hb]at e;injection e
 have nl:∀ a,a∈cx.l.filterMap (·.frame)->a∉wr:=λa ha hb=>by obtain⟨o,e⟩:=h1 a ha;rw[l.new a hb]at e;injection e
 have fresh:∀ a o,s.heap.get? a=some o-> ¬g.F a-> ¬g'.F a:=λa o e hn hF=>by
  rcases x.Fnew a hF with q|⟨q,_⟩
  ·exact hn q
  ·rw[e]at q;injection q
 refine{ kind:=f.kind,globals:=f.globals,builtins:=f.builtins,names:=f.names,nodup:=f.nodup,plain:=f.plain,ns:= ?_,cl:= ?_,loc:=f.loc,cell:= ?_,apart:=f.apart,ownF:= ?_,ownρ:= ?_,ownB:=f.ownB,ownD:= ?_,room:=f.room,hnd:=f.hnd,frames:=f.frames,fun_:= ?_,lF:= ?_,frame:=f.frame,head:=f.head,code:=f.code }
 ·(refine ak f.ns λm dy hm=> ?_;obtain⟨o,es,ep,ho,r⟩:=dy);exact⟨m,⟨o,es,ep,x.keep _ o (nw _ f.loc) ho,r⟩,λy v e1=>let⟨z,e3,e4⟩:=hm y v e1;⟨z,e3,e4.keep K⟩⟩
 ·intro y k v e1 e2;(refine au (f.cl y k v e1 e2) λc z e3 ez e4=> ?_;obtain⟨o,ho,hd⟩:=ez);exact⟨c,z,e3,⟨o,x.keep c o (λhb=>l.kind c o hb ho _ hd) ho,hd⟩,e4.keep K⟩
 ·intro y e1 e2;(refine au (f.cell y e1 e2) λc v e3 e4 dn=> ?_;obtain⟨o,ho,hd⟩:=dn);exact⟨c,v,e3,e4,⟨o,x.keep c o (nw c e4) ho,hd⟩⟩
 ·intro a ha;obtain⟨o,e⟩:=f.ownD a ha;exact fresh a o e (f.ownF a ha)
 ·intro a ha;exact aa x.ρ (f.ownρ a ha)
 ·intro a ha;obtain⟨o,e⟩:=f.ownD a ha;exact⟨o,x.keep a o (nw a ha) e⟩
 ·exact aV f.fun_ λa o ha e=>⟨o.slots,x.keep a o (nl a ha) e⟩
 ·intro a ha;obtain⟨_,o,e,_⟩:=f.fun_.mem ha;exact⟨fresh a o e (f.lF a ha).1,by exact aa x.ρ ((f.lF a ha).2)⟩
theorem cF.evo{s₀:Shared}(x:cF wr g s g' s')(l:Loose W wr g s₀.heap s.heap)(e0:jZ cx YW s₀.heap g s.heap):jZ cx YW s₀.heap g' s'.heap:=by
 refine⟨λa h=>x.F a (e0.F a h),λa h=> ?_,by exact aa x.ρ (e0.ρ),λa h=>e0.ρnew a (x.ρ▸h),λa o e=> ?_,λa o e h1 h2=> ?_⟩
 ·rcases x.Fnew a h with q|⟨q,_⟩
  ·exact e0.Fnew a q
  ·refine .inr ?_;induction e1:s₀.heap.get? a using abt with
  |none=>rfl|some o=>obtain⟨o',e2⟩:=e0.dom a o e1;rw[q]at e2;injection e2
 ·have hn:a∉wr:=λhb=>by rw[l.new a hb]at e;injection e
  obtain⟨o',e'⟩:=e0.dom a o e;exact⟨o',x.keep a o' hn e'⟩
 ·have hn:a∉wr:=λhb=>by rw[l.new a hb]at e;injection e
  rcases e0.keep a o e h1 h2 with q|⟨q,sl,r⟩
  ·exact .inl (x.keep a o hn q)
  ·exact .inr ⟨q,sl,x.keep a _ hn r⟩
theorem cG{wr:List Addr}(hf:∀ b,b∈wr-> ∃ o fs,h.get? b=some o/\o.data= .fields fs):∀ b o,b∈wr->h.get? b=some o->(∀ v,o.data≠ .cell v):=λb o hb e v hd=>by refine dY (hf b hb) λo' fs e' bE=> ?_;rw[e]at e';cases e';rw[hd]at bE;injection bE
theorem cF.loose(x:cF wr g s g' s')(l:Loose W wr g YS s.heap)(hk:∀ b,b∈wr-> ∃ o fs,s'.heap.get? b=some o/\o.data= .fields fs):Loose W wr g' YS s'.heap:=by
 refine⟨λb hb hF=> ?_,λb hb=> ?_,l.new,λb hb=> ?_,cG hk⟩
 ·rcases x.Fnew b hF with q|⟨q,_⟩
  ·exact l.F b hb q
  ·obtain⟨o,e⟩:=l.now b hb;rw[e]at q;injection q
 ·exact aa x.ρ (l.ρ b hb)
 ·refine dY (hk b hb) λo _ e _=> ?_;exact⟨o,e⟩
theorem Run.loose{s₀:Shared}(r:Run W fc cx g s e1 hp' g' s')(l:Loose W wr g s₀.heap s.heap)(h0:∀ a,a∈cx.own-> ∃ o,s₀.heap.get? a=some o)
  (h1:∀ a,a∈cx.l.filterMap (·.frame)-> ∃ o,s₀.heap.get? a=some o):(∀ b,b∈wr->s'.heap.get? b=s.heap.get? b)/\Loose W wr g' s₀.heap s'.heap:=by
 have key:∀ b,b∈wr->s'.heap.get? b=s.heap.get? b:=λb hb=>by
  obtain⟨o,e⟩:=l.now b hb;rcases r.evo.keep b o e (l.ρ b hb) (λhm=>by obtain⟨o',e'⟩:=h0 b hm;rw[l.new b hb]at e';injection e')with q|⟨q,_⟩
  ·exact q.trans e.symm
  ·obtain⟨o',e'⟩:=h1 b q;rw[l.new b hb]at e';injection e'
 refine⟨key,λb hb hF=> ?_,λb hb hm=> ?_,l.new,λb hb=> ?_,λb o hb e=>l.kind b o hb ((key b hb).symm.trans e)⟩
 ·obtain⟨o,e⟩:=l.now b hb;exact fK r.evo e (l.F b hb) hF
 ·obtain⟨o,e⟩:=l.now b hb;exact evo_freshρ r.evo e (l.ρ b hb) hm
 ·obtain⟨o,e⟩:=l.now b hb;exact⟨o,(key b hb).trans e⟩
noncomputable def isTup(e:Expr):Bool:=ajr e.ctorIdx 25
noncomputable def gD(tup:Bool)(t:Expr):Bool:=if tup then isTup t else(isTup t||ajr t.ctorIdx 23)
structure Walk(W:Wd)(A:Around)(it:Addr)(wr:List Addr)(ok:List Ob->Prop)(tup:Bool)(vs:List V)(St:Nat->Gh->Heap->Prop):Prop where
 mem:it∈wr
 flds:∀{j g h},St j g h-> ∀ b,b∈wr-> ∃ o fs,h.get? b=some o/\o.data= .fields fs
 stay:∀{j g h g' h'},St j g h->bU g h g' h'->(∀ b,b∈wr->h'.get? b=h.get? b)->St j g' h'
 item:∀{j v}{g:Gh}{hp:List Ob}{s:Shared}{YS:Heap}{ac:Expr}{Q:Value->Shared->Prop}{E E':Value->Shared->Prop},gD tup ac=true->vs[j]? =some v->Inv W g hp s.heap->ok hp->Loose W wr g YS s.heap->St j g s.heap->
  (∀ g' s' y,cF wr g s g' s'->St (j+1) g' s'.heap->RV W g' s'.heap v y->Q y s')->
  wpAny (model W.prog W.w) A (pyNext (.ref it)) (λr s₁=> ∃ y,r=some y/\wpAny (model W.prog W.w) A (letOwnedTupleGo ac (.ref it) y) (λ_ Yv=>Q y Yv) E' s₁) E s
 done:∀{g:Gh}{hp:List Ob}{s:Shared}{YS:Heap}{Q:Option Value->Shared->Prop}{E:Value->Shared->Prop},Inv W g hp s.heap->ok hp->Loose W wr g YS s.heap->St vs.length g s.heap->
  (∀ g' s',cF wr g s g' s'->Q none s')->wpAny (model W.prog W.w) A (pyNext (.ref it)) Q E s
 self:∀{j}{g:Gh}{s:Shared}{Q:Value->Shared->Prop}{E:Value->Shared->Prop},St j g s.heap->Q (.ref it) s->wpAny (model W.prog W.w) A (pyIter (.ref it)) Q E s
structure Src(W:Wd)(fc:FC)(env:aj)(hp:List Ob)(iter:Expr)(hp':List Ob)(ok:List Ob->Prop)(tup:Bool)(vs:List V):Prop where
 go:∀(cx:Cx)(g:Gh)(s:Shared)(Q:Value->Shared->Prop)(E:Value->Shared->Prop),cx.A.handled=none->Pre W fc cx g env hp s.heap->0<s.toks->
  (∀ it wr St g' s',Run W fc cx g s env hp' g' s'->Walk W cx.A it wr ok tup vs St->St 0 g' s'.heap->Loose W wr g' s.heap s'.heap->Q (.ref it) s')->
  wpAny (model W.prog W.w) cx.A (eval iter cx.menv) (λx s₁=>wpAny (model W.prog W.w) cx.A (pyIter x) Q E s₁) E s
structure J_(W:Wd)(hp:List Ob)(x:V)(ok:List Ob->Prop)(tup:Bool)(vs:List V):Prop where
 go:∀(A:Around)(g:Gh)(s:Shared)(y:Value)(Q:Value->Shared->Prop)(E:Value->Shared->Prop),A.handled=none->Inv W g hp s.heap->RV W g s.heap x y->
  (∀ it wr St s',Walk W A it wr ok tup vs St->St 0 g s'.heap->(∀ b,b∈wr->s.heap.get? b=none/\ ∃ o,s'.heap.get? b=some o)->(∀ b o,s.heap.get? b=some o->s'.heap.get? b=some o)->j_ s s'->Q (.ref it) s')->
  wpAny (model W.prog W.w) A (pyIter y) Q E s
theorem b8{s:Shared}(I:Inv W g hp s.heap)(hb:s.heap.get? b=none):¬g.F b/\b∉g.ρ:=by
 refine⟨λhF=> ?_,λhm=> ?_⟩
 ·obtain⟨o,e⟩:=I.fz b hF;rw[hb]at e;injection e
 ·obtain⟨i,hi,e1⟩:=ac5 hm;have eA:i<hp.length:=by exact aa (ach I.len) hi
  obtain⟨O,eO⟩:=(I.obs i hp[i] _ (abu eA) (abu hi)).some;rw[e1,hb]at eO;injection eO
theorem O8(h1:Ev W fc env hp iter x hp')(h2:J_ W hp' x ok tup vs):Src W fc env hp iter hp' ok tup vs:=by refine .mk ?_;intro cx g s Q E hh P t0 hQ;refine h1.go cx g s _ E P t0 λYx s₁ y Yw YL=>h2.go cx.A Yx s₁ y Q E hh Yw.pre.inv YL λit wr St Yv hw er bn hk sm=> ?_;have Zv:=Yw.pre.inv.ext hk;have Yz:Run W fc cx Yx s₁ env hp' Yx Yv:=⟨(Yw.pre.ext hk).2,(Yw.pre.ext hk).1,sm⟩;refine hQ it wr St Yx Yv (Yw.trans Yz) hw er ⟨λb hb=>(b8 Yw.pre.inv (bn b hb).1).1,λb hb=>(b8 Yw.pre.inv (bn b hb).1).2,λb hb=> ?_,λb hb=>(bn b hb).2,cG (hw.flds er)⟩;induction e:s.heap.get? b using abt with
|none=>rfl
|some o=>obtain⟨o',e'⟩:=Yw.evo.dom b o e;rw[(bn b hb).1]at e';injection e'
theorem DR(h:Q () s):wpAny (model prog w) A (letOwnedTupleGo (.Name x p) it v) Q E s:=wpAny_pure h
theorem iV(ho:s.heap.get? it=some o)(hc:o.cls= .type T)
  (hn:["enumerate","zip","dict_itemiterator","dict_reverseitemiterator","odict_iterator","itertools.zip_longest","itertools.pairwise"].contains T=false) (ht:gD false ac=true) (h:Q () s) :
  wpAny (model prog w) A (letOwnedTupleGo ac (.ref it) v) Q E s:=by
 induction ac using ac6
 case Name=>exact DR h
 case Tuple=>
  unfold letOwnedTupleGo;induction v using Value.casesOn
  case ref a=>
   refine wpAny_bind (wpAny_load ho ?_);obtain⟨oc,odd,od,EJ⟩:=o;simp only at hc;subst hc;induction od using aop<;>try exact wpAny_pure h
   case fields fs=>refine(?_:wpAny _ _ (if(["enumerate","zip","dict_itemiterator","dict_reverseitemiterator","odict_iterator","itertools.zip_longest","itertools.pairwise"].contains T&&fs[0]? ==some (rawInt a))=true then _ else _) _ _ _);rw[if_neg (by exact aa hn (ne_true_of_eq_false rfl))];exact wpAny_pure h
  all_goals exact wpAny_pure h
 all_goals exact absurd ht acb
theorem jO(l:Lst hp x xs):J_ W hp x (λhp=>Lst hp x xs) false xs:=by
 refine .mk ?_;intro A g s y Q E hh I rv hQ;(refine au (l.at I rv) λa vs an ho rs=> ?_;obtain rfl:=an);refine wpAny_pyIter_list ho.isList ?_;have bn:=ab4 s.heap (o:={ cls:= .type "list_iterator",data:= .fields #[.ref a,.int 0 0] }) rfl;have hk:∀ b o,s.heap.get? b=some o->(s.heap.push { cls:= .type "list_iterator",data:= .fields #[.ref a,.int 0 0] }).get? b=some o:=λb o e=>abr _ e;refine hQ s.heap.objs.size [s.heap.objs.size] (λj g h=>h.IsListIter s.heap.objs.size a j/\RV W g h x (.ref a)) { s with heap:=s.heap.push { cls:= .type "list_iterator",data:= .fields #[.ref a,.int 0 0] } } ?_ ⟨⟨_,bn,rfl,rfl⟩,rv.keep ⟨λ_ x=>x,λa o _ e=>hk a o e,ac2⟩⟩
  (λb hb=>by rw[ace]at hb;subst hb;exact⟨aK,_,bn⟩) hk ⟨rfl,id,abm _⟩
 refine⟨ab5 _,λst b hb=> ?_,λst K hb=>⟨?_,st.2.keep K⟩,λ{j v Yx hp₁ s₁ YS ac Zh Y7 Zd} ht hv I ok L st hQ=> ?_,λ{Yx hp₁ s₁ YS Zh Y7} I ok L st hQ=> ?_,λst hQ=>wpAny_pyIter_listiter st.1 hQ⟩
 ·rw[ace]at hb;subst hb;obtain⟨⟨o,ho,hc,hd⟩,_⟩:=st;exact⟨o,_,ho,hd⟩
 ·obtain⟨⟨o,ho,hc,hd⟩,_⟩:=st;exact⟨o,(hb _ (ab5 _)).trans ho,hc,hd⟩
 ·refine cps λ_ c_=> ?_;refine au (ok.at I st.2) λa' vs ea ho rs=> ?_;cases ea;refine ak (rs.get hv) λz hz rz=> ?_;refine c_ ?_;refine wpAny_pyNext_list_item st.1 ho.isList (x:=z) (by simpa using hz) λh' hit hs=>⟨z,rfl,?_⟩;obtain⟨o,ca,hc,hd⟩:=id hit;have sd:=cF.extBut (hn:=abm _) (g:=Yx) (ab5 s.heap.objs.size) hs.extBut;have K:=sd.keeps L;exact iV ca hc (by decide) ht (hQ _ _ z sd ⟨hit,st.2.keep K⟩ (rz.keep K))
 ·refine au (ok.at I st.2) λa' vs ea ho rs=> ?_;cases ea;refine wpAny_pyNext_list_end hh st.1 ho.isList (by simp[rs.length]) λh' he=>hQ _ _ (cF.extBut (hn:=abm _) (ab5 s.heap.objs.size) he)
end
section
theorem GF:J_ W hp (.tup xs) (λ_=>True) false xs:=by
 refine .mk ?_;intro A g s y Q E hh I rv hQ;(refine bT (eY rv) λa vs an hF ho rs=> ?_;obtain rfl:=an);refine wpAny_pyIter_tuple ho.isTuple ?_;have bn:=ab4 s.heap (o:={ cls:= .type "tuple_iterator",data:= .fields #[.ref a,.int 0 0] }) rfl;have hk:∀ b o,s.heap.get? b=some o->(s.heap.push { cls:= .type "tuple_iterator",data:= .fields #[.ref a,.int 0 0] }).get? b=some o:=λb o e=>abr _ e;refine hQ s.heap.objs.size [s.heap.objs.size] (λj g h=>h.IsTupleIter s.heap.objs.size a j/\RV W g h (.tup xs) (.ref a)) { s with heap:=s.heap.push { cls:= .type "tuple_iterator",data:= .fields #[.ref a,.int 0 0] } } ?_ ⟨⟨_,bn,rfl,rfl⟩,rv.keep ⟨λ_ x=>x,λa o _ e=>hk a o e,ac2⟩⟩
  (λb hb=>by rw[ace]at hb;subst hb;exact⟨aK,_,bn⟩) hk ⟨rfl,id,abm _⟩
 refine⟨ab5 _,λst b hb=> ?_,λst K hb=>⟨?_,st.2.keep K⟩,λ{j v Yx hp₁ s₁ YS ac Zh Y7 Zd} ht hv I ok L st hQ=> ?_,λ{Yx hp₁ s₁ YS Zh Y7} I ok L st hQ=> ?_,λst hQ=>wpAny_pyIter_tupleiter st.1 hQ⟩
 ·rw[ace]at hb;subst hb;obtain⟨⟨o,ho,hc,hd⟩,_⟩:=st;exact⟨o,_,ho,hd⟩
 ·obtain⟨⟨o,ho,hc,hd⟩,_⟩:=st;exact⟨o,(hb _ (ab5 _)).trans ho,hc,hd⟩
 ·refine cps λ_ c_=> ?_;refine bT (eY st.2) λa' vs ea _ ho rs=> ?_;cases ea;refine ak (rs.get hv) λz hz rz=> ?_;refine c_ ?_;refine wpAny_pyNext_tuple_item st.1 ho.isTuple (x:=z) (by simpa using hz) λh' hit hs=>⟨z,rfl,?_⟩;obtain⟨o,ca,hc,hd⟩:=id hit;have sd:=cF.extBut (hn:=abm _) (g:=Yx) (ab5 s.heap.objs.size) hs.extBut;have K:=sd.keeps L;exact iV ca hc (by decide) ht (hQ _ _ z sd ⟨hit,st.2.keep K⟩ (rz.keep K))
 ·refine bT (eY st.2) λa' vs ea _ ho rs=> ?_;cases ea;refine wpAny_pyNext_tuple_end hh st.1 ho.isTuple (by simp[rs.length]) λh' he=>hQ _ _ (cF.extBut (hn:=abm _) (ab5 s.heap.objs.size) he)
noncomputable def e_(a b c:Int):List Int:=(ai9 (acl a b c).toNat).map λ(j:Nat)=>a+j * c
theorem Fb{a b c:Int}(hh:A.handled=none):Walk W A it [it] (λ_=>True) false ((e_ a b c).map V.int)
  (λj g h=>IsRangeIter h it (a+j * c) (acl a b c - j) c):=by
 have ar:((e_ a b c).map V.int).length=(acl a b c).toNat:=by simp[e_]
 refine⟨ab5 _,λst b hb=> ?_,λst K hb=>(hb _ (ab5 _)).trans st,λ{j v Yx hp₁ s₁ YS ac Zh Y7 Zd} ht hv I ok L st hQ=> ?_,λ{Yx hp₁ s₁ YS Zh Y7} I ok L st hQ=> ?_,λst hQ=>wpAny_pyIter_rangeiter st hQ⟩
 ·rw[ace]at hb;subst hb;exact⟨_,_,st,rfl⟩
 ·have hj:j<(acl a b c).toNat:=by exact aa (ach ar) ((abw.mp hv).1)
  have sD:v= .int (a+j * c):=by simp only[e_,aei,ady,aix hj,akn]at hv;cases hv;rfl
  refine wpAny_pyNext_range_item st (Int.sub_pos_of_lt (Int.lt_toNat.mp hj)) λh' hit hs=>⟨_,rfl,?_⟩;have sd:=cF.extBut (hn:=acg _) (g:=Yx) (n:=s₁.toks+1) (ab5 it) hs.extBut;refine iV hit rfl (by decide) ht (hQ _ _ _ sd ?_ (by exact aa sD cA));have e1:a+((j+1:Nat):Int) * c=a+j * c+c:=by
   have:((j+1:Nat):Int) * c=j * c+c:=by rw[Int.natCast_add,Int.add_mul];simp
   (rw[this,aoc])
  have e2:acl a b c - ((j+1:Nat):Int)=acl a b c - j - 1:=by lia
  refine(?_:IsRangeIter h' it (a+((j+1:Nat):Int) * c) (acl a b c - ((j+1:Nat):Int)) c);(refine aa e1 ?_;refine aa e2 ?_);exact hit
 ·rw[ar]at st;exact wpAny_pyNext_range_end hh st (Int.sub_nonpos_of_le (Int.self_le_toNat _)) λh' he=>hQ _ _ (cF.extBut (hn:=abm _) (ab5 it) he)
structure gW(W:Wd)(fc:FC)(env:aj)(hp:List Ob)(t:Expr)(v:V)(ag:aj)(hp':List Ob):Prop where
 go:∀(cx:Cx)(g:Gh)(s:Shared)(y:Value)(Q:Unit->Shared->Prop)(E:Value->Shared->Prop),Pre W fc cx g env hp s.heap->0<s.toks->RV W g s.heap v y->
  (∀ g' s',Run W fc cx g s ag hp' g' s'->Q () s')->wpAny (model W.prog W.w) cx.A (assign t cx.menv y) Q E s
theorem Fz(aI:pC fc.nm env x .local v ag):gW W fc env hp (.Name x p) v ag hp:=
 .mk λcx g s y Q E P t0 rv hQ=>wpAny_assign_Name (dw P aI rv λs' r=>hQ g s' r)
theorem Kz(aI:pC fc.nm env x .cell v ag)(hw:x∈fc.wr):gW W fc env hp (.Name x p) v ag hp:=
 .mk λcx g s y Q E P t0 rv hQ=>wpAny_assign_Name (nO P aI hw rv λs' r=>hQ g s' r)
class inductive uT(W:Wd)(fc:FC):aj->List Ob->List Expr->List V->aj->List Ob->Prop
|nil {e:aj} {q:List Ob}:uT W fc e q [] [] e q
|cons {e YB e₂:aj} {q YD YG:List Ob} {t:Expr} {v:V} {ts:List Expr} {vs:List V}:isStar t=false->gW W fc e q t v YB YD->uT W fc YB YD ts vs e₂ YG->uT W fc e q (t::ts) (v::vs) e₂ YG
theorem bG(hs:isStar t=false):assignEach (t::ts) m=(false,assign t m)::assignEach ts m:=by induction t using ac6<;>first|rfl|cases hs
theorem uT.each(a:uT W fc env hp ts vs ag hp')(m:Env):(assignEach ts m).length=vs.length/\(assignEach ts m).findIdx? (·.1)=none:=by induction a with
|nil=>exact⟨rfl,rfl⟩
|cons hs _ _ ih=>refine aa (bG hs) ?_;refine⟨by simp[ih.1],?_⟩;refine aa (List.findIdx?_cons) ?_;simp[ih.2]
theorem uT.run(a:uT W fc env hp ts vs ag hp'):∀{g:Gh}{s:Shared}{ys:List Value}{Q:Unit->Shared->Prop}{E:Value->Shared->Prop},Pre W fc cx g env hp s.heap->0<s.toks->aQ W g s.heap vs ys->
  (∀ g' s',Run W fc cx g s ag hp' g' s'->Q () s')->wpAny (model W.prog W.w) cx.A (assignInOrder ((assignEach ts cx.menv).map (·.2)) ys) Q E s:=by
 induction a with
|nil=>intro g s ys Q E P t0 rs hQ;obtain rfl:=vz rs;exact wpAny_pure (hQ g s (.refl P))
|cons hs h1 _ ih=>intro g s ys Q E P t0 rs hQ;refine aa (bG hs) ?_;(refine au rs λy r an r1 r2=> ?_;obtain rfl:=an);refine assignInOrder_cons (h1.go cx g s y _ E P t0 r1 λYx s₁ ru=> ?_);exact ih ru.pre (ru.t t0) (r2.keep (ru.keep P)) λYy Yv xy=>hQ Yy Yv (ru.trans xy)
theorem Qu(hq:fc.q=true)(a:uT W fc env hp ts vs ag hp'):gW W fc env hp (.Tuple ts k1 p) (.tup vs) ag hp':=by refine .mk ?_;intro cx g s y Q E P t0 rv hQ;(refine bT (eY rv) λb ys an hF ho rs=> ?_;obtain rfl:=an);refine wpAny_assign_Tuple (P.fm.hnd hq) ho.isTuple (by(refine aa ((a.each _).1) ?_;refine aa aci ?_;exact aa rs.length rfl)) (a.each _).2 λh' he=> ?_;have hk:∀ b o,s.heap.get? b=some o->h'.get? b=some o:=λb o e=>he b o (λq=>by subst q;rw[get?_size_none]at e;injection e) e;have P':=P.ext hk;have r:Run W fc cx g s env hp g { s with heap:=h' }:=⟨P'.2,P'.1,⟨rfl,id,abm _⟩⟩;refine a.run (ys:=ys) r.pre t0 (rs.keep (r.keep P)) λYy Yv Yz=>hQ Yy Yv (r.trans Yz)
class inductive Loop(W:Wd)(fc:FC)(ok:List Ob->Prop)(ac:Expr)(body:List Stmt):aj->List Ob->List V->Out->Prop
|nil {e:aj} {q:List Ob}:Loop W fc ok ac body e q [] (.next e q)
|next {e YB e₂:aj} {q YD YG:List Ob} {v:V} {vs:List V} {o:Out}:gW W fc e q ac v YB YD->cU W fc YB YD body (.next e₂ YG)->ok YG->Loop W fc ok ac body e₂ YG vs o->Loop W fc ok ac body e q (v::vs) o
|cont {e YB e₂:aj} {q YD YG:List Ob} {v:V} {vs:List V} {o:Out}:gW W fc e q ac v YB YD->cU W fc YB YD body (.cont e₂ YG)->ok YG->Loop W fc ok ac body e₂ YG vs o->Loop W fc ok ac body e q (v::vs) o
|brk {e YB e₂:aj} {q YD YG:List Ob} {v:V} {vs:List V}:gW W fc e q ac v YB YD->cU W fc YB YD body (.brk e₂ YG)->Loop W fc ok ac body e q (v::vs) (.next e₂ YG)
|ret {e YB:aj} {q YD YG:List Ob} {v u:V} {vs:List V}:gW W fc e q ac v YB YD->cU W fc YB YD body (.ret u YG)->Loop W fc ok ac body e q (v::vs) (.ret u YG)
|less {e e':aj} {q:List Ob} {vs:List V} {o:Out}:bh e' e->Loop W fc ok ac body e' q vs o->Loop W fc ok ac body e q vs o
theorem bh.trans(x:bh a b):∀{c:aj},bh b c->bh a c:=by induction x with
|nil=>intro c _;exact .nil
|drop l ih=>intro c y;cases y with
 |drop y=>exact .drop (ih y)|dropN y=>exact .dropN (ih y)|same y=>exact .drop (ih y)
|dropN l ih=>intro c y;cases y;induction c using abn with
 |nil=>exact .dropN l|cons o c=>exact .drop (ih .nil)
|same l ih=>intro c y;cases y with
 |drop y=>exact .drop (ih y)|dropN y=>exact .dropN (ih y)|same y=>exact .same (ih y)
theorem Loop.on{G:Prop}{ok:List Ob->Prop}{ac:Expr}{body:List Stmt}{e:aj}{q:List Ob}{us:List V}{o:Out}(l:Loop W fc ok ac body e q us o)
  (h0:∀ e',bh e' e->us=[]->o= .next e' q->G)
  (h1:∀ e',bh e' e-> ∀ v ws YB YD e₂ YG,us=v::ws->gW W fc e' q ac v YB YD->(cU W fc YB YD body (.next e₂ YG)\/cU W fc YB YD body (.cont e₂ YG))->ok YG->Loop W fc ok ac body e₂ YG ws o->G)
  (h3:∀ e',bh e' e-> ∀ v ws YB YD e₂ YG,us=v::ws->gW W fc e' q ac v YB YD->cU W fc YB YD body (.brk e₂ YG)->o= .next e₂ YG->G)
  (h4:∀ e',bh e' e-> ∀ v ws YB YD u YG,us=v::ws->gW W fc e' q ac v YB YD->cU W fc YB YD body (.ret u YG)->o= .ret u YG->G):G:=by
 induction l with
|nil=>exact h0 _ (.refl _) rfl rfl
|next a b c d=>exact h1 _ (.refl _) _ _ _ _ _ _ rfl a (.inl b) c d
|cont a b c d=>exact h1 _ (.refl _) _ _ _ _ _ _ rfl a (.inr b) c d
|brk a b=>exact h3 _ (.refl _) _ _ _ _ _ _ rfl a b rfl
|ret a b=>exact h4 _ (.refl _) _ _ _ _ _ _ rfl a b rfl
|less x _ ih=>exact ih (λe' l=>h0 e' (l.trans x)) (λe' l=>h1 e' (l.trans x)) (λe' l=>h3 e' (l.trans x)) (λe' l=>h4 e' (l.trans x))
theorem Run.weaken(r:Run W fc cx g s e hp' g' s')(l:bh e' e):Run W fc cx g s e' hp' g' s':=⟨r.evo,r.pre.weaken l,r.same⟩
theorem pK(ht:gD tup ac=true)(hs:∀ m x,foldedSetIterable iter m x=pure x)(hq:fc.q=true)(aS:Src W fc env hp iter hp₁ ok tup vs)(aT:ok hp₁)(hl:Loop W fc ok ac body env hp₁ vs o):Ex W fc env hp (.For ac iter body [] pos) o:=by
 refine .mk ?_;intro cx g s Q E P t0 hQ;have hh:=P.fm.hnd hq;refine wpAny_For ?_ (hs cx.menv);refine aS.go cx g s _ E hh P t0 λit wr St Yx s₁ Yw hw er hL=> ?_;have h0:∀ a,a∈cx.own-> ∃ o,s.heap.get? a=some o:=P.fm.ownD;have h1:∀ a,a∈cx.l.filterMap (·.frame)-> ∃ o,s.heap.get? a=some o:=λa ha=>by obtain⟨_,o,e,_⟩:=P.fm.fun_.mem ha;exact⟨o,e⟩
 refine codeAny_forLoop_any (λn s'=> ∀ G:Prop,(∀(ag:aj)(hp':List Ob)(g':Gh)(us:List V)(j:Nat),n=us.length+1->j+us.length=vs.length->vs.drop j=us->Loop W fc ok ac body ag hp' us o->ok hp'->
  Run W fc cx g s ag hp' g' s'->St j g' s'.heap->Loose W wr g' s.heap s'.heap->G)->G) ?_ (vs.length+1) λ_ k=>k env hp₁ Yx vs 0 rfl (ae7 vs.length) (by rfl) hl aT Yw er hL
 refine λn s' hI=>hI _ λag hp' g' us j hn hj hd kR dr r st L=> ?_;have d':∀{e₂:aj}{v:V}{YB:aj}{YC:List Ob}{Q':Flow->Shared->Prop}{Y7 Zd E₃ ZC:Value->Shared->Prop},Pre W fc cx g' YB hp' s'.heap->vs[j]? =some v->gW W fc YB hp' ac v e₂ YC->
   (∀ Yy Yv,Run W fc cx g s e₂ YC Yy Yv->St (j+1) Yy Yv.heap->Loose W wr Yy s.heap Yv.heap->wpAny (model W.prog W.w) cx.A (execs body cx.menv) Q' Y7 Yv)->
   wpAny (model W.prog W.w) cx.A (pyNext (.ref it)) (λx s₁=> ∃ y,x=some y/\wpAny (model W.prog W.w) cx.A (letOwnedTupleGo ac (.ref it) y) (λ_ Yv=>wpAny (model W.prog W.w) cx.A (assign ac cx.menv y) (λ_ s₃=>wpAny (model W.prog W.w) cx.A (execs body cx.menv) Q' Y7 s₃) Zd Yv) E₃ s₁) ZC s':=by
  intro e₂ v YB YC Q' Y7 Zd E₃ ZC ZJ hv ha hb;refine hw.item ht hv r.pre.inv dr L st λYy Yv y sd YX rv=> ?_;have I:=sd.inv L r.pre.inv P.inv.base;have fm:=sd.fm L ZJ.fm h0 h1;have ru:Run W fc cx g s YB hp' Yy Yv:=⟨sd.evo L r.evo,⟨I,fm⟩,r.same.trans sd.same⟩;have Y6:=sd.loose L (hw.flds YX);refine ha.go cx Yy Yv y _ _ ru.pre (ru.t t0) rv λYM s₃ YH=> ?_;obtain⟨kp,ZF⟩:=YH.loose Y6 h0 h1;exact hb YM s₃ (ru.trans YH) (hw.stay YX (YH.keep ru.pre) kp) ZF
 have vj:∀{v:V}{ws:List V},us=v::ws->vs[j]? =some v/\vs.drop (j+1)=ws:=by
  intro v ws e;rw[e]at hd;refine⟨?_,?_⟩
  ·have:=congrArg akc hd;simpa[af2]using this
  ·have:=congrArg ai3 hd;simpa[agj]using this
 refine kR.on (λe' le hu ho=> ?_) (λe' le v ws YB YD e₂ YG hu ha hb Y9 Zc=> ?_) (λe' le v ws YB YD e₂ YG hu ha hb ho=> ?_) (λe' le v ws YB YD u YG hu ha hb ho=> ?_)
 ·have r':=r.weaken le;subst ho;rw[hu]at hj;have j':j=vs.length:=by simpa using hj
  subst j';refine hw.done r.pre.inv dr L st λYy Yv sd=> ?_;refine wpAny_execs_nil ?_;have fm:=sd.fm L r'.pre.fm h0 h1;have I:=sd.inv L r.pre.inv P.inv.base;exact hQ Yy Yv _ ⟨rfl,⟨sd.evo L r.evo,⟨I,fm⟩,r.same.trans sd.same⟩⟩
 ·obtain⟨hv,bE⟩:=vj hu;have go:∀ Yy Yv YM s₃,Run W fc cx g s YB YD Yy Yv->St (j+1) Yy Yv.heap->Loose W wr Yy s.heap Yv.heap->Run W fc cx Yy Yv e₂ YG YM s₃-> ∃ m,m<n/\ ∀ G:Prop,(∀(ag:aj)(hp':List Ob)(g':Gh)(us:List V)(j:Nat),m=us.length+1->j+us.length=vs.length->vs.drop j=us->Loop W fc ok ac body ag hp' us o->ok hp'->
    Run W fc cx g s ag hp' g' s₃->St j g' s₃.heap->Loose W wr g' s.heap s₃.heap->G)->G:=by
   intro Yy Yv YM s₃ Yz YX Y6 YH;obtain⟨kp,ZF⟩:=YH.loose Y6 h0 h1;refine⟨ws.length+1,?_,λ_ k=>k e₂ YG YM ws (j+1) rfl ?_ bE Zc Y9 (Yz.trans YH) (hw.stay YX (YH.keep Yz.pre) kp) ZF⟩
   ·(refine aa hn ?_;refine aa hu ?_);simp
   ·rw[hu]at hj;simp at hj;exact(ab9 _ _).trans hj
  refine hb.elim (λhb=> ?_) λhb=> ?_<;>
  ·refine wpAny_mono (d' (r.weaken le).pre hv ha λYy Yv Yz YX Y6=>hb.go cx Yy Yv _ _ Yz.pre (Yz.t t0) λYM s₃ f a=> ?_) (λx s₁ hx=>by rcases hx with⟨y,rfl,hx⟩;exact hx) λ_ _ h'=>h';obtain⟨rfl,YH⟩:=a;exact go Yy Yv YM s₃ Yz YX Y6 YH
 ·obtain⟨hv,bE⟩:=vj hu;subst ho;refine wpAny_mono (d' (r.weaken le).pre hv ha λYy Yv Yz YX Y6=>hb.go cx Yy Yv _ _ Yz.pre (Yz.t t0) λYM s₃ f a=> ?_) (λx s₁ hx=>by rcases hx with⟨y,rfl,hx⟩;exact hx) λ_ _ h'=>h';obtain⟨rfl,YH⟩:=a;exact hQ YM s₃ _ ⟨rfl,Yz.trans YH⟩
 ·obtain⟨hv,bE⟩:=vj hu;subst ho;refine wpAny_mono (d' (r.weaken le).pre hv ha λYy Yv Yz YX Y6=>hb.go cx Yy Yv _ _ Yz.pre (Yz.t t0) λYM s₃ f a=> ?_) (λx s₁ hx=>by rcases hx with⟨y,rfl,hx⟩;exact hx) λ_ _ h'=>h';obtain⟨z,rfl,YH,rz⟩:=a;exact hQ YM s₃ _ ⟨z,rfl,⟨(Yz.evo.trans YH.evo),YH.pre,Yz.same.trans YH.same⟩,rz⟩
end
section
variable{W:Wd}{fc:FC}{cx:Cx}{g g':Gh}{env ag:aj}{hp hp' hp₁ YC YQ:List Ob}{h h':Heap}{k:Nat}{q:Bool}
class inductive mQ(nm:Names)(env:aj):Names->Names->aj->Prop
|nil:mQ nm env [] [] []
|loc {n:Str} {r r':Names} {e:aj}:mQ nm env r r' e->mQ nm env ((n,.local)::r) ((n,.local)::r') (none::e)
|own {n:Str} {r r':Names} {e:aj}:mQ nm env r r' e->mQ nm env ((n,.cell)::r) ((n,.cell)::r') (none::e)
|glob {n:Str} {r r':Names} {e:aj}:mQ nm env r r' e->mQ nm env ((n,.globalImplicit)::r) ((n,.globalImplicit)::r') (none::e)
|cell {n:Str} {v:V} {r r':Names} {e:aj}:Look nm env n .cell v->mQ nm env r r' e->mQ nm env ((n,.free)::r) ((n,.cell)::r') (some v::e)
|free {n:Str} {v:V} {r r':Names} {e:aj}:Look nm env n .free v->mQ nm env r r' e->mQ nm env ((n,.free)::r) ((n,.free)::r') (some v::e)
noncomputable def A_(nm:Names)(ns:Names):Names:=ns.map λ(n,k)=>if(k== .free&&nm.lookup n==some .cell)then(n,.cell)else(n,k)
theorem mQ.rel(hn:(nm.map (·.1)).Nodup)(c:mQ nm env ns cy e):A_ nm ns=cy:=by induction c with
|nil=>rfl
|loc _ ih=>simp only[A_,ab3]at ih ⊢;exact aa ih rfl
|own _ ih=>simp only[A_,ab3]at ih ⊢;exact aa ih rfl
|glob _ ih=>simp only[A_,ab3]at ih ⊢;exact aa ih rfl
|cell l _ ih=>simp only[A_,ab3]at ih ⊢;refine aa ih ?_;simp[l.has.lookup hn]
|free l _ ih=>simp only[A_,ab3]at ih ⊢;refine aa ih ?_;simp[l.has.lookup hn]
theorem mQ.names(c:mQ nm env ns cy e):cy.map (·.1)=ns.map (·.1):=by induction c with
|nil=>rfl
|_=>simp_all
noncomputable def bu(look:Str->Option Addr):Names->List (Str×Addr)->List (Str×Addr)
|[],acc=>acc
|(n,k)::r,acc=>if k== .free then bu look r ((n,(look n).getD 0)::acc)else bu look r acc
theorem jL{look:Str->Option Addr}{n:Str}{k:NameKind}{r:Names}{acc:List (Str×Addr)}:bu look ((n,k)::r) acc=if k== .free then bu look r ((n,(look n).getD 0)::acc)else bu look r acc:=rfl
theorem u9:∀{ns:Names}{acc:List (Str×Addr)},(∀ n,(n,aey)∈ns-> ∃ c,menv.cells.lookup n=some c)->
  (forIn ns acc λ(x:Str×NameKind) cs=>(do if x.2== .free then do let a ←cellOf menv x.1;pure (agm ((x.1,a)::cs))else pure (agm cs)):Sem (List (Str×Addr)))=pure (bu (λn=>menv.cells.lookup n) ns acc):=by
 intro ah;induction ah with
|nil=>intro acc _;exact aa agx rfl
|cons bi r ih=>obtain⟨n,k⟩:=bi;intro acc h;rw[agl];refine aa jL ?_;have ih:=λacc=>ih (acc:=acc) λn hn=>h n (abl _ hn);induction hk:(k==aey)using aco with
 |false=>simp only[hk,acp,if_false,pure_bind];exact ih _|true=>obtain⟨c,hc⟩:=h n (by exact aa (eq_of_beq hk) abq);simp only[hk,if_true];unfold cellOf;refine aa hc ?_;simp only[pure_bind,aet];exact ih _
theorem j0(h:∀ n,(n,aey)∈scope.names-> ∃ c,menv.cells.lookup n=some c):closureFor scope menv=pure (bu (λn=>menv.cells.lookup n) scope.names []):=by
 unfold closureFor;have:=u9 (menv:=menv) (ns:=scope.names) (acc:=[]) h
 first
 |exact this
 |(simp only[bind_pure];exact this)
 |(simp only[pure_bind];simpa using this)
theorem eH:∀{ns:Names}{acc:List (Str×Addr)}{n:Str}{c:Addr},(n,c)∈bu look ns acc->(n,c)∈acc\/((n,aey)∈ns/\c=(look n).getD 0):=by intro ah;induction ah with
|nil=>intro acc n c h;exact .inl h
|cons bi r ih=>
  obtain⟨m,k⟩:=bi;intro acc n c h;rw[jL]at h
  split at h
  ·rename_i hk;rcases ih h with q|⟨q,e⟩
   ·rcases abx.mp q with q|q
    ·cases q;exact .inr ⟨by exact aa (eq_of_beq hk) abq,rfl⟩
    ·exact .inl q
   ·exact .inr ⟨abl _ q,e⟩
  ·rcases ih h with q|⟨q,e⟩
   ·exact .inl q
   ·exact .inr ⟨abl _ q,e⟩
theorem u6:∀{ns:Names}{acc:List (Str×Addr)}{n:Str},(n,aey)∈ns\/(acc.lookup n).isSome=true->((bu look ns acc).lookup n).isSome=true:=by intro ah;induction ah with
|nil=>
  intro acc n h;rcases h with h|h
  ·contradiction
  ·exact h
|cons bi r ih=>
  obtain⟨m,k⟩:=bi;intro acc n h;refine aa jL ?_;have keep:(acc.lookup n).isSome=true->(((m,(look m).getD 0)::acc).lookup n).isSome=true:=λh=>by
   refine aa aj1 ?_;split
   ·rfl
   ·exact h
  split
  ·rename_i hk;refine ih ?_;rcases h with h|h
   ·rcases abx.mp h with e|h
    ·cases e;right;simp
    ·exact .inl h
   ·exact .inr (keep h)
  ·rename_i hk;refine ih ?_;rcases h with h|h
   ·rcases abx.mp h with e|h
    ·cases e;simp at hk
    ·exact .inl h
   ·exact .inr h
theorem fW:∀{nm:Names}{acc:List (Str×Addr)}{x:Str}{c:Addr},(x,c)∈cellsFrom n nm acc->(x,c)∈acc\/((x,agq)∈nm/\n<=c):=by intro nm;induction nm generalizing n with
|nil=>intro acc x c h;exact .inl h
|cons p r ih=>
  obtain⟨y,k⟩:=p;intro acc x c h;unfold cellsFrom at h
  split at h
  ·rename_i hk;rcases ih h with q|⟨q,e⟩
   ·rcases abx.mp q with q|q
    ·cases q;exact .inr ⟨by exact aa (eq_of_beq hk) abq,abm _⟩
    ·exact .inl q
   ·exact .inr ⟨abl _ q,by exact adz e⟩
  ·rcases ih h with q|⟨q,e⟩
   ·exact .inl q
   ·exact .inr ⟨abl _ q,e⟩
theorem ux:∀{ns:Names}{h:Heap}{acc:List (Str×Addr)}{x:Str}{c:Addr},(x,c)∈cellsFrom h.objs.size ns acc->(x,c)∈acc\/(pushCells h ns).IsCell c none:=by intro ah;induction ah with
|nil=>intro h acc x c hm;exact .inl hm
|cons bi r ih=>
  obtain⟨y,k⟩:=bi;intro h acc x c hm;unfold cellsFrom at hm;unfold pushCells
  split at hm
  ·rename_i hk;refine aa (if_pos hk) ?_;have e:(h.push { cls:= .type "cell",data:= .cell none }).objs.size=h.objs.size+1:=adw ..;rw[←e]at hm;rcases ih hm with q|q
   ·rcases abx.mp q with q|q
    ·cases q;exact .inr ⟨_,pushCells_keeps _ _ _ _ (ab4 _ rfl),rfl⟩
    ·exact .inl q
   ·exact .inr q
  ·rename_i hk;exact aa (if_neg hk) (ih hm)
theorem Ea
  (hQ:Q { scope:=scope,locals:=s.heap.objs.size,globals:=globals,cells:=cellsFrom (s.heap.objs.size+1) scope.names cl,qual:=qual,func:=none,code:=outer.code,frame:=outer.frame,builtins:=outer.builtins }
   { s with heap:=pushCells (s.heap.push { cls:= .type "dict",data:= .dict #[] }) scope.names }) :
  wpAny M A (newFunctionEnv scope globals cl [] qual none .none (some outer)) Q E s:=by
 simp only[newFunctionEnv,ajc,if_true];refine wpAny_bind (wpAny_alloc ?_);refine wpAny_bind (wpAny_layCells _ (λname kind cells=>by induction hkc:kind==agq using aco<;>rfl) _ _ _ _ ?_);refine aa (show({ s with heap:=s.heap.push { cls:= .type "dict",data:= .dict #[] } }:Shared).heap.objs.size=s.heap.objs.size+1 from adw ..) ?_;refine wpAny_bind ?_;exact aa agx (wpAny_pure (wpAny_pure hQ))
theorem mQ.look{nm ns cy:Names}{e:aj}(c:mQ nm env ns cy e){x:Str}{k:NameKind}{v:V}(l:Look cy e x k v):(x,aey)∈ns/\(k= .cell\/k= .free)/\Look nm env x k v:=by induction c with
|nil=>contradiction
|loc _ ih=>exact l.inv.elim (λz=>nomatch z.2.2) λl=>⟨abl _ (ih l).1,(ih l).2⟩
|own _ ih=>exact l.inv.elim (λz=>nomatch z.2.2) λl=>⟨abl _ (ih l).1,(ih l).2⟩
|glob _ ih=>exact l.inv.elim (λz=>nomatch z.2.2) λl=>⟨abl _ (ih l).1,(ih l).2⟩
|cell lo _ ih=>exact l.inv.elim (λz=>by obtain⟨rfl,rfl,z⟩:=z;obtain rfl:=acn z;exact⟨abq,.inl rfl,lo⟩) λl=>⟨abl _ (ih l).1,(ih l).2⟩
|free lo _ ih=>exact l.inv.elim (λz=>by obtain⟨rfl,rfl,z⟩:=z;obtain rfl:=acn z;exact⟨abq,.inr rfl,lo⟩) λl=>⟨abl _ (ih l).1,(ih l).2⟩
theorem mQ.outer(c:mQ nm env ns cy e)(hx:(x,aey)∈ns):∃ k v,(k= .cell\/k= .free)/\Look nm env x k v:=by induction c with
|nil=>contradiction
|loc _ ih=>
        rcases abx.mp hx with q|q
        ·exact nomatch q
        ·exact ih q
|own _ ih=>
        rcases abx.mp hx with q|q
        ·exact nomatch q
        ·exact ih q
|glob _ ih=>
         rcases abx.mp hx with q|q
         ·exact nomatch q
         ·exact ih q
|cell lo _ ih=>
          rcases abx.mp hx with q|q
          ·cases q;exact⟨_,_,.inl rfl,lo⟩
          ·exact ih q
|free lo _ ih=>
          rcases abx.mp hx with q|q
          ·cases q;exact⟨_,_,.inr rfl,lo⟩
          ·exact ih q
theorem mQ.own_mem(c:mQ nm env ns cy e)(hx:x∈cellNames ns):(x,agq)∈ns:=by refine ak (ahq.mp hx) λp hp he=> ?_;obtain⟨y,k⟩:=p;induction k using aj3<;>simp at he;subst he;exact hp
theorem v5{ns:Names}(hn:(ns.map (·.1)).Nodup){x:Str}{k j:NameKind}(h1:(x,k)∈ns)(h2:(x,j)∈ns):k=j:=by have e1:=fY hn h1;have e2:=fY hn h2;rw[e1]at e2;cases e2;rfl
noncomputable def inner(fc:FC)(ns cy:Names):FC:=⟨cy,cellNames ns,fc.k,fc.q,false,.none⟩
theorem zf(hn:(ns.map (·.1)).Nodup):∀{x:Str}{c c':Addr},(x,c)∈cellsFrom n ns (bu look ns [])->(x,c')∈cellsFrom n ns (bu look ns [])->c=c':=by
 have h1:∀(ms:Names)(acc:List (Str×Addr)),(ms.map (·.1)).Nodup->(acc.map (·.1)).Nodup->(∀ x,x∈ms.map (·.1)->x∉acc.map (·.1))->((bu look ms acc).map (·.1)).Nodup/\ ∀ x,x∈(bu look ms acc).map (·.1)->x∈acc.map (·.1)\/(x,aey)∈ms:=by intro ms;induction ms with
 |nil=>intro acc _ h _;exact⟨h,λx hx=> .inl hx⟩|cons p r ih=>
   obtain⟨y,kk⟩:=p;intro acc a1 a2 a3;rw[ab3,ad8]at a1;refine aa jL ?_
   split
   ·rename_i hk;obtain⟨b1,b2⟩:=ih ((y,(look y).getD 0)::acc) a1.2 (by(refine aa ab3 ?_;rw[ad8]);exact⟨a3 y (akp rfl),a2⟩) (λz hz hm=>by
     rw[ab3]at hm;rcases abx.mp hm with e|hm
     ·exact a1.1 (e▸hz)
     ·exact a3 z (by exact aa ab3 (abl _ hz)) hm)
    refine⟨b1,λx hx=> ?_⟩;rcases b2 x hx with q|q
    ·rw[ab3]at q;rcases abx.mp q with q|q
     ·right;(refine aa q ?_;refine aa (eq_of_beq hk) ?_);exact abq
     ·exact .inl q
    ·exact .inr (abl _ q)
   ·obtain⟨b1,b2⟩:=ih acc a1.2 a2 λz hz hm=>a3 z (by exact aa ab3 (abl _ hz)) hm;refine⟨b1,λx hx=> ?_⟩;rcases b2 x hx with q|q
    ·exact .inl q
    ·exact .inr (abl _ q)
 have h2:∀(ms:Names)(n:Nat)(acc:List (Str×Addr)),(ms.map (·.1)).Nodup->(acc.map (·.1)).Nodup->(∀ x,(x,agq)∈ms->x∉acc.map (·.1))->((cellsFrom n ms acc).map (·.1)).Nodup:=by intro ms;induction ms with
 |nil=>intro n acc _ h _;exact h|cons p r ih=>
   obtain⟨y,kk⟩:=p;intro n acc a1 a2 a3;rw[ab3,ad8]at a1;unfold cellsFrom
   split
   ·rename_i hk;refine ih _ _ a1.2 ?_ ?_
    ·(refine aa ab3 ?_;rw[ad8]);exact⟨a3 y (by exact aa (eq_of_beq hk) abq),a2⟩
    ·intro z hz hm;rw[ab3]at hm;rcases abx.mp hm with e|hm
     ·exact a1.1 (ac0.mpr ⟨_,hz,e⟩)
     ·exact a3 z (abl _ hz) hm
   ·exact ih _ _ a1.2 a2 λz hz hm=>a3 z (abl _ hz) hm
 have h3:=h1 ns [] hn ai7 (λx _ hx=>by simp at hx);have h4:=h2 ns n _ hn h3.1 (λx hx hm=>by
  rcases h3.2 x hm with q|q
  ·simp at q
  ·have:=v5 hn hx q;injection this)
 intro x c c' m1 m2;have:∀{l:List (Str×Addr)},(l.map (·.1)).Nodup->(x,c)∈l->(x,c')∈l->c=c':=by intro l;induction l with
 |nil=>intro _ h;contradiction|cons p r ih=>
   intro hn h1 h2;rw[ab3,ad8]at hn;rcases abx.mp h1 with e1|h1<;>rcases abx.mp h2 with e2|h2
   ·rw[←e1]at e2;cases e2;rfl
   ·exact absurd (ac0.mpr ⟨_,h2,by(exact aa (ach e1) rfl)⟩) hn.1
   ·exact absurd (ac0.mpr ⟨_,h1,by(exact aa (ach e2) rfl)⟩) hn.1
   ·exact ih hn.2 h1 h2
 exact this h4 m1 m2
theorem uc{l:List (Str×Addr)}(h:∀{x c c'},(x,c)∈l->(x,c')∈l->c=c'){x:Str}{c:Addr}(hm:(x,c)∈l):l.lookup x=some c:=by induction e:l.lookup x using abt with
|none=>exact absurd (aj2.mp e _ hm) (by simp)
|some d=>(exact aa (h hm (mem_of_lookup e)) rfl)
theorem cells_apart:∀{ms:Names}{n:Nat}{acc:List (Str×Addr)}{x y:Str}{c:Addr},(∀ p,p∈acc->p.2<n)->(x,c)∈cellsFrom n ms acc->(y,c)∈cellsFrom n ms acc->c<n\/x=y:=by intro ms;induction ms with
|nil=>intro n acc x y c ha h1 h2;exact .inl (ha _ h1)
|cons p r ih=>
  obtain⟨z,k⟩:=p;intro n acc x y c ha h1 h2;unfold cellsFrom at h1 h2
  split at h1
  ·rename_i hk;rw[if_pos hk]at h2;rcases ih (λp hp=>by
    rcases abx.mp hp with rfl|hp
    ·exact aej n
    ·exact af8 (ha p hp)) h1 h2 with q|q
   ·by_cases hc:c<n
    ·exact .inl hc
    ·have l8:c=n:=Nat.le_antisymm (agu q) (aes hc);subst l8;have one:∀ w,(w,c)∈cellsFrom (c+1) r ((z,c)::acc)->w=z:=λw hw=>by
      rcases fW hw with q|⟨_,q⟩
      ·rcases abx.mp q with q|q
       ·cases q;rfl
       ·have:=ha _ q;simp at this
      ·exact absurd ‹_› ‹_›
     exact .inr ((one x h1).trans (one y h2).symm)
   ·exact .inr q
  ·rename_i hk;rw[if_neg hk]at h2;exact ih ha h1 h2
theorem Jc{s:Shared}{scope:Scope}{cy:Names}{Y4:aj}(P:Pre W fc cx g env hp s.heap)(ax:scope.kind= .function)(hc:mQ fc.nm env scope.names cy Y4)(hnd:(scope.names.map (·.1)).Nodup)
  (cw:∀ x,x∈scope.names.map (·.1)->(x==("__debug__" : Str))=false/\(x==("__classdict__" : Str))=false) :
  let cl:=bu (λn=>cx.menv.cells.lookup n) scope.names [];let cells:=cellsFrom (s.heap.objs.size+1) scope.names cl;let ll:Env:={ scope:=relabel scope cx.menv,locals:=s.heap.objs.size,globals:=cx.menv.globals,cells:=cells,qual:=cx.menv.qual,func:=none,code:=cx.menv.code,frame:=cx.menv.frame,builtins:=cx.menv.builtins };let own:=s.heap.objs.size::(cells.map (·.2)).filter (λa=>decide (s.heap.objs.size<=a))
  Pre W (inner fc scope.names cy) ⟨ll,own,cx.l,cx.A⟩ g Y4 hp (pushCells (s.heap.push { cls:= .type "dict",data:= .dict #[] }) scope.names)/\
   (∀ b o,s.heap.get? b=some o->(pushCells (s.heap.push { cls:= .type "dict",data:= .dict #[] }) scope.names).get? b=some o)/\(∀ a,a∈own->s.heap.objs.size<=a):=by
 intro cl cells ll own;have hk:∀ b o,s.heap.get? b=some o->(pushCells (s.heap.push { cls:= .type "dict",data:= .dict #[] }) scope.names).get? b=some o:=λb o e=>pushCells_keeps _ _ b o (abr _ e);have db:∀ a,a∈own->s.heap.objs.size<=a:=λa ha=>by
  rcases abx.mp ha with rfl|ha
  ·exact abm _
  ·exact of_decide_eq_true (afe.mp ha).2
 have f:=P.fm;have fresh:∀ a,s.heap.objs.size<=a->s.heap.get? a=none:=λa ha=>by induction e:s.heap.get? a using abt with
 |none=>rfl|some o=>exact absurd (ado e) (aem.mpr ha)
 have sk:∀ a,s.heap.objs.size<=a->W.B.get? a=none:=λa ha=>by induction e:W.B.get? a using abt with
 |none=>rfl|some o=>have:=P.inv.base a o e;rw[fresh a ha]at this;injection this
 have K:bU g s.heap g (pushCells (s.heap.push { cls:= .type "dict",data:= .dict #[] }) scope.names):=⟨λ_ x=>x,λa o _ e=>hk a o e,ac2⟩;have gg:∀ x,(x,aey)∈scope.names-> ∃ c,cx.menv.cells.lookup x=some c/\(x,c)∈cl/\c<s.heap.objs.size:=λx hx=>by
  refine dY (hc.outer hx) λk v vi l=> ?_;refine au (f.cl x k v l vi) λc y e hi rv=> ?_;have h1:=u6 (look:=λn=>cx.menv.cells.lookup n) (acc:=[]) (.inl hx);obtain⟨c',fe⟩:=acz.mp h1;have hm:=mem_of_lookup fe;rcases eH hm with q|⟨_,q⟩
  ·exact nomatch q
  ·refine⟨c,e,?_,hi.lt⟩;have:c'=c:=by refine aa q ?_;simp[e]
   exact this▸hm
 have one:∀{x c c'},(x,c)∈cells->(x,c')∈cells->c=c':=zf hnd;have oy:∀{ms:Names}{n:Nat}{acc:List (Str×Addr)}{p:Str×Addr},p∈acc->p∈cellsFrom n ms acc:=by intro ms;induction ms with
 |nil=>intro n acc p hp;exact hp|cons q r ih=>
   obtain⟨y,k⟩:=q;intro n acc p hp;unfold cellsFrom
   split
   ·exact ih (abl _ hp)
   ·exact ih hp
 have g6:∀ x,(x,aey)∈scope.names-> ∃ c,cx.menv.cells.lookup x=some c/\cells.lookup x=some c:=λx hx=>by refine iR (gg x hx) λc e hm _=> ?_;exact⟨c,e,uc one (oy hm)⟩
 have lk:(s.heap.push { cls:= .type "dict",data:= .dict #[] }).objs.size=s.heap.objs.size+1:=adw ..;have fx:∀ x c,(x,c)∈cells->(x,agq)∈scope.names->s.heap.objs.size<=c/\(pushCells (s.heap.push { cls:= .type "dict",data:= .dict #[] }) scope.names).IsCell c none:=λx c hm hx=>by
  have i6:(x,c)∈cellsFrom (s.heap.push { cls:= .type "dict",data:= .dict #[] }).objs.size scope.names cl:=by exact aa lk hm
  have nf:¬(x,c)∈cl:=λq=>by
   rcases eH q with q|⟨q,_⟩
   ·exact nomatch q
   ·have:=v5 hnd hx q;injection this
  refine⟨?_,(ux i6).resolve_left nf⟩;rcases fW hm with q|⟨_,q⟩
  ·exact absurd q nf
  ·exact adz q
 refine⟨⟨P.inv.ext hk,?_⟩,hk,db⟩;have nN:∀ x,ll.kindOf x=cy.lookup x:=λx=>by
  have:(relabel scope cx.menv).names=A_ fc.nm scope.names:=by unfold relabel A_;have e1:(ahr==ahr)=true:=rfl;simp only[f.kind,f.names,e1,ahk]
  refine(?_:(relabel scope cx.menv).names.lookup x=_);(refine aa this ?_;exact aa (hc.rel f.nodup) rfl)
 refine{ kind:=ax,globals:=f.globals,builtins:=f.builtins,names:=nN,nodup:=by(refine aa (show(inner fc scope.names cy).nm=cy from rfl) ?_;refine aa hc.names ?_);exact hnd,plain:=λx k hx=> .inl ?_,ns:= ?_,cl:= ?_,loc:=abq,cell:= ?_,apart:= ?_,ownF:= ?_,ownρ:= ?_,ownB:=λa ha=>sk a (db a ha),ownD:= ?_,room:=f.room,hnd:=f.hnd,frames:=f.frames,fun_:= ?_,lF:=f.lF,frame:=f.frame,head:=(λh=>nomatch h),code:=(λh=>nomatch h) }
 ·exact cw x (by exact aa (ach hc.names) (ac0.mpr ⟨_,hx,rfl⟩))
 ·refine⟨λ_=>none,(ao7 s.heap (.type "dict")).keeps (pushCells_keeps _ _),λx v l=> ?_⟩;rcases(hc.look l).2.1 with q|q<;>injection q
 ·intro x k v l _;obtain⟨hx,vi,lo⟩:=hc.look l;refine au (f.cl x k v lo vi) λc y e hi rv=> ?_;refine ak (g6 x hx) λc' e' e2=> ?_;rw[e]at e';cases e';exact⟨c,y,e2,hi.keeps hk,rv.keep K⟩
 ·intro x hx hh;have f8:=hc.own_mem hx;have h1:=cellsFrom_some (n:=s.heap.objs.size+1) (nm:=scope.names) (acc:=cl) (.inl f8);obtain⟨c,fe⟩:=acz.mp h1;have hm:=mem_of_lookup fe;obtain⟨h2,h3⟩:=fx x c hm f8;exact⟨c,none,fe,abl _ (afe.mpr ⟨ac0.mpr ⟨_,hm,rfl⟩,by exact decide_eq_true h2⟩),h3⟩
 ·
  intro x y c h1 h2;have m1:=mem_of_lookup h1;have m2:=mem_of_lookup h2;rcases cells_apart (λp hp=>by
   obtain⟨z,d⟩:=p;rcases eH hp with q|⟨q,e⟩
   ·contradiction
   ·refine iR (gg z q) λc' e1 _ bq=> ?_;refine aa e ?_;refine(?_:(cx.menv.cells.lookup z).getD 0<_);refine aa e1 ?_;refine(?_:c'<_);exact af8 bq) m1 m2 with q|q
  ·have cf:∀ z,(z,c)∈cells->(z,aey)∈scope.names/\cx.menv.cells.lookup z=some c:=λz hz=>by
    rcases fW hz with hz|⟨_,hz⟩
    ·rcases eH hz with w|⟨w,e⟩
     ·contradiction
     ·refine iR (gg z w) λc' e1 _ _=> ?_;have e:c=(cx.menv.cells.lookup z).getD 0:=e;rw[e1]at e;exact⟨w,by(refine aa e1 ?_;refine aa e ?_);rfl⟩
    ·exact absurd q (aem.mpr hz)
   exact f.apart x y c (cf x m1).2 (cf y m2).2
  ·exact q
 ·intro a ha hF;obtain⟨o,e⟩:=P.inv.fz a hF;rw[fresh a (db a ha)]at e;injection e
 ·intro a ha;exact(b8 P.inv (fresh a (db a ha))).2
 ·intro a ha;rcases abx.mp ha with rfl|ha
  ·exact⟨_,pushCells_keeps _ _ _ _ (ab4 _ rfl)⟩
  ·obtain⟨Db,ki⟩:=afe.mp ha;(refine ak (ac0.mp Db) λhV hm an=> ?_;obtain⟨x,c⟩:=hV;obtain rfl:=an);rcases fW hm with q|⟨q,_⟩
   ·rcases eH q with q|⟨q,e⟩
    ·contradiction
    ·refine iR (gg x q) λc' e1 i6 bq=> ?_;have:=one hm (oy i6);subst this;have:s.heap.objs.size<=c:=by simpa using ki
     exact absurd bq (aem.mpr this)
   ·obtain⟨_,o,ho,_⟩:=fx x c hm q;exact⟨o,ho⟩
 ·exact aV f.fun_ λa o _ e=>⟨o.slots,hk a o e⟩
end
section
theorem cF.mono(x:cF wr g s g' s')(hs:∀ b,b∈wr->b∈wr'):cF wr' g s g' s':=⟨x.F,x.Fnew,x.ρ,λb o hb e=>x.keep b o (λq=>hb (hs b q)) e,x.same⟩
theorem Loose.mono(x:Loose W wr' g YS h)(hs:∀ b,b∈wr->b∈wr'):Loose W wr g YS h:=⟨λb hb=>x.F b (hs b hb),λb hb=>x.ρ b (hs b hb),λb hb=>x.new b (hs b hb),λb hb=>x.now b (hs b hb),λb o hb e=>x.kind b o (hs b hb) e⟩
theorem cF.fm'(x:cF wr g s g' s')(l:Loose W wr g YS s.heap)(f:Fm W fc cx g env s.heap)(nw:∀ a,a∈cx.own->a∉wr)
  (nl:∀ a,a∈cx.l.filterMap (·.frame)->a∉wr):Fm W fc cx g' env s'.heap:=by
 have K:=x.keeps l;have fresh:∀ a o,s.heap.get? a=some o-> ¬g.F a-> ¬g'.F a:=λa o e hn hF=>by
  rcases x.Fnew a hF with q|⟨q,_⟩
  ·exact hn q
  ·rw[e]at q;exact nomatch q
 refine{ kind:=f.kind,globals:=f.globals,builtins:=f.builtins,names:=f.names,nodup:=f.nodup,plain:=f.plain,ns:= ?_,cl:= ?_,loc:=f.loc,cell:= ?_,apart:=f.apart,ownF:= ?_,ownρ:= ?_,ownB:=f.ownB,ownD:= ?_,room:=f.room,hnd:=f.hnd,frames:=f.frames,fun_:= ?_,lF:= ?_,frame:=f.frame,head:=f.head,code:=f.code }
 ·(refine ak f.ns λm dy hm=> ?_;obtain⟨o,es,ep,ho,r⟩:=dy);exact⟨m,⟨o,es,ep,x.keep _ o (nw _ f.loc) ho,r⟩,λy v e1=>let⟨z,e3,e4⟩:=hm y v e1;⟨z,e3,e4.keep K⟩⟩
 ·intro y k v e1 e2;(refine au (f.cl y k v e1 e2) λc z e3 ez e4=> ?_;obtain⟨o,ho,hd⟩:=ez);exact⟨c,z,e3,⟨o,x.keep c o (λhb=>l.kind c o hb ho _ hd) ho,hd⟩,e4.keep K⟩
 ·intro y e1 e2;(refine au (f.cell y e1 e2) λc v e3 e4 dn=> ?_;obtain⟨o,ho,hd⟩:=dn);exact⟨c,v,e3,e4,⟨o,x.keep c o (nw c e4) ho,hd⟩⟩
 ·intro a ha;obtain⟨o,e⟩:=f.ownD a ha;exact fresh a o e (f.ownF a ha)
 ·intro a ha;exact aa x.ρ (f.ownρ a ha)
 ·intro a ha;obtain⟨o,e⟩:=f.ownD a ha;exact⟨o,x.keep a o (nw a ha) e⟩
 ·exact aV f.fun_ λa o ha e=>⟨o.slots,x.keep a o (nl a ha) e⟩
 ·intro a ha;obtain⟨_,o,e,_⟩:=f.fun_.mem ha;exact⟨fresh a o e (f.lF a ha).1,by exact aa x.ρ ((f.lF a ha).2)⟩
theorem cF.loose'(x:cF wr g s g' s')(l:Loose W wr g YS s.heap)(hk:∀ b,b∈wr-> ∃ o,s'.heap.get? b=some o/\ ∀ v,o.data≠ .cell v):Loose W wr g' YS s'.heap:=by
 refine⟨λb hb hF=> ?_,λb hb=> ?_,l.new,λb hb=> ?_,λb o hb e=> ?_⟩
 ·rcases x.Fnew b hF with q|⟨q,_⟩
  ·exact l.F b hb q
  ·obtain⟨o,e⟩:=l.now b hb;rw[e]at q;exact nomatch q
 ·exact aa x.ρ (l.ρ b hb)
 ·refine ak (hk b hb) λo e _=> ?_;exact⟨o,e⟩
 ·refine ak (hk b hb) λo' e' hd=> ?_;rw[e]at e';cases e';exact hd
theorem Run.loose'(r:Run W fc cx g s e1 hp' g' s')(l:Loose W wr g YS s.heap)(nw:∀ a,a∈cx.own->a∉wr)
  (nl:∀ a,a∈cx.l.filterMap (·.frame)->a∉wr):(∀ b,b∈wr->s'.heap.get? b=s.heap.get? b)/\Loose W wr g' YS s'.heap:=by
 have key:∀ b,b∈wr->s'.heap.get? b=s.heap.get? b:=λb hb=>by
  obtain⟨o,e⟩:=l.now b hb;rcases r.evo.keep b o e (l.ρ b hb) (λhm=>nw b hm hb)with q|⟨q,_⟩
  ·exact q.trans e.symm
  ·exact absurd hb (nl b q)
 refine⟨key,λb hb hF=> ?_,λb hb hm=> ?_,l.new,λb hb=> ?_,λb o hb e=>l.kind b o hb ((key b hb).symm.trans e)⟩
 ·obtain⟨o,e⟩:=l.now b hb;exact fK r.evo e (l.F b hb) hF
 ·obtain⟨o,e⟩:=l.now b hb;exact evo_freshρ r.evo e (l.ρ b hb) hm
 ·obtain⟨o,e⟩:=l.now b hb;exact⟨o,(key b hb).trans e⟩
theorem jZ.inner(x:jZ cx YW YS g h)(y:jZ cx' g h g' h')(hl:cx'.l=cx.l)(ho:∀ a,a∈cx'.own->YS.get? a=none):jZ cx YW YS g' h':=by
 refine⟨λa ha=>y.F a (x.F a ha),λa ha=> ?_,x.ρ.trans y.ρ,λa ha=> ?_,λa o e=> ?_,λa o e h1 h2=> ?_⟩
 ·rcases y.Fnew a ha with q|q
  ·exact x.Fnew a q
  ·refine .inr ?_;induction e:YS.get? a using abt with
  |none=>rfl|some o=>obtain⟨o',e'⟩:=x.dom a o e;rw[q]at e';exact nomatch e'
 ·rcases y.ρnew a ha with q|q
  ·exact x.ρnew a q
  ·refine .inr ?_;induction e:YS.get? a using abt with
  |none=>rfl|some o=>obtain⟨o',e'⟩:=x.dom a o e;rw[q]at e';exact nomatch e'
 ·obtain⟨o',e'⟩:=x.dom a o e;exact y.dom a o' e'
 ·have hn:a∉cx'.own:=λhm=>by rw[ho a hm]at e;exact nomatch e
  have hr:a∉g.ρ:=λhm=>by
   rcases x.ρnew a hm with q|q
   ·exact h1 q
   ·rw[e]at q;exact nomatch q
  rcases x.keep a o e h1 h2 with q|⟨q,sl,r⟩
  ·rcases y.keep a o q hr hn with w|⟨w,sl,r⟩
   ·exact .inl w
   ·exact .inr ⟨hl▸w,sl,r⟩
  ·rcases y.keep a _ r hr hn with w|⟨w,sl',r'⟩
   ·exact .inr ⟨q,sl,w⟩
   ·exact .inr ⟨q,sl',r'⟩
theorem Fm.under(f:Fm W fc cx g env h)(I:Inv W g hp h)(x:jZ cx' g h g' h')(K:bU g h g' h')(nw:∀ a,a∈cx.own->a∉cx'.own)(nc:∀ y k v c,Look fc.nm env y k v->(k= .cell\/k= .free)->cx.menv.cells.lookup y=some c->c∉cx'.own)
  (nl:∀ a,a∈cx.l.filterMap (·.frame)->a∉cx'.own):Fm W fc cx g' env h':=by
 have sl:∀{a o},h.get? a=some o->a∉g.ρ->a∉cx'.own-> ∃ sl,h'.get? a=some { o with slots:=sl }:=λ{a o} e h1 h2=>by
  rcases x.keep a o e h1 h2 with q|⟨_,q⟩
  ·exact⟨o.slots,q⟩
  ·exact q
 refine{ kind:=f.kind,globals:=f.globals,builtins:=f.builtins,names:=f.names,nodup:=f.nodup,plain:=f.plain,ns:= ?_,cl:= ?_,loc:=f.loc,cell:= ?_,apart:=f.apart,ownF:= ?_,ownρ:= ?_,ownB:=f.ownB,ownD:= ?_,room:=f.room,hnd:=f.hnd,frames:=f.frames,fun_:= ?_,lF:= ?_,frame:=f.frame,head:=f.head,code:=f.code }
 ·refine cps λ_ c_=> ?_;(refine ak f.ns λm dy hm=> ?_;obtain⟨o,es,ep,ho,r⟩:=dy);obtain⟨sl,e⟩:=sl ho (f.ownρ _ f.loc) (nw _ f.loc);refine c_ ?_;exact⟨m,⟨_,es,ep,e,r⟩,λy v e1=>let⟨z,e3,e4⟩:=hm y v e1;⟨z,e3,e4.keep K⟩⟩
 ·intro y k v e1 e2;refine au (f.cl y k v e1 e2) λc z e3 hc e4=> ?_;obtain⟨o,ho,hd⟩:=id hc;obtain⟨sl,e⟩:=sl ho (cell_notρ I hc) (nc y k v c e1 e2 e3);exact⟨c,z,e3,⟨_,e,hd⟩,e4.keep K⟩
 ·intro y e1 e2;(refine au (f.cell y e1 e2) λc v e3 e4 dn=> ?_;obtain⟨o,ho,hd⟩:=dn);obtain⟨sl,e⟩:=sl ho (f.ownρ _ e4) (nw _ e4);exact⟨c,v,e3,e4,⟨_,e,hd⟩⟩
 ·intro a ha;obtain⟨o,e⟩:=f.ownD a ha;exact fK x e (f.ownF a ha)
 ·intro a ha;obtain⟨o,e⟩:=f.ownD a ha;exact evo_freshρ x e (f.ownρ a ha)
 ·intro a ha;obtain⟨o,e⟩:=f.ownD a ha;obtain⟨sl,e'⟩:=sl e (f.ownρ a ha) (nw a ha);exact⟨_,e'⟩
 ·exact aV f.fun_ λa o ha e=>sl e (f.lF a ha).2 (nl a ha)
 ·intro a ha;obtain⟨_,o,e,_⟩:=f.fun_.mem ha;exact⟨fK x e (f.lF a ha).1,evo_freshρ x e (f.lF a ha).2⟩
theorem Pre.freeze_old{s₀:Shared}(P:Pre W fc cx g env hp h)(L:Loose W [D] g s₀.heap h)(hB:∀ b o,W.B.get? b=some o->s₀.heap.get? b=some o)(h0:∀ a,a∈cx.own->a≠D)(h1:∀ a,a∈cx.l.filterMap (·.frame)->a≠D)
  (ev:jZ cx YW s₀.heap g h):Pre W fc cx (g.freeze D) env hp h/\jZ cx YW s₀.heap (g.freeze D) h/\bU g h (g.freeze D) h:=by
 have I:=P.inv;have f:=P.fm;have hD:=ab5 D;have K:bU g h (g.freeze D) h:=⟨λa x=> .inl x,λa o _ e=>e,ac2⟩;have B7:W.B.get? D=none:=by induction e:W.B.get? D using abt with
 |none=>rfl|some o=>have:=hB D o e;rw[L.new D hD]at this;exact nomatch this
 refine⟨⟨⟨I.base,I.len,λi o a e1 e2=>(I.obs i o a e1 e2).keep K rfl,I.ρB,λa ha hF=> ?_,I.nd,λa ha=> ?_,I.sys.1,λhF=> ?_⟩,?_⟩,⟨λa x=> .inl (ev.F a x),λa x=> ?_,ev.ρ,ev.ρnew,ev.dom,ev.keep⟩,K⟩
 ·rcases hF with q|q
  ·exact I.ρF a ha q
  ·subst q;exact L.ρ a hD ha
 ·rcases ha with q|q
  ·exact I.fz a q
  ·subst q;exact L.now a hD
 ·rcases hF with q|q
  ·exact I.sys.2 q
  ·obtain⟨o,e⟩:=I.sys.1;rw[q,B7]at e;exact nomatch e
 ·refine{ f with ns:= ?_,cl:= ?_,ownF:= ?_,lF:= ?_ }
  ·refine ak f.ns λm hn hm=> ?_;exact⟨m,hn,λy v e1=>let⟨z,e3,e4⟩:=hm y v e1;⟨z,e3,e4.keep K⟩⟩
  ·intro y k v e1 e2;refine au (f.cl y k v e1 e2) λc z e3 hc e4=> ?_;exact⟨c,z,e3,hc,e4.keep K⟩
  ·intro a ha hF;rcases hF with q|q
   ·exact f.ownF a ha q
   ·exact h0 a ha q
  ·intro a ha;refine⟨λhF=> ?_,(f.lF a ha).2⟩;rcases hF with q|q
   ·exact(f.lF a ha).1 q
   ·exact h1 a ha q
 ·rcases x with q|q
  ·exact ev.Fnew a q
  ·subst q;exact .inr (L.new a hD)
inductive Tu(W:Wd)(fc:FC)(env:aj)(hp:List Ob):List Expr->Bool->List Ob->Prop
|nil:Tu W fc env hp [] true hp
|one {c:Expr} {b:Bool} {hp':List Ob}:g8 W fc env hp c b hp'->Tu W fc env hp [c] b hp'
theorem Tu.run(c:Tu W fc env hp c9 b hp')(P:Pre W fc cx g env hp s.heap)(t0:0<s.toks)
  (hQ:∀ g' s',Run W fc cx g s env hp' g' s'->Q b s') :
  wpAny (model W.prog W.w) cx.A (forIn c9 true λc r=>if r=true then do let ok ←isTrue c cx.menv (eval c cx.menv);pure (agm ok)else pure (agm r)) Q E s:=by
 cases c with
|nil=>exact wpAny_tests_nil (hQ g s (.refl P))
|one h1=>exact wpAny_tests_one (h1.go cx g s _ E P t0 λg' s' r=>hQ g' s' r)
class inductive bW(W:Wd)(fc:FC)(ok:List Ob->Prop)(ac:Expr)(c9:List Expr)(elt:Expr):aj->List Ob->List V->List V->List Ob->Prop
|nil {e:aj} {q:List Ob}:bW W fc ok ac c9 elt e q [] [] q
|take {e YB:aj} {q YD YG Za q':List Ob} {v u:V} {vs us:List V}:gW W fc e q ac v YB YD->Tu W fc YB YD c9 true YG->Ev W fc YB YG elt u Za->ok Za->bW W fc ok ac c9 elt YB Za vs us q'->bW W fc ok ac c9 elt e q (v::vs) (u::us) q'
|skip {e YB:aj} {q YD YG q':List Ob} {v:V} {vs us:List V}:gW W fc e q ac v YB YD->Tu W fc YB YD c9 false YG->ok YG->bW W fc ok ac c9 elt YB YG vs us q'->bW W fc ok ac c9 elt e q (v::vs) us q'
|less {e e':aj} {q q':List Ob} {vs us:List V}:bh e' e->bW W fc ok ac c9 elt e' q vs us q'->bW W fc ok ac c9 elt e q vs us q'
theorem kJ(I:Nat->Shared->Prop)
  (d':∀ n s,I n s->wpAny (model prog w) A (pyNext it) (λr s₁=>match r with
  |none=>R (.ok .next) s₁|some v=>wpAny (model prog w) A (letOwnedTupleGo ac it v) (λ_ Zz=>wpAny (model prog w) A (assign ac env v) (λ_ Yv=>
     wpAny (model prog w) A (forIn c9 true λc r=>if r=true then do let ok ←isTrue c env (eval c env);pure (agm ok)else pure (agm r)) (λok s₃=>
      if ok=true then wpAny (model prog w) A (eval elt env) (λx Zg=>
       wpAny (model prog w) A (call (.builtin "list.append") [acc,x]) (λ_ ZQ=> ∃ m,m<n/\I m ZQ) (notedBy (model prog w) A env λe s'=>R (.error e) s') Zg) (notedBy (model prog w) A env λe s'=>R (.error e) s') s₃
      else ∃ m,m<n/\I m s₃) (notedBy (model prog w) A env λe s'=>R (.error e) s') Yv) (notedBy (model prog w) A env λe s'=>R (.error e) s') Zz) (notedBy (model prog w) A env λe s'=>R (.error e) s') s₁) (notedBy (model prog w) A env λe s'=>R (.error e) s') s)
  (n:Nat) (h:I n s):codeAny (model prog w) A (.compLoop (.ListComp elt [⟨ac,iter,c9,0⟩] scope pos) 0 it acc env) R s:=by
 refine codeAny_loop rfl I (λn s hI=> ?_) n h;refine(?_:wpAny _ A ((compTurn (.ListComp elt [⟨ac,iter,c9,0⟩] scope pos) 0 it acc env).onRaise (λx=>do noteFrame x env;theTreesLotGoes x)) _ _ s);refine wpAny_noted ?_;rw[compTurn_list];refine wpAny_bind (wpAny_standAt (wpAny_bind (wpAny_mono (d' n s hI) (λr s₁ YF=> ?_) λ_ _ h'=>h')));induction r using abt with
|none=>exact wpAny_pure YF
|some v=>refine wpAny_bind (wpAny_mono YF (λ_ Zz Z1=> ?_) λ_ _ h'=>h');refine wpAny_bind (wpAny_mono Z1 (λ_ Yv YK=>wpAny_bind (wpAny_mono YK (λok s₃ YT=> ?_) λ_ _ h'=>h')) λ_ _ h'=>h');induction ok using aco with
 |false=>exact wpAny_pure ⟨rfl,YT⟩|true=>exact wpAny_bind (wpAny_bind (wpAny_mono YT (λx Zg xI=>wpAny_bind (wpAny_mono xI (λ_ ZQ Z7=>wpAny_pure (wpAny_pure ⟨rfl,Z7⟩)) λ_ _ h'=>h')) λ_ _ h'=>h'))
end
section
structure uR(W:Wd)(fc fi:FC)(cx ci:Cx)(YW:Gh)(s₀:Shared)(wr:List Addr)(D:Addr)(env e:aj)(hp:List Ob)(g:Gh)(s:Shared):Prop where
 evo:jZ cx YW s₀.heap g s.heap
 out:Pre W fc cx g env hp s.heap
 inn:Pre W fi ci g e hp s.heap
 same:j_ s₀ s
 L:Loose W (D::wr) g s₀.heap s.heap
structure Qj(fc:FC)(env:aj)(cx ci:Cx)(YS:Heap)(wr:List Addr)(D:Addr):Prop where
 l:ci.l=cx.l
 A:ci.A=cx.A
 own:∀ a,a∈ci.own->YS.get? a=none
 apart:∀ a,a∈ci.own->a∉D::wr
 cells:∀ y k v c,Look fc.nm env y k v->(k= .cell\/k= .free)->cx.menv.cells.lookup y=some c->c∉ci.own
 Dwr:D∉wr
theorem uR.side{fi:FC}{ci:Cx}{YW:Gh}{s₀ s s':Shared}{wr sub:List Addr}{D:Addr}{e:aj}(x:uR W fc fi cx ci YW s₀ wr D env e hp g s)(n:Qj fc env cx ci s₀.heap wr D)(sd:cF sub g s g' s')(hs:∀ b,b∈sub->b∈D::wr)
  (hB:∀ b o,W.B.get? b=some o->s₀.heap.get? b=some o) (h0:∀ a,a∈cx.own-> ∃ o,s₀.heap.get? a=some o) (h1:∀ a,a∈cx.l.filterMap (·.frame)-> ∃ o,s₀.heap.get? a=some o)
  (hk:∀ b,b∈D::wr-> ∃ o,s'.heap.get? b=some o/\ ∀ v,o.data≠ .cell v):uR W fc fi cx ci YW s₀ wr D env e hp g' s':=by
 have rS:=sd.mono hs;have I:=rS.inv x.L x.out.inv hB;have nl:∀ a,a∈cx.l.filterMap (·.frame)->a∉D::wr:=λa ha hb=>by obtain⟨o,e⟩:=h1 a ha;rw[x.L.new a hb]at e;exact nomatch e
 exact⟨rS.evo x.L x.evo,⟨I,rS.fm x.L x.out.fm h0 h1⟩,⟨I,rS.fm' x.L x.inn.fm n.apart (by exact aa n.l nl)⟩,x.same.trans sd.same,rS.loose' x.L hk⟩
theorem uR.run(x:uR W fc fi cx ci YW s₀ wr D env e hp g s)(n:Qj fc env cx ci s₀.heap wr D)(r:Run W fi ci g s e' hp' g' s')
  (h0:∀ a,a∈cx.own-> ∃ o,s₀.heap.get? a=some o) (h1:∀ a,a∈cx.l.filterMap (·.frame)-> ∃ o,s₀.heap.get? a=some o) :
  uR W fc fi cx ci YW s₀ wr D env e' hp' g' s'/\(∀ b,b∈D::wr->s'.heap.get? b=s.heap.get? b)/\bU g s.heap g' s'.heap:=by
 have nl:∀ a,a∈cx.l.filterMap (·.frame)->a∉D::wr:=λa ha hb=>by obtain⟨o,e⟩:=h1 a ha;rw[x.L.new a hb]at e;exact nomatch e
 obtain⟨kp,L'⟩:=r.loose' x.L n.apart (by exact aa n.l nl);have K:=r.keep x.inn;refine⟨⟨x.evo.inner r.evo n.l n.own,⟨r.pre.inv,x.out.fm.under x.out.inv r.evo K (λa ha hm=> ?_) n.cells (λa ha hm=> ?_)⟩,r.pre,x.same.trans r.same,L'⟩,kp,K⟩
 ·obtain⟨o,e⟩:=h0 a ha;rw[n.own a hm]at e;exact nomatch e
 ·obtain⟨o,e⟩:=h1 a ha;rw[n.own a hm]at e;exact nomatch e
theorem bW.on{W:Wd}{fc:FC}{G:Prop}{ok:List Ob->Prop}{ac elt:Expr}{c9:List Expr}{e:aj}{q q':List Ob}{vs us:List V}(l:bW W fc ok ac c9 elt e q vs us q')
  (h0:∀ e',bh e' e->vs=[]->us=[]->q'=q->G)
  (h1:∀ e',bh e' e-> ∀ v u ws ts YB YD YG Za,vs=v::ws->us=u::ts->gW W fc e' q ac v YB YD->Tu W fc YB YD c9 true YG->Ev W fc YB YG elt u Za->ok Za->bW W fc ok ac c9 elt YB Za ws ts q'->G)
  (h2:∀ e',bh e' e-> ∀ v ws YB YD YG,vs=v::ws->gW W fc e' q ac v YB YD->Tu W fc YB YD c9 false YG->ok YG->bW W fc ok ac c9 elt YB YG ws us q'->G):G:=by
 induction l with
|nil=>exact h0 _ (.refl _) rfl rfl rfl
|take a b c d f=>exact h1 _ (.refl _) _ _ _ _ _ _ _ _ rfl rfl a b c d f
|skip a b c d=>exact h2 _ (.refl _) _ _ _ _ _ rfl a b c d
|less x _ ih=>exact ih (λe' l=>h0 e' (l.trans x)) (λe' l=>h1 e' (l.trans x)) (λe' l=>h2 e' (l.trans x))
structure yx(W:Wd)(fc:FC)(cx ci:Cx)(env:aj)(s:Shared)(wr:List Addr)(D it:Addr)(ok:List Ob->Prop)(tup:Bool)(vs:List V)(St:Nat->Gh->Heap->Prop):Prop where
 nest:Qj fc env cx ci s.heap wr D
 hw:Walk W cx.A it wr ok tup vs St
 h0:∀ a,a∈cx.own-> ∃ o,s.heap.get? a=some o
 h1:∀ a,a∈cx.l.filterMap (·.frame)-> ∃ o,s.heap.get? a=some o
 hB:∀ b o,W.B.get? b=some o->s.heap.get? b=some o
 t0:0<s.toks
 hC:ci.menv.locals∈ci.own
 D0:s.heap.get? D=none
structure J7(D:Addr)(R:Gh->Shared->Prop):Prop where
 keep:∀{g s g' s'},R g s->bU g s.heap g' s'.heap->s'.heap.get? D=s.heap.get? D->R g' s'
 obj:∀{g s},R g s-> ∃ o,s.heap.get? D=some o/\ ∀ v,o.data≠ .cell v
structure Mid(W:Wd)(fc fi:FC)(cx ci:Cx)(YW:Gh)(s₀:Shared)(wr:List Addr)(D:Addr)(env:aj)(St:Nat->Gh->Heap->Prop)(R:Gh->Shared->Prop)(j:Nat)(e:aj)(hp:List Ob)(g:Gh)(s:Shared):Prop where
 am:uR W fc fi cx ci YW s₀ wr D env e hp g s
 st:St j g s.heap
 r:R g s
section
variable{fi:FC}{ci:Cx}{YW:Gh}{s₀:Shared}{wr:List Addr}{D it:Addr}{ok:List Ob->Prop}{tup:Bool}{vs:List V}{St:Nat->Gh->Heap->Prop}{R:Gh->Shared->Prop}{j:Nat}{e e':aj}{s s':Shared}
theorem mG(O:yx W fc cx ci env s₀ wr D it ok tup vs St)(H:J7 D R)(m:Mid W fc fi cx ci YW s₀ wr D env St R j e hp g s)(r:Run W fi ci g s e' hp' g' s') :
  Mid W fc fi cx ci YW s₀ wr D env St R j e' hp' g' s'/\bU g s.heap g' s'.heap:=
 bK (m.am.run O.nest r O.h0 O.h1) λam kp K=>⟨⟨am,O.hw.stay m.st K λb hb=>kp b (abl _ hb),H.keep m.r K (kp D abq)⟩,K⟩
theorem G6{Yv:Shared}(h:Yv.heap.get? D=some o/\ ∀ v,o.data≠ .cell v)(f:∀ b,b∈wr-> ∃ o fs,Yv.heap.get? b=some o/\o.data= .fields fs):∀ b,b∈D::wr-> ∃ o,Yv.heap.get? b=some o/\ ∀ v,o.data≠ .cell v:=λb hb=>
 (abx.mp hb).elim (λq=>⟨o,q▸h.1,h.2⟩) λhb=>dY (f b hb) λo fs e hd=>⟨o,e,λv q=>nomatch hd.symm.trans q⟩
theorem ul{ac:Expr}{v:V}{YD:List Ob}{YB e₂:aj}{β:Type}{T:Sem β}{Q':β->Shared->Prop}{Y7 Zd E₃ ZC:Value->Shared->Prop}(O:yx W fc cx ci env s₀ wr D it ok tup vs St)(H:J7 D R)(ht:gD tup ac=true)(m:Mid W fc fi cx ci YW s₀ wr D env St R j e hp g s)(aT:ok hp)
  (le:bh YB e) (hv:vs[j]? =some v) (ha:gW W fi YB hp ac v e₂ YD) (k:∀ Yy Yv,Mid W fc fi cx ci YW s₀ wr D env St R (j+1) e₂ YD Yy Yv->wpAny (model W.prog W.w) cx.A T Q' Y7 Yv) :
  wpAny (model W.prog W.w) cx.A (pyNext (.ref it)) (λx s₁=> ∃ y,x=some y/\wpAny (model W.prog W.w) cx.A (letOwnedTupleGo ac (.ref it) y) (λ_ Yv=>wpAny (model W.prog W.w) cx.A (assign ac ci.menv y) (λ_ s₃=>wpAny (model W.prog W.w) cx.A T Q' Y7 s₃) Zd Yv) E₃ s₁) ZC s:=by
 have LW:Loose W wr g s₀.heap s.heap:=m.am.L.mono λb hb=>abl _ hb;refine O.hw.item ht hv m.am.out.inv aT LW m.st λYy Yv y sd YX rv=> ?_;refine ak (H.obj m.r) λo eD hd=> ?_;have nv:=sd.keep D o O.nest.Dwr eD;have K:=sd.keeps LW;have Y8:Mid W fc fi cx ci YW s₀ wr D env St R (j+1) e hp Yy Yv:=⟨m.am.side O.nest sd (λb hb=>abl _ hb) O.hB O.h0 O.h1 (G6 ⟨nv,hd⟩ (O.hw.flds YX)),YX,H.keep m.r K (nv.trans eD.symm)⟩;refine aa (ach O.nest.A) ?_;refine ha.go ci Yy Yv y _ _ (Y8.am.inn.weaken le) (aby O.t0 Y8.am.same.tk) rv λYM s₃ YH=> ?_;exact aa O.nest.A (k YM s₃ (mG O H ⟨⟨Y8.am.evo,Y8.am.out,Y8.am.inn.weaken le,Y8.am.same,Y8.am.L⟩,YX,Y8.r⟩ YH).1)
theorem v_{h':Heap}{t:Nat}{o:Obj}(O:yx W fc cx ci env s₀ wr D it ok tup vs St)(m:Mid W fc fi cx ci YW s₀ wr D env St R j e hp g s)(hs:ahv D s.heap h')(hn:s.toks<=t)(ho:h'.get? D=some o/\ ∀ v,o.data≠ .cell v) :
  uR W fc fi cx ci YW s₀ wr D env e hp g { s with heap:=h',toks:=t }/\St j g h'/\bU g s.heap g h':=by
 have sd:cF [D] g s g { s with heap:=h',toks:=t }:=cF.extBut (hn:=hn) (ab5 D) hs;have sub:∀ b,b∈[D]->b∈D::wr:=λb hb=>ace.mp hb▸abq;have K:=sd.keeps (m.am.L.mono sub);have ew:∀ b,b∈wr->h'.get? b=s.heap.get? b:=λb hb=>aD (m.am.L.now b (abl _ hb)) λo e=>(hs b o (λq=>O.nest.Dwr (q▸hb)) e).trans e.symm;exact⟨m.am.side O.nest sd sub O.hB O.h0 O.h1 (G6 ho λb hb=>dY (O.hw.flds m.st b hb) λo fs e hd=>⟨o,fs,(ew b hb).trans e,hd⟩),O.hw.stay m.st K ew,K⟩
theorem Ad{Q:Option Value->Shared->Prop}{E:Value->Shared->Prop}(O:yx W fc cx ci env s₀ wr D it ok tup vs St)(H:J7 D R)(m:Mid W fc fi cx ci YW s₀ wr D env St R vs.length e hp g s)(aT:ok hp)
  (k:∀ Yy Yv,Run W fc cx YW s₀ env hp Yy Yv->Loose W [ci.menv.locals] Yy s₀.heap Yv.heap->(∃ m,Yv.heap.Ns ci.menv.locals m)->Yy.F D->R Yy Yv->Q none Yv):wpAny (model W.prog W.w) cx.A (pyNext (.ref it)) Q E s:=by
 have LW:Loose W wr g s₀.heap s.heap:=m.am.L.mono λb hb=>abl _ hb;refine O.hw.done m.am.out.inv aT LW m.st λYy Yv sd=> ?_;refine ak (H.obj m.r) λoD eD pp=> ?_;have nv:=sd.keep D oD O.nest.Dwr eD;have nl:∀ a,a∈cx.l.filterMap (·.frame)->a∉wr:=λa ha hb=>aD (O.h1 a ha) λo e=>Qg ((LW.new a hb).symm.trans e);have Po:Pre W fc cx Yy env hp Yv.heap:=⟨sd.inv LW m.am.out.inv O.hB,sd.fm LW m.am.out.fm O.h0 O.h1⟩;have Pn:Fm W fi ci Yy e Yv.heap:=sd.fm' LW m.am.inn.fm (λa ha hm=>O.nest.apart a ha (abl _ hm)) (by exact aa O.nest.l nl);have LD:Loose W [D] Yy s₀.heap Yv.heap:=by have l0:Loose W [D] g s₀.heap s.heap:=m.am.L.mono λb hb=>ace.mp hb▸abq;refine⟨λb hb hF=>(sd.Fnew b hF).elim (l0.F b hb) λq=>aD (l0.now b hb) λo e=>Qg (q.1.symm.trans e),λb hb=>by exact aa sd.ρ (l0.ρ b hb),l0.new,λb hb=>⟨_,ace.mp hb▸nv⟩,λb o hb e=> ?_⟩;have e1:some oD=some o:=nv.symm.trans (ace.mp hb▸e);exact acn e1▸pp
 refine bK (Po.freeze_old LD O.hB (λa ha q=>aD (O.h0 a ha) λo e=>Qg (O.D0.symm.trans (q▸e))) (λa ha q=>aD (O.h1 a ha) λo e=>Qg (O.D0.symm.trans (q▸e))) (sd.evo LW m.am.evo)) λPf BN Kf=> ?_;have B6:ci.menv.locals≠D:=λq=>O.nest.apart _ O.hC (by exact aa q abq);refine ak Pn.ns λmm hn _=> ?_;refine k _ Yv ⟨BN,Pf,m.am.same.trans sd.same⟩ ⟨λb hb hF=> ?_,λb hb=> ?_,λb hb=> ?_,λb hb=> ?_,λb o hb e=> ?_⟩ ⟨mm,hn⟩ (.inr rfl) (H.keep (H.keep m.r (sd.keeps LW) (nv.trans eD.symm)) Kf rfl)<;>have hb:=ace.mp hb
 ·exact hF.elim (hb▸Pn.ownF _ O.hC) λq=>B6 (hb▸q)
 ·exact hb▸Pn.ownρ _ O.hC
 ·exact hb▸O.nest.own _ O.hC
 ·exact hb▸Pn.ownD _ O.hC
 ·obtain⟨o',es,ep,ca,bE,_⟩:=hn;have e1:some o'=some o:=ca.symm.trans (hb▸e);exact acn e1▸λv q=>nomatch bE.symm.trans q
end
theorem pJ{vs ws:List V}{j:Nat}{v:V}(hd:vs.drop j=v::ws):vs[j]? =some v/\vs.drop (j+1)=ws:=
 ⟨af2.symm.trans (congrArg akc hd),agj.symm.trans (congrArg ai3 hd)⟩
theorem tD
  (pj:clausesOf comp=[⟨ac,iter,c9,0⟩]) (bn:∀{Q:Value->Shared->Prop}{E:Value->Shared->Prop}{s:Shared},Q (.ref s.heap.objs.size) { s with heap:=s.heap.push oN }->wpAny (model W.prog W.w) cx.A acc Q E s) (fA:oN.isFreed=false) (qo:∀ v,oN.data≠ .cell v)
  (hq:fc.q=true) (aS:Src W fc env hp iter hp₁ ok tup vs) (ax:scope.kind= .function) (hc:mQ fc.nm env scope.names cy Y4) (hnd:(scope.names.map (·.1)).Nodup)
  (cw:∀ x,x∈scope.names.map (·.1)->(x==("__debug__" : Str))=false/\(x==("__classdict__" : Str))=false) (hs:∀ m x,foldedSetIterable iter m x=pure x)
 (P:Pre W fc cx g env hp s.heap) (t0:0<s.toks)
  (k:∀ ci it wr St Yx s₃ D,yx W fc cx ci env s wr D it ok tup vs St->uR W fc (inner fc scope.names cy) cx ci g s wr D env Y4 hp₁ Yx s₃->St 0 Yx s₃.heap->s₃.heap.get? D=some oN->
   codeAny (model W.prog W.w) cx.A (.compStart comp 0 (.ref it) (.ref D) ci.menv) (compPost (model W.prog W.w) cx.A E use Q (.ref D) ci.menv.locals) s₃) :
  wpAny (model W.prog W.w) cx.A (comprehension comp scope cx.menv abh acc false (eval iter cx.menv) use) Q E s:=by
 have hh:=P.fm.hnd hq;have h0:∀ a,a∈cx.own-> ∃ o,s.heap.get? a=some o:=P.fm.ownD;have h1:∀ a,a∈cx.l.filterMap (·.frame)-> ∃ o,s.heap.get? a=some o:=λa ha=>by obtain⟨_,o,e,_⟩:=P.fm.fun_.mem ha;exact⟨o,e⟩
 have hB:=P.inv.base;refine wpAny_comprehension_free pj (hs cx.menv) (j0 λn hn=> ?_) ax (λx hx D8=> ?_) ?_
 ·refine dY (hc.outer hn) λk v hk l=> ?_;refine dY (P.fm.cl n k v l hk) λc y e _=> ?_;exact⟨c,e⟩
 ·obtain⟨n,k⟩:=x;subst D8;exact fY hnd hx
 refine aS.go cx g s _ E hh P t0 λit wr St Yx s₁ Yw hw er hL=> ?_;let D:=s₁.heap.objs.size;refine bn ?_;have B9:=ab4 s₁.heap (o:=oN) fA;have fS:∀ b o,s₁.heap.get? b=some o->(s₁.heap.push oN).get? b=some o:=λb o e=>abr _ e;have Yz:Run W fc cx g s env hp₁ Yx { s₁ with heap:=s₁.heap.push oN }:=Yw.trans ⟨(Yw.pre.ext fS).2,(Yw.pre.ext fS).1,⟨rfl,id,abm _⟩⟩;have ny:s₁.heap.get? D=none:=aK;have y0:s.heap.get? D=none:=by induction e:s.heap.get? D using abt with
 |none=>rfl|some o=>obtain⟨o',e'⟩:=Yw.evo.dom D o e;rw[ny]at e';exact nomatch e'
 have tJ:D∉wr:=λhm=>by obtain⟨o,e⟩:=hL.now D hm;rw[ny]at e;exact nomatch e
 generalize kD:({ s₁ with heap:=s₁.heap.push oN }:Shared)=Yv at Yz;have lS:Yv.heap.get? D=some oN:=by exact aa (ach kD) B9
 have xh:∀ b,b∈wr->Yv.heap.get? b=s₁.heap.get? b:=λb hb=>by refine aD (hL.now b hb) λo e=> ?_;(refine aa e ?_;refine aa (ach kD) ?_);exact fS b o e
 have C5:=Jc (fc:=fc) (cx:=cx) (s:=Yv) Yz.pre ax hc hnd cw;refine Ea ?_;refine bK C5 λPi pE db=> ?_;generalize sz:({ Yv with heap:=pushCells (Yv.heap.push { cls:= .type "dict",data:= .dict #[] }) scope.names }:Shared)=s₃ at *;have wE:s₃.heap=pushCells (Yv.heap.push { cls:= .type "dict",data:= .dict #[] }) scope.names:=by(exact aa (ach sz) rfl)
 rw[←wE]at Pi pE;let C:=Yv.heap.objs.size;obtain⟨ci,hci⟩:∃ ci:Cx,ci=⟨{ scope:=relabel scope cx.menv,locals:=Yv.heap.objs.size,globals:=cx.menv.globals,cells:=cellsFrom (Yv.heap.objs.size+1) scope.names (bu (λn=>cx.menv.cells.lookup n) scope.names []),qual:=cx.menv.qual,func:=none,code:=cx.menv.code,frame:=cx.menv.frame,builtins:=cx.menv.builtins },Yv.heap.objs.size::((cellsFrom (Yv.heap.objs.size+1) scope.names (bu (λn=>cx.menv.cells.lookup n) scope.names [])).map (·.2)).filter (λa=>decide (Yv.heap.objs.size<=a)),cx.l,cx.A⟩:=⟨_,rfl⟩;rw[←hci]at Pi;have ix:ci.menv={ scope:=relabel scope cx.menv,locals:=Yv.heap.objs.size,globals:=cx.menv.globals,cells:=cellsFrom (Yv.heap.objs.size+1) scope.names (bu (λn=>cx.menv.cells.lookup n) scope.names []),qual:=cx.menv.qual,func:=none,code:=cx.menv.code,frame:=cx.menv.frame,builtins:=cx.menv.builtins }:=by(exact aa hci rfl)
 have qs:∀ a,a∈ci.own->Yv.heap.objs.size<=a:=by exact aa hci db
 have e7:∀ a,a∈ci.own->Yv.heap.get? a=none:=λa ha=>by induction e:Yv.heap.get? a using abt with
 |none=>rfl|some o=>exact absurd (ado e) (aem.mpr (qs a ha))
 have YH:Run W fc cx g s env hp₁ Yx s₃:=Yz.trans ⟨(Yz.pre.ext pE).2,(Yz.pre.ext pE).1,⟨by(exact aa (ach sz) rfl),by exact aa (ach sz) id,by exact aa (ach sz) (abm _)⟩⟩;have gv:∀ b o,s₁.heap.get? b=some o->s₃.heap.get? b=some o:=λb o e=>pE b o (by exact aa (ach kD) (fS b o e));have fF:s₃.heap.get? D=some oN:=pE _ _ lS;have nest:Qj fc env cx ci s.heap wr D:=by
  refine⟨by(exact aa hci rfl),by(exact aa hci rfl),λa ha=> ?_,λa ha hm=> ?_,λy k v c l hk hz hm=> ?_,tJ⟩
  ·induction e:s.heap.get? a using abt with
  |none=>rfl|some o=>obtain⟨o',e'⟩:=Yz.evo.dom a o e;rw[e7 a ha]at e';exact nomatch e'
  ·rcases abx.mp hm with rfl|hm
   ·rw[e7 _ ha]at lS;exact nomatch lS
   ·refine aD (hL.now a hm) λo e=> ?_;have:=xh a hm;rw[e7 a ha,e]at this;exact nomatch this
  ·(refine au (P.fm.cl y k v l hk) λc' z e3 ez _=> ?_;obtain⟨o,ho,_⟩:=ez);rw[hz]at e3;cases e3;refine aD (Yz.evo.dom c o ho) λo' e'=> ?_;rw[e7 c hm]at e';exact nomatch e'
 have L3:Loose W (D::wr) Yx s.heap s₃.heap:=by
  refine⟨λb hb=> ?_,λb hb=> ?_,λb hb=> ?_,λb hb=> ?_,λb o hb e=> ?_⟩
  ·rcases abx.mp hb with rfl|hb
   ·exact(b8 Yw.pre.inv ny).1
   ·exact hL.F b hb
  ·rcases abx.mp hb with rfl|hb
   ·exact(b8 Yw.pre.inv ny).2
   ·exact hL.ρ b hb
  ·rcases abx.mp hb with rfl|hb
   ·exact y0
   ·exact hL.new b hb
  ·rcases abx.mp hb with rfl|hb
   ·exact⟨_,fF⟩
   ·obtain⟨o,e⟩:=hL.now b hb;exact⟨o,gv b o e⟩
  ·rcases abx.mp hb with rfl|hb
   ·rw[fF]at e;cases e;exact qo
   ·refine aD (hL.now b hb) λo' e'=> ?_;have:=gv b o' e';rw[e]at this;cases this;exact hL.kind b _ hb e'
 have am:uR W fc (inner fc scope.names cy) cx ci g s wr D env Y4 hp₁ Yx s₃:=⟨YH.evo,YH.pre,Pi,YH.same,L3⟩;have f4:St 0 Yx s₃.heap:=hw.stay er ⟨λ_ x=>x,λa o _ e=>gv a o e,ac2⟩ λb hb=>by obtain⟨o,e⟩:=hL.now b hb;exact aa e (gv b o e)
 have hC:ci.menv.locals∈ci.own:=by exact aa hci abq
 have e:=k ci it wr St Yx s₃ D ⟨nest,hw,h0,h1,hB,t0,hC,y0⟩ am f4 fF;rw[ix]at e;exact e
theorem vN
  (hq:fc.q=true) (aS:Src W fc env hp iter hp₁ ok tup vs) (aT:ok hp₁) (ax:scope.kind= .function) (hc:mQ fc.nm env scope.names cy Y4) (hnd:(scope.names.map (·.1)).Nodup)
  (cw:∀ x,x∈scope.names.map (·.1)->(x==("__debug__" : Str))=false/\(x==("__classdict__" : Str))=false)
  (hl:bW W (inner fc scope.names cy) ok ac c9 elt Y4 hp₁ vs us hp') (ar:vs.length<=16777216) (ht:gD tup ac=true) (hs:∀ m x,foldedSetIterable iter m x=pure x)
 (P:Pre W fc cx g env hp s.heap) (t0:0<s.toks)
  (hQ:∀ C D g' s',Run W fc cx g s env hp' g' s'->RV W g' s'.heap (.lst us) (.ref D)->Loose W [C] g' s.heap s'.heap->(∃ m,s'.heap.Ns C m)->compPost (model W.prog W.w) cx.A E use Q (.ref D) C (.ok .next) s') :
  wpAny (model W.prog W.w) cx.A (comprehension (.ListComp elt [⟨ac,iter,c9,0⟩] scope pos) scope cx.menv (firstIterPos [⟨ac,iter,c9,0⟩] pos) (newList []) false (firstIter [⟨ac,iter,c9,0⟩] cx.menv) use) Q E s:=by
 refine tD (oN:={ cls:= .type "list",dict:=none,data:= .seq #[] }) rfl (λh=>wpAny_newList h) rfl (λv q=>nomatch q) hq aS ax hc hnd cw hs P t0 λci it wr St Yx s₃ D O am f4 fF=> ?_;have dQ:∀{acc:List V}{ys:List Value},J7 D λg s=>s.heap.PlainList D ys.toArray/\aQ W g s.heap acc ys:=⟨λr K e=>⟨aD r.1 λm q=>⟨m,e.trans q⟩,r.2.keep K⟩,λr=>aD r.1 λm q=>⟨_,q,λv q=>nomatch q⟩⟩;have loop:codeAny (model W.prog W.w) cx.A (.compLoop (.ListComp elt [⟨ac,iter,c9,0⟩] scope pos) 0 (.ref it) (.ref D) ci.menv) (compPost (model W.prog W.w) cx.A E use Q (.ref D) ci.menv.locals) s₃:=by
  refine kJ (λn s'=> ∀ G:Prop,(∀(e':aj)(YC:List Ob)(g':Gh)(ws ts acc:List V)(ys:List Value)(j:Nat),n=ws.length+1->j+ws.length=vs.length->vs.drop j=ws->acc++ts=us->acc.length<=j->
   bW W (inner fc scope.names cy) ok ac c9 elt e' YC ws ts hp'->ok YC->Mid W fc (inner fc scope.names cy) cx ci g s wr D env St (λg s=>s.heap.PlainList D ys.toArray/\aQ W g s.heap acc ys) j e' YC g' s'->G)->G) ?_ (vs.length+1)
   λ_ k=>k Y4 hp₁ Yx vs us [] [] 0 rfl (ae7 vs.length) (by rfl) rfl (ac4 _) hl aT ⟨am,f4,⟨0,fF⟩,rfl⟩
  refine λn s' hI=>hI _ λe' YC g' ws ts acc ys j hn hj hd cq nI cc dr m=> ?_;refine cc.on (λYB le hu w_ u7=> ?_) (λYB le v u i0 EP e₂ YD YG Za hu w_ ha l8 ui Y9 Zc=> ?_) (λYB le v i0 e₂ YD YG hu ha l8 Y9 Zc=> ?_)
  ·have j':j=vs.length:=(congrArg (λx:List V=>j+x.length) hu).symm.trans hj;have D3:acc=us:=(adv acc).symm.trans ((congrArg (acc++ ·) w_).symm.trans cq);exact Ad O dQ (j'▸m) dr λYy Yv rr L hn hF r=>hQ _ D Yy Yv (u7▸rr) ⟨D,ys,rfl,hF,r.1,D3▸r.2⟩ L hn
  ·refine bw (pJ (hd.trans hu)) λhv bE=> ?_;refine wpAny_mono (ul O dQ ht m dr le hv ha λYy Yv Y8=> ?_) (λx s₁ hx=>by rcases hx with⟨y,rfl,hx⟩;exact hx) λ_ _ h'=>h';refine aa (ach O.nest.A) ?_;refine l8.run Y8.am.inn (aby t0 Y8.am.same.tk) λYM s₃ YH=> ?_;have Zu:=(mG O dQ Y8 YH).1;simp only[if_true];refine ui.go ci YM s₃ _ _ Zu.am.inn (aby t0 Zu.am.same.tk) λZk Zg y ZL g7=> ?_;have Zj:=(mG O dQ Zu ZL).1;refine wpAny_list_append_plain Zj.r.1 (λh' Zw ZZ=> ?_) (by(refine aa aci ?_;refine aa Zj.r.2.length ?_;refine aa sizeLine_eq ?_);exact abj nI (abj (ab0 j ws.length) (abj (ab2 hj) ar)));refine aD (id Zw) λAX xC=> ?_;refine bK (v_ O Zj ZZ.extBut (abm _) ⟨xC,λv q=>nomatch q⟩) λZR Z5 K5=> ?_;refine⟨i0.length+1,?_,λ_ k=>k e₂ Za Zk i0 EP (acc++[u]) (ys++[y]) (j+1) rfl ?_ bE ?_ ?_ Zc Y9 ⟨ZR,Z5,⟨AX,by refine aa xC ?_;rw[ami]⟩,(Zj.r.2.keep K5).append (aP (g7.keep K5))⟩⟩
   ·(refine aa hn ?_;refine aa hu ?_);exact aej _
   ·rw[hu]at hj;exact(ab9 j i0.length).trans hj
   ·(refine aa (ach cq) ?_;refine aa w_ ?_);exact adb ..
   ·exact aa afs (adc nI)
  ·refine bw (pJ (hd.trans hu)) λhv bE=> ?_;refine wpAny_mono (ul O dQ ht m dr le hv ha λYy Yv Y8=> ?_) (λx s₁ hx=>by rcases hx with⟨y,rfl,hx⟩;exact hx) λ_ _ h'=>h';refine aa (ach O.nest.A) ?_;refine l8.run Y8.am.inn (aby t0 Y8.am.same.tk) λYM s₃ YH=> ?_;have Zu:=(mG O dQ Y8 YH).1;simp only[acp,if_false];refine⟨i0.length+1,?_,λ_ k=>k e₂ YG YM i0 ts acc ys (j+1) rfl ?_ bE cq (adk nI) Zc Y9 Zu⟩
   ·(refine aa hn ?_;refine aa hu ?_);exact aej _
   ·rw[hu]at hj;exact(ab9 j i0.length).trans hj
 exact codeAny_compStart_list loop (O.hw.self f4 loop)
end
section
variable{h:Heap}
noncomputable def qH(ns:Names):Bool:=ns.all λp=>(!(p.1==("__debug__" : Str))&& !(p.1==("__classdict__" : Str)))||(p.1==("__debug__" : Str)&&p.2== .globalImplicit)
noncomputable def plainNames(ns:Names):Bool:=ns.all λp=> !(p.1==("__debug__" : Str))&& !(p.1==("__classdict__" : Str))
theorem fZ(h:plainNames ns=true):∀ x,x∈ns.map (·.1)->(x==("__debug__" : Str))=false/\(x==("__classdict__" : Str))=false:=λx hx=>by(refine ak (ac0.mp hx) λp hp an=> ?_;obtain rfl:=an);have:=ab7.mp h p hp;rw[ab1]at this;exact⟨by simpa using this.1,by simpa using this.2⟩
theorem kO(P:Pre W fc cx g env hp s.heap)(r:Run W fc cx g s ag YC g' s')(L:Loose W [C] g' s.heap s'.heap)(hs:ae0 C s'.heap h') :
  Run W fc cx g s ag YC g' { s' with heap:=h' }/\bU g' s'.heap g' h':=by
 have h0:∀ a,a∈cx.own-> ∃ o,s.heap.get? a=some o:=P.fm.ownD;have h1:∀ a,a∈cx.l.filterMap (·.frame)-> ∃ o,s.heap.get? a=some o:=λa ha=>by obtain⟨_,o,e,_⟩:=P.fm.fun_.mem ha;exact⟨o,e⟩
 have sd:cF [C] g' s' g' { s' with heap:=h' }:=cF.extBut (hn:=abm _) (ab5 C) hs.extBut;have I:=sd.inv L r.pre.inv P.inv.base;exact⟨⟨sd.evo L r.evo,⟨I,sd.fm L r.pre.fm h0 h1⟩,r.same.trans sd.same⟩,sd.keeps L⟩
theorem kW(ax:scope.kind= .function)(hnd:(scope.names.map (·.1)).Nodup)(cw:plainNames scope.names=true)(ht:gD tup ac=true)(hs:∀ m x,foldedSetIterable iter m x=pure x)(hq:fc.q=true)(aS:Src W fc env hp iter hp₁ ok tup vs)(aT:ok hp₁)(hc:mQ fc.nm env scope.names cy Y4)(hl:bW W (inner fc scope.names cy) ok ac c9 elt Y4 hp₁ vs us hp')(ar:vs.length<=16777216) :
  Ev W fc env hp (.ListComp elt [⟨ac,iter,c9,0⟩] scope pos) (.lst us) hp':=by
 refine .mk ?_;intro cx g s Q E P t0 hQ;refine vN (use:=none) hq aS aT ax hc hnd (fZ cw) hl ar ht hs P t0 λC D g' s' r rv L hn=> ?_;refine aD hn λm hn=> ?_;refine⟨m,hn,λh' gi=> ?_⟩;refine bw (kO P r L gi) λr' K=> ?_;exact hQ g' _ _ r' (rv.keep K)
noncomputable def JQ(nm:Names)(x:Str)(p pos:Pos)(ns:Names):Bool:=(nm.lookup x==some .local)&&p.line==pos.line&& !(ns.any λ(n,k)=>n==x&&(k== .local||k== .cell))
theorem lN{elt x:Str}{s:Shared}(P:Pre W fc cx g env hp s.heap){el:Expr}{gens:List Comprehension}{scope:Scope}{p pos:Pos}{n:Nat} :
  swapsWith (.ListComp el gens scope pos) (some (.Name x p)) n cx.menv=pure (JQ fc.nm x p pos scope.names):=by
 have hb:cx.menv.blockKind= .function:=by unfold alx;exact aa P.fm.kind rfl
 refine(?_:(pure (cx.menv.blockKind== .function&&cx.menv.kindOf x==some .local&&p.line==pos.line&& !(scope.names.any λ(n,k)=>n==x&&(k== .local||k== .cell))):Sem Bool)=_);(refine aa hb ?_;refine aa (P.fm.names x) ?_);rfl
theorem Rb(ax:scope.kind= .function)(hnd:(scope.names.map (·.1)).Nodup)(cw:plainNames scope.names=true)(ht:gD tup ac=true)(hs:∀ m x,foldedSetIterable iter m x=pure x)(hq:fc.q=true)(aS:Src W fc env hp iter hp₁ ok tup vs)(aT:ok hp₁)(hc:mQ fc.nm env scope.names cy Y4)(hl:bW W (inner fc scope.names cy) ok ac c9 elt Y4 hp₁ vs us hp')(ar:vs.length<=16777216)(aI:pC fc.nm env x .local (.lst us) ag) :
  Ex W fc env hp (.Assign [.Name x p] (.ListComp elt [⟨ac,iter,c9,0⟩] scope pos) spos) (.next ag hp'):=by
 refine .mk ?_;intro cx g s Q E P t0 hQ;rw[exec_Assign_arm];refine wpAny_bind (wpAny_standAt ?_);refine(?_:wpAny _ _ (swapsWith (.ListComp elt [⟨ac,iter,c9,0⟩] scope pos) (some (.Name x p)) spos.line cx.menv >>= _) _ _ s);refine aa (lN (elt:=x) P) ?_;refine wpAny_bind (wpAny_pure ?_);induction JQ fc.nm x p pos scope.names using aco with
|true=>
  refine aa (if_pos rfl) ?_;refine wpAny_bind ?_;rw[arm_evalThenUse_ListComp];refine wpAny_bind ?_;refine vN (use:=some _) hq aS aT ax hc hnd (fZ cw) hl ar ht hs P t0 λC D g' s' r rv L hn=> ?_;refine wpAny_bind (wpAny_standAt (wpAny_bindName (dw r.pre aI rv λYv Yz=> ?_)));have h0:∀ a,a∈cx.own-> ∃ o,s.heap.get? a=some o:=P.fm.ownD;have h1:∀ a,a∈cx.l.filterMap (·.frame)-> ∃ o,s.heap.get? a=some o:=λa ha=>by obtain⟨_,o,e,_⟩:=P.fm.fun_.mem ha;exact⟨o,e⟩
  refine bw (Yz.loose L h0 h1) λkp Y6=> ?_;refine Mp hn λm o es ep ho dE=> ?_;refine⟨m,⟨o,es,ep,(kp C (ab5 C)).trans ho,dE⟩,λh' gi=> ?_⟩;refine bw (kO P (r.trans Yz) Y6 gi) λr' K=> ?_;exact wpAny_pure (wpAny_pure (hQ g' _ .next ⟨rfl,r'⟩))
|false=>refine aa (if_neg (by decide)) ?_;refine wpAny_bind ((kW ax hnd cw ht hs hq aS aT hc hl ar).go cx g s _ E P t0 λg' s' y r rv=> ?_);refine(?_:wpAny _ _ (pure none >>= _) _ _ s');refine wpAny_bind (wpAny_pure ?_);refine(?_:wpAny _ _ (assignAll y [assign (.Name x p) cx.menv] >>= _) _ _ s');refine wpAny_bind ?_;refine(?_:wpAny _ _ (assign (.Name x p) cx.menv y) _ _ s');exact wpAny_assign_Name (dw r.pre aI rv λYv Yz=>wpAny_pure (hQ g' Yv .next ⟨rfl,r.trans Yz⟩))
theorem f9(h:swappedStores ts value=λ_=>pure none):swappedStores ts value m=pure none:=congrFun h m
theorem Vf(er:isStar t=false)(hc:lq value=false)(aI:swappedStores [t] value=λ_=>pure none)(h1:Ev W fc env hp value v hp₁)(h2:gW W fc env hp₁ t v ag hp') :
  Ex W fc env hp (.Assign [t] value pos) (.next ag hp'):=by
 refine .mk ?_;intro cx g s Q E P t0 hQ;refine wpAny_Assign_stores (h1.go cx g s _ E P t0 λYx s₁ y r rv=> ?_) (cI hc) (f9 aI);refine aa (bG er) ?_;refine(?_:wpAny _ _ (assign t cx.menv y) _ _ s₁);exact h2.go cx Yx s₁ y _ E r.pre (r.t t0) rv λYy Yv Yz=>hQ Yy Yv .next ⟨rfl,r.trans Yz⟩
theorem Rc(er:isStar aao=false)(w4:isStar aap=false)(aI:swappedStores [aao,aap] value=λ_=>pure none)(h1:Ev W fc env hp value v hp₁)(h2:gW W fc env hp₁ aao v YZ YC)(h3:∀{u},u=v->gW W fc YZ YC aap u ag hp') :
  Ex W fc env hp (.Assign [aao,aap] value pos) (.next ag hp'):=by
 refine .mk ?_;intro cx g s Q E P t0 hQ;refine wpAny_Assign_two (h1.go cx g s _ E P t0 λYx s₁ y r rv=>h2.go cx Yx s₁ y _ E r.pre (r.t t0) rv λYy Yv Yz=> ?_) (by(refine aa (bG er) ?_;refine aa (bG w4) ?_);rfl) (f9 aI);exact(h3 rfl).go cx Yy Yv y _ E Yz.pre (Yz.t (r.t t0)) (rv.keep (Yz.keep r.pre)) λYM s₃ YH=>hQ YM s₃ .next ⟨rfl,(r.trans Yz).trans YH⟩
noncomputable def xN(kd:Str->Option NameKind)(line:Nat)(e:Expr):Option Str:=
 swappedStores.match_8 (λ_=>Option Str) e (λid pos=>if kd id==some .local&&pos.line==line then some id else none) λ_=>none
noncomputable def Ez(kd:Str->Option NameKind)(ts vs:List Expr):Option (List Str):=
 if !(ts.length==2||ts.length==3)||vs.length !=ts.length then none else
 if vs.any isStar then none else
 if(ts.filterMap (xN kd ((ts.head?.map (·.pos.line)).getD 0))).length !=ts.length||(ts.filterMap (xN kd ((ts.head?.map (·.pos.line)).getD 0))).eraseDups.length !=(ts.filterMap (xN kd ((ts.head?.map (·.pos.line)).getD 0))).length then none else
 if vs.all (foldedForSure 8)then none else some (ts.filterMap (xN kd ((ts.head?.map (·.pos.line)).getD 0)))
theorem Bp:swappedStores [.Tuple ts k1 p1] (.Tuple vs k2 p2) m=
  (if(!(ts.length==2||ts.length==3)||vs.length !=ts.length||m.blockKind != .function)=true then pure none else
   if vs.any isStar=true then pure none else
   if((ts.filterMap (xN m.kindOf ((ts.head?.map (·.pos.line)).getD 0))).length !=ts.length||(ts.filterMap (xN m.kindOf ((ts.head?.map (·.pos.line)).getD 0))).eraseDups.length !=(ts.filterMap (xN m.kindOf ((ts.head?.map (·.pos.line)).getD 0))).length)=true then pure none else
   if vs.all (foldedForSure 8)=true then pure none else
   (do
     if vs.all (constantsAlone 8)then unsupported "assign.tuple-of-constant-expressions:order-of-the-stores"
     return some (ts.filterMap (xN m.kindOf ((ts.head?.map (·.pos.line)).getD 0))))):=by rfl
theorem qL{s:Shared}(P:Pre W fc cx g env hp s.heap)(h:Ez (λx=>fc.nm.lookup x) ts vs=r)(hc:vs.all (constantsAlone 8)=false\/r=none) :
  swappedStores [.Tuple ts k1 p1] (.Tuple vs k2 p2) cx.menv=pure r:=by
 have hb:cx.menv.blockKind= .function:=by unfold alx;exact aa P.fm.kind rfl
 have hk:cx.menv.kindOf=λx=>fc.nm.lookup x:=funext P.fm.names;have e1:(ahr !=ahr)=false:=rfl;(refine aa Bp ?_;refine aa hb ?_;refine aa hk ?_;refine aa e1 ?_;rw[afm]);unfold Ez at h
 split at h
 ·rename_i c;(refine aa (if_pos c) ?_;exact aa h rfl)
 ·rename_i c;refine aa (if_neg c) ?_
  split at h
  ·rename_i c;(refine aa (if_pos c) ?_;exact aa h rfl)
  ·rename_i c;refine aa (if_neg c) ?_
   split at h
   ·rename_i c;(refine aa (if_pos c) ?_;exact aa h rfl)
   ·rename_i c;refine aa (if_neg c) ?_
    split at h
    ·rename_i c;(refine aa (if_pos c) ?_;exact aa h rfl)
    ·rename_i c;refine aa (if_neg c) ?_;rcases hc with hc|hc
     ·rw[if_neg (by refine aa hc ?_;decide)];(exact aa (ach h) rfl)
     ·rw[hc]at h;exact nomatch h
theorem O5:swapsWithSole [t] (.Tuple vs k2 p2) n m=pure false:=by unfold swapsWithSole;rfl
theorem Rd(h1:Ev W fc env hp (.Tuple vs k2 p2) v hp₁)(h2:gW W fc env hp₁ (.Tuple ts k1 p1) v ag hp')(hn:Ez (λx=>fc.nm.lookup x) ts vs=none) :
  Ex W fc env hp (.Assign [.Tuple ts k1 p1] (.Tuple vs k2 p2) pos) (.next ag hp'):=by
 refine .mk ?_;intro cx g s Q E P t0 hQ;refine wpAny_Assign_stores (h1.go cx g s _ E P t0 λYx s₁ y r rv=> ?_) (O5) (qL P hn (.inr rfl));refine(?_:wpAny _ _ (assign (.Tuple ts k1 p1) cx.menv y) _ _ s₁);exact h2.go cx Yx s₁ y _ E r.pre (r.t t0) rv λYy Yv Yz=>hQ Yy Yv .next ⟨rfl,r.trans Yz⟩
theorem Ot(p:Puts fc.nm env xs vs ag)(kl:∀ x,x∈xs->fc.nm.lookup x=some .local):∀{g:Gh}{s:Shared}{ys:List Value}{Q:Unit->Shared->Prop}{E:Value->Shared->Prop},Pre W fc cx g env hp s.heap->aQ W g s.heap vs ys->
  (∀ g' s',Run W fc cx g s ag hp g' s'->Q () s')->wpAny (model W.prog W.w) cx.A (assignInOrder (xs.map λn=>bindName cx.menv n) ys) Q E s:=by
 induction p with
|nil=>intro g s ys Q E P rs hQ;obtain rfl:=vz rs;exact wpAny_pure (hQ g s (.refl P))
|cons p hk _ ih=>
  intro g s ys Q E P rs hQ;(refine au rs λy r an r1 r2=> ?_;obtain rfl:=an);have hl:=kl _ abq;rcases hk with rfl|rfl
  ·refine assignInOrder_cons (wpAny_bindName (dw P p r1 λs₁ ru=> ?_));exact ih (λx hx=>kl x (abl _ hx)) ru.pre (r2.keep (ru.keep P)) λYy Yv xy=>hQ Yy Yv (ru.trans xy)
  ·have:=p.has.lookup P.fm.nodup;rw[hl]at this;exact nomatch this
theorem Pq(h:Ez kd ts vs=some xs):xs.length=ts.length/\ ∀ x,x∈xs->kd x=some .local:=by
 unfold Ez at h
 split at h
 ·exact nomatch h
 ·split at h
  ·exact nomatch h
  ·split at h
   ·exact nomatch h
   ·rename_i c
    split at h
    ·exact nomatch h
    ·cases h;refine⟨?_,λx hx=> ?_⟩
     ·simp only[aef,not_or,Bool.not_eq_true,bne_eq_false_iff_eq]at c;exact c.1
     ·obtain⟨e,he,hx⟩:=ahq.mp hx;induction e using ac6<;>dsimp only[xN]at hx<;>try (contradiction)
      split at hx
      ·rename_i c2;cases hx;simp only[ab1,beq_iff_eq]at c2;exact c2.1
      ·exact nomatch hx
theorem Be(r:aQ W g h vs ys):aQ W g h vs.reverse ys.reverse:=by induction vs generalizing ys with
|nil=>subst r;exact rfl
|cons v vs ih=>(refine au r λy t an r1 r2=> ?_;obtain rfl:=an);simp only[List.reverse_cons];exact(ih r2).append (aP r1)
theorem Ro(hc:vs.all (constantsAlone 8)=false)(hq:fc.q=true)(h1:Ev W fc env hp (.Tuple vs k2 p2) (.tup us) hp₁)(hn:Ez (λx=>fc.nm.lookup x) ts vs=some xs)(hl:us.length=ts.length)(aI:Puts fc.nm env xs.reverse us.reverse ag) :
  Ex W fc env hp (.Assign [.Tuple ts k1 p1] (.Tuple vs k2 p2) pos) (.next ag hp₁):=by
 refine .mk ?_;intro cx g s Q E P t0 hQ;rw[exec_Assign_arm];refine wpAny_bind (wpAny_standAt ?_);refine(?_:wpAny _ _ (pure false >>= _) _ _ s);refine wpAny_bind (wpAny_pure ?_);refine aa (if_neg (by decide)) ?_;refine wpAny_bind (h1.go cx g s _ E P t0 λYx s₁ y r rv=> ?_);refine aa (qL P hn (.inl hc)) ?_;refine wpAny_bind (wpAny_pure ?_);(refine bT (eY rv) λb ys an hF ho rs=> ?_;obtain rfl:=an);obtain⟨rf,kl⟩:=Pq hn;have e:xs.length=ys.toArray.size:=by(refine aa aci ?_;refine aa rs.length ?_;refine aa hl ?_;exact aa rf rfl)
 refine wpAny_bind (wpAny_rule (wpAny_bind ?_));refine aa e ?_;refine wpAny_unpackItems_tuple (r.pre.fm.hnd hq) ho.isTuple λh' he=> ?_;have hk:∀ b o,s₁.heap.get? b=some o->h'.get? b=some o:=λb o e=>he b o (λq=>by subst q;rw[get?_size_none]at e;exact nomatch e) e;have P':=r.pre.ext hk;have r':Run W fc cx Yx s₁ env hp₁ Yx { s₁ with heap:=h' }:=⟨P'.2,P'.1,⟨rfl,id,abm _⟩⟩;refine wpAny_bind ?_;refine Ot aI (λx hx=>kl x (List.mem_reverse.mp hx)) r'.pre (by simpa using Be (rs.keep (r'.keep r.pre))) λYy Yv Yz=>wpAny_pure (hQ Yy Yv .next ⟨rfl,(r.trans r').trans Yz⟩)
end
section
variable{h:Heap}
structure Qe(W:Wd)(hp:List Ob)(op:Operator)(a b v:V)(hp':List Ob):Prop where
 go:∀(cx:Cx)(g:Gh)(s:Shared)(x y:Value)(Q:Value->Shared->Prop)(E:Value->Shared->Prop),Inv W g hp s.heap->RV W g s.heap a x->RV W g s.heap b y->
  (∀ g' s' z,aH W cx g s hp' g' s'->RV W g' s'.heap v z->Q z s')->wpAny (model W.prog W.w) cx.A (inplaceOp op x y) Q E s
theorem zW{a b:Int}:Qe W hp .Add (.int a) (.int b) (.int (a+b)) hp:= .mk λcx g s x y Q E I ra rb hQ=>by obtain⟨t,rfl⟩:=aA ra;obtain⟨u,rfl⟩:=aA rb;exact PySem.P.iadd_int (hQ g _ _ (.toks I (acg _)) cA)
theorem qF(hl:a.length+b.length<=16777216):Qe W hp .Add (.str a) (.str b) (.str (a++b)) hp:= .mk λcx g s x y Q E I ra rb hQ=>by
 obtain⟨t,rfl⟩:=aG ra;obtain⟨u,rfl⟩:=aG rb;refine P.iadd_str ?_
 by_cases hx:(a.length==0)=true
 ·refine aa (if_pos hx) ?_;have h':=hQ g s (.str b u) (.refl I) (by exact aa (akq hx) bx);exact h'
 ·refine aa (if_neg hx) ?_
  by_cases hy:(b.length==0)=true
  ·refine aa (if_pos hy) ?_;have h':=hQ g s (.str a t) (.refl I) (by exact aa (aka hy) bx);exact h'
  ·exact aa (if_neg hy) ⟨by(rewrite[size_cat];refine aa sizeLine_eq ?_);exact hl,hQ g _ _ (.toks I (acg _)) bx⟩
theorem bQ{s:Shared}(f:Array Value->Array Value)(ho:s.heap.get? a=some { cls:= .type "list",data:= .seq av n }) :
  ∃ n',(s.heap.update a (aij f)).get? a=some { cls:= .type "list",data:= .seq (f av) n' }:=by
 have e:aij f { cls:= .type "list",data:= .seq av n }={ cls:= .type "list",data:= .seq (f av) (if(f av).size==av.size then n else n+1) }:=rfl;exact⟨_,by rw[aid _ ho (by exact aa e rfl),e]⟩
theorem n_(hi:hp[i]? =some (.list xs))(lb:Lst hp b ys)(hl:xs.length+ys.length<=16777216):Qe W hp .Add (.ref i) b (.ref i) (hp.set i (.list (xs++ys))):=by
 refine .mk ?_;intro cx g s x y Q E I ra rb hQ;(refine ak (iB ra) λa ea an=> ?_;obtain rfl:=an);obtain⟨vs,⟨n,ho⟩,rs⟩:=I.obs _ _ a hi ea;(refine au (lb.at I rb) λc ws an ez rt=> ?_;obtain rfl:=an;obtain⟨m,hc⟩:=ez);have et:vs.toArray.size+ws.toArray.size<=sizeLine:=by(refine aa aci ?_;refine aa aci ?_;refine aa rs.length ?_;refine aa rt.length ?_;refine aa sizeLine_eq ?_);exact hl
 have CR:fillsInplaceSlot (.type "list") "add" (Operator.Add== .Add)=pure false:=by
  unfold fillsInplaceSlot;refine(?_:(typeLookup (.type "list") (dunderI "add") >>= λfi=>pure (fi.isSome&& !isSeqSlot fi))=pure false);refine aa ah3.lookup ?_;have:isSeqSlot (some (.builtin "list.__iadd__"))=true:=by decide +kernel
  refine(?_:(pure (true&& !isSeqSlot (some (.builtin "list.__iadd__"))):Sem Bool)=_);exact aa this rfl
 have og:seqSlot? (.type "list") (dunderI "add")=pure (some (.builtin "list.__iadd__")):=PySem.seqSlot_of ah3.lookup (by decide +kernel);unfold inplaceOp;refine wpAny_holding ?_;refine wpAny_bind (wpAny_typeOf ⟨_,ho,rfl⟩ (wpAny_bind (wpAny_of_eq CR ?_)));refine(?_:wpAny _ _ (if false=true then _ else _) Q E s);refine aa (if_neg acb) ?_;refine wpAny_bind (wpAny_binaryOp1_none (nm:= "add") ⟨_,ho,rfl⟩ ⟨_,hc,rfl⟩ noFill_list_add ?_);refine wpAny_bind (wpAny_of_eq og ?_);refine wpAny_bind (wpAny_rule ?_);refine call_meets ah3 ⟨_,ho,rfl⟩ PySem.F.entry_list_iadd (PySem.F.args_list_iadd_2 _ _) (AutoSeq1.list___iadd___list_list_0 a vs.toArray n c ws.toArray m (extend_door et) (abj (ab0 _ _) et)) ⟨ho,hc,?_⟩;refine aD (bQ (λx=>x++ws.toArray) ho) λn' ca=> ?_;have e:vs.toArray++ws.toArray=(vs++ws).toArray:=ahh vs ws;have r:aH W cx g s (hp.set i (.list (xs++ys))) g { s with heap:=s.heap.update a (aij λx=>x++ws.toArray),toks:=s.toks }:=
  aH.upd (hn:=abm _) I ea (aen ..) λK=>⟨vs++ws,⟨n',by(refine aa ca ?_;exact aa e rfl)⟩,(rs.append rt).keep K⟩
 exact hQ g _ _ r (⟨a,ea,rfl⟩)
theorem Vg(hl:Look fc.nm env x .local a)(h1:Ev W fc env hp e b hp₁)(h2:Qe W hp₁ op a b v hp')(aI:pC fc.nm env x .local v ag) :
  Ex W fc env hp (.AugAssign (.Name x p) op e pos) (.next ag hp'):=by
 refine .mk ?_;intro cx g s Q E P t0 hQ;refine ak P.fm.ns λm hm hr=> ?_;refine ak (hr x a hl) λy hy rv=> ?_;refine wpAny_AugAssign_Name (wpAny_loadName_local P.fm.kind ((P.fm.names x).trans (hl.has.lookup P.fm.nodup)) hm hy ?_);refine h1.go cx g s _ E P t0 λYx s₁ z Yw rz=> ?_;refine h2.go cx Yx s₁ y z _ E Yw.pre.inv (rv.keep (Yw.keep P)) rz λYy Yv w Yz nn=> ?_;have Zx:=Yz.run Yw.pre;exact dw Zx.pre aI nn λs₃ YH=>hQ Yy s₃ .next ⟨rfl,(Yw.trans Zx).trans YH⟩
theorem Rg(hw:x∈fc.wr)(hl:Look fc.nm env x .cell a)(h1:Ev W fc env hp e b hp₁)(h2:Qe W hp₁ op a b v hp')(aI:pC fc.nm env x .cell v ag) :
  Ex W fc env hp (.AugAssign (.Name x p) op e pos) (.next ag hp'):=by
 refine .mk ?_;intro cx g s Q E P t0 hQ;refine au (P.fm.cl x _ a hl (.inl rfl)) λc y hc hi rv=> ?_;refine wpAny_AugAssign_Name (wpAny_loadName_cell P.fm.kind ((P.fm.names x).trans (hl.has.lookup P.fm.nodup)) hc hi ?_);refine h1.go cx g s _ E P t0 λYx s₁ z Yw rz=> ?_;refine h2.go cx Yx s₁ y z _ E Yw.pre.inv (rv.keep (Yw.keep P)) rz λYy Yv w Yz nn=> ?_;have Zx:=Yz.run Yw.pre;exact nO Zx.pre aI hw nn λs₃ YH=>hQ Yy s₃ .next ⟨rfl,(Yw.trans Zx).trans YH⟩
structure Us(W:Wd)(hp:List Ob)(a i v:V)(hp':List Ob):Prop where
 go:∀(cx:Cx)(g:Gh)(s:Shared)(x y z:Value)(Q:Unit->Shared->Prop)(E:Value->Shared->Prop),Inv W g hp s.heap->RV W g s.heap a x->RV W g s.heap i y->RV W g s.heap v z->
  (∀ s',aH W cx g s hp' g s'->Q () s')->wpAny (model W.prog W.w) cx.A (setItem x y z) Q E s
theorem vA{k:Int}(hl:s.heap.PlainList l av)
  (h0:0<=k) (pu:k<2 ^ 63) (hn:k<av.size)
  (hQ:∀ h',h'.PlainList l (av.setIfInBounds k.toNat v)->ae0 l s.heap h'->Q () { s with heap:=h' }) :
  wpAny (model prog w) A (setItem (.ref l) (.int k t) v) Q E s:=by
 refine aD hl λn ho=> ?_;have hT:s.TypeIs (.ref l) "list" :=⟨_,ho,rfl⟩;unfold setItem
 try with_reducible refine wpAny_holding ?_
 first|refine wpAny_bind (wpAny_pure ?_)|skip
 refine wpAny_bind (wpAny_sequenceKey hT (by decide) ?_);refine wpAny_bind (wpAny_callSpecial?_slot (name:=Mi "__setitem__") hT slot_list_setitem
  (wpAny_call_entry slot_list_setitem hT entry_list_setitem ?_ (args_list_setitem _ _ _)))
 refine(?_:wpAny _ _ (afj (.int k t) >>= _) _ _ s);refine wpAny_bind (wpAny_listSubscript_int (fitsIndex_of h0 pu) ?_);clear pu;obtain⟨j,rfl⟩:=ahu h0;have hj:j<av.size:=(λ{n m}=>af5.mp) hn;have f8:av[j]? =some av[j]:=ad6 hj;have hd:({ cls:= .type "list",data:= .seq av n }:Obj).data= .seq av n:=rfl;refine(?_:wpAny _ _ ((seqItemAt l j >>= λr=>pure (r.map (j,·))) >>= _) _ _ s);refine wpAny_bind (wpAny_bind (wpAny_seqItemAt ho hd (wpAny_pure ?_)));refine aa f8 ?_;refine(?_:wpAny _ _ (setSeqItemAt l j v >>= _) _ _ s);refine aD (bQ (·.setIfInBounds j v) ho) λn' ca=> ?_;refine wpAny_bind (wpAny_setSeqItemAt ho hd ?_);have fin:=hQ (s.heap.update l (aij (·.setIfInBounds j v))) ⟨n',ca⟩ (aen ..)
 first
 |exact wpAny_pure ⟨_,rfl,wpAny_pure fin⟩
 |exact wpAny_bind (wpAny_pure ⟨_,rfl,wpAny_pure fin⟩)
 |exact wpAny_pure ⟨_,rfl,fin⟩
theorem lL{i j:Nat}{n:Int}{xs:List V}{v:V}(hi:hp[i]? =some (.list xs))(h0:0<=n)(hn:n<xs.length)(hl:xs.length<=16777216):Us W hp (.ref i) (.int n) v (hp.set i (.list (xs.set n.toNat v))):=by refine .mk ?_;intro cx g s x y z Q E I ra ri rv hQ;(refine ak (iB ra) λa ea an=> ?_;obtain rfl:=an);obtain⟨t,rfl⟩:=aA ri;obtain⟨vs,ho,rs⟩:=I.obs _ _ a hi ea;have ar:=rs.length;refine vA ho h0 (aer hn (acr (ac9.mpr hl) (by decide))) (by(refine aa aci ?_;refine aa ar ?_);exact hn) λh' hd hs=> ?_;have e:vs.toArray.setIfInBounds n.toNat z=(vs.set n.toNat z).toArray:=List.setIfInBounds_toArray vs n.toNat z;rw[e]at hd;exact hQ _ (aH.upd (hn:=abm _) (n:=s.toks) I ea hs λK=>⟨vs.set n.toNat z,hd,(rs.set rv).keep K⟩)
noncomputable def putK{K:Type}[DecidableEq K]:List K->List V->K->V->List K×List V
|k::ks,v::vs,x,y=>if k=x then(k::ks,y::vs)else((k::(putK ks vs x y).1),(v::(putK ks vs x y).2))
|ks,vs,x,y=>(ks++[x],vs++[y])
theorem Eh{K:Type}[DecidableEq K]{ks:List K}{k:K}{v y:V}{vs:List V}:putK (k::ks) (v::vs) k y=(k::ks,y::vs):=if_pos rfl
theorem Eg{K:Type}[DecidableEq K]{ks:List K}{k x:K}{v y:V}{vs:List V}(h:¬k=x):putK (k::ks) (v::vs) x y=((k::(putK ks vs x y).1),(v::(putK ks vs x y).2)):=if_neg h
theorem uE{K:Type}[DecidableEq K]:∀{ks:List K}{vs:List V}{ys:List Value}{x:K}{v:V}{y:Value},aQ W g h vs ys->ks.length=vs.length->ks.Nodup->RV W g h v y->
  ∃ bS,stored (ks.zip ys) x y=(putK ks vs x v).1.zip bS/\aQ W g h (putK ks vs x v).2 bS/\(putK ks vs x v).1.length=(putK ks vs x v).2.length:=by
 intro ah;induction ah with
|nil=>
  intro vs ys x v y r hl _ rv;obtain rfl:vs=[]:=by simpa using hl.symm
  obtain rfl:=vz r;exact⟨[y],rfl,aP rv,rfl⟩
|cons k ks ih=>intro bi;induction bi using abn with
 |nil=>intro ys x v y r hl _ rv;simp at hl|cons u us=>
   intro ys x v y r hl hn rv;(refine au r λz t an r1 r2=> ?_;obtain rfl:=an);rw[ad8]at hn
   by_cases hk:k=x
   ·subst hk;refine aa Eh ⟨y::t,?_,⟨y,t,rfl,rv,r2⟩,hl⟩
    ·have v3:∀ p,p∈ks.zip t-> ¬p.1=k:=λp hp e=>hn.1 (e▸(af0 hp).1);simp only[stored,ahp,ajx,decide_true,Bool.true_or,if_true,ab3];congr 1;have:(ks.zip t).map (λkv=>if kv.1=k then(kv.1,y)else kv)=ks.zip t:=by
      conv=>rhs;rw[←List.map_id (ks.zip t)]
      exact List.map_congr_left λp hp=>by exact if_neg (v3 p hp)
     exact this
   ·refine iR (ih (x:=x) r2 (by simpa using hl) hn.2 rv) λbS e1 e2 e3=> ?_;refine aa (Eg hk) ⟨z::bS,?_,⟨z,bS,rfl,r1,e2⟩,congrArg _ e3⟩
    ·refine(?_:stored ((k,z)::ks.zip t) x y=(k,z)::(putK ks us x v).1.zip bS);refine aa (ach e1) ?_;unfold stored;simp only[ajx,hk,decide_false,aod,ab3,if_false]
     split<;>rfl
theorem nY{K:Type}[DecidableEq K]{prog:Program}{w:World}{knd:aep prog w K}{a:Addr}{ks:List K}{ys:List Value}(hd:h.DictOf knd a (ks.zip ys))(hl:ks.length=ys.length):ks.Nodup:=by
 obtain⟨_,_,_,_,_,_,_,_,hn⟩:=hd;have:(ks.zip ys).map (·.1)=ks:=by rw[am0];exact ab2 hl
 rw[this]at hn;exact hn
theorem VM{n:Int}(hi:hp[i]? =some (.dI ks xs))(hl:ks.length<=16777216):Us W hp (.ref i) (.int n) v (hp.set i (.dI (putK ks xs n v).1 (putK ks xs n v).2)):=by refine .mk ?_;intro cx g s x y z Q E I ra ri rv hQ;(refine ak (iB ra) λa ea an=> ?_;obtain rfl:=an);obtain⟨t,rfl⟩:=aA ri;obtain⟨vs,hk,hd,rs⟩:=I.obs _ _ a hi ea;have hn:=nY hd (hk.trans rs.length.symm);refine iR (uE (x:=n) rs hk hn rv) λbS e1 e2 e3=> ?_;refine wpAny_setItem_pairs (knd:=intKind W.prog W.w) (k:=n) (intKind_is _ _ _ _) hd (λh' bE hs=> ?_) (by(refine aa af3 ?_;refine aa rs.length ?_;refine aa hk ?_;rewrite[af9];refine aa sizeLine_eq ?_;refine aa (ach hk) ?_);exact hl);rw[e1]at bE;exact hQ _ (aH.upd (hn:=acg _) I ea hs λK=>⟨bS,e3,bE,e2.keep K⟩)
theorem Qt(em:isSlice i=false)(h1:Ev W fc env hp o a hp₁)(h2:Ev W fc env hp₁ i n YC)(h3:Us W YC a n v hp'):gW W fc env hp (.Subscript o i p) v env hp':=by refine .mk ?_;intro cx g s y Q E P t0 rv hQ;rw[arm_assign_Subscript];refine wpAny_bind (wpAny_holding (h1.go cx g s _ E P t0 λYx s₁ x Yw rx=> ?_));refine wpAny_bind (wpAny_holding (h2.go cx Yx s₁ _ E Yw.pre (Yw.t t0) λYy Yv z Yz rz=> ?_));refine wpAny_bind (wpAny_standAt (wpAny_bind (wpAny_holding ?_)));refine h3.go cx Yy Yv x z y _ E Yz.pre.inv (rx.keep (Yz.keep Yw.pre)) rz ((rv.keep (Yw.keep P)).keep (Yz.keep Yw.pre)) λs₃ YH=> ?_;exact wpAny_release (hQ Yy s₃ ((Yw.trans Yz).trans (YH.run Yz.pre)))
theorem Rh(em:isSlice i=false)(h1:Ev W fc env hp o a hp₁)(h2:Ev W fc env hp₁ i n YC)(h3:Itm W YC a n b)(h4:Ev W fc env YC e c YQ)(h5:Qe W YQ op b c v Y5)(h6:Us W Y5 a n v hp') :
  Ex W fc env hp (.AugAssign (.Subscript o i p) op e pos) (.next env hp'):=by
 refine .mk ?_;intro cx g s Q E P t0 hQ;refine wpAny_AugAssign_SubscriptAny ?_ (by intro ov iv new;induction i using ac6<;>first|rfl|cases em);refine h1.go cx g s _ E P t0 λYx s₁ x Yw rx=>h2.go cx Yx s₁ _ E Yw.pre (Yw.t t0) λYy Yv z Yz rz=> ?_;obtain⟨T,id,_,_,hg⟩:=h3.go cx.A Yy Yv x z (λold s₃=>wpAny (model W.prog W.w) cx.A (eval e cx.menv) (λv Zg=>wpAny (model W.prog W.w) cx.A (inplaceOp op old v) (λnew ZQ=>wpAny (model W.prog W.w) cx.A (setItem x z new) (λ_=>Q .next) E ZQ) E Zg) E s₃) E Yz.pre.inv (rx.keep (Yz.keep Yw.pre)) rz λm y hm ry=>by have rt:Run W fc cx Yy Yv env YC Yy { Yv with toks:=m }:= .toks Yz.pre hm;refine h4.go cx Yy _ _ E rt.pre (rt.t (Yz.t (Yw.t t0))) λYM s₃ u YH ru=> ?_;refine h5.go cx YM s₃ y u _ E YH.pre.inv (ry.keep (YH.keep rt.pre)) ru λZk Zg w ZL nn=> ?_;have Zy:=ZL.run YH.pre;refine h6.go cx Zk Zg x z w _ E Zy.pre.inv ((((rx.keep (Yz.keep Yw.pre)).keep (rt.keep Yz.pre)).keep (YH.keep rt.pre)).keep (Zy.keep YH.pre)) (((rz.keep (rt.keep Yz.pre)).keep (YH.keep rt.pre)).keep (Zy.keep YH.pre)) nn λZQ Bz=> ?_;exact hQ Zk ZQ .next ⟨rfl,((((Yw.trans Yz).trans rt).trans YH).trans Zy).trans (Bz.run Zy.pre)⟩
 exact hg
theorem ou(h:m.scope.kind= .function):interactive m=false:=by unfold interactive;exact aa h rfl
theorem Rk(hc:lq e=false)(h1:Ev W fc env hp e v hp'):Ex W fc env hp (.Expr e pos) (.next env hp'):=
 .mk λcx g s Q E P t0 hQ=>wpAny_Expr_any (h1.go cx g s _ E P t0 λYx s₁ y r rv=>hQ Yx s₁ .next ⟨rfl,r⟩) (ou P.fm.kind) (cI hc)
class inductive kh(W:Wd)(fc:FC)(aE:Expr)(body:List Stmt):aj->List Ob->Out->Prop
|stop {e:aj} {q YD:List Ob}:g8 W fc e q aE false YD->kh W fc aE body e q (.next e YD)
|next {e YB:aj} {q YD YG:List Ob} {o:Out}:g8 W fc e q aE true YD->cU W fc e YD body (.next YB YG)->kh W fc aE body YB YG o->kh W fc aE body e q o
|brk {e YB:aj} {q YD YG:List Ob}:g8 W fc e q aE true YD->cU W fc e YD body (.brk YB YG)->kh W fc aE body e q (.next YB YG)
|ret {e:aj} {q YD YG:List Ob} {u:V}:g8 W fc e q aE true YD->cU W fc e YD body (.ret u YG)->kh W fc aE body e q (.ret u YG)
|less {e e':aj} {q:List Ob} {o:Out}:bh e' e->kh W fc aE body e' q o->kh W fc aE body e q o
class inductive gF(W:Wd)(fc:FC)(aE:Expr)(body:List Stmt):Nat->aj->List Ob->Out->Prop
|stop {e:aj} {q YD:List Ob}:g8 W fc e q aE false YD->gF W fc aE body 0 e q (.next e YD)
|next {n:Nat} {e YB:aj} {q YD YG:List Ob} {o:Out}:g8 W fc e q aE true YD->cU W fc e YD body (.next YB YG)->gF W fc aE body n YB YG o->gF W fc aE body (n+1) e q o
|brk {e YB:aj} {q YD YG:List Ob}:g8 W fc e q aE true YD->cU W fc e YD body (.brk YB YG)->gF W fc aE body 0 e q (.next YB YG)
|ret {e:aj} {q YD YG:List Ob} {u:V}:g8 W fc e q aE true YD->cU W fc e YD body (.ret u YG)->gF W fc aE body 0 e q (.ret u YG)
|less {n:Nat} {e e':aj} {q:List Ob} {o:Out}:bh e' e->gF W fc aE body n e' q o->gF W fc aE body n e q o
theorem kh.count(t:kh W fc aE body env hp o):∃ n,gF W fc aE body n env hp o:=by induction t with
|stop a=>exact⟨_,.stop a⟩
|next a b _ ih=>obtain⟨n,ih⟩:=ih;exact⟨_,.next a b ih⟩
|brk a b=>exact⟨_,.brk a b⟩
|ret a b=>exact⟨_,.ret a b⟩
|less l _ ih=>obtain⟨n,ih⟩:=ih;exact⟨_,.less l ih⟩
theorem gF.on{G:Prop}{aE:Expr}{body:List Stmt}{o:Out}{n:Nat}{e:aj}{q:List Ob}(t:gF W fc aE body n e q o)
  (h0:∀ e',bh e' e-> ∀ YD,g8 W fc e' q aE false YD->o= .next e' YD->G)
  (h1:∀ e',bh e' e-> ∀ m YD YB YG,n=m+1->g8 W fc e' q aE true YD->cU W fc e' YD body (.next YB YG)->gF W fc aE body m YB YG o->G)
  (h2:∀ e',bh e' e-> ∀ YD YB YG,g8 W fc e' q aE true YD->cU W fc e' YD body (.brk YB YG)->o= .next YB YG->G)
  (h3:∀ e',bh e' e-> ∀ YD u YG,g8 W fc e' q aE true YD->cU W fc e' YD body (.ret u YG)->o= .ret u YG->G):G:=by
 induction t with
|stop a=>exact h0 _ (.refl _) _ a rfl
|next a b c=>exact h1 _ (.refl _) _ _ _ _ rfl a b c
|brk a b=>exact h2 _ (.refl _) _ _ _ a b rfl
|ret a b=>exact h3 _ (.refl _) _ _ _ a b rfl
|less x _ ih=>exact ih (λe' l=>h0 e' (l.trans x)) (λe' l=>h1 e' (l.trans x)) (λe' l=>h2 e' (l.trans x)) (λe' l=>h3 e' (l.trans x))
theorem Mw(t:kh W fc aE body env hp o):Ex W fc env hp (.While aE body [] pos) o:=by
 refine aD t.count λn t=> ?_;refine .mk ?_;intro cx g s Q E P t0 hQ;refine wpAny_While ?_;refine codeAny_whileLoop (λn s'=> ∀ G:Prop,(∀(e:aj)(hp':List Ob)(g':Gh),gF W fc aE body n e hp' o->Run W fc cx g s e hp' g' s'->G)->G) ?_ n λ_ k=>k env hp g t (.refl P);refine λn s' hI=>hI _ λe hp' g' t r=>t.on (λe' le YD a ho=> ?_) (λe' le m YD YB YG hn a b t'=> ?_) (λe' le YD YB YG a b ho=> ?_) (λe' le YD u YG a b ho=> ?_)<;>have r':=r.weaken le
 ·refine a.go cx g' s' _ _ r'.pre (r'.t t0) λYy Yv Yz=> ?_;dsimp only[acp,if_false];exact wpAny_execs_nil (hQ Yy Yv _ (ho▸⟨rfl,r'.trans Yz⟩))
 ·refine a.go cx g' s' _ _ r'.pre (r'.t t0) λYy Yv Yz=> ?_;dsimp only[if_true];refine b.go cx Yy Yv _ _ Yz.pre (Yz.t (r'.t t0)) λYM s₃ f af=> ?_;obtain⟨rfl,YH⟩:=af;exact⟨m,hn▸aej m,λ_ k=>k YB YG YM t' ((r'.trans Yz).trans YH)⟩
 ·refine a.go cx g' s' _ _ r'.pre (r'.t t0) λYy Yv Yz=> ?_;dsimp only[if_true];refine b.go cx Yy Yv _ _ Yz.pre (Yz.t (r'.t t0)) λYM s₃ f af=> ?_;obtain⟨rfl,YH⟩:=af;exact hQ YM s₃ _ (ho▸⟨rfl,(r'.trans Yz).trans YH⟩)
 ·refine a.go cx g' s' _ _ r'.pre (r'.t t0) λYy Yv Yz=> ?_;dsimp only[if_true];refine b.go cx Yy Yv _ _ Yz.pre (Yz.t (r'.t t0)) λYM s₃ f af=> ?_;obtain⟨z,rfl,YH,rz⟩:=af;exact hQ YM s₃ _ (ho▸⟨z,rfl,(r'.trans Yz).trans YH,rz⟩)
end
section
theorem wQ(hl:x.length<=16777216):Call W k q (.builtin "len") [] [.str x] hp (.int x.length) hp:=
 .of1 λcx g s y Q E bl I r hQ=>by obtain⟨t,rfl⟩:=aG r;exact P.len_str (Int.not_le.mpr (ad1 (ac9.mpr hl) (by decide))) (hQ g _ _ (.toks I (ab0 _ 2)) cA)
theorem dh(l:Lst hp x xs)(hl:xs.length<=16777216):Call W k q (.builtin "len") [] [x] hp (.int xs.length) hp:=
 .of1 λcx g s y Q E bl I r hQ=>by
  (refine au (l.at I r) λa vs an ho rs=> ?_;obtain rfl:=an);have e:(vs.toArray.size:Int)=xs.length:=by(refine aa aci ?_;exact aa rs.length rfl)
  exact call_len_list ho.isList (by refine aa e ?_;exact ad1 (ac9.mpr hl) (by decide)) (by exact aa e (hQ g _ _ (.toks I (ab0 _ 2)) cA))
theorem di(hl:xs.length<=16777216):Call W k q (.builtin "len") [] [.tup xs] hp (.int xs.length) hp:=
 .of1 λcx g s y Q E bl I r hQ=>by
  (refine bT (eY r) λa vs an _ dn rs=> ?_;obtain rfl:=an;obtain⟨n,ho⟩:=dn);have e:(vs.toArray.size:Int)=xs.length:=by(refine aa aci ?_;exact aa rs.length rfl)
  exact aoq ⟨_,ho,rfl,n,rfl⟩ (by refine aa e ?_;exact ad1 (ac9.mpr hl) (by decide)) (by exact aa e (hQ g _ _ (.toks I (ab0 _ 2)) cA))
theorem wU{i:Int}(hi:i.natAbs.log2<1920):Call W k q (.type "str") [] [.int i] hp (.str (Mi (toString i))) hp:=
 .of1 λcx g s y Q E bl I r hQ=>by obtain⟨t,rfl⟩:=aA r;exact P.str_of_int hi (hQ g _ _ (.toks I (acg _)) bx)
theorem yR(hi:hp[i]? =some (.list xs))(hl:xs.length<=16777216):Call W k q (.builtin "list.append") [] [.ref i,v] hp .none (hp.set i (.list (xs++[v]))):=
 .of2 λcx g s y z Q E bl I r1 r2 hQ=>by(refine ak (iB r1) λa ea an=> ?_;obtain rfl:=an);obtain⟨vs,ho,rs⟩:=I.obs _ _ a hi ea;refine wpAny_list_append_plain ho (λh' hd hs=> ?_) (by(refine aa aci ?_;refine aa rs.length ?_;refine aa sizeLine_eq ?_);exact hl);have e:vs.toArray.push z=(vs++[z]).toArray:=ami vs z;rw[e]at hd;exact hQ g _ _ (aH.upd (hn:=abm _) (n:=s.toks) I ea hs λK=>⟨vs++[z],hd,(rs.append (aP r2)).keep K⟩) of_none
theorem yS(hi:hp[i]? =some (.list xs))(lb:Lst hp b ys)(hl:xs.length+ys.length<=16777216):Call W k q (.builtin "list.extend") [] [.ref i,b] hp .none (hp.set i (.list (xs++ys))):=
 .of2 λcx g s y z Q E bl I r1 r2 hQ=>by
  (refine ak (iB r1) λa ea an=> ?_;obtain rfl:=an);obtain⟨vs,⟨n,ho⟩,rs⟩:=I.obs _ _ a hi ea;(refine au (lb.at I r2) λc ws an ez rt=> ?_;obtain rfl:=an;obtain⟨m,hc⟩:=ez);have et:vs.toArray.size+ws.toArray.size<=sizeLine:=by(refine aa aci ?_;refine aa aci ?_;refine aa rs.length ?_;refine aa rt.length ?_;refine aa sizeLine_eq ?_);exact hl
  refine call_meets ajy ⟨_,ho,rfl⟩ PySem.F.entry_list_extend (PySem.F.args_list_extend_2 _ _) (AutoSeq1.list_extend_list_list_0 a vs.toArray n c ws.toArray m (extend_door et) (abj (ab0 _ _) et)) ⟨ho,hc,?_⟩;refine aD (bQ (λx=>x++ws.toArray) ho) λn' ca=> ?_;have e:vs.toArray++ws.toArray=(vs++ws).toArray:=ahh vs ws;have r:aH W cx g s (hp.set i (.list (xs++ys))) g { s with heap:=s.heap.update a (aij λx=>x++ws.toArray),toks:=s.toks }:=
   aH.upd (hn:=abm _) I ea (aen ..) λK=>⟨vs++ws,⟨n',by(refine aa ca ?_;exact aa e rfl)⟩,(rs.append rt).keep K⟩
  exact hQ g _ _ r of_none
theorem H9(hi:hp[i]? =some (.list (v::xs)))(hl:xs.length+1<=16777216):Call W k q (.builtin "list.pop") [] [.ref i,.int 0] hp v (hp.set i (.list xs)):=
 .of2 λcx g s y z Q E bl I r1 r2 hQ=>by
  (refine ak (iB r1) λa ea an=> ?_;obtain rfl:=an);obtain⟨t,rfl⟩:=aA r2;obtain⟨vs,⟨n,ho⟩,rs⟩:=I.obs _ _ a hi ea;(refine au rs λw ws an nn AF=> ?_;obtain rfl:=an);have et:(w::ws).toArray.size<=sizeLine:=by(refine aa aci ?_;refine aa sizeLine_eq ?_;refine aa acv ?_;refine aa AF.length ?_);exact hl
  have hk:seqIndex? 0 (w::ws).toArray.size=some 0:=by simp[seqIndex?]
  refine call_meets akr ⟨_,ho,rfl⟩ PySem.F.entry_list_pop (PySem.F.args_list_pop_2 _ _) (MeetsSeq.list_pop_at a (w::ws).toArray n 0 t 0 w (by decide) hk (by rfl) et) ⟨ho,?_⟩;refine aD (bQ (λx=>x.eraseIdxIfInBounds 0) ho) λn' ca=> ?_;have e:(w::ws).toArray.eraseIdxIfInBounds 0=ws.toArray:=by simp
  have r:aH W cx g s (hp.set i (.list xs)) g { s with heap:=s.heap.update a (aij λx=>x.eraseIdxIfInBounds 0),toks:=s.toks }:=
   aH.upd (hn:=abm _) I ea (aen ..) λK=>⟨ws,⟨n',by(refine aa ca ?_;exact aa e rfl)⟩,AF.keep K⟩
  exact hQ g _ _ r (nn.keep (r.evo.keeps_out I bl.lF))
theorem zX(t:pD xs l):∀{ys:List Value},aQ W g h xs ys->IntsAre ys l:=by induction t with
|nil=>intro ys r;obtain rfl:=vz r;exact .nil
|cons _ ih=>intro ys r;(refine au r λy t an h1 h2=> ?_;obtain rfl:=an);obtain⟨u,rfl⟩:=h1;exact .cons _ _ (ih h2)
theorem sY{n:Int}(lx:Lst hp x xs)(t:pD xs l):Call W k q (.builtin "list.count") [] [x,.int n] hp (.int (l.count n:Nat)) hp:=
 .of2 λcx g s y z Q E bl I r1 r2 hQ=>by(refine au (lx.at I r1) λa vs an ho rs=> ?_;obtain rfl:=an);obtain⟨u,rfl⟩:=aA r2;exact count_list_ints ho.isList (zX t rs) (hQ g _ _ (.toks I (acg _)) cA)
theorem Vv(l:Lst hp₁ x xs):∀(g:Gh)(s:Shared)(y:Value),Inv W g hp₁ s.heap->RV W g s.heap x y->s.TypeIs y "list" /\ ∀ a,y= .ref a-> ∃ ob,s.heap.get? a=some ob/\ob.dict=none:=
 λg s y I r=>by(refine au (l.at I r) λa vs an ez rs=> ?_;obtain rfl:=an;obtain⟨n,ho⟩:=ez);exact⟨⟨_,ho,rfl⟩,λb e=>by cases e;exact⟨_,ho,rfl⟩⟩
theorem Mg{o:Expr}{name:Str}{cb pos:Pos}{es:List Expr}{T id:String}{ov:V}{vs:List V}{v:V}(b9:(cb.endLine==pos.line)=true)(hs:es.all (λe=> !isStar e)=true)(ar:decide (es.length<30)=true)(ho:Ev W fc env hp o ov hp₁)(ha:wI W fc env hp₁ es vs YC)(hT:∀(g:Gh)(s:Shared)(y:Value),Inv W g hp₁ s.heap->RV W g s.heap ov y->s.TypeIs y T/\ ∀ a,y= .ref a-> ∃ ob,s.heap.get? a=some ob/\ob.dict=none)(pa:PlainAttrs T)(slot:Slot T name id)(i8:typeOf (.builtin id)=pure (.type "method_descriptor"))(hc:Call W fc.k fc.q (.builtin id) [] (ov::vs) YC v YQ)(da:∀ m,attributeBase o name m (eval o m)=eval o m) :
  Ev W fc env hp (.Call (.Attribute o name cb) es [] pos) v YQ:=by
 refine .mk ?_;intro cx g s Q E P t0 hQ;refine wpAny_Call_method (T:=T) (id:=id) (da _) ?_ b9 pa slot i8 (ho.go cx g s _ E P t0 λYx s₁ y Yw YL=> ?_)
 ·have h1:((backTo pos (starEach es cx.menv)).all λx=> !x.1)=true:=by have:=bM (m:=cx.menv) (pos:=pos) hs;rw[aga]at this;exact ab7.mpr λx hx=>by exact(λ{a}=>bi_not.mpr) (this x hx)
  refine aa h1 ?_;assumption
 ·obtain⟨h1,h2⟩:=hT Yx s₁ y Yw.pre.inv YL;refine⟨h1,h2,?_⟩;refine callWith_of (P:=λh=> ∀ b o,W.B.get? b=some o->h.get? b=some o) (by refine(?_:(_||false)=false);rw[afm];exact bM hs) (λh hh=>ik _ h hh) (bk hs ?_);refine ha.go pos cx Yx s₁ _ E Yw.pre (Yw.t t0) λYy Yv ys Yz rv=>⟨Yz.pre.inv.base,?_⟩;refine hc.go cx Yy Yv (y::ys) [] Q E Yz.pre.fm.bl Yz.pre.inv (aQ.kw0 ⟨y,ys,rfl,YL.keep (Yz.keep Yw.pre),rv⟩) rfl (Yz.t (Yw.t t0)) λYM s₃ z YH rL=>hQ YM s₃ z ((Yw.trans Yz).trans (YH.run Yz.pre)) rL
end
section
theorem uw(h:qH ns=true)(hx:(x,k)∈ns):((x==("__debug__" : Str))=false/\(x==("__classdict__" : Str))=false)\/(x=("__debug__" : Str)/\k= .globalImplicit):=by
 have:=ab7.mp h _ hx;simp only[aef,ab1,ac7,beq_iff_eq]at this;rcases this with q|q
 ·exact .inl q
 ·exact .inr q
structure HJ(W:Wd)(K:Frag)(mg mb:Str->Option Value):Prop where
 X:K.In W.B
 g:W.B.Ns mainGlobals mg
 b:W.B.Ns builtinsNs mb
 lim:W.B.NoLimit
 bb:∀ x:Str,x≠ "__name__" ->mb x=bootBuiltins x
theorem mJ(e:(bif x==("__debug__" : Str)then none else o)=some v):(x==("__debug__" : Str))=false/\o=some v:=by induction h:x==("__debug__" : Str)using aco with
|true=>rw[h]at e;cases e
|false=>rw[h]at e;exact⟨rfl,e⟩
theorem HJ.top{K:Frag}{mg mb:Str->Option Value}(G:HJ W K mg mb){x:Str}{pos:Pos}{f:Value}(e:(bif x==("__debug__" : Str)then none else nsIn K mainGlobals x)=some (some f))(hh:ni fc.nm x .globalImplicit):Gn W fc (.Name x pos) f:=
 Vn G.g (mg_of G.X G.g (mJ e).2) hh (mJ e).1
theorem HJ.blt{K:Frag}{mg mb:Str->Option Value}(G:HJ W K mg mb){x:Str}{pos:Pos}{f:Value}(e:(bif x==("__debug__" : Str)then none else nsIn K mainGlobals x)=some none)(hf:bootBuiltins x=some f)(hn:x≠ "__name__")(hh:ni fc.nm x .globalImplicit):Gn W fc (.Name x pos) f:=
 Vk G.g (mg_none_of G.X G.g (mJ e).2) G.b ((G.bb x hn).trans hf) hh (mJ e).1
theorem HJ.ns{K:Frag}{mg mb:Str->Option Value}(G:HJ W K mg mb){N:Addr}(e:nsOkIn K N=true):W.B.Ns N (W.B.nsMap N):= .of_isNs (isNs_of_in G.X e)
theorem HJ.nsNone{K:Frag}{mg mb:Str->Option Value}(G:HJ W K mg mb){N:Addr}{x:Str}(e:nsOkIn K N=true)(q:nsIn K N x=some none):W.B.nsMap N x=none:=nsMap_none_of_in G.X e q
theorem dG(hf:FnAt W f fd body)(hx:fd.params.args.map (·.arg)=[x1])(hb:∀ y1,bindArgs fd ⟨[y1],[]⟩=pure [(x1,y1)])
  (aI:Puts fd.scope.names [] [x1] [a1] YJ) (aw:cU W (cH fd k q) YJ hp body o) (ho:o.value v hp₁):Call W (k+1) q (.ref f) [] [a1] hp v hp₁:=
 lU hf (xs:=[x1]) (args':=[a1]) (λg s ys ai _ rv hk=>by
  obtain rfl:ai=[]:=by simpa using hk
  refine ak (Em rv) λy1 e r1=> ?_;obtain rfl:ys=[y1]:=ac8 e;exact⟨[y1],aP r1,aez (hb y1)⟩) aI aw ho
theorem dH(hf:FnAt W f fd body)(hx:fd.params.args.map (·.arg)=[x1,x2])(hb:∀ y1 y2,bindArgs fd ⟨[y1,y2],[]⟩=pure [(x1,y1),(x2,y2)])
  (aI:Puts fd.scope.names [] [x1,x2] [a1,a2] YJ) (aw:cU W (cH fd k q) YJ hp body o) (ho:o.value v hp₁):Call W (k+1) q (.ref f) [] [a1,a2] hp v hp₁:=
 lU hf (xs:=[x1,x2]) (args':=[a1,a2]) (λg s ys ai _ rv hk=>by
  obtain rfl:ai=[]:=by simpa using hk
  refine au (Eo rv) λy1 y2 e r1 r2=> ?_;obtain rfl:ys=[y1,y2]:=ac8 e;exact⟨[y1,y2],aJ r1 (aP r2),aez (hb y1 y2)⟩) aI aw ho
theorem jq(hf:FnAt W f fd body)(hx:fd.params.args.map (·.arg)=[x1,x2,x3])(hb:∀ y1 y2 y3,bindArgs fd ⟨[y1,y2,y3],[]⟩=pure [(x1,y1),(x2,y2),(x3,y3)])
  (aI:Puts fd.scope.names [] [x1,x2,x3] [a1,a2,a3] YJ) (aw:cU W (cH fd k q) YJ hp body o) (ho:o.value v hp₁):Call W (k+1) q (.ref f) [] [a1,a2,a3] hp v hp₁:=
 lU hf (xs:=[x1,x2,x3]) (args':=[a1,a2,a3]) (λg s ys ai _ rv hk=>by
  obtain rfl:ai=[]:=by simpa using hk
  refine Gg (VJ rv) λy1 y2 y3 e r1 r2 r3=> ?_;obtain rfl:ys=[y1,y2,y3]:=ac8 e;exact⟨[y1,y2,y3],aJ r1 (aJ r2 (aP r3)),aez (hb y1 y2 y3)⟩) aI aw ho
theorem aX(r:aQ W g h (a::as) ys):∃ y t,ys=y::t/\RV W g h a y/\aQ W g h as t:=r
theorem K7(hf:FnAt W f fd body)(hx:fd.params.args.map (·.arg)=[x1,x2,x3,x4,x5])(hb:∀ y1 y2 y3 y4 y5,bindArgs fd ⟨[y1,y2,y3,y4,y5],[]⟩=pure [(x1,y1),(x2,y2),(x3,y3),(x4,y4),(x5,y5)])
  (aI:Puts fd.scope.names [] [x1,x2,x3,x4,x5] [a1,a2,a3,a4,a5] YJ) (aw:cU W (cH fd k q) YJ hp body o) (ho:o.value v hp₁):Call W (k+1) q (.ref f) [] [a1,a2,a3,a4,a5] hp v hp₁:=
 lU hf (xs:=[x1,x2,x3,x4,x5]) (args':=[a1,a2,a3,a4,a5]) (λg s ys ai _ rv hk=>by
  obtain rfl:ai=[]:=by simpa using hk
  have df:aQ W g s.heap [a1,a2,a3,a4,a5] ys:=by simpa using rv
  refine cps λ_ c_=> ?_;obtain⟨y1,t1,rfl,r1,df⟩:=aX df;obtain⟨y2,t2,rfl,r2,df⟩:=aX df;obtain⟨y3,t3,rfl,r3,df⟩:=aX df;obtain⟨y4,t4,rfl,r4,df⟩:=aX df;obtain⟨y5,t5,rfl,r5,df⟩:=aX df;refine c_ ?_;obtain rfl:=vz df;exact⟨[y1,y2,y3,y4,y5],aJ r1 (aJ r2 (aJ r3 (aJ r4 (aP r5)))),aez (hb y1 y2 y3 y4 y5)⟩) aI aw ho
end
section
def Made(sr s':Shared)(e:Addr)(cls:Value)(msg:Option Str):Prop:= ∃ as,ak4 sr.heap s'.heap e cls as/\ ∀ y,msg=some y-> ∃ u,as=[.str y u]
inductive Tz(cx:Cx)(s₀:Shared)(g':Gh)(sr s':Shared)(e:Addr)(cls:Value)(msg:Option Str):Prop where
|mk (base:Heap) (a0:Value) (h0:∀ a o,sr.heap.get? a=some o->a∉cx.l.filterMap (·.frame)->base.get? a=some o\/(s₀.heap.get? a=none/\ ¬g'.F a/\a∉g'.ρ))
  (h1:aor base cx.l e cls a0 s'.heap) (h2:sr.heap.UpToSlots s'.heap) (h3:sr.heap.get? e=none) (h4:∀ y,msg=some y-> ∃ t u,a0= .ref t/\s'.heap.TupAt t [.str y u]/\sr.heap.get? t=none):Tz cx s₀ g' sr s' e cls msg
section
theorem z9
  (ii:A.frames=some (env::outer)) (hf:env.frame=some L) (pS:base.StaysIn h) (hl:h.FunFrames base (env::outer)) (hx:ak4 h s.heap e cls args)
  (hQ:∀ h' t,aor base outer e cls (.ref t) h'->h'.TupAt t args->h.get? t=none->s.heap.UpToSlots h'->Q () { s with heap:=h' }):wpAny M A (leaving env (.ref e)) Q E s:=by
 refine iR hx.there λt he kF ht=> ?_;have fresh:∀ b,h.get? b=none->base.get? b=none:=λb hb=>by induction hq:base.get? b using abt with
 |none=>rfl|some o'=>have:=pS b o' hq;rw[hb]at this;injection this
 refine wpAny_leaving_firstW (a0:= .ref t) ii (hl.of_keeps λb o hb _=>⟨o,hx.keeps b o hb,rfl⟩) hf he (λb o hb=>hx.keeps b o (pS b o hb)) (fresh e hx.new) rfl rfl rfl λh' hL=> ?_;obtain⟨k1,⟨_,_,k2⟩,k3,k4⟩:=hL;exact hQ h' t ⟨k1,fresh e hx.new,k2,k3⟩ (alm ⟨_,_,ht,rfl,rfl⟩ k4) kF k4
theorem DX
  (ii:A.frames=some (env::outer)) (hf:env.frame=some L) (pS:base.StaysIn h) (hl:h.FunFrames base (env::outer)) (hx:ak4 h s.heap e cls args)
  (hQ:∀ h' t,Heap.HeldW base (env::outer) e cls (.ref t) L h'->h'.TupAt t args->h.get? t=none->s.heap.UpToSlots h'->Q () { s with heap:=h' }):wpAny M A (noteFrame (.ref e) env) Q E s:=by
 refine iR hx.there λt he kF ht=> ?_;have fresh:∀ b,h.get? b=none->base.get? b=none:=λb hb=>by induction hq:base.get? b using abt with
 |none=>rfl|some o'=>have:=pS b o' hq;rw[hb]at this;injection this
 unfold noteFrame;simp only[hf];refine wpAny_bind (wpAny_field he rfl (x:= .none) rfl ?_);refine aa (if_neg (by decide)) ?_;refine wpAny_entryW ii (hl.of_keeps λb o hb _=>⟨o,hx.keeps b o hb,rfl⟩) hf he (λb o hb=>hx.keeps b o (pS b o hb)) (fresh e hx.new) rfl (ak5 [ag1,ag1,anu false,ag1].length) rfl λh' hL=> ?_;obtain⟨k1,k2,k3,k4⟩:=hL;exact hQ h' t ⟨k1,fresh e hx.new,k2,k3⟩ (alm ⟨_,_,ht,rfl,rfl⟩ k4) kF k4
end
def Up(W:Wd)(fc:FC)(cx:Cx)(g:Gh)(s:Shared)(ag:aj)(cls:Value)(msg:Option Str)(hp':List Ob)(g':Gh)(s':Shared)(e:Addr):Prop:=
 ∃(sr:Shared),Run W fc cx g s ag hp' g' sr/\j_ sr s'/\(Made sr s' e cls msg\/Tz cx s g' sr s' e cls msg)
def We(W:Wd)(cx:Cx)(g:Gh)(s:Shared)(cls:Value)(msg:Option Str)(hp':List Ob)(g':Gh)(s':Shared)(e:Addr):Prop:=
 ∃ sr:Shared,aH W cx g s hp' g' sr/\j_ sr s'/\(Made sr s' e cls msg\/Tz cx s g' sr s' e cls msg)
theorem Up.after(r:Run W fc cx g s e1 hp₁ Yx s₁)(u:Up W fc cx Yx s₁ ag cls msg hp' g' s' e):Up W fc cx g s ag cls msg hp' g' s' e:=by
 obtain⟨sr,r',sm,hm⟩:=u;refine⟨sr,r.trans r',sm,?_⟩;rcases hm with hm|⟨base,a0,hf,h1,h2,h3,h4⟩
 ·exact .inl hm
 ·refine .inr ⟨base,a0,λa o e1 e2=> ?_,h1,h2,h3,h4⟩;rcases hf a o e1 e2 with q|⟨q,q2⟩
  ·exact .inl q
  ·refine .inr ⟨?_,q2⟩;induction e0:s.heap.get? a using abt with
  |none=>rfl|some o'=>obtain⟨Fc,yb⟩:=r.evo.dom a o' e0;rw[q]at yb;injection yb
theorem We.up(u:We W cx g s cls msg hp' g' s' e)(P:Pre W fc cx g env hp s.heap):Up W fc cx g s env cls msg hp' g' s' e:=by obtain⟨sr,r,sm,hm⟩:=u;exact⟨sr,r.run P,sm,hm⟩
structure Tw(W:Wd)(fc:FC)(env:aj)(hp:List Ob)(e:Expr)(cls:Value)(msg:Option Str)(hp':List Ob):Prop where
 go:∀(cx:Cx)(g:Gh)(s:Shared)(Q:Value->Shared->Prop)(E:Value->Shared->Prop),Pre W fc cx g env hp s.heap->0<s.toks->
  (∀ g' s' e,Up W fc cx g s env cls msg hp' g' s' e->E (.ref e) s')->wpAny (model W.prog W.w) cx.A (eval e cx.menv) Q E s
structure Qh(W:Wd)(fc:FC)(env:aj)(hp:List Ob)(es:List Expr)(cls:Value)(msg:Option Str)(hp':List Ob):Prop where
 go:∀(pos:Pos)(cx:Cx)(g:Gh)(s:Shared)(Q:List Value->Shared->Prop)(E:Value->Shared->Prop),Pre W fc cx g env hp s.heap->0<s.toks->
  (∀ g' s' e,Up W fc cx g s env cls msg hp' g' s' e->E (.ref e) s')->wpAny (model W.prog W.w) cx.A (spliced (backTo pos (starEach es cx.menv))) Q E s
structure Xo(W:Wd)(fc:FC)(env:aj)(hp:List Ob)(st:Stmt)(ag:aj)(cls:Value)(msg:Option Str)(hp':List Ob):Prop where
 go:∀(cx:Cx)(g:Gh)(s:Shared)(Q:Flow->Shared->Prop)(E:Value->Shared->Prop),Pre W fc cx g env hp s.heap->0<s.toks->
  (∀ g' s' e,Up W fc cx g s ag cls msg hp' g' s' e->E (.ref e) s')->wpAny (model W.prog W.w) cx.A (exec st cx.menv) Q E s
structure sS(W:Wd)(fc:FC)(env:aj)(hp:List Ob)(iX:List Stmt)(ag:aj)(cls:Value)(msg:Option Str)(hp':List Ob):Prop where
 go:∀(cx:Cx)(g:Gh)(s:Shared)(Q:Flow->Shared->Prop)(E:Value->Shared->Prop),Pre W fc cx g env hp s.heap->0<s.toks->
  (∀ g' s' e,Up W fc cx g s ag cls msg hp' g' s' e->E (.ref e) s')->wpAny (model W.prog W.w) cx.A (execs iX cx.menv) Q E s
structure iJ(W:Wd)(k:Nat)(q:Bool)(f:Value)(kw:List Str)(args:List V)(hp:List Ob)(cls:Value)(msg:Option Str)(hp':List Ob):Prop where
 go:∀(cx:Cx)(g:Gh)(s:Shared)(ys:List Value)(ai:List (Str×Value))(Q:Value->Shared->Prop)(E:Value->Shared->Prop),Bl W k q cx g s.heap->Inv W g hp s.heap->aQ W g s.heap args (ys++ai.map (·.2))->ai.map (·.1)=kw->0<s.toks->
  (∀ g' s' e,We W cx g s cls msg hp' g' s' e->E (.ref e) s')->wpAny (model W.prog W.w) cx.A (agd f ys ai) Q E s
theorem fL(hs:isStar e=false)(h1:Tw W fc env hp e cls msg hp'):Qh W fc env hp (e::es) cls msg hp':=by refine .mk ?_;intro pos cx g s Q E P t0 hE;exact aa (aY e es cx.menv hs) (spliced_cons (h1.go cx g s _ E P t0 hE))
theorem gQ(hs:isStar e=false)(h1:Ev W fc env hp e v hp₁)(h2:Qh W fc env hp₁ es cls msg hp'):Qh W fc env hp (e::es) cls msg hp':=by refine .mk ?_;intro pos cx g s Q E P t0 hE;exact aa (aY e es cx.menv hs) (spliced_cons (h1.go cx g s _ E P t0 λYx s₁ y r rv=>h2.go pos cx Yx s₁ _ E r.pre (r.t t0) λg' s' e u=>hE g' s' e (u.after r)))
theorem jM(h1:Qh W fc env hp dA cls msg hp'):Tw W fc env hp (.Tuple dA k pos) cls msg hp':= .mk λcx g s Q E P t0 hE=>ali (h1.go pos cx g s _ E P t0 hE)
theorem zB(h1:Tw W fc env hp l cls msg hp'):Tw W fc env hp (.BinOp l op r pos) cls msg hp':= .mk λcx g s Q E P t0 hE=>wpAny_BinOp (h1.go cx g s _ E P t0 hE)
theorem LK(h1:Ev W fc env hp l v hp₁)(h2:Tw W fc env hp₁ r cls msg hp'):Tw W fc env hp (.BinOp l op r pos) cls msg hp':=
 .mk λcx g s Q E P t0 hE=>wpAny_BinOp (h1.go cx g s _ E P t0 λYx s₁ y r rv=>h2.go cx Yx s₁ _ E r.pre (r.t t0) λg' s' e u=>hE g' s' e (u.after r))
theorem tM(hk:Kp W f)(hs:es.all (λe=> !isStar e)=true)(hf:Gn W fc (.Name x p) f)(ha:wI W fc env hp es vs hp₁)(hc:iJ W fc.k fc.q f [] vs hp₁ cls msg YC):Tw W fc env hp (.Call (.Name x p) es [] pos) cls msg YC:=by refine .mk ?_;intro cx g s Q E P t0 hE;refine wpAny_Call_Name_kw (hf.go env hp cx g s _ E P ?_);refine callWith_of (P:=λh=> ∀ b o,W.B.get? b=some o->h.get? b=some o) (by refine(?_:(_||false)=false);rw[afm];exact bM hs) (λh hh=>hk _ h hh) (bk hs ?_);refine ha.go pos cx g s _ E P t0 λYx s₁ ys Yw rv=>⟨Yw.pre.inv.base,?_⟩;exact hc.go cx Yx s₁ ys [] Q E Yw.pre.fm.bl Yw.pre.inv rv.kw0 rfl (Yw.t t0) λg' s' e u=>hE g' s' e ((u.up Yw.pre).after Yw)
theorem xj(h1:Tw W fc env hp e cls msg hp'):Xo W fc env hp (.Return (some e) pos) env cls msg hp':= .mk λcx g s Q E P t0 hE=>wpAny_Return_some (h1.go cx g s _ E P t0 hE)
theorem Ve(h1:g8 W fc env hp t true hp₁)(h2:sS W fc env hp₁ body ag cls msg hp'):Xo W fc env hp (.If t body orelse pos) ag cls msg hp':= .mk λcx g s Q E P t0 hE=>
 wpAny_If (h1.go cx g s _ E P t0 λYx s₁ r=>by simp only[if_true];exact h2.go cx Yx s₁ Q E r.pre (r.t t0) λg' s' e u=>hE g' s' e (u.after r))
theorem jz{st:Stmt}{r:List Stmt}(h1:Xo W fc env hp st ag cls msg hp'):sS W fc env hp (st::r) ag cls msg hp':= .mk λcx g s Q E P t0 hE=>wpAny_execs_cons (h1.go cx g s _ E P t0 hE)
theorem IW{st:Stmt}{r:List Stmt}{YZ:aj}(h1:Ex W fc env hp st (.next YZ hp₁))(h2:sS W fc YZ hp₁ r ag cls msg hp'):sS W fc env hp (st::r) ag cls msg hp':= .mk λcx g s Q E P t0 hE=>
 wpAny_execs_cons (h1.go cx g s _ E P t0 λYx s₁ f a=>by obtain⟨rfl,Yw⟩:=a;exact h2.go cx Yx s₁ Q E Yw.pre (Yw.t t0) λg' s' e u=>hE g' s' e (u.after Yw))
theorem wH.leave(en:wH W fc cx g s YJ hp menv s₁)(CU:cx.A.frames=some cx.l)
  (f7:Up W fc (cx.under menv) g s₁ ag cls msg hp₁ Yy Yv e) (hQ:∀ s',We W cx g s cls msg hp₁ Yy s' e->Q () s'):wpAny M (cx.A.deeper menv) (leaving menv (.ref e)) Q E Yv:=by
 obtain⟨sr,r,sm,DA⟩:=f7;have ge:(cx.A.deeper menv).frames=some (menv::cx.l):=ak0 CU;have oz:∀ a,a∈(menv::cx.l).filterMap (·.frame)->a∉cx.l.filterMap (·.frame)->s.heap.get? a=none/\ ¬Yy.F a/\a∉Yy.ρ:=λa ha hn=>by
  have C7:=r.pre.fm.lF a ha;rw[ae4,en.fr]at ha;rcases abx.mp ha with rfl|ha
  ·exact⟨en.loc,C7⟩
  ·exact absurd ha hn
 rcases DA with⟨as,hmade,eL⟩|hfly
 ·let S:=(menv::cx.l).filterMap (·.frame);have i5:∀ env∈(menv::cx.l),∀ b,env.frame=some b->b∈S:=λenv he b hb=>ahq.mpr ⟨env,he,hb⟩;refine z9 (base:=hideAll sr.heap S) ge en.fr (λb o q=>of_hideAll _ q) (funFrames_hide r.pre.fm.fun_ i5) hmade λh' t x1 x2 x3 x4=> ?_;refine hQ _ ⟨sr,en.fin r,⟨sm.os,sm.gens,sm.tk⟩,.inr ⟨hideAll sr.heap S,.ref t,λa o ea mu=> ?_,x1,(aj4 hmade.keeps).trans x4,hmade.new,λy hy=> ?_⟩⟩
  ·by_cases hm:a∈S
   ·exact .inr (oz a hm mu)
   ·exact .inl (hideAll_get _ ea hm)
  ·obtain⟨u,hu⟩:=eL y hy;exact⟨t,u,rfl,by exact aa (ach hu) x2,x3⟩
 ·obtain⟨base,a0,cK,ec,f7,nL,eL⟩:=hfly;refine wpAny_leaves_onW ge en.fr ec λh' x1 x2=> ?_;refine hQ _ ⟨sr,en.fin r,⟨sm.os,sm.gens,sm.tk⟩,.inr ⟨base,a0,λa o ea mu=> ?_,x1,f7.trans x2,nL,λy hy=> ?_⟩⟩
  ·by_cases hm:a∈(menv::cx.l).filterMap (·.frame)
   ·exact .inr (oz a hm mu)
   ·rcases cK a o ea hm with q|⟨q,q2⟩
    ·exact .inl q
    ·refine .inr ⟨?_,q2⟩;induction e0:s.heap.get? a using abt with
    |none=>rfl|some o'=>have:=en.keep a o' e0;rw[this]at q;injection q
  ·refine au (eL y hy) λt u ha ht kF=> ?_;exact⟨t,u,ha,ht.of_slots x2,kF⟩
theorem yU(hf:FnAt W f fd body)
  (hb:∀(g:Gh)(s:Shared)(ys:List Value)(ai:List (Str×Value)),(∀ b o,W.B.get? b=some o->s.heap.get? b=some o)->aQ W g s.heap args (ys++ai.map (·.2))->ai.map (·.1)=kw-> ∃ bS,aQ W g s.heap args' bS/\BindsTo s fd ⟨ys,ai⟩ (xs.zip bS))
  (aI:Puts fd.scope.names [] xs args' YJ) (aw:sS W (cH fd k q) YJ hp body ag cls msg hp₁):iJ W (k+1) q (.ref f) kw args hp cls msg hp₁:=by
 refine .mk ?_;intro cx g s ys ai Q E bl I rv eC t0 hQ;refine ak (hb g s ys ai I.base rv eC) λbS df hZ=> ?_;refine ak hf.obj λob gL dP=> ?_;have ch:cx.A.depth<recursionLimit:=by have:=bl.room.1;exact acj (ab0 _ (k+1+1)) this
 have ax:∀ x∈xs.zip bS,fd.scope.names.lookup x.1=some .local\/(fd.scope.names.lookup x.1=some .cell/\((cellsFrom (s.heap.objs.size+1) fd.scope.names []).lookup x.1).isSome=true):=
  λx hx=>fO hf.nodup aI x.1 (af0 hx).1
 refine wpAny_call (codeAny_call_function ch (I.base _ _ gL) dP hf.co hf.gen hf.body ?_ (hZ _ _ _ _ ?_))
 ·obtain⟨c,oc,vs,t,e,hc,r⟩:=hf.code;exact⟨c,oc,vs,t,e,I.base _ _ hc,r⟩
 refine aa hf.clo ?_;refine aR hf.kind ax λmenv he s₁ x eB=> ?_;have en:=entered hf bl I df aI he x eB;refine⟨en.lim,codeAny_func ?_⟩;refine aw.go (cx.under menv) g s₁ _ _ en.pre (aby t0 eB) λYy Yv e f7=> ?_;exact en.leave bl.frames f7 λs'=>hQ Yy s' e
end
section
variable{W:Wd}{cx:Cx}{g':Gh}
inductive yC(W:Wd)(C:Addr)(tl:List Value):Prop where
|mk (N:Addr) (nm q:Str) (bs:List Value) (hdct:Bool) (sn:List Str) (sub:List Value) (ab:Bool) (col:Option Bool) (dd:Option Addr) (k0 k1 k2 k3 k5:Option Value) (mN:Str->Option Value) (h0:W.B.get? C=some (excClassObj nm q C N bs tl hdct sn sub ab col dd k0 k1 k2 k3 k5 "Exception.__new__")) (h1:W.B.Ns N mN) (h2:mN "__init__" =none) (h3:OwnTail W.B [.type "Exception",.type "BaseException",.type "object"] tl):yC W C tl
theorem IV{x:Str}{np ly pos:Pos}{e0:Expr}{C:Addr}{tl:List Value}{y:Str}(hs:isStar e0=false)(hq:fc.q=true)(O:yC W C tl)(hg:Gn W fc (.Name x np) (.ref C))(h1:Ev W fc env hp e0 (.str y) hp') :
  Xo W fc env hp (.Raise (some (.Call (.Name x np) [e0] [] ly)) none pos) env (.ref C) (some y) hp':=by
 refine .mk ?_;intro cx g s Q E P t0 hE;obtain⟨N,nm,q,bs,hdct,sn,sub,ab,col,dd,k0,k1,k2,k3,k5,mN,hC,hN,kT,T⟩:=O;refine wpAny_Raise_call_subU (C:=C) (nm:=nm) (q:=q) (N:=N) (bs:=bs) (bm:=tl) (hdct:=hdct) (sn:=sn) (sub:=sub) (ab:=ab) (col:=col) (dd:=dd) (k0:=k0) (k1:=k1) (k2:=k2) (k3:=k3) (k5:=k5)
  afg (by decide) afg (mN:=mN) (T.hasType afg.hasBase) (P.fm.hnd hq) (bM (by simp[hs])) kT ?_
 refine hg.go env hp cx g s _ E P ⟨rfl,bk (by simp[hs]) ?_⟩;have hv:=kY hs h1 rn;refine hv.go ly cx g s _ E P t0 λYx s₁ ys r rv=> ?_;(refine ak (Em rv) λz dy rz=> ?_;obtain rfl:=dy);obtain⟨u,rfl⟩:=aG rz;refine⟨rfl,by exact aa sizeLine_eq (ad0 _),r.pre.inv.base _ _ hC,hN.keeps r.pre.inv.base,T.keeps r.pre.inv.base,λh' e hm=> ?_⟩;exact hE Yx _ e ⟨s₁,r,⟨rfl,id,abm _⟩,.inl ⟨[.str y u],hm,λz hz=>by cases hz;exact⟨u,rfl⟩⟩⟩
theorem H7(hf:FnAt W f fd body)(hx:fd.params.args.map (·.arg)=[x1])(hb:∀ y1,bindArgs fd ⟨[y1],[]⟩=pure [(x1,y1)])
  (aI:Puts fd.scope.names [] [x1] [a1] YJ) (aw:sS W (cH fd k q) YJ hp body ag cls msg hp₁):iJ W (k+1) q (.ref f) [] [a1] hp cls msg hp₁:=
 yU hf (xs:=[x1]) (args':=[a1]) (λg s ys ai _ rv hk=>by
  obtain rfl:ai=[]:=by simpa using hk
  refine ak (Em rv) λy1 e r1=> ?_;obtain rfl:ys=[y1]:=ac8 e;exact⟨[y1],aP r1,aez (hb y1)⟩) aI aw
theorem jr(hf:FnAt W f fd body)(hx:fd.params.args.map (·.arg)=[x1,x2])(hb:∀ y1 y2,bindArgs fd ⟨[y1,y2],[]⟩=pure [(x1,y1),(x2,y2)])
  (aI:Puts fd.scope.names [] [x1,x2] [a1,a2] YJ) (aw:sS W (cH fd k q) YJ hp body ag cls msg hp₁):iJ W (k+1) q (.ref f) [] [a1,a2] hp cls msg hp₁:=
 yU hf (xs:=[x1,x2]) (args':=[a1,a2]) (λg s ys ai _ rv hk=>by
  obtain rfl:ai=[]:=by simpa using hk
  refine au (Eo rv) λy1 y2 e r1 r2=> ?_;obtain rfl:ys=[y1,y2]:=ac8 e;exact⟨[y1,y2],aJ r1 (aP r2),aez (hb y1 y2)⟩) aI aw
end
section
variable{W:Wd}{cx:Cx}{g':Gh}
theorem Tz.alive{s₀ sr s':Shared}{e:Addr}{base:Heap}(cK:∀ a o,sr.heap.get? a=some o->a∉cx.l.filterMap (·.frame)->base.get? a=some o\/(s₀.heap.get? a=none/\ ¬g'.F a/\a∉g'.ρ))
  (hb:base.StaysIn s'.heap) (hf:sr.heap.FunFrames W.B cx.l) (hu:sr.heap.UpToSlots s'.heap) {a:Addr} {o:Obj} (ea:sr.heap.get? a=some o) (wf:(∃ o',s₀.heap.get? a=some o')\/g'.F a\/a∈g'.ρ) :
  s'.heap.get? a=some o\/(a∈cx.l.filterMap (·.frame)/\ ∃ sl,s'.heap.get? a=some { o with slots:=sl }):=by
 by_cases hm:a∈cx.l.filterMap (·.frame)
 ·obtain⟨_,o',e',hd⟩:_:=hf.mem hm;rw[ea]at e';cases e';exact .inr ⟨hm,hu a o ea hd⟩
 ·rcases cK a o ea hm with q|⟨q1,q2,q3⟩
  ·exact .inl (hb a o q)
  ·rcases wf with⟨o',w⟩|w|w
   ·rw[q1]at w;injection w
   ·exact absurd w q2
   ·exact absurd w q3
theorem Run.land{base:Heap}{G:Addr->Prop}(r:Run W fc cx g s ag hp' g' sr)(P:Pre W fc cx g env hp s.heap)(sm:j_ sr s₃)(iE:∀ x k,(x,k)∈fc.nm->k≠ .cell/\k≠ .free)
  (cK:∀ a o,sr.heap.get? a=some o->a∉cx.l.filterMap (·.frame)->base.get? a=some o\/(s.heap.get? a=none/\ ¬g'.F a/\a∉g'.ρ)) (hb:base.StaysIn s₃.heap) (hu:sr.heap.UpToSlots s₃.heap)
  (hG:∀ a,G a->sr.heap.get? a=none/\ ∃ o,s₃.heap.get? a=some o):Run W fc cx g s ag hp' ⟨λb=>g'.F b\/G b,g'.ρ⟩ s₃:=by
 have I:=r.pre.inv;have f:=r.pre.fm;have al:=λ{a:Addr}{o:Obj}=>Tz.alive (W:=W) (e:=0) (a:=a) (o:=o) cK hb f.fun_ hu;have nG:∀ a o,sr.heap.get? a=some o-> ¬G a:=λa o e x=>by rw[(hG a x).1]at e;injection e
 have kept:∀ a o,sr.heap.get? a=some o->a∉cx.l.filterMap (·.frame)->(∃ o',s.heap.get? a=some o')\/g'.F a\/a∈g'.ρ->s₃.heap.get? a=some o:=λa o e hn wf=>by
  rcases al e wf with q|⟨q,_⟩
  ·exact q
  ·exact absurd q hn
 have lc:∀ a o,g'.F a->sr.heap.get? a=some o->s₃.heap.get? a=some o:=λa o ha e=>kept a o e (λhm=>(f.lF a hm).1 ha) (.inr (.inl ha));have K:bU g' sr.heap ⟨λb=>g'.F b\/G b,g'.ρ⟩ s₃.heap:=⟨λ_ x=> .inl x,lc,ac2⟩;have aliveρ:∀ a,a∈g'.ρ-> ∃ o,sr.heap.get? a=some o:=λa hm=>by
  obtain⟨i,hi,rfl⟩:_:=ac5 hm;have eA:i<hp'.length:=by rw[←I.len]at ⊢;exact hi
  exact(I.obs i hp'[i] _ (abu eA) (abu hi)).some
 have I':Inv W ⟨λb=>g'.F b\/G b,g'.ρ⟩ hp' s₃.heap:=by
  refine⟨λb o e=> ?_,I.len,λi o a e1 e2=> ?_,I.ρB,λa hm hF=> ?_,I.nd,λa ha=> ?_,I.sys.1,λhF=> ?_⟩
  ·have hn:b∉cx.l.filterMap (·.frame):=λhm=>by rw[(f.fun_.mem hm).1]at e;injection e
   exact kept b o (I.base b o e) hn (.inl ⟨o,P.inv.base b o e⟩)
  ·have rr:=I.obs i o a e1 e2;obtain⟨O,eO⟩:_:=rr.some;have hm:=acq e2;exact rr.keep K ((kept a O eO (λhx=>(f.lF a hx).2 hm) (.inr (.inr hm))).trans eO.symm)
  ·rcases hF with q|q
   ·exact I.ρF a hm q
   ·obtain⟨o,e⟩:_:=aliveρ a hm;exact nG a o e q
  ·rcases ha with q|q
   ·obtain⟨o,e⟩:_:=I.fz a q;exact⟨o,lc a o q e⟩
   ·exact(hG a q).2
  ·rcases hF with q|q
   ·exact I.sys.2 q
   ·obtain⟨o,e⟩:_:=I.sys.1;exact nG _ o (I.base _ o e) q
 have ro:∀ a,a∈cx.own-> ∃ o,sr.heap.get? a=some o:=f.ownD;have xw:∀ a o,a∈cx.own->sr.heap.get? a=some o->s₃.heap.get? a=some o\/(a∈cx.l.filterMap (·.frame)/\ ∃ sl,s₃.heap.get? a=some { o with slots:=sl }):=λa o ha e=>al e (.inl (P.fm.ownD a ha));refine⟨⟨λa x=> .inl (r.evo.F a x),λa x=> ?_,r.evo.ρ,r.evo.ρnew,λa o e=> ?_,λa o e h1 h2=> ?_⟩,⟨I',?_⟩,r.same.trans sm⟩
 ·rcases x with q|q
  ·exact r.evo.Fnew a q
  ·refine .inr ?_;induction e:s.heap.get? a using abt with
  |none=>rfl|some o=>obtain⟨o',e'⟩:_:=r.evo.dom a o e;exact absurd q (nG a o' e')
 ·obtain⟨o',e'⟩:_:=r.evo.dom a o e;rcases al e' (.inl ⟨o,e⟩)with q|⟨_,sl,q⟩
  ·exact⟨_,q⟩
  ·exact⟨_,q⟩
 ·rcases r.evo.keep a o e h1 h2 with q|⟨hl,sl,q⟩
  ·rcases al q (.inl ⟨o,e⟩)with w|⟨hl,sl,w⟩
   ·exact .inl w
   ·exact .inr ⟨hl,sl,w⟩
  ·rcases al q (.inl ⟨o,e⟩)with w|⟨hl,sl',w⟩
   ·exact .inr ⟨hl,sl,w⟩
   ·exact .inr ⟨hl,sl',w⟩
 ·refine{ kind:=f.kind,globals:=f.globals,builtins:=f.builtins,names:=f.names,nodup:=f.nodup,plain:=f.plain,ns:= ?_,cl:= ?_,loc:=f.loc,cell:= ?_,apart:=f.apart,ownF:= ?_,ownρ:=f.ownρ,ownB:=f.ownB,ownD:= ?_,room:=f.room,hnd:=f.hnd,frames:=f.frames,fun_:= ?_,lF:= ?_,frame:=f.frame,head:=f.head,code:=f.code }
  ·obtain⟨m,hm,hl⟩:_:=f.ns;exact⟨m,hu.ns hm,λx v l=>let⟨y,e,rv⟩:=hl x v l;⟨y,e,rv.keep K⟩⟩
  ·intro x k v l hk;have:=iE x k l.has.mem;rcases hk with rfl|rfl
   ·exact absurd rfl this.1
   ·exact absurd rfl this.2
  ·intro x _ hh;exact absurd rfl (iE x _ hh.mem).1
  ·intro a ha hF;rcases hF with q|q
   ·exact f.ownF a ha q
   ·obtain⟨o,e⟩:_:=ro a ha;exact nG a o e q
  ·intro a ha;obtain⟨o,e⟩:_:=ro a ha;rcases xw a o ha e with q|⟨_,sl,q⟩
   ·exact⟨_,q⟩
   ·exact⟨_,q⟩
  ·exact aV f.fun_ λa o ha e=>by obtain⟨_,o',e',hd⟩:_:=f.fun_.mem ha;rw[e]at e';cases e';exact hu a o e hd
  ·intro a ha;refine⟨λhF=> ?_,(f.lF a ha).2⟩;rcases hF with q|q
   ·exact(f.lF a ha).1 q
   ·obtain⟨_,o,e,_⟩:_:=f.fun_.mem ha;exact nG a o e q
theorem Hz(ht:fc.t=true)(u:Up W fc cx g s ag cls msg hp' g' s' e)
  (k:∀ sr s₃,Run W fc cx g s ag hp' g' sr->j_ sr s₃->Tz cx s g' sr s₃ e cls msg->Q () s₃) :
  wpAny (model W.prog W.w) cx.A (noteFrame (.ref e) cx.menv) (λ_ Yv=>wpAny (model W.prog W.w) cx.A (setFlight (.ref e) none) Q E Yv) E s':=by
 obtain⟨sr,r,sm,hm⟩:_:=u;have f:=r.pre.fm;obtain⟨outer,hl⟩:_:=f.head ht;have ii:cx.A.frames=some (cx.menv::outer):=by rw[f.frames,hl]at ⊢
 obtain⟨L,hL⟩:∃ L,cx.menv.frame=some L:=by have:=f.fun_;rw[hl]at this;obtain⟨_,⟨L,_,hL,_⟩,_⟩:_:=this;exact⟨L,hL⟩
 rcases hm with⟨as,hmade,eL⟩|⟨base,a0,cK,ec,f7,nL,eL⟩
 ·let S:=cx.l.filterMap (·.frame);have i5:∀ env∈cx.l,∀ b,env.frame=some b->b∈S:=λenv he b hb=>ahq.mpr ⟨env,he,hb⟩;refine DX (base:=hideAll sr.heap S) ii hL (λb o q=>of_hideAll _ q) (hl▸funFrames_hide f.fun_ i5) hmade λh' t x1 x2 x3 x4=> ?_;refine wpAny_landsW x1 λjI y1 y2=> ?_;refine k sr _ r ⟨sm.os,sm.gens,sm.tk⟩ ⟨hideAll sr.heap S,.ref t,λa o ea mu=> .inl (hideAll_get _ ea mu),hl.symm▸y1,((aj4 hmade.keeps).trans x4).trans y2,hmade.new,λy hy=> ?_⟩;obtain⟨u,hu⟩:_:=eL y hy;exact⟨t,u,rfl,by rw[←hu]at ⊢;exact x2.of_slots y2,x3⟩
 ·refine wpAny_looks_onW ii hL (hl▸ec) λh' x1 x2=> ?_;refine wpAny_landsW x1 λjI y1 y2=> ?_;refine k sr _ r ⟨sm.os,sm.gens,sm.tk⟩ ⟨base,a0,cK,hl.symm▸y1,(f7.trans x2).trans y2,nL,λy hy=> ?_⟩;obtain⟨t,u,ha,ht,kF⟩:_:=eL y hy;exact⟨t,u,ha,(ht.of_slots x2).of_slots y2,kF⟩
def V_(W:Wd)(cls c:Value)(b:Bool):Prop:= ∀(A:Around)(s:Shared)(e:Addr)(oe:Obj)(Q:Bool->Shared->Prop)(E:Value->Shared->Prop),(∀ a o,W.B.get? a=some o->s.heap.get? a=some o)->
 s.heap.get? e=some oe->oe.cls=cls->Q b s->wpAny (model W.prog W.w) A (excMatches (.ref e) c) Q E s
theorem rA{C C':Addr}{tl s4:List Value}{b:Bool}(O:yC W C tl)(O':yC W C' s4)(hb:(agh C::tl).contains (.ref C')=b):V_ W (.ref C) (.ref C') b:=by
 intro A s e oe Q E hB he hc hQ;obtain⟨N,nm,q,bs,hdct,sn,sub,ab,col,dd,k0,k1,k2,k3,k5,mN,hC,hN,kT,T⟩:_:=O;obtain⟨N',nm',q',bs',hdct',dT,sub',ab',col',dd',k0',k1',k2',k3',k5',mN',jS,hN',hni',T'⟩:_:=O';have hC:=hB _ _ hC;have jS:=hB _ _ jS;have l5:(agh C'::s4).contains (.type "BaseException")=true:=by rw[ajd,T'.hasType afg.hasBase]at ⊢;rfl
 have f:=tc_notTuple;obtain⟨h,g,d,t,os⟩:_:=s;unfold excMatches
 repeat (first|(with_reducible refine wpAny_loadPart_at he ?_;rw[hc]at ⊢)|with_reducible refine wpAny_loadPart_at jS ?_|(with_reducible refine wpAny_isSubtype_exc jS ?_;rw[l5]at ⊢)|(with_reducible refine wpAny_isSubtype_exc hC ?_;rw[hb]at ⊢)|wp_step)
 induction b using aco<;>(wp_walk;exact hQ)
theorem Gj(O':yC W C' s4)(hs:isSubtype (.type X) (.ref C')=pure false):V_ W (.type X) (.ref C') false:=by
 intro A s e oe Q E hB he hc hQ;obtain⟨N',nm',q',bs',hdct',dT,sub',ab',col',dd',k0',k1',k2',k3',k5',mN',jS,hN',hni',T'⟩:_:=O';have jS:=hB _ _ jS;have l5:(agh C'::s4).contains (.type "BaseException")=true:=by rw[ajd,T'.hasType afg.hasBase]at ⊢;rfl
 have f:=tc_notTuple;obtain⟨h,g,d,t,os⟩:_:=s;unfold excMatches
 repeat (first|(with_reducible refine wpAny_loadPart_at he ?_;rw[hc]at ⊢)|with_reducible refine wpAny_loadPart_at jS ?_|(with_reducible refine wpAny_isSubtype_exc jS ?_;rw[l5]at ⊢)|(rw[hs]at ⊢)|wp_step)
 wp_walk;exact hQ
theorem Vd(uj:isSubtype (.type T) (.type "BaseException")=pure true)(DH:isSubtype (.type ((anz T).elim "type" λx=>x.metatype)) (.type "tuple")=pure false)
  (q0:isSubtype (.type X) (.type T)=pure b):V_ W (.type X) (.type T) b:=λA s e oe Q E hB he hc hQ=>wpAny_excMatches_type (X:=X) ⟨oe,he,hc⟩ uj DH q0 hQ
class inductive Sel(W:Wd)(fc:FC)(cls:Value):List ExceptHandler->Option Str->Stmt->List Stmt->Pos->Prop
|hit {t:Expr} {c:Value} {n Ze b pos rest}:Gn W { fc with q:=false } t c->V_ W cls c true->Sel W fc cls (.ExceptHandler (some t) n (Ze::b) pos::rest) n Ze b pos
|miss {t:Expr} {c:Value} {n' b' pos' n Ze b pos rest}:Gn W { fc with q:=false } t c->V_ W cls c false->Sel W fc cls rest n Ze b pos->Sel W fc cls (.ExceptHandler (some t) n' b' pos'::rest) n Ze b pos
noncomputable def Cx.marked(cx:Cx)(e:Addr):Cx:={ cx with A:=cx.A.mark (some (.ref e)) }
theorem Pre.marked(P:Pre W fc cx g env hp h)(e:Addr):Pre W { fc with q:=false } (cx.marked e) g env hp h:=
 ⟨P.inv,{ P.fm with room:=P.fm.room,hnd:=λx=>(by cases x),frames:=P.fm.frames }⟩
theorem Pre.unmarked(P:Pre W { fc with q:=false } (cx.marked e) g env hp h)(hq:fc.q=true->cx.A.handled=none):Pre W fc cx g env hp h:=
 ⟨P.inv,{ P.fm with room:=P.fm.room,hnd:=hq,frames:=P.fm.frames }⟩
theorem Run.unmarked(r:Run W { fc with q:=false } (cx.marked e) g s ag hp' g' s')(hq:fc.q=true->cx.A.handled=none):Run W fc cx g s ag hp' g' s':=⟨⟨r.evo.F,r.evo.Fnew,r.evo.ρ,r.evo.ρnew,r.evo.dom,r.evo.keep⟩,r.pre.unmarked hq,r.same⟩
end
section
theorem name_goes(P:Pre W fc cx g env hp s.heap)(hh:ni fc.nm n .local)(iE:∀ x k,(x,k)∈fc.nm->k≠ .cell/\k≠ .free)
  (hQ:∀ s',Run W fc cx g s [] hp g s'->Q () s'):wpAny (model W.prog W.w) cx.A (do bindName cx.menv n .none;unbindBehindTheSuite cx.menv n pos) Q E s:=by
 refine ak P.fm.ns λm hm hr=> ?_;have f:=P.fm;have hk:=(f.names n).trans (hh.lookup f.nodup);refine wpAny_nameGoes_keeps hk hm (by exact aa f.kind rfl) (λh' v hn hs=> ?_);have K:=t8 f f.loc hs;obtain⟨o',tx,yk,ca,bE,mx⟩:=id hn;have alive:∃ o,h'.get? cx.menv.locals=some o:=⟨o',ca⟩;refine hQ { s with heap:=h',toks:=s.toks+1 } ⟨jZ.own f.loc hs alive,⟨P.inv.other (f.ownρ _ f.loc) (f.ownF _ f.loc) (f.ownB _ f.loc) hs,?_⟩,⟨rfl,id,acg _⟩⟩;refine{ kind:=f.kind,globals:=f.globals,builtins:=f.builtins,names:=f.names,nodup:=f.nodup,plain:=f.plain,ns:= ?_,cl:= ?_,loc:=f.loc,cell:= ?_,apart:=f.apart,ownF:=f.ownF,ownρ:=f.ownρ,ownB:=f.ownB,ownD:= ?_,room:=f.room,hnd:=f.hnd,frames:=f.frames,fun_:= ?_,lF:=f.lF,frame:=f.frame,head:=f.head,code:=f.code }
 ·exact⟨_,hn,λz u l=>l.nil.elim⟩
 ·intro z k u l _;exact l.nil.elim
 ·intro z _ hz;exact absurd rfl (iE z _ hz.mem).1
 ·intro a ha
  by_cases q:a=cx.menv.locals
  ·subst q;exact alive
  ·obtain⟨o,e⟩:=f.ownD a ha;exact⟨o,(hs.2 a q).trans e⟩
 ·exact jf f.fun_ hs ⟨o',ca,λvs q=>by rw[bE]at q;cases q⟩
def Xz(W:Wd)(cx:Cx)(e:Addr)(n:Option Str)(pos:Pos)(Q:Flow->Shared->Prop)(E:Value->Shared->Prop)(r:Except Value Flow)(Yv:Shared):Prop:=
 match r with
|.ok f=>(match n with
 |none=>Q f Yv|some n=>wpAny (model W.prog W.w) cx.A (do bindName cx.menv n .none;unbindBehindTheSuite cx.menv n pos) (λ_ s₃=>Q f s₃) E Yv)
|.error x=>cameBackBy (model W.prog W.w) cx.A cx.menv E x Yv
theorem Hq(S:Sel W fc cls hs n Ze b pos)(P:Pre W fc cx g env hp s.heap)
  (he:s.heap.get? e=some oe) (hc:oe.cls=cls)
  (k:codeAny (model W.prog W.w) (cx.A.mark (some (.ref e))) (.handlers (.ref e) [.ExceptHandler none n (Ze::b) pos] cx.menv) (Xz W cx e n pos Q E) s) :
  wpAny (model W.prog W.w) cx.A (handleBy (.ref e) cx.menv hs) Q E s:=by
 induction S with
|@hit t c n Ze b pos rest hg hx=>refine wpAny_handleBy_cons (codeAny_handlers_test (hg.go env hp (cx.marked e) g s _ _ (P.marked e) (hx _ _ _ oe _ _ P.inv.base he hc ?_))) (by intro q;cases q);exact k
|@miss t c n' b' pos' n Ze b pos rest hg hx S ih=>refine wpAny_handleBy_cons (codeAny_handlers_test (hg.go env hp (cx.marked e) g s _ _ (P.marked e) (hx _ _ _ oe _ _ P.inv.base he hc ?_))) (by intro q;cases q);exact ih k
theorem Tz.obj(x:Tz cx s₀ g' sr s' e cls msg):∃ oe,s'.heap.get? e=some oe/\oe.cls=cls:=
 let⟨_,_,_,ec,_,_,_⟩:=x;ec.there
theorem pL(ht:fc.t=true)(iE:∀ x k,(x,k)∈fc.nm->k≠ .cell/\k≠ .free)
  (h1:sS W fc env hp body ag (.ref C) (some y) hp₁) (S:Sel W fc (.ref C) (YS::hs) (some n) Ze b pos) (p:pC fc.nm ag n .local (.exc C y) YZ)
  (h2:cU W { fc with q:=false } YZ hp₁ (Ze::b) (.ret v YC)):Ex W fc env hp (.Try body (YS::hs) [] [] tpos) (.ret v YC):=by
 refine .mk ?_;intro cx g s Q E P t0 hQ;refine wpAny_Try_except (h1.go cx g s _ _ P t0 λYx s₁ e u=> ?_);refine Hz ht u λsr s₃ r sm hf=> ?_;refine ak hf.obj λoe he hc=> ?_;obtain⟨base,a0,cK,ec,f7,nL,eL⟩:=id hf;have YH:=r.land P sm iE cK ec.1 f7 (G:=λ_=>False) (λ_ x=>x.elim);refine Hq S YH.pre he hc ?_;refine codeAny_handlers_suite_as (lands_againW ec λZ8 Zq Zr=> ?_);obtain⟨t,u,rfl,f6,kF⟩:=eL y rfl;have ZP:=f6.of_slots Zr;refine bT Zq.first λoe vs nX wb wc ol=> ?_;have mv:∃ o,Z8.get? t=some o:=let⟨o,_,e,_⟩:=ZP;⟨o,e⟩;have Zm:=r.land (s₃:={ s₃ with heap:=Z8 }) P ⟨sm.os,sm.gens,sm.tk⟩ iE cK Zq.1 (f7.trans Zr) (G:=λa=>a=e\/a=t) (λa ha=>by
  rcases ha with rfl|rfl
  ·exact⟨nL,oe,nX⟩
  ·exact⟨kF,mv⟩)
 refine dw (cx:=cx.marked e) (fc:={ fc with q:=false }) (Zm.pre.marked e) p (v:= .exc C y) (by exact⟨e,oe,vs,t,u,rfl,.inr (.inl rfl),nX,wb,wc,ol,.inr (.inr rfl),ZP⟩) λBA tj=> ?_;refine h2.go (cx.marked e) _ BA _ _ tj.pre (tj.t (Zm.t t0)) λti xS f hr=> ?_;obtain⟨yv,rfl,tm,rv⟩:=hr;have hq:=P.fm.hnd;have rr:=(Zm.trans (tj.unmarked hq)).trans (tm.unmarked hq);refine(?_:wpAny _ _ _ _ _ _);refine name_goes rr.pre p.has iE λBB xL=>hQ ti BB _ ⟨yv,rfl,rr.trans xL,rv.keep (xL.evo.keeps rr.pre)⟩
theorem Vj(h1:cU W fc env hp body (.ret v hp₁)):Ex W fc env hp (.Try body (YS::hs) [] [] tpos) (.ret v hp₁):=by refine .mk ?_;intro cx g s Q E P t0 hQ;refine wpAny_Try_except (h1.go cx g s _ _ P t0 λYx s₁ f hr=> ?_);obtain⟨y,rfl,r⟩:=id hr;exact hQ Yx s₁ _ hr
end
section
open Builtin Builtin.BaseException Builtin.Exceptions
variable{k:Nat}{q:Bool}{W:Wd}{fc:FC}{cx:Cx}{g g':Gh}{env ag:aj}{hp hp' hp₁ YC YQ:List Ob}{h h':Heap}{cls:Value}{msg:Option Str}
class inductive Quiet(h:Heap)(n:Str)(fo:List Value):List Value->Prop
|base:Quiet h n fo fo
|own {A:Addr} {c0:Value} {dd:Option Addr} {cd:ClassData} {sl:Array (Option Value)} {mA:Str->Option Value} {tl:List Value} :
   h.get? A=some { cls:=c0,dict:=dd,data:= .cls cd,slots:=sl }->h.Ns cd.ns mA->mA n=none->Quiet h n fo tl->Quiet h n fo (.ref A::tl)
theorem Quiet.keeps{h h':Heap}{n:Str}{fo tl:List Value}(T:Quiet h n fo tl)(hk:∀ b o,h.get? b=some o->h'.get? b=some o):Quiet h' n fo tl:=by induction T with
|base=>exact .base
|own hA hN kT _ ih=>exact .own (hk _ _ hA) (hN.keeps hk) kT ih
theorem Quiet.hasType{h:Heap}{n:Str}{fo tl:List Value}(T:Quiet h n fo tl){X:String}{b:Bool}(hb:fo.contains (.type X)=b):tl.contains (.type X)=b:=by induction T with
|base=>exact hb
|own _ _ _ _ ih=>(refine aa ajd ?_;refine aa ih ?_);rfl
def Ke(W:Wd)(C:Addr):Prop:= ∃(tl:List Value)(N:Addr)(nm q:Str)(bs:List Value)(hdct:Bool)(sn:List Str)(sub:List Value)(ab:Bool)(col:Option Bool)(dd:Option Addr)(k0 k1 k2 k3 k5:Option Value)(mN:Str->Option Value),
 W.B.get? C=some (excClassObj nm q C N bs tl hdct sn sub ab col dd k0 k1 k2 k3 k5 "Exception.__new__")/\W.B.Ns N mN/\mN "__str__" =none/\Quiet W.B "__str__" [.type "Exception",.type "BaseException",.type "object"] tl
section
variable{M:Model}{A:Around}{E:Value->Shared->Prop}{h:Heap}{g:Array GenState}{d:Drawn}{t:Nat}{os:OsState}
theorem xK{fo tl:List Value}{n:Str}{y:Option Value}{Q:Option Value->Shared->Prop}(T:Quiet h n fo tl)(dE:lookupAlong fo n=pure y)(hq:Q y ⟨h,g,d,t,os⟩) :
  wpAny M A (lookupAlong tl n) Q E ⟨h,g,d,t,os⟩:=by
 induction T with
|base=>exact aa dE (wpAny_pure hq)
|own hA hN kT _ ih=>rw[lookupAlong_cons];refine wpAny_bind (wpAny_classOwn_cls hA hN ?_);exact aa kT ih
variable{nm q:Str}{C N:Addr}{bs bm fo:List Value}{hdct:Bool}{sn:List Str}{sub:List Value}{ab:Bool}{col:Option Bool}{dd:Option Addr}{k0 k1 k2 k3 k5:Option Value}{B rh:String}
theorem ql{mN:Str->Option Value}{n:Str}{y:Option Value}{Q:Option Value->Shared->Prop}
  (hC:h.get? C=some (excClassObj nm q C N bs bm hdct sn sub ab col dd k0 k1 k2 k3 k5 rh)) (hN:h.Ns N mN) (Dx:mN n=none) (T:Quiet h n fo bm) (CA:mroOf (.type B)=pure fo)
  (hB:typeLookup (.type B) n=pure y) (hq:Q y ⟨h,g,d,t,os⟩):wpAny M A (typeLookup (.ref C) n) Q E ⟨h,g,d,t,os⟩:=by
 have dE:lookupAlong fo n=pure y:=by rw[typeLookup_eq,CA]at hB;exact hB
 rw[typeLookup_eq];refine wpAny_bind (wpAny_mroOf_exc hC ?_);rw[lookupAlong_cons];refine wpAny_bind (wpAny_classOwn_exc hC hN ?_);exact aa Dx (xK T dE hq)
end
theorem JN(hB:∀ b o,W.B.get? b=some o->s.heap.get? b=some o)(O:Ke W C)(hu:A.units<cLine)
  (he:s.heap.get? e=some o) (hc:o.cls= .ref C) (hd:o.data= .fields vs) (h0:vs[0]? =some (.ref t0)) (ht:s.heap.TupAt t0 [.str m tk]) (hq:Q (.str m tk) s) :
  wpAny (model prog w) A (amj (.ref e)) Q E s:=by
 refine cps λ_ c_=> ?_;obtain⟨tl,N,nm,q,bs,hdct,sn,sub,ab,col,dd,k0,k1,k2,k3,k5,mN,hC,hN,kT,T⟩:=O;have hC:=hB _ _ hC;have hN:=hN.keeps hB;have T:=T.keeps hB;have FX:=F.excStr_Exception;have i5:tl.contains (.type "BaseException")=true:=T.hasType (by decide);obtain⟨h,g,d,t,os⟩:=s;obtain⟨ot,k,D2,_,D1⟩:=ht;refine c_ ?_;have ba:∀{A:Around}{Q:Value×List Value->Shared->Prop}{E:Value->Shared->Prop},Q (.ref t0,[.str m tk]) ⟨h,g,d,t,os⟩->wpAny (model prog w) A (bexcArgs (.ref e)) Q E ⟨h,g,d,t,os⟩:=λhq=>by unfold bexcArgs;exact wpAny_bind (wpAny_field he hd h0 (wpAny_bind (wpAny_seqItems D2 D1 (wpAny_pure hq))))
 have aw:∀{A:Around}{E:Value->Shared->Prop}{Q:Fin->Shared->Prop},Q (.done (.ret (.str m tk))) ⟨h,g,d,t,os⟩->wpAny (model prog w) A (Builtin.«BaseException.__str__» ⟨[.ref e],[]⟩) Q E ⟨h,g,d,t,os⟩:=λhq=>by
  unfold Builtin.«BaseException.__str__»
  repeat (first|with_reducible refine ba ?_|wp_step)
  exact hq
 have ia:∀{A:Around}{E:Value->Shared->Prop}{Q:Value->Shared->Prop},Q (.str m tk) ⟨h,g,d,t,os⟩->wpAny (model prog w) A (call (.builtin "BaseException.__str__") [.ref e]) Q E ⟨h,g,d,t,os⟩:=λhq=>by
  refine wpAny_call (codeAny_call_builtin FX.str.plain F.entry_bexc_str ?_);have hk:builtinKind "BaseException.__str__" =some .slot:=by decide +kernel
  have mM:splitId "BaseException.__str__" =some ("BaseException","__str__"):=by decide +kernel
  have ha:=F.args_bexc_str (.ref e);refine wpAny_check_slot_inst (id:= "BaseException.__str__") (rest:=[]) hk mM ha i5 he hc hC ?_;refine wpAny_mono (aw (Q:=λf s=>f= .done (.ret (.str m tk))/\s=⟨h,g,d,t,os⟩) ⟨rfl,rfl⟩) (λf s' h'=> ?_) λ_ _ x=>x;obtain⟨rfl,rfl⟩:=h';exact hq
 have iN:∀{A:Around}{E:Value->Shared->Prop}{Q:Option Value->Shared->Prop},Q (some (.str m tk)) ⟨h,g,d,t,os⟩->wpAny (model prog w) A (callSpecial? (.ref e) "__str__") Q E ⟨h,g,d,t,os⟩:=λhq=>by unfold callSpecial? specialOf;refine wpAny_bind (wpAny_bind (wpAny_typeOf_ref he ?_));refine aa hc ?_;refine ql hC hN kT T afg.mroIs FX.str.lookup ?_;dsimp only[FX.str.bind];exact wpAny_holding (wpAny_bind (wpAny_pure (wpAny_bind (wpAny_mono (ia (Q:=λv s=>v= .str m tk/\s=⟨h,g,d,t,os⟩) ⟨rfl,rfl⟩) (λv s' h'=>wpAny_pure (by obtain⟨rfl,rfl⟩:=h';exact hq)) λ_ _ h'=>h'))))
 unfold amj
 repeat (first|with_reducible refine wpAny_cRoomFor hu ?_|with_reducible refine iN ?_|wp_step)
 exact hq
theorem wR(O:Ke W C):Call W k q (.type "str") [] [.exc C y] hp (.str y) hp:=
 .of1 λcx g s yv Q E bl I r hQ=>by
  obtain⟨a,o,vs,t,u,rfl,ha,ho,hc,hd,h0,ht,f6⟩:=r;have hu:cx.A.units+2<cLine:=by have:=bl.room.2;exact acj (acs (abk rfl) _) this
  refine callType_new F.called_str (by decide) (F.typeCall_str_1 _) (F.newCall_str_1 _) (λobj=>F.args_object_init_2 obj _) F.entry_str_new
   (meets_str_new (S:=λA' R s'=>A'.units+1<cLine/\(∀ b o,W.B.get? b=some o->s'.heap.get? b=some o)/\s'.heap.get? a=some o/\s'.heap.TupAt t [.str y u]/\R (.ok (.ret (.str y u))) s')
    λ_ _ A' _ _ hq=>JN (A:=A'.in1) hq.2.1 O hq.1 hq.2.2.1 hc hd h0 hq.2.2.2.1 hq.2.2.2.2)
   ⟨(show cx.A.units+1+1<cLine from hu),I.base,ho,f6,typeIs_str _ _ _,hQ g s _ (.refl I) bx⟩
end
section
def called (Γ : aoj):Prop:=(Γ.below.any (·.1.isCaller))=true\/ Γ.code.isCaller=true
def qx (Γ : aoj):Prop:=(Γ.below.any (·.1.isCaller))=true
def cj{α:Type}(M:Model)(A:Around)(t:Sem α)(Q:α->Shared->Prop)(E:Value->Shared->Prop)(s:Shared):Prop:=
 ∀ Γ p,Γ.In A->called Γ ->Sem.wp M Γ t (λa _ s'=>Q a s') (λe _ s'=>E e s') p s
def fB(M:Model)(A:Around)(c:Code)(R:Result->Shared->Prop)(s:Shared):Prop:=
 ∀ Γ p,Γ.code=c-> Γ.Below A->qx Γ ->wpCode M Γ R p s
section
variable{α β:Type}
theorem aM(h:wpAny M A t Q E s):cj M A t Q E s:=fun Γ p hΓ _=>h Γ p hΓ
theorem Lf(h:codeAny M A c R s):fB M A c R s:=fun Γ p hc hΓ _=>h Γ p hc hΓ
theorem cu(h:cj M A t Q E s)(hQ:∀ a s,Q a s->Q' a s)(hE:∀ e s,E e s->E' e s):cj M A t Q' E' s:=
 fun Γ p hΓ hc=>ahw M Γ t (λa _ s=>hQ a s) (λe _ s=>hE e s) p s (h Γ p hΓ hc)
theorem aq(h:cj M A m (λa s'=>cj M A (f a) Q E s') E s):cj M A (m >>= f) Q E s:=fun Γ p hΓ hc=>by rw[amk];exact ahw M Γ m (λa p' s' h'=>h' Γ p' hΓ hc) (λ_ _ _ h'=>h') p s (h Γ p hΓ hc)
theorem aN(h:Q a s):cj M A (pure a) Q E s:=λ_ _ _ _=>h
theorem jc(h:cj M A m Q E s):cj M A (holding vs m) Q E s:=fun Γ p hΓ hc=>by rw[an0];exact h Γ p hΓ hc
theorem BK{m:Sem α}{Q:Except Value α->Shared->Prop}(h:cj M A m (λa=>Q (.ok a)) (λe=>Q (.error e)) s):cj M A m.attempt Q E s:=fun Γ p hΓ hc=>by rw[Sem.wp_attempt];exact h Γ p hΓ hc
theorem lQ(h:cj M A m Q (λe s'=>cj M A (k e) (λ_ g9=>E e g9) E s') s):cj M A (m.onRaise k) Q E s:=fun Γ p hΓ hc=>by rw[Sem.wp_onRaise];exact ahw M Γ m (λ_ _ _ h'=>h') (λe p' s' h'=>h' Γ p' hΓ hc) p s (h Γ p hΓ hc)
theorem bI(h:Q () s):cj M A (standAt pos) Q E s:=λ_ _ _ _=>h
theorem nT(h:called Γ)(c:Code)(hd:Option Value)(p:Pos):qx (Γ.enter c hd p):=by refine(?_:(((Γ.code,p):: Γ.below).any (·.1.isCaller))=true);(refine aa ajx ?_;rw[aef]);exact h.symm
theorem Tt(hc:fB M (A.mark h) c (λr s'=>match r with|.ok f=>Q f s'|.error e=>E e s') s)(vw:h≠some byPass) :
  cj M A (run c h) Q E s:=fun Γ p hΓ hk=>by rw[Sem.wp_run];exact hc _ p rfl (hΓ.enter c h p vw) (nT hk c h p)
theorem yt(hc:fB M A c (λr s'=>match r with|.ok (.ret v)=>Q v s'|.ok _=>False|.error e=>E e s') s):cj M A (runValue c) Q E s:=
 fun Γ p hΓ hk=>by rw[Sem.wp_runValue];exact hc _ p rfl (hΓ.enter c none p (by intro x;cases x)) (nT hk c none p)
theorem lO(hc:fB M A (.call f ⟨pos,kw⟩) (λr s'=>match r with|.ok (.ret v)=>Q v s'|.ok _=>False|.error e=>E e s') s) :
  cj M A (call f pos kw) Q E s:=yt hc
theorem cJ
  (h:cj M (A.under c) (M.den c) (λfin s'=>match fin with|.done f=>R (.ok f) s'|.again c'=>c'.quiet=true/\fB M A c' R s') (λe s'=>R (.error e) s') s):fB M A c R s:=fun Γ p hc hΓ hk=>by
 (rewrite[wpCode_iff_wp];refine aa hc ?_);refine ahw M Γ _ (λfin p' s' h'=> ?_) (λ_ _ _ h'=>h') p s (h Γ p (hc▸hΓ.in) (.inl hk));cases fin with
|done f=>exact h'
|again c'=>exact⟨h'.1,h'.2 (Γ.goto c') p' rfl (hΓ.goto c') hk⟩
end
section
theorem nu
  (h:cj (model prog w) (A.deeper env) (execs body env) (λf s'=>R (.ok (.ret (match f with|.ret v=>v|_=> .none))) s')
   (λe s'=>wpAny (model prog w) (A.deeper env) (leaving env e) (λ_ g9=>R (.error e) g9) (λe' g9=>R (.error e') g9) s') s) :
  fB (model prog w) A (.func body env) R s:=by
 refine cJ ?_;refine(?_:cj _ (A.deeper env) (do point;match ←(execs body env).onRaise (leaving env)with|.ret v=>ret v|_=>ret .none) _ _ s);refine aq (aM (wpAny_point (aq (lQ (cu h (λf s' h'=> ?_) λ_ _ h'=>aM h')))));induction f using akd<;>exact aN h'
theorem dC(ch:A.depth<recursionLimit)(ho:s.heap.get? a=some o)
  (bE:o.data= .func fd) (tP:fd.scope.isCoroutine=false) (u4:fd.scope.isGenerator=false) (aw:fd.body= .stmts body) (nK:s.heap.CodeRec fd.code fd.qualname)
  (h:wpAny (model prog w) A.in1 (bindArgs fd args) (λcE s₁=>
   wpAny (model prog w) A.in1 (newFunctionEnv fd.scope fd.globals fd.closure cE (fd.qualname++ ".<locals>.") (some a) fd.code none fd.builtins)
    (λenv Yv=>Yv.heap.NoLimit/\fB (model prog w) A (.func body env) R Yv) (λe s'=>R (.error e) s') s₁) (λe s'=>R (.error e) s') s) :
  fB (model prog w) A (.call (.ref a) args) R s:=by
 refine cJ ?_;refine(?_:cj _ A.in1 (callAny (.ref a) args) _ _ s);delta callAny;dsimp only;refine aq (aM (wpAny_load ho ?_));obtain⟨c,oc,vs,tq,hc,qo,CL,hq⟩:=nK;refine aa bE ?_;dsimp only;delta callFunction;dsimp only;refine aa hc ?_;refine aa tP ?_;refine aa u4 ?_;refine aa aw ?_;dsimp only;rw[hc]at h;refine aq (m:=field (.ref c) 1) (aM (wpAny_field qo CL hq (aq (aN ?_))));exact aq (aM (wpAny_mono h (λcE s₁ YF=>aq (aM (wpAny_mono YF (λenv Yv YK=>aq (aM (wpAny_enterFrame YK.1 ch
  (aN (And.intro rfl YK.2))))) λ_ _ h'=>h'))) λ_ _ h'=>h'))
end
end
section
structure Ym(W:Wd)(fc:FC)(env:aj)(hp:List Ob)(e:Expr)(v:V)(hp':List Ob):Prop where
 go:∀(cx:Cx)(g:Gh)(s:Shared)(Q:Value->Shared->Prop)(E:Value->Shared->Prop),Pre W fc cx g env hp s.heap->0<s.toks->
  (∀ g' s' y,Run W fc cx g s env hp' g' s'->RV W g' s'.heap v y->Q y s')->cj (model W.prog W.w) cx.A (eval e cx.menv) Q E s
structure Qi(W:Wd)(fc:FC)(env:aj)(hp:List Ob)(st:Stmt)(o:Out):Prop where
 go:∀(cx:Cx)(g:Gh)(s:Shared)(Q:Flow->Shared->Prop)(E:Value->Shared->Prop),Pre W fc cx g env hp s.heap->0<s.toks->
  (∀ g' s' f,After W fc cx g s o f g' s'->Q f s')->cj (model W.prog W.w) cx.A (exec st cx.menv) Q E s
structure gJ(W:Wd)(fc:FC)(env:aj)(hp:List Ob)(iX:List Stmt)(o:Out):Prop where
 go:∀(cx:Cx)(g:Gh)(s:Shared)(Q:Flow->Shared->Prop)(E:Value->Shared->Prop),Pre W fc cx g env hp s.heap->0<s.toks->
  (∀ g' s' f,After W fc cx g s o f g' s'->Q f s')->cj (model W.prog W.w) cx.A (execs iX cx.menv) Q E s
structure sJ(W:Wd)(k:Nat)(q:Bool)(f:Value)(kw:List Str)(args:List V)(hp:List Ob)(v:V)(hp':List Ob):Prop where
 go:∀(cx:Cx)(g:Gh)(s:Shared)(ys:List Value)(ai:List (Str×Value))(Q:Value->Shared->Prop)(E:Value->Shared->Prop),Bl W k q cx g s.heap->Inv W g hp s.heap->aQ W g s.heap args (ys++ai.map (·.2))->ai.map (·.1)=kw->0<s.toks->
  (∀ g' s' y,aH W cx g s hp' g' s'->RV W g' s'.heap v y->Q y s')->cj (model W.prog W.w) cx.A (agd f ys ai) Q E s
structure BX(W:Wd)(fc:FC)(env:aj)(hp:List Ob)(e:Expr)(cls:Value)(msg:Option Str)(hp':List Ob):Prop where
 go:∀(cx:Cx)(g:Gh)(s:Shared)(Q:Value->Shared->Prop)(E:Value->Shared->Prop),Pre W fc cx g env hp s.heap->0<s.toks->
  (∀ g' s' e,Up W fc cx g s env cls msg hp' g' s' e->E (.ref e) s')->cj (model W.prog W.w) cx.A (eval e cx.menv) Q E s
structure Fj(W:Wd)(fc:FC)(env:aj)(hp:List Ob)(es:List Expr)(cls:Value)(msg:Option Str)(hp':List Ob):Prop where
 go:∀(pos:Pos)(cx:Cx)(g:Gh)(s:Shared)(Q:List Value->Shared->Prop)(E:Value->Shared->Prop),Pre W fc cx g env hp s.heap->0<s.toks->
  (∀ g' s' e,Up W fc cx g s env cls msg hp' g' s' e->E (.ref e) s')->cj (model W.prog W.w) cx.A (spliced (backTo pos (starEach es cx.menv))) Q E s
structure Uq(W:Wd)(fc:FC)(env:aj)(hp:List Ob)(st:Stmt)(ag:aj)(cls:Value)(msg:Option Str)(hp':List Ob):Prop where
 go:∀(cx:Cx)(g:Gh)(s:Shared)(Q:Flow->Shared->Prop)(E:Value->Shared->Prop),Pre W fc cx g env hp s.heap->0<s.toks->
  (∀ g' s' e,Up W fc cx g s ag cls msg hp' g' s' e->E (.ref e) s')->cj (model W.prog W.w) cx.A (exec st cx.menv) Q E s
structure qu(W:Wd)(fc:FC)(env:aj)(hp:List Ob)(iX:List Stmt)(ag:aj)(cls:Value)(msg:Option Str)(hp':List Ob):Prop where
 go:∀(cx:Cx)(g:Gh)(s:Shared)(Q:Flow->Shared->Prop)(E:Value->Shared->Prop),Pre W fc cx g env hp s.heap->0<s.toks->
  (∀ g' s' e,Up W fc cx g s ag cls msg hp' g' s' e->E (.ref e) s')->cj (model W.prog W.w) cx.A (execs iX cx.menv) Q E s
structure m_(W:Wd)(k:Nat)(q:Bool)(f:Value)(kw:List Str)(args:List V)(hp:List Ob)(cls:Value)(msg:Option Str)(hp':List Ob):Prop where
 go:∀(cx:Cx)(g:Gh)(s:Shared)(ys:List Value)(ai:List (Str×Value))(Q:Value->Shared->Prop)(E:Value->Shared->Prop),Bl W k q cx g s.heap->Inv W g hp s.heap->aQ W g s.heap args (ys++ai.map (·.2))->ai.map (·.1)=kw->0<s.toks->
  (∀ g' s' e,We W cx g s cls msg hp' g' s' e->E (.ref e) s')->cj (model W.prog W.w) cx.A (agd f ys ai) Q E s
theorem Ex.c{st:Stmt}{o:Out}(x:Ex W fc env hp st o):Qi W fc env hp st o:= .mk λcx g s Q E P t0 hQ=>aM (x.go cx g s Q E P t0 hQ)
theorem cU.c(x:cU W fc env hp iX o):gJ W fc env hp iX o:= .mk λcx g s Q E P t0 hQ=>aM (x.go cx g s Q E P t0 hQ)
theorem Call.c(x:Call W k q f kw args hp v hp'):sJ W k q f kw args hp v hp':= .mk λcx g s ys ai Q E bl I rv hk t0 hQ=>aM (x.go cx g s ys ai Q E bl I rv hk t0 hQ)
section
theorem cZ{st:Stmt}{rest:List Stmt}{Q:Flow->Shared->Prop}(h:cj M A (exec st env) (λf s'=>match f with|.next=>cj M A (execs rest env) Q E s'|f=>Q f s') E s) :
  cj M A (execs (st::rest) env) Q E s:=by
 rw[execs_cons];refine aq (cu h (λf s' h'=> ?_) λ_ _ x=>x);induction f using akd<;>first|exact h'|exact aN h'
theorem PT(h:wpAny M A (isTrue aE env (eval aE env)) (λb Yv=>if b then cj M A (execs body env) Q E Yv else cj M A (execs orelse env) Q E Yv) E s) :
  cj M A (exec (.If aE body orelse pos) env) Q E s:=by
 rw[exec_If];refine aq (bI (aq (aM (wpAny_mono h (λb Yv YK=> ?_) λ_ _ x=>x))));induction b using aco<;>exact YK
theorem Fe(h:cj M A (eval e env) (λv=>Q (.ret v)) E s):cj M A (exec (.Return (some e) pos) env) Q E s:=by rw[exec_Return_some];exact aq (bI (aq (cu h (λv s' h'=>aN h') λ_ _ x=>x)))
theorem J0(h:cj M A (spliced (backTo pos (starEach dA env))) (λvs s₁=>cj M A (newTuple vs) Q E s₁) E s):cj M A (eval (.Tuple dA k pos) env) Q E s:=by refine(?_:cj M A (do standAt pos;newTuple (←spliced (backTo pos (starEach dA env)))) Q E s);exact aq (bI (aq h))
theorem jJ(h:cj M A x (λv s₁=>cj M A (spliced rest) (λvs Yv=>Q (v::vs) Yv) E s₁) E s):cj M A (spliced ((false,x)::rest)) Q E s:=by rw[spliced];refine aq (cu h (λv s₁ YF=> ?_) λ_ _ x=>x);dsimp only[acp,if_false];exact aq (aN (aq (jc (cu YF (λvs Yv YK=>aN YK) λ_ _ x=>x))))
theorem JZ(h:cj M A (eval l env) (λa s₁=>cj M A (eval r env) (λb Yv=>wpAny M A (binaryOp op a b) Q E Yv) E s₁) E s) :
  cj M A (eval (.BinOp l op r pos) env) Q E s:=fun Γ p hΓ hc=>by
 simp only[eval_BinOp,amk,an0,Sem.wp_cmd_standAt,Sem.wp_operate];exact ahw M Γ _ (λa AZ s₁ YF=>ahw M Γ _ (λb _ Yv YK=>YK Γ _ hΓ) (λ_ _ _ h'=>h') _ _ (YF Γ AZ hΓ hc)) (λ_ _ _ h'=>h') _ _ (h Γ p hΓ hc)
theorem pA
  (h:cj M A (eval value env) (λv s₁=>wpAny M A (assignAll v ((assignEach targets env).map (·.2))) (λ_=>Q .next) E s₁) E s)
  (hs:swapsWithSole targets value pos.line env=pure false) (hw:swappedStores targets value env=pure none) :
  cj M A (exec (.Assign targets value pos) env) Q E s:=by
 rw[exec_Assign_arm];refine aq (bI ?_);refine aa hs ?_;refine aq (aN ?_);refine aa (if_neg (by decide)) ?_;refine aq (cu h (λv s₁ YF=> ?_) λ_ _ x=>x);refine aa hw ?_;refine aq (aN (aM ?_));exact wpAny_bind (wpAny_mono YF (λ_ _ x=>wpAny_pure x) λ_ _ x=>x)
theorem pB{P:Heap->Prop}(mw:(args.any (·.1)||bv.any (·.1.isNone))=false)
  (hk:∀ h,P h-> ∃ k,(k=aoo\/k=anv\/k=amf)/\Looks M h (keeperOf f) k)
  (h:wpAny M A (evalArgs f true args bv) (λa s₁=>P s₁.heap/\cj M A (call f (first++a.pos) a.kw) Q E s₁) E s):cj M A (callWith pos f first args bv) Q E s:=by
 delta callWith;dsimp only;refine aq (jc (aM (wpAny_mono h (λa s₁ YF=>aq (bI ?_)) λ_ _ x=>x)));refine ak (hk _ YF.1) λk gI L=> ?_;refine aa mw ?_;refine aq (aM (L.here ?_));have last:∀{t:Sem Value},cj M A t Q E s₁->cj M A (t >>= λr=>holding [r] point >>= λ_=>pure r) Q E s₁:=
  λht=>aq (cu ht (λr Yv hr=>aq (aM (wpAny_holding (wpAny_point (aN hr))))) λ_ _ x=>x)
 have marked (mk:Value):cj M A (callMarked mk f (first++a.pos) a.kw) Q E s₁:=by unfold callMarked;exact fun Γ p hΓ hc=>by rw[Sem.wp_keep];exact YF.2 Γ p hΓ hc
 rcases gI with rfl|rfl|rfl<;>dsimp only<;>first|exact last YF.2|(split<;>first|exact last YF.2|exact last (marked _))
theorem m9{id:Str}{p pos:Pos}{args:List Expr}{bv:List Keyword}{Q:Value->Shared->Prop}
  (h:wpAny M A (eval (.Name id p) env) (λf s₁=>cj M A (callWith pos f [] (backTo pos (starEach args env)) (backToKw pos (keywordEach bv env))) Q E s₁) E s) :
  cj M A (eval (.Call (.Name id p) args bv pos) env) Q E s:=by
 rw[arm_eval_Call_Name'];exact aq (aM h)
theorem BR
  (h:cj M A body (λf s₁=>match f with|.next=>wpAny M A orelse Q E s₁|f=>Q f s₁)
   (λe s₁=>wpAny M A (noteFrame e env) (λ_ Yv=>wpAny M A (setFlight e none) (λ_ s₃=>wpAny M A (handleBy e env (YS::hs)) Q E s₃) E Yv) E s₁) s) :
  cj M A (tryStmt false body (YS::hs) orelse [] env) Q E s:=by
 delta tryStmt;dsimp only;dsimp only[List.isEmpty_nil,if_true,List.isEmpty_cons,ah4,acp,if_false];refine aq (BK (cu h (λf s₁ YF=> ?_) λe s₁ YF=>aM ?_))
 ·induction f using akd<;>first|exact aM YF|exact aN YF
 ·exact wpAny_bind (wpAny_mono YF (λ_ _ YK=>wpAny_bind YK) λ_ _ x=>x)
theorem Ff(hc:fB M (A.mark h) c (λr s'=>match r with|.ok f=>Q f s'|.error e=>cameBackBy M A env E e s') s)(vw:h≠some byPass) :
  cj M A (runOwn c env h) Q E s:=by
 unfold runOwn;exact lQ (cu (Tt hc vw) (λ_ _ x=>x) λ_ _ x=>aM x)
theorem Tq
  (h:wpAny M A (eval iter env) (λx s₁=>wpAny M A (pyIter x) (λit Yv=>
   fB M A (.forLoop ac it body orelse env) (λr s'=>match r with|.ok f=>Q f s'|.error e=>cameBackBy M A env E e s') Yv) E s₁) E s)
  (hs:∀ x,foldedSetIterable iter env x=pure x):cj M A (exec (.For ac iter body orelse pos) env) Q E s:=by
 rw[exec_For];refine aq (bI (aq (aM (wpAny_mono h (λx s₁ YF=> ?_) λ_ _ x=>x))));exact aa (hs x) (aq (aN (aq (bI (aq (jc (aM (wpAny_mono YF (λit Yv YK=>Ff YK nofun) λ_ _ x=>x))))))))
theorem CX(hq:c.quiet=true)(I:Nat->Shared->Prop)
  (d':∀ n s,I n s->cj M (A.under c) (M.den c) (λfin s'=>match fin with|.done f=>R (.ok f) s'|.again c'=>(c'=c/\ ∃ m,m<n/\I m s')\/(c'.quiet=true/\fB M A c' R s')) (λe s'=>R (.error e) s') s)
  (n:Nat) (h:I n s):fB M A c R s:=by
 induction n using ait generalizing s with
|ind n ih=>refine cJ (cu (d' n s h) (λfin s' hf=> ?_) λ_ _ h'=>h');cases fin with
 |done f=>exact hf|again c'=>
   rcases hf with⟨rfl,m,hm,hI⟩|hf
   ·exact⟨hq,ih m hm hI⟩
   ·exact hf
end
section
theorem Tr
  (h:cj (model prog w) A (execs body env) (λf s₁=>match f with|.next=>wpAny (model prog w) A (execs orelse env) Q E s₁|f=>Q f s₁)
   (λe s₁=>wpAny (model prog w) A (noteFrame e env) (λ_ Yv=>wpAny (model prog w) A (setFlight e none) (λ_ s₃=>wpAny (model prog w) A (handleBy e env (YS::hs)) Q E s₃) E Yv) E s₁) s) :
  cj (model prog w) A (exec (.Try body (YS::hs) orelse [] pos) env) Q E s:=by
 rw[arm_exec_Try];exact aq (bI (BR h))
theorem u_(I:Nat->Shared->Prop)
  (d':∀ n s,I n s->wpAny (model prog w) A (pyNext it) (λr s₁=>match r with
  |none=>wpAny (model prog w) A (execs orelse env) (λf s₃=>R (.ok f) s₃) (notedBy (model prog w) A env λe s'=>R (.error e) s') s₁|some v=>wpAny (model prog w) A (letOwnedTupleGo ac it v) (λ_ Zz=>
     wpAny (model prog w) A (assign ac env v) (λ_ Yv=>cj (model prog w) A (execs body env) (λf s₃=>match f with
     |.next|.cont=> ∃ m,m<n/\I m s₃|.brk=>R (.ok .next) s₃|.ret v=>R (.ok (.ret v)) s₃) (notedBy (model prog w) A env λe s'=>R (.error e) s') Yv) (notedBy (model prog w) A env λe s'=>R (.error e) s') Zz) (notedBy (model prog w) A env λe s'=>R (.error e) s') s₁) (notedBy (model prog w) A env λe s'=>R (.error e) s') s)
  (n:Nat) (h:I n s):fB (model prog w) A (.forLoop ac it body orelse env) R s:=by
 refine CX rfl I (λn s hI=> ?_) n h;refine(?_:cj _ A ((forTurn ac it body orelse env).onRaise (λx=>do noteFrame x env;theTreesLotGoes x)) _ _ s);refine lQ (cu (E:=notedBy (model prog w) A env λe s'=>R (.error e) s') ?_ (λ_ _ q=>q) λ_ _ hx=>aM (wpAny_bind (wpAny_mono hx (λ_ _ e=>wpAny_theTreesLotGoes e) λ_ _ e=>e)));dsimp only[forTurn];refine aq (bI (aq (aM (wpAny_onRaise (wpAny_mono (d' n s hI) (λr s₁ YF=> ?_) λ_ _ h'=>wpAny_standAt h')))));induction r using abt with
|none=>exact aN (.inr ⟨rfl,Lf (codeAny_block YF)⟩)
|some v=>refine aq (aM (wpAny_mono YF (λ_ Zz Z1=> ?_) λ_ _ h'=>h'));refine aq (aM (wpAny_mono Z1 (λ_ Yv YK=>aq (cu YK (λf s₃ YT=> ?_) λ_ _ h'=>h')) λ_ _ h'=>h'));induction f using akd with
 |next=>exact aN (.inl ⟨rfl,YT⟩)|cont=>exact aN (.inl ⟨rfl,YT⟩)|brk=>exact aN YT|ret v=>exact aN YT
end
end
section
theorem cL{st:Stmt}{r:List Stmt}{YZ:aj}{hp₁:List Ob}{o:Out}(h1:Qi W fc env hp st (.next YZ hp₁))(h2:gJ W fc YZ hp₁ r o):gJ W fc env hp (st::r) o:=by refine .mk ?_;intro cx g s Q E P t0 hQ;refine cZ (h1.go cx g s _ E P t0 λYx s₁ f a=> ?_);obtain⟨rfl,Yw⟩:=a;exact h2.go cx Yx s₁ Q E Yw.pre (Yw.t t0) λYy Yv f a=>hQ Yy Yv f (a.trans Yw)
theorem Dq{st:Stmt}{r:List Stmt}{o:Out}(hl:o.leaves)(h1:Qi W fc env hp st o):gJ W fc env hp (st::r) o:=by refine .mk ?_;intro cx g s Q E P t0 hQ;refine cZ (h1.go cx g s _ E P t0 λYx s₁ f a=> ?_);have:=hQ Yx s₁ f a;induction o using Out.casesOn with
|next=>exact hl.elim
|ret=>obtain⟨z,rfl,_⟩:=a;exact this
|brk=>obtain⟨rfl,_⟩:=a;exact this
|cont=>obtain⟨rfl,_⟩:=a;exact this
theorem Mq(h1:g8 W fc env hp t true hp₁)(h2:gJ W fc env hp₁ body o):Qi W fc env hp (.If t body orelse pos) o:= .mk λcx g s Q E P t0 hQ=>
 PT (h1.go cx g s _ E P t0 λYx s₁ r=>by simp only[if_true];exact h2.go cx Yx s₁ Q E r.pre (r.t t0) λYy Yv f a=>hQ Yy Yv f (a.trans r))
theorem zH(h1:g8 W fc env hp t false hp₁)(h2:gJ W fc env hp₁ orelse o):Qi W fc env hp (.If t body orelse pos) o:= .mk λcx g s Q E P t0 hQ=>
 PT (h1.go cx g s _ E P t0 λYx s₁ r=>by simp only[acp,if_false];exact h2.go cx Yx s₁ Q E r.pre (r.t t0) λYy Yv f a=>hQ Yy Yv f (a.trans r))
theorem Gi(er:isStar t=false)(hc:lq value=false)(aI:swappedStores [t] value=λ_=>pure none)(h1:Ym W fc env hp value v hp₁)(h2:gW W fc env hp₁ t v ag hp') :
  Qi W fc env hp (.Assign [t] value pos) (.next ag hp'):=by
 refine .mk ?_;intro cx g s Q E P t0 hQ;refine pA (h1.go cx g s _ E P t0 λYx s₁ y r rv=> ?_) (cI hc) (f9 aI);refine aa (bG er) ?_;refine(?_:wpAny _ _ (assign t cx.menv y) _ _ s₁);exact h2.go cx Yx s₁ y _ E r.pre (r.t t0) rv λYy Yv Yz=>hQ Yy Yv .next ⟨rfl,r.trans Yz⟩
theorem zz(hk:Kp W f)(hs:es.all (λe=> !isStar e)=true)(hf:Gn W fc (.Name x p) f)(ha:wI W fc env hp es vs hp₁)(hc:sJ W fc.k fc.q f [] vs hp₁ v YC):Ym W fc env hp (.Call (.Name x p) es [] pos) v YC:=by refine .mk ?_;intro cx g s Q E P t0 hQ;refine m9 (hf.go env hp cx g s _ E P ?_);refine pB (P:=λh=> ∀ b o,W.B.get? b=some o->h.get? b=some o) (by refine(?_:(_||false)=false);rw[afm];exact bM hs) (λh hh=>hk _ h hh) (bk hs ?_);refine ha.go pos cx g s _ E P t0 λYx s₁ ys Yw rv=>⟨Yw.pre.inv.base,?_⟩;refine hc.go cx Yx s₁ ys [] Q E Yw.pre.fm.bl Yw.pre.inv rv.kw0 rfl (Yw.t t0) λYy Yv y Yz g7=>hQ Yy Yv y (Yw.trans (Yz.run Yw.pre)) g7
theorem tO(hs:isStar e=false)(h1:BX W fc env hp e cls msg hp'):Fj W fc env hp (e::es) cls msg hp':=by refine .mk ?_;intro pos cx g s Q E P t0 hE;exact aa (aY e es cx.menv hs) (jJ (h1.go cx g s _ E P t0 hE))
theorem tQ(hs:isStar e=false)(h1:Ev W fc env hp e v hp₁)(h2:Fj W fc env hp₁ es cls msg hp'):Fj W fc env hp (e::es) cls msg hp':=by refine .mk ?_;intro pos cx g s Q E P t0 hE;exact aa (aY e es cx.menv hs) (jJ (aM (h1.go cx g s _ E P t0 λYx s₁ y r rv=>h2.go pos cx Yx s₁ _ E r.pre (r.t t0) λg' s' e u=>hE g' s' e (u.after r))))
theorem zA(h1:Fj W fc env hp dA cls msg hp'):BX W fc env hp (.Tuple dA k pos) cls msg hp':= .mk λcx g s Q E P t0 hE=>J0 (h1.go pos cx g s _ E P t0 hE)
theorem Iv(h1:BX W fc env hp l cls msg hp'):BX W fc env hp (.BinOp l op r pos) cls msg hp':= .mk λcx g s Q E P t0 hE=>JZ (h1.go cx g s _ E P t0 hE)
theorem vU(hk:Kp W f)(hs:es.all (λe=> !isStar e)=true)(hf:Gn W fc (.Name x p) f)(ha:wI W fc env hp es vs hp₁)(hc:m_ W fc.k fc.q f [] vs hp₁ cls msg YC):BX W fc env hp (.Call (.Name x p) es [] pos) cls msg YC:=by refine .mk ?_;intro cx g s Q E P t0 hE;refine m9 (hf.go env hp cx g s _ E P ?_);refine pB (P:=λh=> ∀ b o,W.B.get? b=some o->h.get? b=some o) (by refine(?_:(_||false)=false);rw[afm];exact bM hs) (λh hh=>hk _ h hh) (bk hs ?_);refine ha.go pos cx g s _ E P t0 λYx s₁ ys Yw rv=>⟨Yw.pre.inv.base,?_⟩;exact hc.go cx Yx s₁ ys [] Q E Yw.pre.fm.bl Yw.pre.inv rv.kw0 rfl (Yw.t t0) λg' s' e u=>hE g' s' e ((u.up Yw.pre).after Yw)
theorem Ms(h1:BX W fc env hp e cls msg hp'):Uq W fc env hp (.Return (some e) pos) env cls msg hp':= .mk λcx g s Q E P t0 hE=>Fe (h1.go cx g s _ E P t0 hE)
theorem Mr(hc:lq e=false)(h1:BX W fc env hp e cls msg hp'):Uq W fc env hp (.Assign [t] e pos) env cls msg hp':= .mk λcx g s Q E P t0 hE=>by rw[exec_Assign_arm];refine aq (bI ?_);refine(?_:cj _ _ (swapsWith e (some t) pos.line cx.menv >>= _) _ _ s);refine aa (cI hc) ?_;refine aq (aN ?_);exact aa (if_neg (by decide)) (aq (h1.go cx g s _ E P t0 hE))
theorem tR{st:Stmt}{r:List Stmt}(h1:Uq W fc env hp st ag cls msg hp'):qu W fc env hp (st::r) ag cls msg hp':= .mk λcx g s Q E P t0 hE=>cZ (h1.go cx g s _ E P t0 hE)
theorem Dr{st:Stmt}{r:List Stmt}{YZ:aj}(h1:Ex W fc env hp st (.next YZ hp₁))(h2:qu W fc YZ hp₁ r ag cls msg hp'):qu W fc env hp (st::r) ag cls msg hp':= .mk λcx g s Q E P t0 hE=>
 cZ (aM (h1.go cx g s _ E P t0 λYx s₁ f a=>by obtain⟨rfl,Yw⟩:=a;exact h2.go cx Yx s₁ Q E Yw.pre (Yw.t t0) λg' s' e u=>hE g' s' e (u.after Yw)))
theorem K6(hf:FnAt W f fd body)
  (hb:∀(g:Gh)(s:Shared)(ys:List Value)(ai:List (Str×Value)),(∀ b o,W.B.get? b=some o->s.heap.get? b=some o)->aQ W g s.heap args (ys++ai.map (·.2))->ai.map (·.1)=kw-> ∃ bS,aQ W g s.heap args' bS/\BindsTo s fd ⟨ys,ai⟩ (xs.zip bS))
  (aI:Puts fd.scope.names [] xs args' YJ) (aw:gJ W (cH fd k q) YJ hp body o) (ho:o.value v hp₁):sJ W (k+1) q (.ref f) kw args hp v hp₁:=by
 refine .mk ?_;intro cx g s ys ai Q E bl I rv eC t0 hQ;refine ak (hb g s ys ai I.base rv eC) λbS df hZ=> ?_;refine ak hf.obj λob gL dP=> ?_;have ch:cx.A.depth<recursionLimit:=by have:=bl.room.1;exact acj (ab0 _ (k+1+1)) this
 have ax:∀ x∈xs.zip bS,fd.scope.names.lookup x.1=some .local\/(fd.scope.names.lookup x.1=some .cell/\((cellsFrom (s.heap.objs.size+1) fd.scope.names []).lookup x.1).isSome=true):=
  λx hx=>fO hf.nodup aI x.1 (af0 hx).1
 refine lO (dC ch (I.base _ _ gL) dP hf.co hf.gen hf.body ?_ (hZ _ _ _ _ ?_))
 ·obtain⟨c,oc,vs,t,e,hc,r⟩:=hf.code;exact⟨c,oc,vs,t,e,I.base _ _ hc,r⟩
 refine aa hf.clo ?_;refine aR hf.kind ax λmenv he s₁ x eB=> ?_;have en:=entered hf bl I df aI he x eB;refine⟨en.lim,nu ?_⟩;refine aw.go (cx.under menv) g s₁ _ _ en.pre (aby t0 eB) λYy Yv fl af=> ?_;induction o using Out.casesOn with
|next e1 YC=>obtain⟨rfl,r⟩:=af;obtain⟨rfl,rfl⟩:=ho;exact hQ Yy Yv .none (en.fin r) rfl
|ret u YC=>obtain⟨y,rfl,r,Y0⟩:=af;obtain⟨rfl,rfl⟩:=ho;exact hQ Yy Yv y (en.fin r) Y0
|brk=>exact ho.elim
|cont=>exact ho.elim
theorem H3(hf:FnAt W f fd body)
  (hb:∀(g:Gh)(s:Shared)(ys:List Value)(ai:List (Str×Value)),(∀ b o,W.B.get? b=some o->s.heap.get? b=some o)->aQ W g s.heap args (ys++ai.map (·.2))->ai.map (·.1)=kw-> ∃ bS,aQ W g s.heap args' bS/\BindsTo s fd ⟨ys,ai⟩ (xs.zip bS))
  (aI:Puts fd.scope.names [] xs args' YJ) (aw:qu W (cH fd k q) YJ hp body ag cls msg hp₁):m_ W (k+1) q (.ref f) kw args hp cls msg hp₁:=by
 refine .mk ?_;intro cx g s ys ai Q E bl I rv eC t0 hQ;refine ak (hb g s ys ai I.base rv eC) λbS df hZ=> ?_;refine ak hf.obj λob gL dP=> ?_;have ch:cx.A.depth<recursionLimit:=by have:=bl.room.1;exact acj (ab0 _ (k+1+1)) this
 have ax:∀ x∈xs.zip bS,fd.scope.names.lookup x.1=some .local\/(fd.scope.names.lookup x.1=some .cell/\((cellsFrom (s.heap.objs.size+1) fd.scope.names []).lookup x.1).isSome=true):=
  λx hx=>fO hf.nodup aI x.1 (af0 hx).1
 refine lO (dC ch (I.base _ _ gL) dP hf.co hf.gen hf.body ?_ (hZ _ _ _ _ ?_))
 ·obtain⟨c,oc,vs,t,e,hc,r⟩:=hf.code;exact⟨c,oc,vs,t,e,I.base _ _ hc,r⟩
 refine aa hf.clo ?_;refine aR hf.kind ax λmenv he s₁ x eB=> ?_;have en:=entered hf bl I df aI he x eB;refine⟨en.lim,nu ?_⟩;refine aw.go (cx.under menv) g s₁ _ _ en.pre (aby t0 eB) λYy Yv e f7=> ?_;exact en.leave bl.frames f7 λs'=>hQ Yy s' e
theorem xg(ht:fc.t=true)(iE:∀ x k,(x,k)∈fc.nm->k≠ .cell/\k≠ .free)
  (h1:qu W fc env hp body ag cls msg hp₁) (S:Sel W fc cls (YS::hs) none Ze b pos)
  (h2:cU W { fc with q:=false } ag hp₁ (Ze::b) o):Qi W fc env hp (.Try body (YS::hs) [] [] tpos) o:=by
 refine .mk ?_;intro cx g s Q E P t0 hQ;refine Tr (h1.go cx g s _ _ P t0 λYx s₁ e u=> ?_);refine Hz ht u λsr s₃ r sm hf=> ?_;refine ak hf.obj λoe he hc=> ?_;obtain⟨base,a0,cK,ec,f7,nL,eL⟩:=id hf;have YH:=r.land P sm iE cK ec.1 f7 (G:=λ_=>False) (λ_ x=>x.elim);refine Hq S YH.pre he hc ?_;refine codeAny_handlers_suite (lands_againW ec λZ8 Zq Zr=> ?_);have Zm:=r.land (s₃:={ s₃ with heap:=Z8 }) P ⟨sm.os,sm.gens,sm.tk⟩ iE cK Zq.1 (f7.trans Zr) (G:=λ_=>False) (λ_ x=>x.elim);have hq:=P.fm.hnd;refine h2.go (cx.marked e) _ _ _ _ (Zm.pre.marked e) (Zm.t t0) λti xS f hr=> ?_;refine hQ ti xS f ?_;induction o using Out.casesOn with
|next=>exact⟨hr.1,Zm.trans (hr.2.unmarked hq)⟩
|ret=>obtain⟨y,e1,tm,rv⟩:=hr;exact⟨y,e1,Zm.trans (tm.unmarked hq),rv⟩
|brk=>exact⟨hr.1,Zm.trans (hr.2.unmarked hq)⟩
|cont=>exact⟨hr.1,Zm.trans (hr.2.unmarked hq)⟩
class inductive dF(W:Wd)(fc:FC)(ok:List Ob->Prop)(ac:Expr)(body:List Stmt):aj->List Ob->List V->Out->Prop
|nil {e:aj} {q:List Ob}:dF W fc ok ac body e q [] (.next e q)
|next {e YB e₂:aj} {q YD YG:List Ob} {v:V} {vs:List V} {o:Out}:gW W fc e q ac v YB YD->gJ W fc YB YD body (.next e₂ YG)->ok YG->dF W fc ok ac body e₂ YG vs o->dF W fc ok ac body e q (v::vs) o
|cont {e YB e₂:aj} {q YD YG:List Ob} {v:V} {vs:List V} {o:Out}:gW W fc e q ac v YB YD->gJ W fc YB YD body (.cont e₂ YG)->ok YG->dF W fc ok ac body e₂ YG vs o->dF W fc ok ac body e q (v::vs) o
|brk {e YB e₂:aj} {q YD YG:List Ob} {v:V} {vs:List V}:gW W fc e q ac v YB YD->gJ W fc YB YD body (.brk e₂ YG)->dF W fc ok ac body e q (v::vs) (.next e₂ YG)
|ret {e YB:aj} {q YD YG:List Ob} {v u:V} {vs:List V}:gW W fc e q ac v YB YD->gJ W fc YB YD body (.ret u YG)->dF W fc ok ac body e q (v::vs) (.ret u YG)
|less {e e':aj} {q:List Ob} {vs:List V} {o:Out}:bh e' e->dF W fc ok ac body e' q vs o->dF W fc ok ac body e q vs o
theorem dF.on{G:Prop}{ok:List Ob->Prop}{ac:Expr}{body:List Stmt}{e:aj}{q:List Ob}{us:List V}{o:Out}(l:dF W fc ok ac body e q us o)
  (h0:∀ e',bh e' e->us=[]->o= .next e' q->G)
  (h1:∀ e',bh e' e-> ∀ v ws YB YD e₂ YG,us=v::ws->gW W fc e' q ac v YB YD->(gJ W fc YB YD body (.next e₂ YG)\/gJ W fc YB YD body (.cont e₂ YG))->ok YG->dF W fc ok ac body e₂ YG ws o->G)
  (h3:∀ e',bh e' e-> ∀ v ws YB YD e₂ YG,us=v::ws->gW W fc e' q ac v YB YD->gJ W fc YB YD body (.brk e₂ YG)->o= .next e₂ YG->G)
  (h4:∀ e',bh e' e-> ∀ v ws YB YD u YG,us=v::ws->gW W fc e' q ac v YB YD->gJ W fc YB YD body (.ret u YG)->o= .ret u YG->G):G:=by
 induction l with
|nil=>exact h0 _ (.refl _) rfl rfl
|next a b c d=>exact h1 _ (.refl _) _ _ _ _ _ _ rfl a (.inl b) c d
|cont a b c d=>exact h1 _ (.refl _) _ _ _ _ _ _ rfl a (.inr b) c d
|brk a b=>exact h3 _ (.refl _) _ _ _ _ _ _ rfl a b rfl
|ret a b=>exact h4 _ (.refl _) _ _ _ _ _ _ rfl a b rfl
|less x _ ih=>exact ih (λe' l=>h0 e' (l.trans x)) (λe' l=>h1 e' (l.trans x)) (λe' l=>h3 e' (l.trans x)) (λe' l=>h4 e' (l.trans x))
theorem Ra(ht:gD tup ac=true)(hs:∀ m x,foldedSetIterable iter m x=pure x)(hq:fc.q=true)(aS:Src W fc env hp iter hp₁ ok tup vs)(aT:ok hp₁)(hl:dF W fc ok ac body env hp₁ vs o):Qi W fc env hp (.For ac iter body [] pos) o:=by
 refine .mk ?_;intro cx g s Q E P t0 hQ;have hh:=P.fm.hnd hq;refine Tq ?_ (hs cx.menv);refine aS.go cx g s _ E hh P t0 λit wr St Yx s₁ Yw hw er hL=> ?_;have h0:∀ a,a∈cx.own-> ∃ o,s.heap.get? a=some o:=P.fm.ownD;have h1:∀ a,a∈cx.l.filterMap (·.frame)-> ∃ o,s.heap.get? a=some o:=λa ha=>by obtain⟨_,o,e,_⟩:=P.fm.fun_.mem ha;exact⟨o,e⟩
 refine u_ (λn s'=> ∀ G:Prop,(∀(ag:aj)(hp':List Ob)(g':Gh)(us:List V)(j:Nat),n=us.length+1->j+us.length=vs.length->vs.drop j=us->dF W fc ok ac body ag hp' us o->ok hp'->
  Run W fc cx g s ag hp' g' s'->St j g' s'.heap->Loose W wr g' s.heap s'.heap->G)->G) ?_ (vs.length+1) λ_ k=>k env hp₁ Yx vs 0 rfl (ae7 vs.length) (by rfl) hl aT Yw er hL
 refine λn s' hI=>hI _ λag hp' g' us j hn hj hd kR dr r st L=> ?_;have d':∀{e₂:aj}{v:V}{YB:aj}{YC:List Ob}{Q':Flow->Shared->Prop}{Y7 Zd E₃ ZC:Value->Shared->Prop},Pre W fc cx g' YB hp' s'.heap->vs[j]? =some v->gW W fc YB hp' ac v e₂ YC->
   (∀ Yy Yv,Run W fc cx g s e₂ YC Yy Yv->St (j+1) Yy Yv.heap->Loose W wr Yy s.heap Yv.heap->cj (model W.prog W.w) cx.A (execs body cx.menv) Q' Y7 Yv)->
   wpAny (model W.prog W.w) cx.A (pyNext (.ref it)) (λx s₁=> ∃ y,x=some y/\wpAny (model W.prog W.w) cx.A (letOwnedTupleGo ac (.ref it) y) (λ_ Yv=>wpAny (model W.prog W.w) cx.A (assign ac cx.menv y) (λ_ s₃=>cj (model W.prog W.w) cx.A (execs body cx.menv) Q' Y7 s₃) Zd Yv) E₃ s₁) ZC s':=by
  intro e₂ v YB YC Q' Y7 Zd E₃ ZC ZJ hv ha hb;refine hw.item ht hv r.pre.inv dr L st λYy Yv y sd YX rv=> ?_;have I:=sd.inv L r.pre.inv P.inv.base;have fm:=sd.fm L ZJ.fm h0 h1;have ru:Run W fc cx g s YB hp' Yy Yv:=⟨sd.evo L r.evo,⟨I,fm⟩,r.same.trans sd.same⟩;have Y6:=sd.loose L (hw.flds YX);refine ha.go cx Yy Yv y _ _ ru.pre (ru.t t0) rv λYM s₃ YH=> ?_;obtain⟨kp,ZF⟩:=YH.loose Y6 h0 h1;exact hb YM s₃ (ru.trans YH) (hw.stay YX (YH.keep ru.pre) kp) ZF
 have vj:∀{v:V}{ws:List V},us=v::ws->vs[j]? =some v/\vs.drop (j+1)=ws:=by
  intro v ws e;rw[e]at hd;refine⟨?_,?_⟩
  ·have:=congrArg akc hd;simpa[af2]using this
  ·have:=congrArg ai3 hd;simpa[agj]using this
 refine kR.on (λe' le hu ho=> ?_) (λe' le v ws YB YD e₂ YG hu ha hb Y9 Zc=> ?_) (λe' le v ws YB YD e₂ YG hu ha hb ho=> ?_) (λe' le v ws YB YD u YG hu ha hb ho=> ?_)
 ·have r':=r.weaken le;subst ho;rw[hu]at hj;have j':j=vs.length:=by simpa using hj
  subst j';refine hw.done r.pre.inv dr L st λYy Yv sd=> ?_;refine wpAny_execs_nil ?_;have fm:=sd.fm L r'.pre.fm h0 h1;have I:=sd.inv L r.pre.inv P.inv.base;exact hQ Yy Yv _ ⟨rfl,⟨sd.evo L r.evo,⟨I,fm⟩,r.same.trans sd.same⟩⟩
 ·obtain⟨hv,bE⟩:=vj hu;have go:∀ Yy Yv YM s₃,Run W fc cx g s YB YD Yy Yv->St (j+1) Yy Yv.heap->Loose W wr Yy s.heap Yv.heap->Run W fc cx Yy Yv e₂ YG YM s₃-> ∃ m,m<n/\ ∀ G:Prop,(∀(ag:aj)(hp':List Ob)(g':Gh)(us:List V)(j:Nat),m=us.length+1->j+us.length=vs.length->vs.drop j=us->dF W fc ok ac body ag hp' us o->ok hp'->
    Run W fc cx g s ag hp' g' s₃->St j g' s₃.heap->Loose W wr g' s.heap s₃.heap->G)->G:=by
   intro Yy Yv YM s₃ Yz YX Y6 YH;obtain⟨kp,ZF⟩:=YH.loose Y6 h0 h1;refine⟨ws.length+1,?_,λ_ k=>k e₂ YG YM ws (j+1) rfl ?_ bE Zc Y9 (Yz.trans YH) (hw.stay YX (YH.keep Yz.pre) kp) ZF⟩
   ·(refine aa hn ?_;refine aa hu ?_);simp
   ·rw[hu]at hj;simp at hj;exact(ab9 _ _).trans hj
  refine hb.elim (λhb=> ?_) λhb=> ?_<;>
  ·refine wpAny_mono (d' (r.weaken le).pre hv ha λYy Yv Yz YX Y6=>hb.go cx Yy Yv _ _ Yz.pre (Yz.t t0) λYM s₃ f a=> ?_) (λx s₁ hx=>by rcases hx with⟨y,rfl,hx⟩;exact hx) λ_ _ h'=>h';obtain⟨rfl,YH⟩:=a;exact go Yy Yv YM s₃ Yz YX Y6 YH
 ·obtain⟨hv,bE⟩:=vj hu;subst ho;refine wpAny_mono (d' (r.weaken le).pre hv ha λYy Yv Yz YX Y6=>hb.go cx Yy Yv _ _ Yz.pre (Yz.t t0) λYM s₃ f a=> ?_) (λx s₁ hx=>by rcases hx with⟨y,rfl,hx⟩;exact hx) λ_ _ h'=>h';obtain⟨rfl,YH⟩:=a;exact hQ YM s₃ _ ⟨rfl,Yz.trans YH⟩
 ·obtain⟨hv,bE⟩:=vj hu;subst ho;refine wpAny_mono (d' (r.weaken le).pre hv ha λYy Yv Yz YX Y6=>hb.go cx Yy Yv _ _ Yz.pre (Yz.t t0) λYM s₃ f a=> ?_) (λx s₁ hx=>by rcases hx with⟨y,rfl,hx⟩;exact hx) λ_ _ h'=>h';obtain⟨z,rfl,YH,rz⟩:=a;exact hQ YM s₃ _ ⟨z,rfl,⟨(Yz.evo.trans YH.evo),YH.pre,Yz.same.trans YH.same⟩,rz⟩
end
section
def cD(x:Str)(i:Int):Prop:= ∀ t:Tok,Builtin.«int.__new__» ⟨[.type "int",.str x t],[]⟩=(do ret (←mkInt i))
noncomputable def refusal(x:Str)(t:Tok):Sem Fin:=do
 let v ←(do
  let r ←(do
   rule "int.__new__.invalid-literal"
   let shown ←pyRepr (.str x t);let refusal ←newExc (.type "ValueError") [←mkStr (((s!"invalid literal for int() with base {10}: " : String)++⟨shown.cps.extract 0 200⟩:Str))]
   markTheRefusal ["int.__new__"] refusal
   raiseNew refusal:Sem Value)
  pure r)
 ret v
def gZ(x:Str):Prop:= ∀ t:Tok,Builtin.«int.__new__» ⟨[.type "int",.str x t],[]⟩=refusal x t
example:cD "+012" 12:=λt=>by kernel_rfl
example:gZ "12-" :=λt=>by kernel_rfl
theorem yV{i:Int}(hx:cD x i):Call W k q (.type "int") [] [.str x] hp (.int i) hp:=
 .of1 λcx g s y Q E bl I r hQ=>by obtain⟨t,rfl⟩:=aG r;refine call_int_1 (S:=λA R s=>R (.ok (.ret (.int i s.toks))) { s with toks:=s.toks+1 }) (λprog w A R s hR=>by rw[hx t];exact wpAny_bind (wpAny_mkInt (wpAny_pure hR))) ⟨rfl,hQ g _ _ (.toks I (acg _)) cA⟩
section
theorem PX(h:Q () s):cj M A (markTheRefusal own e) Q E s:=fun Γ p hΓ hc=>by
 unfold markTheRefusal;rw[amk];refine(?_:Sem.wp M Γ (if pythonCodeMadeTheCall own ((((Γ.code,p):: Γ.below)).map (·.1))=true then _ else _) _ _ p s);have fR:((((Γ.code,p):: Γ.below)).map (·.1)).any aoe=true:=by
  (refine aa ab3 ?_;refine aa ajx ?_;rw[aef]);rcases hc with hc|hc
  ·right;exact aa List.any_map hc
  ·left;exact hc
 have:pythonCodeMadeTheCall own ((((Γ.code,p):: Γ.below)).map (·.1))=false:=by unfold pythonCodeMadeTheCall;refine(?_:((!(List.any ((((Γ.code,p):: Γ.below)).map (·.1)) aoe)&&_)&&_)=false);exact aa fR rfl
 exact aa this h
theorem mW{id:String}{args:Args}{b:Builtin}{R:Result->Shared->Prop}(hb:entryFor table id=some b)
  (h:cj (model prog w) (A.under (.builtin id args)) (b args) (λfin s'=>match fin with|.done f=>R (.ok f) s'|.again c'=>c'.quiet=true/\fB (model prog w) A c' R s') (λe s'=>R (.error e) s') s) :
  fB (model prog w) A (.builtin id args) R s:=by
 refine cJ ?_;refine(?_:cj _ _ (match entryFor table id with|some b=>b args|none=>unsupported ((withoutEnding? id "#data").getD id)) _ _ s);exact aa hb h
theorem nq{id:String}{args:Args}{R:Result->Shared->Prop}(hq:(Code.builtin id args).quiet=true)(l8:checkBuiltinCall id args=pure ())(h:fB (model prog w) A (.builtin id args) R s) :
  fB (model prog w) A (.call (.builtin id) args) R s:=by
 refine cJ ?_;refine(?_:cj _ A.in1 (do checkBuiltinCall id args;again (.builtin id args)) _ _ s);exact aa l8 (aq (aN (aN ⟨hq,h⟩)))
theorem BP(hh:A.handled=none)(hl:(reprText x).length<=1000)
  (hE:∀ h' tk e as,aos s.heap h' e "ValueError" as->s.toks<=tk->E (.ref e) { s with heap:=h',toks:=tk }) :
  cj (model prog w) A (refusal x t) Q E s:=by
 unfold refusal;refine aq (aq (aM (wpAny_rule (aq (aM (wpAny_pyRepr_str (aq (aM (wpAny_mkStr ?_ ?_))) ?_))))))
 ·refine aq (aM (wpAny_newExc_plain plainExc_ValueError (λh' e hm=> ?_) (by exact aa sizeLine_eq (ad0 _))));refine aq (PX (aM (wpAny_raiseNew_none hh ?_)));exact hE h' _ e _ hm (adk (acg _))
 ·have h1:∀ a b:Str,(a++b).length=a.length+b.length:=λa b=>aml;have h2:(⟨(reprText x).cps.extract 0 200⟩:Str).length<=(reprText x).length:=by refine(?_:(Array.extract _ _ _).size<=Array.size _);exact aa ahs (abj (aje _ _) (agi _ _))
  (refine aa sizeLine_eq ?_;rw[h1]);have h3:(Mi (toString "invalid literal for int() with base " ++toString 10++toString ": ")).length<=60:=by decide +kernel
  exact Um h3 (abj h2 hl) rfl
 ·exact aa sizeLine_eq (abj hl (abz _ _))
noncomputable def Kl(v obj:Value):Sem Fin:=do
 if !(←isInstance obj (.type "int"))then rule "type.call.new-gave-other-type";return ←ret obj
 match ←holding [obj] (callSpecial? obj "__init__" [v] [])with
|none=>ret obj
|some r=>
  if r != .none then
   rule "type.call.init-returned-value"
   raiseError "TypeError" s!"__init__() should return None, not '{← typeNameOf r}'"
  ret obj
theorem yo(v:Value):Builtin.«type.__call__» ⟨[.type "int",v],[]⟩=(holding [.builtin "int.__new__"] (call (.builtin "int.__new__") [.type "int",v] []) >>= Kl v):=by kernel_rfl
theorem BL(hx:gZ x)(hh:A.handled=none)(hl:(reprText x).length<=1000)
  (hE:∀ h' tk e as,aos s.heap h' e "ValueError" as->s.toks<=tk->E (.ref e) { s with heap:=h',toks:=tk }) :
  cj (model prog w) A (call (.type "int") [.str x t]) Q E s:=by
 refine lO (cJ ?_);refine(?_:cj _ _ (callAny (.type "int") _) _ _ _);refine aN ⟨al4 _ (by decide +kernel),mW F.entry_type_call ?_⟩;(rewrite[yo];refine aa (Around.under_plain (weight_type_call_type "int" _ []) (units_type_call_type "int" _ [])) ?_);refine aq (jc (lO (nq (al4 _ (by decide +kernel)) (F.newCall_int_1 _) (mW F.entry_int_new ?_))));rw[hx t];exact BP hh hl hE
end
theorem Ck(hx:gZ x)(hl:(reprText x).length<=1000):m_ W k true (.type "int") [] [.str x] hp (.type "ValueError") none hp:=by
 refine .mk ?_;intro cx g s ys ai Q E bl I rv hk t0 hE;obtain rfl:ai=[]:=by simpa using hk
 refine ak (Em rv) λy e r=> ?_;obtain rfl:ys=[y]:=ac8 e;obtain⟨t,rfl⟩:=aG r;refine BL hx (bl.hnd rfl) hl λh' tk e as hm eB=> ?_;exact hE g _ e ⟨s,.refl I,⟨rfl,id,eB⟩,.inl ⟨as,⟨hm.keeps,hm.new,hm.there⟩,λy hy=>by cases hy⟩⟩
theorem Cj(hf:FnAt W f fd body)(hx:fd.params.args.map (·.arg)=[x1,x2])(hb:∀ y1 y2,bindArgs fd ⟨[y1,y2],[]⟩=pure [(x1,y1),(x2,y2)])
  (aI:Puts fd.scope.names [] [x1,x2] [a1,a2] YJ) (aw:qu W (cH fd k q) YJ hp body ag cls msg hp₁):m_ W (k+1) q (.ref f) [] [a1,a2] hp cls msg hp₁:=
 H3 hf (xs:=[x1,x2]) (args':=[a1,a2]) (λg s ys ai _ rv hk=>by
  obtain rfl:ai=[]:=by simpa using hk
  refine au (Eo rv) λy1 y2 e r1 r2=> ?_;obtain rfl:ys=[y1,y2]:=ac8 e;exact⟨[y1,y2],aJ r1 (aP r2),aez (hb y1 y2)⟩) aI aw
theorem HY(hf:FnAt W f fd body)(hx:fd.params.args.map (·.arg)=[x1,x2])(hb:∀ y1 y2,bindArgs fd ⟨[y1,y2],[]⟩=pure [(x1,y1),(x2,y2)])
  (aI:Puts fd.scope.names [] [x1,x2] [a1,a2] YJ) (aw:gJ W (cH fd k q) YJ hp body o) (ho:o.value v hp₁):sJ W (k+1) q (.ref f) [] [a1,a2] hp v hp₁:=
 K6 hf (xs:=[x1,x2]) (args':=[a1,a2]) (λg s ys ai _ rv hk=>by
  obtain rfl:ai=[]:=by simpa using hk
  refine au (Eo rv) λy1 y2 e r1 r2=> ?_;obtain rfl:ys=[y1,y2]:=ac8 e;exact⟨[y1,y2],aJ r1 (aP r2),aez (hb y1 y2)⟩) aI aw ho
end
section
theorem u0:called (⟨.builtin "claim.caller" {},none,none,[],none⟩:aoj):= .inr rfl
noncomputable abbrev TJ(q:Program)(loose:List Str)(XP:(Str->Option Value)->Heap->Prop)(YP:World->Heap->Prop)(r:RowW)(d:DefRec)(kwd:List (Str×Expr)):Prop:=
 ∀(w:World)(s₀ s₁:Shared)(mg mb:Str->Option Value),Ground q loose r.records XP w s₀ mg mb s₁.heap->YP w s₁.heap-> ∀(a:Addr)(o:Obj)(pm cd r7 dV kV:Value),s₁.heap.get? a=some o->
  o.data= .func { docDef d.name d.params d.body d.scope pm cd r7 with defaults:=dV,kwdefaults:=kV }->s₁.heap.CodeRec cd d.name->Dflts mg s₁.heap d.params kwd dV kV->mg d.name=some (.ref a)->s₁.gens= #[]->
  ∀(args:List WData)(f_:List Value)(as:List Addr),r.claim.pre args=true->am1 args=true->ReadsAllW r.records (classAt s₀.heap) s₁.heap f_ args as->WellAll w.params s₁.heap f_ args->(∀ a∈as,(a==sysModules)=false)->
   cj (model r.prog w) callerA (agd (.ref a) f_) (λv s'=>GoodWG r.claim (classAt s₀.heap) (aof s₀.heap) args s₁ (.ok (.ret v)) s')
    (λe s'=>GoodWG r.claim (classAt s₀.heap) (aof s₀.heap) args s₁ (.error e) s') s₁
theorem OJ{R:Result->Shared->Prop}(hz:s.asleep)
  (h:cj (model prog w) callerA t (λfin s'=> ∃ f,fin= .done f/\(R (.ok f) s'/\AllBare s'.gens)) (λe s'=>R (.error e) s'/\AllBare s'.gens) s) :
  ∀{P:Prop},(∀ n r s' g9,runN (denote table) prog w n s ⟨t,.builtin "claim.caller" {},default,[]⟩= .halted (outcomeOf r) s'->
   schedN (denote table) prog w n (.single s ⟨t,.builtin "claim.caller" {},default,[]⟩)= .halted (outcomeOf r) s'->s'.forget=g9.forget->R r g9->P)->P:=by
 intro P kk;have h0:=h _ default caller_in u0;have h1:Sem.wp (model prog w) ⟨.builtin "claim.caller" {},none,none,[],none⟩ t
   (Sem.finPost (model prog w) ⟨.builtin "claim.caller" {},none,none,[],none⟩ λr s'=>R r s'/\leftWithCleanup s'.gens=false) (λe _ s'=>R (.error e) s'/\leftWithCleanup s'.gens=false) default s:=by
  refine ahw _ _ _ (λfin p s' hf=> ?_) (λe p s' he=>⟨he.1,leftWithCleanup_false_of_bare he.2⟩) _ _ h0;(refine iR hf λf dy h2 h3=> ?_;obtain rfl:=dy);exact⟨h2,leftWithCleanup_false_of_bare h3⟩
 refine T7 (wp_halts_full (M:=model prog w) (R:=R) hz h1) λn r a b hs hn uu hR=> ?_;exact kk n r b a hn hs uu hR
theorem Ci{c:ClaimW}{tree:List Value->Sem Fin}{kept:Heap->Prop}(hz:s.asleep)(ef:s.gens= #[])
  (iN:∀ args,c.pre args=true->am1 args=true-> ∀ ord:List DictEntry->List DictEntry,(∀ l,(ord l).Perm l)->
   ∃ vs s₁,layAllW c.records (classAt s.heap) w.params ord args s=some (vs,s₁)/\
    cj (model c.prog w) callerA (tree vs) (λfin s'=> ∃ f,fin= .done f/\((c.Ends s args vs s₁ (.ok f) s'/\s'.os=s.os/\kept s'.heap)/\AllBare s'.gens))
     (λe s'=>(c.Ends s args vs s₁ (.error e) s'/\s'.os=s.os/\kept s'.heap)/\AllBare s'.gens) s₁) :
  c.CallFrom (λvs=>⟨tree vs,.builtin "claim.caller" {},default,[]⟩) w free gens kept s:=by
 intro args fw im ord ky;refine cps λP kk=>dY (iN args fw im ord ky) λvs s₁ eg ib=> ?_;have hH:=layAllW_rest _ _ _ eg;refine OJ (R:=λr s'=>c.Ends s args vs s₁ r s'/\s'.os=s.os/\kept s'.heap) (Shared.asleep_of_life hH.2.2.2 hz) ib λn r s' g9 f3 mE uu z=> ?_;refine n8 (Shared.forget_eq uu) λeh _ _ eo _=> ?_;have hE:=z.1.congr eh;have nS:kept s'.heap:=eh▸z.2.2;have hU:=eo.trans z.2.1;have p9:s'.heap.life=s.heap.life:=(runN_life _ _ _ f3).trans hH.2.2.2;refine kk ⟨vs,s₁,eg,n,_,s',mE,?_,(λ_ i x hx=>by rw[ef]at hx;injection hx),nS,by(exact aa p9 rfl),Shared.rest_eq hU⟩;refine hE.elim (λhE=>T3 hE λv e d1 d2 d3 d4 d5=> .inl ?_) λhE=>Wt hE λx ob cls e d1 d2 d3 d4 d5=> .inr ?_
 ·subst e;exact⟨v,rfl,d1,d2,d3,λb o y _=>d4 b o y,d5⟩
 ·subst e;exact⟨x,ob,cls,rfl,d1,d2,d3,d4,λb o y _=>d5 b o y⟩
theorem PySem.W.holds_open{r:OpenRow}{α:Type}{Yf:Shared->α}{Ya:World->α}
  (left:LeftO r.prog q loose Xt Yf Ya N) (hY:∀ w s,Yf s=Ya w->YP w s.heap) (Co:∀ w h h',YP w h->(∀ b o,h.get? b=some o->h'.get? b=some o)->YP w h')
  (hX:∀ s,Xt s=true->XP (s.heap.nsMap mainGlobals) s.heap) (Cn:∀ mg h h',XP mg h->(∀ b o,h.get? b=some o->h'.get? b=some o)->XP mg h')
  (md:defOf q r.name=some (d,kwd)) (hp:r.prog.theDef r.name=some (d.params,d.body,d.scope)) (hk:kwWritten? d.params.kwonlyargs d.params.kw_defaults=some kwd) (Cc:∀ s,Xt s=true->RecFacts r.records s.heap) (oo:(!r.writes||r.records.isEmpty)=true)
  (k1:r.wellSaid=true) (ok:(chainsOk q&&opensWell r.prog&&(frees r.toRowW&&r.within.isEmpty))=true) (hb:r.prog.bare) (hw:r.toRowW.promised)
  (call:TJ q loose XP YP r.toRowW d kwd):r.Holds:=by
 obtain⟨rl,k5⟩:=abo.mp ok;obtain⟨zl,o1⟩:=abo.mp rl;obtain⟨k5,k6⟩:=abo.mp k5;refine n8 (frees_parts k5) λqE hu ha Cs hm=> ?_;have D6:r.toRowW.claim.within=[]:=ag7.mp k6;refine⟨k1,hw,⟨hb,o1,by refine(?_:r.toRowW.makers.map _=[]);exact aa hm rfl⟩,hw.witness,λw=>⟨(left.behind hX zl w).1,λs' eK=> ?_⟩⟩;refine iR ((left.behind (XP:=λmg h=>XP mg h/\RecFacts r.records h) (λs hs=>⟨hX s hs,Cc s hs⟩) zl w).2 s' eK) λs₀ hf CY z=>TY z λs hT hz ef hg z=> ?_;have gx:=z.1;have y:=z.2;have G0:Ground q loose [] XP w s (s.heap.nsMap mainGlobals) (s.heap.nsMap builtinsNs) s.heap:=⟨gx.T,gx.B,gx.D,gx.TE,gx.TD,gx.W,gx.X.1,gx.cls,gx.has,gx.apart,gx.once,gx.K⟩;have RF:=gx.X.2;refine⟨s₀,hf,CY,s,hT,λn hn=> ?_,RF.1,RF.2.1,?_⟩
 ·obtain rfl:n=r.name:=by split at hn<;>simp_all
  exact pinned_of_view hg G0 md hp hk
 have ef:s.gens= #[]:=Array.eq_empty_of_size_eq_zero (beq_iff_eq.mp ef);have G:Ground q loose r.records XP w s _ _ s.heap:=RF.ground G0;refine Ci (c:=r.toRowW.claim) (tree:=λvs=>do match ←nsGet mainNs r.name with
  |some f=>do ret (←agd f vs)
  |none=>unsupported "claim.caller:no-such-global") hz ef λargs fw im ord ky=> ?_
 refine cps λ_ c_=> ?_;obtain⟨⟨vs,s₁⟩,eg⟩:=acz.mp (layAllW_isSome (P:=w.params) (ord:=ord) G.has args r.args s (pre_splitW (r:=r.toRowW) fw).1);have keeps:=layAllW_keeps _ _ _ eg;have hH:=layAllW_rest _ _ _ eg;refine iR (reads_layAllW ky _ _ _ eg im s₁.heap (λ_ _ e=>e)) λas wq i5 dQ=> ?_;have L:Laid r.records w s s₁ args vs as:=⟨⟨ord,ky,eg⟩,wq,i5,dQ,keeps,hH.1.trans ef,hH.2.2.1⟩;have s_:=G.keeps Cn keeps;refine Wy (s_.fn md) λa o pm cd r7 dV kV h1 h2 h3 h4 h5=> ?_;refine c_ ?_;have ia:=call w s s₁ _ _ s_ (Co _ _ _ (hY w s y) keeps) a o pm cd r7 dV kV h2 h3 h4 h5 (defOf_name md▸h1) L.gens args vs as fw im L.reads L.well (L.low G.low);have hi:=ident_freeW (r:=r.toRowW) hu ha Cs;refine⟨vs,s₁,eg,aq (aM (wpAny_nsGet s_.T.g ?_))⟩;refine aa h1 ?_;refine aq (cu ia (λv s' g=>aN ⟨_,rfl,?_⟩) λe s' g=> ?_)
 all_goals
  have z:=g.laid (c:=r.toRowW.claim) qE D6 hi L;exact⟨⟨z.1,z.2.1,λq=>⟨namesKept_of hT hg r.keeps keeps g.2.1.old,noTable oo q⟩⟩,z.2.2⟩
end
section
open PySem PySem.W PyProof.Rows
theorem hd(xA:TJ hd.view_39 hd.loose (XL hd.view_39 []) hd.hook.says ab6.row.toRowW hd.rec_ []):ab6.Holds:=
 holds_law hd.said λsaid=>Internal.PySem.W.holds_open (r:=ab6.row) (q:=hd.view_39) (loose:=hd.loose) (Xt:=λs=>xlAt hd.view_39 [] s&&recOk ab6.row.records s) (XP:=XL hd.view_39 []) (Yf:=hd.hook.obs) (Ya:=hd.hook.val) (YP:=hd.hook.says) (d:=hd.rec_) (kwd:=[]) (N:=5106) hd.left hd.hook.of hd.hook.keeps (λs e=>xl_of s (abo.mp e).1) XL.keeps (by kernel_rfl) (by kernel_rfl) (by kernel_rfl) (λs e=>recFacts_of (abo.mp e).2) (by kernel_rfl) said hd.ok (by refine⟨rfl,rfl,rfl,rfl,rfl,?_⟩;decide +kernel) ⟨[.list []],by decide +kernel,by decide +kernel⟩ xA
end
section
section
theorem Ip(dv:t≠it):∀(n i:Nat)(s:Shared)(Q:List Value->Shared->Prop),s.heap.IsListIter it t i->s.heap.PlainList t av->i+n<=av.size->
  (∀ h',h'.IsListIter it t (i+n)->ae0 it s.heap h'->Q ((av.toList.drop i).take n) { s with heap:=h' })->wpAny (model prog w) A (draw (.ref it) n) Q E s:=by
 intro n;induction n with
|zero=>intro i s Q hit _ _ hQ;exact wpAny_pure (by simpa using hQ s.heap hit (Heap.SameBut.refl ..))
|succ n ih=>
  intro i s Q hit ht ki hQ;have bq:i<av.size:=ake ki;refine(?_:wpAny _ _ (pyNext (.ref it) >>= _) Q E s);refine wpAny_bind (wpAny_pyNext_list_item hit ht.isList (x:=av[i]) (by simp[bq]) λYF ZK Zi=> ?_);have Z0:YF.PlainList t av:=let⟨m,e⟩:=ht;⟨m,(Zi.2 t dv).trans e⟩;refine wpAny_bind (wpAny_holding (ih (i+1) _ _ ZK Z0 (abj (ab2 (ab9 _ _)) ki) λYK A0 A6=>wpAny_pure ?_));have hd:av.toList.drop i=av[i]::av.toList.drop (i+1):=by simp[ahc,bq]
  have:=hQ YK (by exact aa (show i+(n+1)=i+1+n by exact ach (ab9 i n)) A0) (Zi.trans A6);rw[hd,aln]at this;exact this
theorem By(hh:A.handled=none)(ht:s.heap.PlainList t av)
  (hQ:∀ h',ahv s.heap.objs.size s.heap h'->Q av.toList { s with heap:=h' }):wpAny (model prog w) A (unpackItems (.ref t) av.size none) Q E s:=by
 obtain⟨m,e⟩:=id ht;have bq:t≠s.heap.objs.size:=aeb (ado e);unfold unpackItems;refine wpAny_bind ?_;unfold notIterableAtAll;refine wpAny_bind (wpAny_specialOf ht.isList.typeIs slot_list_iter.lookup ?_);refine wpAny_pure ?_;dsimp only[acp,if_false];refine wpAny_bind (wpAny_holding (wpAny_pyIter_list ht.isList ?_));refine wpAny_bind (wpAny_holding (Ip bq av.size 0 _ _ ⟨_,ab4 _ rfl,rfl,rfl⟩ ⟨m,abr _ e⟩ (by lia) λYF ZK Zi=> ?_));have fN:List.take av.size (List.drop 0 av.toList)=av.toList:=by exact aa ajf (adm (by simp))
 (refine aa fN ?_;refine aa (if_neg (by simp)) ?_);have Z0:YF.PlainList t av:=⟨m,(Zi.2 t bq).trans (abr _ e)⟩;refine wpAny_bind (wpAny_holding (wpAny_pyNext_list_end hh ZK Z0.isList (by simp) λYK A5=> ?_));dsimp only[afq,acp,if_false];exact wpAny_pure (hQ YK λb o hb e=>A5 b o hb (Zi.extBut b o hb (abr _ e)))
end
theorem Qs(hq:fc.q=true)(l:Lst hp x vs)(a:uT W fc env hp ts vs ag hp'):gW W fc env hp (.Tuple ts k1 p) x ag hp':=by
 refine .mk ?_;intro cx g s y Q E P t0 rv hQ;(refine au (l.at P.inv rv) λb ys an ho rs=> ?_;obtain rfl:=an);rw[assign_Tuple];refine wpAny_bind (wpAny_standAt ?_);unfold unpack;have hn:(assignEach ts cx.menv).length=ys.toArray.size:=by(refine aa ((a.each _).1) ?_;refine aa aci ?_;exact aa rs.length rfl)
 (refine aa hn ?_;refine aa ((a.each _).2) ?_);refine wpAny_bind (wpAny_holding (By (P.fm.hnd hq) ho λh' he=> ?_));have hk:∀ b o,s.heap.get? b=some o->h'.get? b=some o:=λb o e=>he b o (λq=>by subst q;rw[get?_size_none]at e;cases e) e;have P':=P.ext hk;have r:Run W fc cx g s env hp g { s with heap:=h' }:=⟨P'.2,P'.1,⟨rfl,id,abm _⟩⟩;exact a.run (ys:=ys) r.pre t0 (rs.keep (r.keep P)) λYy Yv Yz=>hQ Yy Yv (r.trans Yz)
end
section
theorem ww(r:RV W g h (.ty T) y):y= .type T:=r
theorem qQ:Call W k q (.builtin "isinstance") [] [.tup xs,.ty "tuple"] hp (.bool true) hp:=
 .of2 λcx g s a b Q E bl I r1 r2 hQ=>by(refine bT (eY r1) λt vs an _ dn _=> ?_;obtain rfl:=an;obtain⟨n,ho⟩:=dn);obtain rfl:=ww r2;exact IsiPair.tuple_tuple ho rfl (hQ g _ _ (.refl I) mK)
theorem qP{i:Int}:Call W k q (.builtin "isinstance") [] [.int i,.ty "tuple"] hp (.bool false) hp:=
 .of2 λcx g s a b Q E bl I r1 r2 hQ=>by obtain⟨t,rfl⟩:=aA r1;obtain rfl:=ww r2;exact IsiPair.int_tuple (hQ g _ _ (.toks I (acg _)) mK)
end
section
def DV{K:Type}[DecidableEq K](W:Wd)(knd:aep W.prog W.w K)(x:V)(ks:List K)(vs:List V):Prop:=
 ∀(g:Gh)(h:Heap)(y:Value),RV W g h x y-> ∃ a ys,y= .ref a/\g.F a/\ks.length=vs.length/\h.DictOf knd a (ks.zip ys)/\aQ W g h vs ys
theorem zy:DV W (intKind W.prog W.w) (.dI ks vs) ks vs:=λg h y r=>by exact r
theorem Wn:DV W (strKind W.prog W.w) (.dS ks vs) ks vs:=λg h y r=>by exact r
theorem Et{K:Type}[DecidableEq K]{knd:aep W.prog W.w K}{o:Expr}{cb pos:Pos}{x:V}{ks:List K}{vs:List V}(da:∀ m,attributeBase o "values" m (eval o m)=eval o m)(b9:(cb.endLine==pos.line)=true)(ho:Ev W fc env hp o x hp')(hd:DV W knd x ks vs) :
  Src W fc env hp (.Call (.Attribute o "values" cb) [] [] pos) hp' (λ_=>True) false vs:=by
 refine .mk ?_;intro cx g s Q E hh P t0 hQ;refine wpAny_Call_method (T:= "dict") (id:= "dict.values") (da _) rfl b9 ah5 aht al5 (ho.go cx g s _ E P t0 λYx s₁ y Yw YL=> ?_);refine mX (hd _ _ _ YL) λa ys e2 hF hl hm rs=> ?_;obtain rfl:=e2;refine⟨hm.typeIs,hm.mapOf.noDict,?_⟩;have iO:(a==sysModules)=false:=beq_eq_false_iff_ne.mpr λe=>Yw.pre.inv.sys.2 (e▸hF);refine method_meetsIn aht alo rfl (ajg ⟨rfl,hm.typeIs,ak6 _,_,meets_dict_values knd a iO,⟨_,hm⟩,?_⟩);let YK:=s₁.heap.push { cls:= .type "dict_values",data:= .fields #[.ref a] };have Zf:∀ b o,s₁.heap.get? b=some o->YK.get? b=some o:=λb o e=>abr _ e;have hv:YK.IsValuesView s₁.heap.objs.size a:=⟨_,ab4 _ rfl,rfl,rfl⟩;obtain⟨od,es,ep,e1,e2⟩:=id hm;have ZX:YK.DictAt knd a (ks.zip ys) ep:=⟨od,es,Zf _ _ e1,e2⟩;have ar:(ks.zip ys).length=vs.length:=by(refine aa af3 ?_;refine aa hl ?_;refine aa rs.length ?_;rw[af9])
 have dv:s₁.heap.objs.size≠YK.objs.size:=by rw[adw];exact an1 s₁.heap.objs.size
 refine wpAny_pyIter_values (s:={ s₁ with heap:=YK }) hv ZX ?_;let it:=YK.objs.size;let YT:=YK.push { cls:= .type "dict_valueiterator",data:= .fields #[.ref a,.int 0 0,.int (ks.zip ys).length 0,.int ep 0] };have Zt:∀ b o,s₁.heap.get? b=some o->YT.get? b=some o:=λb o e=>abr _ (Zf b o e);have hi:YT.get? it=some { cls:= .type "dict_valueiterator",data:= .fields #[.ref a,.int 0 0,.int (ks.zip ys).length 0,.int ep 0] }:=ab4 _ rfl;have bn:s₁.heap.get? it=none:=by induction e:s₁.heap.get? it using abt with
 |none=>rfl|some o=>have:=Zf it o e;rw[show YK.get? it=none from get?_size_none _]at this;injection this
 have Yz:Run W fc cx Yx s₁ env hp' Yx { s₁ with heap:=YT }:=⟨(Yw.pre.ext Zt).2,(Yw.pre.ext Zt).1,⟨rfl,id,abm _⟩⟩;have Z6:bU Yx s₁.heap Yx YT:=⟨λ_ x=>x,λb o _ e=>Zt b o e,ac2⟩;refine hQ it [it] (λj g h=> ∃ ys ep,h.IsValIter it a j (ks.zip ys).length ep/\h.DictAt knd a (ks.zip ys) ep/\g.F a/\aQ W g h vs ys/\(ks.zip ys).length=vs.length/\(∀ j y,ys[j]? =some y->j<vs.length-> ∃ z,(ks.zip ys)[j]? =some (z,y))) Yx { s₁ with heap:=YT } (Yw.trans Yz) ?_ ?_ ?_
 ·refine⟨ab5 _,λst b hb=> ?_,λst K hb=> ?_,λ{j v Yx hp₁ s₁ YS ac Zh Y7 Zd} ht hv I ok L st hQ=> ?_,λ{Yx hp₁ s₁ YS Zh Y7} I ok L st hQ=> ?_,λst hQ=> ?_⟩
  ·rw[ace]at hb;subst hb;(refine dY st λ_ _ an _=> ?_;obtain⟨o,ho,hc,hd⟩:=an);exact⟨o,_,ho,hd⟩
  ·(refine zG st λys ep an ez hF rs hl hz=> ?_;obtain⟨o,ho,hc,hd⟩:=an;obtain⟨od,es,e1,e2⟩:=ez);exact⟨ys,ep,⟨o,(hb _ (ab5 _)).trans ho,hc,hd⟩,⟨od,es,K.obj _ _ hF e1,e2⟩,K.F _ hF,rs.keep K,hl,hz⟩
  ·refine zG st λys ep hit hm hF rs hl hz=> ?_;refine ak (rs.get hv) λz xp rz=> ?_;obtain⟨key,hk⟩:=hz j z xp (abw.mp hv).1;refine wpAny_pyNext_values_item hit hm hk λh' gE hs=>⟨z,rfl,?_⟩;refine cps λ_ c_=> ?_;obtain⟨o,ca,hc,hd⟩:=id gE;have sd:=cF.extBut (hn:=abm _) (g:=Yx) (ab5 it) hs.extBut;have K:=sd.keeps L;obtain⟨od,es,e1,e2⟩:=hm;refine c_ ?_;exact iV ca hc (by decide) ht (hQ _ _ z sd ⟨ys,ep,gE,⟨od,es,K.obj _ _ hF e1,e2⟩,K.F _ hF,rs.keep K,hl,hz⟩ (rz.keep K))
  ·refine zG st λys ep hit hm hF rs hl hz=> ?_;exact wpAny_pyNext_values_end hh hit hm (by(rewrite[ahd];refine aa hl ?_);exact abm _) λh' he=>hQ _ _ (cF.extBut (hn:=abm _) (ab5 it) he)
  ·refine dY st λys ep hit _=> ?_;exact wpAny_pyIter_valiter hit hQ
 ·refine⟨ys,ep,⟨_,hi,rfl,rfl⟩,⟨od,es,Zt _ _ e1,e2⟩,hF,rs.keep Z6,ar,λj y hy hj=> ?_⟩;have j':j<ks.length:=by exact aa hl hj
  exact⟨ks[j],by rw[afy];exact⟨abu j',hy⟩⟩
 ·have hs:s.heap.get? it=none:=by induction e:s.heap.get? it using abt with
  |none=>rfl|some o=>obtain⟨o',e'⟩:=Yw.evo.dom it o e;rw[bn]at e';injection e'
  refine⟨λb hb=> ?_,λb hb=> ?_,λb hb=> ?_,λb hb=> ?_,cG λb hb=> ?_⟩<;>(rw[ace]at hb;subst hb)
  ·exact(b8 Yw.pre.inv bn).1
  ·exact(b8 Yw.pre.inv bn).2
  ·exact hs
  ·exact⟨_,hi⟩
  ·exact⟨_,_,hi,rfl⟩
end
section
variable{h:Heap}
theorem Td(h:gD true t=true):∃ es x p,t= .Tuple es x p:=by induction t using ac6<;>first|exact⟨_,_,_,rfl⟩|exact absurd h acb
theorem JL{K:Type}[DecidableEq K]{knd:aep W.prog W.w K}{o:Expr}{cb pos:Pos}{x:V}{ks:List K}{vs:List V}{tv:K->V}(da:∀ m,attributeBase o "items" m (eval o m)=eval o m)(b9:(cb.endLine==pos.line)=true)(q6:∀ key u,knd.is key u=true-> ∀ g h,RV W g h (tv key) u)(ho:Ev W fc env hp o x hp')(hd:DV W knd x ks vs) :
  Src W fc env hp (.Call (.Attribute o "items" cb) [] [] pos) hp' (λ_=>True) true (ae8 (λa b=> .tup [tv a,b]) ks vs):=by
 refine .mk ?_;intro cx g s Q E hh P t0 hQ;refine wpAny_Call_method (T:= "dict") (id:= "dict.items") (da _) rfl b9 ah5 ah6 amm (ho.go cx g s _ E P t0 λYx s₁ y Yw YL=> ?_);refine mX (hd _ _ _ YL) λa ys e2 hF hl hm rs=> ?_;obtain rfl:=e2;refine⟨hm.typeIs,hm.mapOf.noDict,?_⟩;have iO:(a==sysModules)=false:=beq_eq_false_iff_ne.mpr λe=>Yw.pre.inv.sys.2 (e▸hF);refine method_meetsIn ah6 al6 rfl (ajg ⟨rfl,hm.typeIs,alp _,_,meets_dict_items knd a iO,⟨_,hm⟩,?_⟩);let YK:=s₁.heap.push { cls:= .type "dict_items",data:= .fields #[.ref a] };have Zf:∀ b o,s₁.heap.get? b=some o->YK.get? b=some o:=λb o e=>abr _ e;have hv:YK.IsItemsView s₁.heap.objs.size a:=⟨_,ab4 _ rfl,rfl,rfl⟩;obtain⟨od,es,ep,e1,e2⟩:=id hm;have ZX:YK.DictAt knd a (ks.zip ys) ep:=⟨od,es,Zf _ _ e1,e2⟩;have ar:(ks.zip ys).length=vs.length:=by(refine aa af3 ?_;refine aa hl ?_;refine aa rs.length ?_;rw[af9])
 have dv:s₁.heap.objs.size≠YK.objs.size:=by rw[adw];exact an1 s₁.heap.objs.size
 refine wpAny_pyIter_items (s:={ s₁ with heap:=YK }) hv ZX ?_;let it:=YK.objs.size;let YT:=YK.push { cls:= .type "dict_itemiterator",data:= .fields #[.none,.bool false,.ref a,.int 0 0,.int (ks.zip ys).length 0,.int ep 0,.none,.none] };have Zt:∀ b o,s₁.heap.get? b=some o->YT.get? b=some o:=λb o e=>abr _ (Zf b o e);have hi:YT.get? it=some { cls:= .type "dict_itemiterator",data:= .fields #[.none,.bool false,.ref a,.int 0 0,.int (ks.zip ys).length 0,.int ep 0,.none,.none] }:=ab4 _ rfl;have bn:s₁.heap.get? it=none:=by induction e:s₁.heap.get? it using abt with
 |none=>rfl|some o=>have:=Zf it o e;rw[show YK.get? it=none from get?_size_none _]at this;injection this
 have Yz:Run W fc cx Yx s₁ env hp' Yx { s₁ with heap:=YT }:=⟨(Yw.pre.ext Zt).2,(Yw.pre.ext Zt).1,⟨rfl,id,abm _⟩⟩;have Z6:bU Yx s₁.heap Yx YT:=⟨λ_ x=>x,λb o _ e=>Zt b o e,ac2⟩;have ED:(ae8 (λa b=>V.tup [tv a,b]) ks vs).length=vs.length:=by(refine aa alq ?_;refine aa hl ?_;rw[af9])
 refine hQ it [it] (λj g h=> ∀ G:Prop,(∀ ys ep ok ov,IsItemIter h it a j (ks.zip ys).length ep ok ov->h.DictAt knd a (ks.zip ys) ep->g.F a->aQ W g h vs ys->ys.length=vs.length->G)->G) Yx { s₁ with heap:=YT } (Yw.trans Yz) ?_ ?_ ?_
 ·refine⟨ab5 _,λst b hb=> ?_,λst K hb=> ?_,λ{j v Yx hp₁ s₁ YS ac Zh Y7 Zd} ht hv I ok L st hQ=> ?_,λ{Yx hp₁ s₁ YS Zh Y7} I ok L st hQ=> ?_,λst hQ=> ?_⟩
  ·rw[ace]at hb;subst hb;exact st _ λ_ _ _ _ ho _ _ _ _=>⟨_,_,ho,rfl⟩
  ·exact st _ λys ep ok ov ho t9 hF rs hl=>λ_ k=>let⟨od,es,e1,e2⟩:=t9;k ys ep ok ov ((hb _ (ab5 _)).trans ho) ⟨od,es,K.obj _ _ hF e1,e2⟩ (K.F _ hF) (rs.keep K) hl
  ·refine st _ λys ep kk ov hit hm hF rs vu=> ?_;rw[agr]at hv;obtain⟨key,hkey,u,hu,rfl⟩:∃ key,ks[j]? =some key/\ ∃ u,vs[j]? =some u/\V.tup [tv key,u]=v:=by revert hv;induction e1:ks[j]? using abt with
   |none=>intro hv;cases hv|some key=>induction e2:vs[j]? using abt with
    |none=>intro hv;cases hv|some u=>intro hv;exact⟨key,rfl,u,rfl,by simpa using hv⟩
   refine ak (rs.get hu) λz xp rz=> ?_;have hk:(ks.zip ys)[j]? =some (key,z):=by rw[afy];exact⟨hkey,xp⟩
   refine wpAny_pyNext_items_item hit hm hk λkv h' vl gE f6 et cS=>⟨_,rfl,?_⟩;(refine T4 (Td ht) λdA x1 p ez=> ?_;obtain rfl:=ez)
   ·refine wpAny_letOwnedTupleGo_items gE λjI py gS=> ?_;have dv:s₁.heap.objs.size≠it:=afv (aeb (ado hit));have eI:jI.get? s₁.heap.objs.size=some { cls:= .type "tuple",data:= .seq #[kv,z] }:=(gS.2 _ dv).trans f6;have xv:∀ b o,b∉[it]->s₁.heap.get? b=some o->jI.get? b=some o:=λb o hb e=>by have kM:b≠it:=λq=>hb (by exact aa q (ab5 _));exact(gS.2 b kM).trans (cS b o kM e)
    have sd:cF [it] Yx s₁ (Yx.freeze s₁.heap.objs.size) { s₁ with heap:=jI }:=
     ⟨λ_ x=> .inl x,λb x=>x.elim .inl λe=> .inr ⟨e▸get?_size_none _,e▸⟨_,eI⟩⟩,rfl,xv,⟨rfl,id,abm _⟩⟩
    have K:=sd.keeps L;obtain⟨od,es,e1,e2⟩:=hm;refine hQ _ _ _ sd (λ_ k=>k ys ep kv z py ⟨od,es,K.obj _ _ hF e1,e2⟩ (K.F _ hF) (rs.keep K) vu) ?_;exact⟨_,[kv,z],rfl,.inr rfl,⟨_,eI⟩,aJ (q6 _ _ vl _ _) (aP (rz.keep K))⟩
  ·refine st _ λys ep kk ov hit hm hF rs vu=> ?_;have hz:(ks.zip ys).length=vs.length:=by(refine aa af3 ?_;refine aa hl ?_;refine aa vu ?_;rw[af9])
   exact wpAny_pyNext_items_end hh hit hm (by(rewrite[ahd];refine aa hz ?_;refine aa ED ?_);exact abm _) λh' he=>hQ _ _ (cF.extBut (hn:=abm _) (ab5 it) he)
  ·refine st _ λys ep kk ov hit _ _ _ _=> ?_;have hT:Shared.TypeIs _ (.ref it) "dict_itemiterator" :=⟨_,hit,rfl⟩;refine wpAny_pyIter_slot hT aio (wpAny_call_entry (b:=Builtin.«dict_keyiterator.__iter__») aio hT (entryFor_alias (id':= "dict_keyiterator.__iter__") (by kernel_rfl) rfl (by decide +kernel) (by kernel_rfl)) ?_ (F.args_dict_itemiterator_iter_1 _));exact wpAny_pure ⟨_,rfl,"dict_itemiterator",_,hT,F.slot_dict_itemiterator_next.lookup,hQ⟩
 ·exact λ_ k=>k ys ep .none .none hi ⟨od,es,Zt _ _ e1,e2⟩ hF (rs.keep Z6) rs.length
 ·have hs:s.heap.get? it=none:=by induction e:s.heap.get? it using abt with
  |none=>rfl|some o=>obtain⟨o',e'⟩:=Yw.evo.dom it o e;rw[bn]at e';injection e'
  refine⟨λb hb=> ?_,λb hb=> ?_,λb hb=> ?_,λb hb=> ?_,cG λb hb=> ?_⟩<;>(rw[ace]at hb;subst hb)
  ·exact(b8 Yw.pre.inv bn).1
  ·exact(b8 Yw.pre.inv bn).2
  ·exact hs
  ·exact⟨_,hi⟩
  ·exact⟨_,_,hi,rfl⟩
end
section
theorem LQ(gL:∀ g h a,h.get? a=some { cls:= .type "dict",data:= .dict #[] }->RO W g h a ob):Ev W fc env hp (.Dict [] [] pos) (.ref hp.length) (hp++[ob]):=by refine .mk ?_;intro cx g s Q E P t0 hQ;rw[eval_Dict_empty];refine wpAny_bind (wpAny_standAt ?_);unfold newDict;refine wpAny_newObj_type ?_ (by first|trivial|decide|(unfold sizeOk;trivial)|size_fits);have ho:=ab4 s.heap (o:={ cls:= .type "dict",data:= .dict #[] }) rfl;refine bw (P.grow (ob:=ob) (get?_size_none _) (λb o e=>abr _ e) (λK=>gL _ _ _ ho)) λP' ev=> ?_;refine hQ _ { s with heap:=s.heap.push { cls:= .type "dict",data:= .dict #[] } } _ ⟨ev,P',⟨rfl,id,abm _⟩⟩ ?_;exact⟨_,lZ g P.inv _,rfl⟩
theorem ig{K:Type}[DecidableEq K]{prog:Program}{w:World}{knd:aep prog w K}{h:Heap}{a:Addr}(ho:h.get? a=some { cls:= .type "dict",data:= .dict #[] }):h.DictOf knd a []:=by exact⟨_,#[],0,ho,⟨rfl,rfl,rfl⟩,rfl,λ_ he=>by simp at he,Pairs.nil,ai7⟩
theorem vV:Ev W fc env hp (.Dict [] [] pos) (.ref hp.length) (hp++[.dI [] []]):=LQ λg h a ho=>⟨[],rfl,ig ho,rfl⟩
theorem Iw(hv:∀ g h a,g.F a->h.get? a=some { cls:= .type "dict",data:= .dict #[] }->RV W g h v (.ref a)):Ev W fc env hp (.Dict [] [] pos) v hp:=by refine .mk ?_;intro cx g s Q E P t0 hQ;rw[eval_Dict_empty];refine wpAny_bind (wpAny_standAt ?_);unfold newDict;refine wpAny_newObj_type ?_ (by first|trivial|decide|(unfold sizeOk;trivial)|size_fits);have ho:=ab4 s.heap (o:={ cls:= .type "dict",data:= .dict #[] }) rfl;refine bK (P.freeze (get?_size_none _) ho (λb o e=>abr _ e)) λP' ev K=> ?_;exact hQ _ { s with heap:=s.heap.push { cls:= .type "dict",data:= .dict #[] } } _ ⟨ev,P',⟨rfl,id,abm _⟩⟩ (hv _ _ _ (.inr rfl) ho)
theorem nA:Ev W fc env hp (.Dict [] [] pos) (.dI [] []) hp:=Iw λg h a hF ho=>⟨a,[],rfl,hF,rfl,ig ho,rfl⟩
end
section
theorem Run.adopt(P:Pre W fc cx g env hp s.heap)(r:Run W fc cx g s ag hp' g' s')(L:Loose W [D] g' s.heap s'.heap):Run W fc cx g s ag hp' (g'.freeze D) s'/\bU g' s'.heap (g'.freeze D) s'.heap:=by
 have hD:=ab5 D;have K:bU g' s'.heap (g'.freeze D) s'.heap:=⟨λ_ x=> .inl x,λ_ _ _ e=>e,ac2⟩;have ne:∀ a o,s.heap.get? a=some o->a≠D:=λa o e q=>by rw[q,L.new D hD]at e;injection e
 have I:=r.pre.inv;have f:=r.pre.fm;refine⟨⟨⟨λa x=> .inl (r.evo.F a x),λa x=> ?_,r.evo.ρ,r.evo.ρnew,r.evo.dom,r.evo.keep⟩,⟨⟨I.base,I.len,λi o a e1 e2=>(I.obs i o a e1 e2).keep K rfl,I.ρB,λa hm hF=> ?_,I.nd,λa hF=> ?_,I.sys.1,λhF=> ?_⟩,{ f with ns:= ?_,cl:= ?_,ownF:= ?_,ownρ:=f.ownρ,lF:= ?_ }⟩,r.same⟩,K⟩
 ·rcases x with x|rfl
  ·exact r.evo.Fnew a x
  ·exact .inr (L.new _ hD)
 ·rcases hF with x|rfl
  ·exact I.ρF a hm x
  ·exact L.ρ _ hD hm
 ·rcases hF with x|rfl
  ·exact I.fz a x
  ·exact L.now _ hD
 ·rcases hF with x|x
  ·exact I.sys.2 x
  ·obtain⟨o,e⟩:=I.sys.1;exact ne _ o (P.inv.base _ o e) x
 ·refine ak f.ns λm hm hl=> ?_;exact⟨m,hm,λx v l=>let⟨y,e,rv⟩:=hl x v l;⟨y,e,rv.keep K⟩⟩
 ·intro x k v l hk;refine au (f.cl x k v l hk) λc y e1 e2 rv=> ?_;exact⟨c,y,e1,e2,rv.keep K⟩
 ·intro a ha hF;rcases hF with x|x
  ·exact f.ownF a ha x
  ·obtain⟨o,e⟩:=P.fm.ownD a ha;exact ne a o e x
 ·intro a ha;refine⟨λhF=> ?_,(f.lF a ha).2⟩;rcases hF with x|x
  ·exact(f.lF a ha).1 x
  ·obtain⟨_,o,e,_⟩:=P.fm.fun_.mem ha;exact ne a o e x
end
section
theorem Iz{n:Int}(h1:Ev W fc env hp ke (.int n) hp₁)(h2:Ev W fc env hp₁ ve v YC):Ev W fc env hp (.Dict [some ke] [ve] pos) (.dI [n] [v]) YC:=by
 refine .mk ?_;intro cx g s Q E P t0 hQ;refine wpAny_Dict_walk (knd:=intKind W.prog W.w) rfl rfl (by simp) (ad0 _) ?_;have hk:∀ b o,s.heap.get? b=some o->(s.heap.push { cls:= .type "dict",data:= .dict #[] }).get? b=some o:=λb o e=>abr _ e;have hD:=ab4 s.heap (o:={ cls:= .type "dict",data:= .dict #[] }) rfl;have ZJ:=P.ext hk;have Bn:Run W fc cx g s env hp g { s with heap:=s.heap.push { cls:= .type "dict",data:= .dict #[] } }:=⟨ZJ.2,ZJ.1,⟨rfl,id,abm _⟩⟩;have AR:Loose W [s.heap.objs.size] g s.heap (s.heap.push { cls:= .type "dict",data:= .dict #[] }):=by
  refine⟨λb hb=> ?_,λb hb=> ?_,λb hb=> ?_,λb hb=> ?_,λb o hb e v hv=> ?_⟩<;>(rw[ace]at hb;subst hb)
  ·exact(b8 P.inv (get?_size_none _)).1
  ·exact(b8 P.inv (get?_size_none _)).2
  ·exact get?_size_none _
  ·exact⟨_,hD⟩
  ·rw[hD]at e;cases e;cases hv
 have h0:∀ a,a∈cx.own-> ∃ o,s.heap.get? a=some o:=P.fm.ownD;have hl:∀ a,a∈cx.l.filterMap (·.frame)-> ∃ o,s.heap.get? a=some o:=λa ha=>by obtain⟨_,o,e,_⟩:=P.fm.fun_.mem ha;exact⟨o,e⟩
 refine pairTrees_cons_walk (h1.go cx g _ _ E ZJ.1 t0 λYx s₁ y Yw YL=> ?_);obtain⟨t,rfl⟩:=aA YL;refine h2.go cx Yx s₁ _ E Yw.pre (Yw.t t0) λYy Yv z Yz Y0=>pairTrees_nil_walk ?_;refine bw (Yw.loose AR h0 hl) λAW AS=> ?_;refine bw (Yz.loose AS h0 hl) λZf Y6=> ?_;have hm:=ab5 s.heap.objs.size;have e₂:Yv.heap.get? s.heap.objs.size=some { cls:= .type "dict",data:= .dict #[] }:=(Zf _ hm).trans ((AW _ hm).trans hD);refine⟨[(n,z)],⟨by exact intKind_is W.prog W.w n t,rfl,trivial⟩,ig e₂,λh' hd hs=> ?_⟩;have r:=(Bn.trans Yw).trans Yz;refine bw (kO P r Y6 hs) λr' K'=> ?_;have EL:Run W fc cx g s env YC Yy { Yv with heap:=h',toks:=Yv.toks+1 }:=⟨r'.evo,r'.pre,⟨r'.same.os,r'.same.gens,adk r'.same.tk⟩⟩;have L':Loose W [s.heap.objs.size] Yy s.heap h':=by
  obtain⟨o,es,ep,e,_,l9,_⟩:=id hd;refine⟨Y6.F,Y6.ρ,Y6.new,λb hb=> ?_,λb o' hb e' v hv=> ?_⟩<;>(rw[ace]at hb;subst hb)
  ·exact⟨o,e⟩
  ·rw[e]at e';cases e';rw[l9]at hv;cases hv
 refine bw (EL.adopt P L') λr3 K3=> ?_;refine hQ _ { Yv with heap:=h',toks:=Yv.toks+1 } _ r3 ?_;exact⟨_,[z],rfl,.inr rfl,rfl,by assumption,aP ((Y0.keep K').keep K3)⟩
end
section
inductive Turn(W:Wd)(fc:FC)(ok:List Ob->Prop)(ac:Expr)(body:List Stmt)(e:aj)(q:List Ob)(v:V)(e':aj)(q':List Ob):Prop
|mk {YB e₂:aj} {YD:List Ob} (a:gW W fc e q ac v YB YD) (b:cU W fc YB YD body (.next e₂ q')) (c:ok q') (d:bh e' e₂):Turn W fc ok ac body e q v e' q'
inductive vG(W:Wd)(fc:FC)(ok:List Ob->Prop)(ac:Expr)(body:List Stmt)(e:aj)(q:List Ob)(v:V)(e':aj)(q':List Ob):Prop
|mk {YB e₂:aj} {YD:List Ob} (a:gW W fc e q ac v YB YD) (b:gJ W fc YB YD body (.next e₂ q')) (c:ok q') (d:bh e' e₂):vG W fc ok ac body e q v e' q'
end
section
theorem vM(hb:a=b):j9 W hp .Is (.ty a) (.ty b) true:=by subst hb;refine .mk ?_;intro A g s x y Q E hu I ra rb hQ;obtain rfl:=ww ra;obtain rfl:=ww rb;exact wpAny_is_self rfl (hQ s.toks (abm _))
theorem wX(hb:a=b):j9 W hp .IsNot (.ty a) (.ty b) false:=by subst hb;refine .mk ?_;intro A g s x y Q E hu I ra rb hQ;obtain rfl:=ww ra;obtain rfl:=ww rb;exact wpAny_isNot_self rfl (hQ s.toks (abm _))
theorem uZ:Call W k q (.type "type") [] [.str x] hp (.ty "str") hp:=
 .of1 λcx g s y Q E bl I r hQ=>by obtain⟨t,rfl⟩:=aG r;exact call_type_of (typeIs_str _ _ _) (by decide) (hQ g _ _ (.refl I) (rfl))
theorem uY(l:Lst hp x xs):Call W k q (.type "type") [] [x] hp (.ty "list") hp:=
 .of1 λcx g s y Q E bl I r hQ=>by(refine au (l.at I r) λa vs an ho _=> ?_;obtain rfl:=an);exact call_type_of ho.isList.typeIs (by decide) (hQ g _ _ (.refl I) (rfl))
end
section
variable{W:Wd}{h:Heap}
structure Yn(W:Wd)(hp:List Ob)(f:Value)(xs:List V)(ok:List Ob->Prop)(tup:Bool)(vs:List V):Prop where
 go:∀(A:Around)(g:Gh)(s:Shared)(ys:List Value)(Q:Value->Shared->Prop)(E:Value->Shared->Prop),A.handled=none->Inv W g hp s.heap->aQ W g s.heap xs ys->
  (∀ it wr St s',Walk W A it wr ok tup vs St->St 0 g s'.heap->(∀ b,b∈wr->s.heap.get? b=none/\ ∃ o,s'.heap.get? b=some o)->(∀ b o,s.heap.get? b=some o->s'.heap.get? b=some o)->j_ s s'->Q (.ref it) s')->
  wpAny (model W.prog W.w) A (call f ys []) (λx s₁=>wpAny (model W.prog W.w) A (pyIter x) Q E s₁) E s
theorem O7(hk:Kp W f)(hs:es.all (λe=> !isStar e)=true)(hf:Gn W fc (.Name x p) f)(ha:wI W fc env hp es xs hp')(hc:Yn W hp' f xs ok tup vs):Src W fc env hp (.Call (.Name x p) es [] pos) hp' ok tup vs:=by refine .mk ?_;intro cx g s Q E hh P t0 hQ;refine wpAny_Call_Name_kw (hf.go env hp cx g s _ E P ?_);refine callWith_of (P:=λh=> ∀ b o,W.B.get? b=some o->h.get? b=some o) (by refine(?_:(_||false)=false);rw[afm];exact bM hs) (λh hh=>hk _ h hh) (bk hs ?_);refine ha.go pos cx g s _ E P t0 λYx s₁ ys Yw rv=>⟨Yw.pre.inv.base,?_⟩;refine hc.go cx.A Yx s₁ ys Q E hh Yw.pre.inv rv λit wr St Yv hw er bn hk sm=> ?_;have Yz:Run W fc cx Yx s₁ env hp' Yx Yv:=⟨(Yw.pre.ext hk).2,(Yw.pre.ext hk).1,sm⟩;refine hQ it wr St Yx Yv (Yw.trans Yz) hw er ⟨λb hb=>(b8 Yw.pre.inv (bn b hb).1).1,λb hb=>(b8 Yw.pre.inv (bn b hb).1).2,λb hb=> ?_,λb hb=>(bn b hb).2,cG (hw.flds er)⟩;induction e:s.heap.get? b using abt with
|none=>rfl
|some o=>obtain⟨o',e'⟩:=Yw.evo.dom b o e;rw[(bn b hb).1]at e';cases e'
noncomputable def tL(xs:List V):List V:=ae8 (λ(i:Nat) x=> .tup [.int i,x]) (ai9 xs.length) xs
theorem Iu{xs:List V}{j:Nat}{v:V}(h:(tL xs)[j]? =some v):∃ x,xs[j]? =some x/\v= .tup [.int j,x]:=by
 unfold tL at h;rw[agr]at h
 by_cases hj:j<xs.length
 ·rw[aix hj,abu hj]at h;exact⟨_,abu hj,by simpa using h.symm⟩
 ·rw[List.getElem?_eq_none (by simpa using hj)]at h;simp at h
theorem Ni(l:Lst hp x xs):Yn W hp (.type "enumerate") [x] (λhp=>Lst hp x xs) true (tL xs):=by
 refine .mk ?_;intro A g s ys Q E hh I rv hQ;(refine ak (Em rv) λy dy i9=> ?_;obtain rfl:=dy);clear rv;rename RV W g s.heap x y=>rv;(refine au (l.at I rv) λa vs an ho rs=> ?_;obtain rfl:=an);refine call_enumerate_list ho.isList λYF he hit et hk=> ?_;refine wpAny_pyIter_enum he ?_;have n0:s.heap.get? s.heap.objs.size=none:=aK;have n1:s.heap.get? (s.heap.objs.size+1)=none:=by induction e:s.heap.get? (s.heap.objs.size+1)using abt with
 |none=>rfl|some o=>exact absurd (ado e) (aem.mpr (acg _))
 obtain⟨oi,DI,zt,zv⟩:=id hit;refine hQ (s.heap.objs.size+1) [s.heap.objs.size+1,s.heap.objs.size] (λj g h=>(∃ old,IsEnum h (s.heap.objs.size+1) s.heap.objs.size (j:Nat) old)/\h.IsListIter s.heap.objs.size a j/\RV W g h x (.ref a)) { s with heap:=YF } ?_
  ⟨⟨_,by simpa using he⟩,hit,rv.keep ⟨λ_ x=>x,λa o _ e=>hk a o e,ac2⟩⟩ (λb hb=> ?_) hk ⟨rfl,id,abm _⟩
 ·have dv:s.heap.objs.size+1≠s.heap.objs.size:=Nat.succ_ne_self _;refine⟨abq,λst b hb=> ?_,λst K hb=>⟨?_,?_,st.2.2.keep K⟩,λ{j v Yx hp₁ s₁ YS ac Zh Y7 Zd} ht hv I ok L st hQ=> ?_,λ{Yx hp₁ s₁ YS Zh Y7} I ok L st hQ=> ?_,λst hQ=> ?_⟩
  ·(refine bK st λhV dy _=> ?_;obtain⟨old,he⟩:=hV;obtain⟨o,ho,hc,hd⟩:=dy);rcases abx.mp hb with rfl|hb
   ·exact⟨_,_,he,rfl⟩
   ·rw[ace]at hb;subst hb;exact⟨_,_,ho,hd⟩
  ·obtain⟨⟨old,he⟩,_⟩:=st;exact⟨old,(hb _ abq).trans he⟩
  ·(refine bK st λ_ dy _=> ?_;obtain⟨o,ho,hc,hd⟩:=dy);exact⟨o,(hb _ (abl _ (ab5 _))).trans ho,hc,hd⟩
  ·(refine bK st λhV hit rv=> ?_;obtain⟨old,he⟩:=hV);refine au (ok.at I rv) λa' vs ea ho rs=> ?_;cases ea;(refine ak (Iu hv) λu hu an=> ?_;obtain rfl:=an);refine ak (rs.get hu) λz hz rz=> ?_;refine wpAny_pyNext_enum_item he hit ho.isList (x:=z) (by simpa using hz) dv λh' ua gE f6 mS cS=>⟨_,rfl,?_⟩;induction ac using ac6 with
  |Tuple dA x1 p=>
    refine wpAny_letOwnedTupleGo_enum ua λjI ub gS=> ?_;have vF:s₁.heap.objs.size≠s.heap.objs.size+1:=afv (aeb (ado he));have DF:s₁.heap.objs.size≠s.heap.objs.size:=by obtain⟨o,ho,_⟩:=hit;exact afv (aeb (ado ho))
    have eI:jI.get? s₁.heap.objs.size=some { cls:= .type "tuple",data:= .seq #[.int j s₁.toks,z] }:=(gS.2 _ vF).trans f6;have xv:∀ b o,b∉[s.heap.objs.size+1,s.heap.objs.size]->s₁.heap.get? b=some o->jI.get? b=some o:=λb o hb e=>by have y9:b≠s.heap.objs.size+1:=λq=>hb (by exact aa q abq);have pd:b≠s.heap.objs.size:=λq=>hb (by exact aa q (abl _ (ab5 _)));exact(gS.2 b y9).trans (cS b o y9 pd e)
    have sd:cF [s.heap.objs.size+1,s.heap.objs.size] Yx s₁ (Yx.freeze s₁.heap.objs.size) { s₁ with heap:=jI,toks:=s₁.toks+1 }:=
     ⟨λ_ x=> .inl x,λb x=>x.elim .inl λe=> .inr ⟨e▸get?_size_none _,e▸⟨_,eI⟩⟩,rfl,xv,⟨rfl,id,acg _⟩⟩
    have K:=sd.keeps L;refine hQ _ _ _ sd ⟨⟨_,by simpa using ub⟩,gE.extBut gS.extBut dv.symm,rv.keep K⟩ ?_;exact⟨_,[.int j s₁.toks,z],rfl,.inr rfl,⟨_,eI⟩,aJ cA (aP (rz.keep K))⟩
  |_=>exact absurd ht acb
  ·(refine bK st λhV hit rv=> ?_;obtain⟨old,he⟩:=hV);refine au (ok.at I rv) λa' vs ea ho rs=> ?_;cases ea;have hl:(tL xs).length=xs.length:=by simp[tL]
   rw[hl]at he hit;refine wpAny_pyNext_enum_end hh he hit ho.isList (by simp[rs.length]) λh' he=>hQ _ _ (cF.extBut (hn:=abm _) (it:=s.heap.objs.size) (abl _ (ab5 _)) he)
  ·obtain⟨⟨old,he⟩,_⟩:=st;exact wpAny_pyIter_enum he hQ
 ·rcases abx.mp hb with rfl|hb
  ·exact⟨n1,_,he⟩
  ·rw[ace]at hb;subst hb;exact⟨n0,_,DI⟩
end
section
variable{k:Nat}{q:Bool}{W:Wd}{fc:FC}{cx:Cx}{g g':Gh}{env ag:aj}{hp hp' hp₁ YC YQ:List Ob}{h h':Heap}
noncomputable def Gh.freezeP(g:Gh)(P:Addr->Prop):Gh:=⟨λb=>g.F b\/P b,g.ρ⟩
theorem Step.freezeP(ha:∀ a,P a->h.get? a=none)(hk:∀ b o,h.get? b=some o->h'.get? b=some o):Step g h (g.freezeP P) h':=
 ⟨λ_ x=> .inl x,λb x=>x.elim .inl λe=> .inr (ha b e),ac2,λ_ x=> .inl x,λa o e _=>hk a o e⟩
theorem Inv.freezeP(I:Inv W g hp h)(ha:∀ a,P a->h.get? a=none)(ho:∀ a,P a-> ∃ o,h'.get? a=some o)(hk:∀ b o,h.get? b=some o->h'.get? b=some o):Inv W (g.freezeP P) hp h':=by
 have K:=(Step.freezeP (g:=g) ha hk).keeps I;refine⟨λb o e=>hk b o (I.base b o e),I.len,λi o a e1 e2=> ?_,I.ρB,λb hb hF=> ?_,I.nd,λb hb=> ?_,I.sys.1,λhF=> ?_⟩
 ·have r:=I.obs i o a e1 e2;obtain⟨O,eO⟩:=r.some;exact r.keep K ((hk a O eO).trans eO.symm)
 ·rcases hF with q|q
  ·exact I.ρF b hb q
  ·obtain⟨i,hi,ei⟩:=ac5 (show b∈g.ρ from hb);have eA:i<hp.length:=by exact aa (ach I.len) hi
   obtain⟨O,eO⟩:=(I.obs i hp[i] b (abu eA) (by(refine aa (abu hi) ?_;exact aa ei rfl))).some;rw[ha b q]at eO;injection eO
 ·rcases hb with q|q
  ·obtain⟨o,e⟩:=I.fz b q;exact⟨o,hk b o e⟩
  ·exact ho b q
 ·rcases hF with q|q
  ·exact I.sys.2 q
  ·obtain⟨o,e⟩:=I.sys.1;have:=I.base _ o e;rw[ha _ q]at this;injection this
theorem aH.freezeP(I:Inv W g hp s.heap)(ha:∀ a,P a->s.heap.get? a=none)(ho:∀ a,P a-> ∃ o,h'.get? a=some o)(hk:∀ b o,s.heap.get? b=some o->h'.get? b=some o)(hn:s.toks<=n) :
  aH W cx g s hp (g.freezeP P) { s with heap:=h',toks:=n }/\bU g s.heap (g.freezeP P) h':=
 ⟨.step I (Step.freezeP ha hk) (I.freezeP ha ho hk) ⟨rfl,id,hn⟩,(Step.freezeP ha hk).keeps I⟩
theorem aH.push(o:Obj)(I:Inv W g hp s.heap)(hn:s.toks<=n)(hf:o.isFreed=false) :
  aH W cx g s hp (g.freeze s.heap.objs.size) { s with heap:=s.heap.push o,toks:=n }/\bU g s.heap (g.freeze s.heap.objs.size) (s.heap.push o)/\(s.heap.push o).get? s.heap.objs.size=some o:=
 have ho:=ab4 s.heap (o:=o) hf
 ⟨(aH.freeze I aK ho (λb o e=>abr _ e) hn).1,(aH.freeze (cx:=cx) (n:=n) I aK ho (λb o e=>abr _ e) hn).2,ho⟩
noncomputable def rangeT(a b c:Int):Thing where
 P:=λ_ g h y vs=>vs=[]/\ ∃ r t u v,y= .ref r/\g.F r/\IsRange h r a b c t u v
 keep:=λW g h g' h' y vs hF hk ⟨e,r,t,u,v,ey,hr,x⟩=>⟨e,r,t,u,v,ey,hF r hr,hk r _ hr x⟩
 ref:=λ_ _ _ _ _ ⟨_,r,_,_,_,e,_⟩=>⟨r,e⟩
noncomputable abbrev V.range(a b c:Int):V:= .raw (rangeT a b c) []
theorem lK{a b c:Int}:RV W g h (.range a b c) y↔ ∃ r t u v,y= .ref r/\g.F r/\IsRange h r a b c t u v:=by
 skip
 constructor
 ·rintro⟨vs,⟨_,x⟩,_⟩;exact x
 ·intro x;exact⟨[],⟨rfl,x⟩,rfl⟩
theorem kI{b:Int}:Call W k q (.type "range") [] [.int b] hp (.range 0 b 1) hp:=
 .of1 λcx g s y Q E bl I r hQ=>by obtain⟨t,rfl⟩:=aA r;refine call_range_1 ?_;obtain⟨cr,K,ho⟩:=aH.push (hf:=rfl) (n:=s.toks+1+1) (cx:=cx) { cls:= .type "range",data:= .fields #[.int 0 s.toks,.int b t,.int 1 (s.toks+1)] } I (ab0 _ 2);exact hQ _ _ _ cr (lK.mpr ⟨_,_,_,_,rfl,.inr rfl,ana ..⟩)
theorem gh{a b:Int}:Call W k q (.type "range") [] [.int a,.int b] hp (.range a b 1) hp:=
 .of2 λcx g s y z Q E bl I r1 r2 hQ=>by obtain⟨t,rfl⟩:=aA r1;obtain⟨u,rfl⟩:=aA r2;refine call_range_2 ?_;obtain⟨cr,K,ho⟩:=aH.push (hf:=rfl) (hn:=acg _) (n:=s.toks+1) (cx:=cx) { cls:= .type "range",data:= .fields #[.int a t,.int b u,.int 1 s.toks] } I;exact hQ _ _ _ cr (lK.mpr ⟨_,_,_,_,rfl,.inr rfl,ana ..⟩)
theorem gj{a b c:Int}(hc:c≠0)(aI:afd (b - a) c=false):Call W k q (.type "range") [] [.int a,.int b,.int c] hp (.range a b c) hp:=
 .of3 λcx g s y z w Q E bl I r1 r2 r3 hQ=>by obtain⟨t,rfl⟩:=aA r1;obtain⟨u,rfl⟩:=aA r2;obtain⟨v,rfl⟩:=aA r3;refine call_range_3 hc ?_ (.inl aI);obtain⟨cr,K,ho⟩:=aH.push (hf:=rfl) (hn:=abm _) (n:=s.toks) (cx:=cx) { cls:= .type "range",data:= .fields #[.int a t,.int b u,.int c v] } I;exact hQ _ _ _ cr (lK.mpr ⟨_,_,_,_,rfl,.inr rfl,ana ..⟩)
theorem gR{a b c:Int}(hs:aeo a b c=true):J_ W hp (.range a b c) (λ_=>True) false ((e_ a b c).map V.int):=by
 refine .mk ?_;intro A g s y Q E hh I rv hQ;(refine T6 (lK.mp rv) λr t u v dn hF hr=> ?_;obtain rfl:=dn);refine wpAny_pyIter_range hr hs ?_;have bn:=ab4 s.heap (o:={ cls:= .type "range_iterator",data:= .fields #[rawInt a,rawInt (acl a b c),rawInt c] }) rfl;refine hQ s.heap.objs.size [s.heap.objs.size] _ { s with heap:=s.heap.push { cls:= .type "range_iterator",data:= .fields #[rawInt a,rawInt (acl a b c),rawInt c] } } (Fb hh) (by simpa using bn)
  (λb hb=>by rw[ace]at hb;subst hb;exact⟨aK,_,bn⟩) (λb o e=>abr _ e) ⟨rfl,id,abm _⟩
theorem Bd{vs:List Value}{l:List Int}(hl:vs.length=l.length)(h1:∀(j:Nat) v,vs[j]? =some v-> ∃ t,∃ i,l[j]? =some i/\v= .int i t):aQ W g h (l.map V.int) vs:=by induction l generalizing vs with
|nil=>induction vs using abn with
 |nil=>exact rfl|cons=>simp at hl
|cons i l ih=>induction vs using abn with
 |nil=>simp at hl|cons v vs=>
   obtain⟨t,i',e1,rfl⟩:=h1 0 v rfl;simp only[List.getElem?_cons_zero,ae1]at e1;subst e1
   skip
   exact⟨_,_,rfl,cA,ih (by simpa using hl) λj v e=>by simpa using h1 (j+1) v (by simpa using e)⟩
theorem jK(bl:Bl W k true cx g h):cx.A.handled=none:=bl.hnd rfl
theorem bJ{a b c:Int}(hs:aeo a b c=true)(hl:acl a b c<=16777216)(hg:0<=acl a b c):Call W k true (.type "list") [] [.range a b c] hp (.lst ((e_ a b c).map V.int)) hp:=
 .of1 λcx g s y Q E bl I rv hQ=>by
  (refine T6 (lK.mp rv) λr t u v dn hF hr=> ?_;obtain rfl:=dn);refine wpAny_with_toks (abm _) (call_list_range (n:=(acl a b c).toNat) (jK bl) hr hs (rangeSize_toNat a b c) ((λ{m}{n}=>Int.toNat_le.mpr) hl) λh' tk js c' hk hS cq ht=> ?_);obtain⟨cr,K⟩:=aH.freeze (n:=tk) (cx:=cx) I aK hS hk ht;refine hQ _ _ _ cr ?_;refine⟨_,js.toList,rfl,.inr rfl,⟨c',by simpa using hS⟩,Bd (by simp[e_,cq.1]) λj v hv=> ?_⟩;obtain⟨ow,rfl⟩:=cq.2 j v (by simpa using hv);have hj:j<(acl a b c).toNat:=by have:=(abw.mp hv).1;rw[aiw,cq.1]at this;exact this
  exact⟨ow,_,by(rewrite[e_];refine aa (ady) ?_;refine aa (aix hj) ?_);rfl,rfl⟩
noncomputable def Xn(T:String):Thing where
 P:=λ_ g h y vs=> ∃ r a,y= .ref r/\g.F r/\vs=[.ref a]/\h.get? r=some { cls:= .type T,data:= .fields #[.ref a] }
 keep:=λW g h g' h' y vs hF hk ⟨r,a,ey,hr,e,x⟩=>⟨r,a,ey,hF r hr,e,hk r _ hr x⟩
 ref:=λ_ _ _ _ _ ⟨r,_,e,_⟩=>⟨r,e⟩
noncomputable abbrev V.view(T:String)(d:V):V:= .raw (Xn T) [d]
theorem rZ:RV W g h (.view T d) y↔ ∃ r a,y= .ref r/\g.F r/\h.get? r=some { cls:= .type T,data:= .fields #[.ref a] }/\RV W g h d (.ref a):=by
 skip
 constructor
 ·rintro⟨vs,⟨r,a,e,hF,rfl,ho⟩,rs⟩;refine ak (Em rs) λy' e' rv=> ?_;cases e';exact⟨r,a,e,hF,ho,rv⟩
 ·rintro⟨r,a,e,hF,ho,rv⟩;exact⟨_,⟨r,a,e,hF,rfl,ho⟩,aP rv⟩
def Tv{K:Type}[DecidableEq K](W:Wd)(knd:aep W.prog W.w K)(hp:List Ob)(x:V)(ks:List K)(vs:List V):Prop:=
 ∀(g:Gh)(h:Heap)(y:Value),Inv W g hp h->RV W g h x y-> ∃ a ys,y= .ref a/\(a==sysModules)=false/\ks.length=vs.length/\h.DictOf knd a (ks.zip ys)/\aQ W g h vs ys
theorem nP.dct(t:nP hp x ks vs):Tv W (intKind W.prog W.w) hp x ks vs:=λg h y I rv=>t.at I rv
section
variable{K:Type}[DecidableEq K]{knd:aep W.prog W.w K}{ks:List K}
theorem Cq(d:Tv W knd hp x ks vs):Call W k q (.builtin "dict.items") [] [x] hp (.view "dict_items" x) hp:=
 .of1 λcx g s y Q E bl I rv hQ=>by obtain⟨a,ys,rfl,hs,hl,hm,rs⟩:=d g _ y I rv;refine call_meetsIn ah6 hm.typeIs al6 (alp _) (meets_dict_items knd a hs) ⟨⟨_,hm⟩,?_⟩;obtain⟨cr,K,ho⟩:=aH.push (hf:=rfl) (hn:=abm _) (n:=s.toks) (cx:=cx) { cls:= .type "dict_items",data:= .fields #[.ref a] } I;exact hQ _ _ _ cr (rZ.mpr ⟨_,a,rfl,.inr rfl,ho,rv.keep K⟩)
theorem za(d:Tv W knd hp x ks vs):Call W k q (.builtin "dict.values") [] [x] hp (.view "dict_values" x) hp:=
 .of1 λcx g s y Q E bl I rv hQ=>by obtain⟨a,ys,rfl,hs,hl,hm,rs⟩:=d g _ y I rv;refine call_meetsIn aht hm.typeIs alo (ak6 _) (meets_dict_values knd a hs) ⟨⟨_,hm⟩,?_⟩;obtain⟨cr,K,ho⟩:=aH.push (hf:=rfl) (hn:=abm _) (n:=s.toks) (cx:=cx) { cls:= .type "dict_values",data:= .fields #[.ref a] } I;exact hQ _ _ _ cr (rZ.mpr ⟨_,a,rfl,.inr rfl,ho,rv.keep K⟩)
theorem uB:∀{vs:List V}{ys:List Value},ys.length=vs.length->(∀(j:Nat) v y,vs[j]? =some v->ys[j]? =some y->RV W g h v y)->aQ W g h vs ys:=by intro ah;induction ah with
|nil=>intro bi;induction bi using abn with
 |nil=>intro _ _;exact rfl|cons _ _=>intro hl _;simp at hl
|cons v vs ih=>intro nt;induction nt using abn with
 |nil=>intro hl _;simp at hl|cons y ys=>intro hl H;exact⟨y,ys,rfl,H 0 v y rfl rfl,ih (by simpa using hl) λj v y e1 e2=>H (j+1) v y (by simpa using e1) (by simpa using e2)⟩
theorem vQ(hm:h.DictOf knd a kvs):∃ ep,h.DictAt knd a kvs ep:=by obtain⟨o,es,ep,ho,r⟩:=hm;exact⟨ep,o,es,ho,r⟩
theorem qR(d:Tv W knd hp x ks vs)(hl:vs.length<=16777216):Call W k true (.type "list") [] [.view "dict_values" x] hp (.lst vs) hp:=
 .of1 λcx g s y Q E bl I rv hQ=>by
  refine cps λ_ c_=> ?_;(refine bT (rZ.mp rv) λr a an hF hr rx=> ?_;obtain rfl:=an);obtain⟨a',ys,e,hs,io,hm,rs⟩:=d g _ _ I rx;cases e;obtain⟨ep,fp⟩:=vQ hm;refine c_ ?_;have ar:(ks.zip ys).length=vs.length:=by(refine aa af3 ?_;refine aa io ?_;refine aa rs.length ?_;rw[af9])
  refine wpAny_with_toks (abm _) (kdl_call (kdl_values (knd:=knd) (kvs:=ks.zip ys) (ep:=ep)) (jK bl) ⟨⟨_,hr,rfl,rfl⟩,fp⟩ (by(refine aa ar ?_;refine aa sizeLine_eq ?_);exact hl) λh' tk js c' hk hS cq ht=> ?_);obtain⟨cr,K⟩:=aH.freeze (n:=tk) (cx:=cx) I aK hS hk ht;refine hQ _ _ _ cr ?_;have hH:js.toList.length=vs.length:=by(refine aa aiw ?_;rewrite[cq.1];exact aa ar rfl)
  refine⟨_,js.toList,rfl,.inr rfl,⟨c',by simpa using hS⟩,uB hH λj v u hv hu=> ?_⟩;obtain⟨kk,e⟩:=cq.2 j u (by simpa using hu);rw[afy]at e;refine ak (rs.get hv) λz hz rz=> ?_;have:z=u:=by rw[e.2]at hz;exact(acn hz).symm
  subst this;exact rz.keep K
theorem kE{tv:K->V}(q6:∀ key u,knd.is key u=true-> ∀ g h,RV W g h (tv key) u)(d:Tv W knd hp x ks vs)(hl:vs.length<=16777216) :
  Call W k true (.type "list") [] [.view "dict_items" x] hp (.lst (ae8 (λa b=> .tup [tv a,b]) ks vs)) hp:=
 .of1 λcx g s y Q E bl I rv hQ=>by
  refine cps λ_ c_=> ?_;(refine bT (rZ.mp rv) λr a an hF hr rx=> ?_;obtain rfl:=an);obtain⟨a',ys,e,hs,io,hm,rs⟩:=d g _ _ I rx;cases e;obtain⟨ep,fp⟩:=vQ hm;refine c_ ?_;have ar:(ks.zip ys).length=vs.length:=by(refine aa af3 ?_;refine aa io ?_;refine aa rs.length ?_;rw[af9])
  refine wpAny_with_toks (abm _) (kdx_call (knd:=knd) (kvs:=ks.zip ys) (ep:=ep) (jK bl) ⟨_,hr,rfl,rfl⟩ fp (by(refine aa ar ?_;refine aa sizeLine_eq ?_);exact hl) λh' tk acc c as hk hS hH hG cq ht=> ?_);have f1:∀ b,(b=s.heap.objs.size\/b∈as)->s.heap.get? b=none:=λb hb=>by
   rcases hb with rfl|hb
   ·exact aK
   ·induction e:s.heap.get? b using abt with
   |none=>rfl|some o=>exact absurd (ado e) (aem.mpr (ac1 (hG.above b hb)))
  have f2:∀ b,(b=s.heap.objs.size\/b∈as)-> ∃ o,h'.get? b=some o:=λb hb=>by
   rcases hb with rfl|hb
   ·exact⟨_,hS⟩
   ·obtain⟨j,hj⟩:=List.mem_iff_getElem?.mp hb;refine Mm (hG.pairs j b hj) λ_ _ _ _ _ e=> ?_;exact⟨_,e⟩
  obtain⟨cr,K⟩:=aH.freezeP (n:=tk) (cx:=cx) (P:=λb=>b=s.heap.objs.size\/b∈as) I f1 f2 hk ht
  ·refine hQ _ _ _ cr ?_;refine⟨_,acc.toList,rfl,.inr (.inl rfl),⟨c,by simpa using hS⟩,uB ?_ λj v u hv hu=> ?_⟩
   ·(refine aa cq ?_;rewrite[acx];refine aa hH ?_;refine aa ar ?_;refine aa alq ?_;refine aa io ?_;rw[af9])
   ·rw[cq,ady]at hu;(refine ak (adl.mp hu) λb hb an=> ?_;obtain rfl:=an);refine Mm (hG.pairs j b hb) λkey kk z e1 e2 e3=> ?_;rw[afy]at e1;have D4:∃ v',vs[j]? =some v':=by have:=(abw.mp e1.2).1;rw[rs.length]at this;exact⟨_,abu this⟩
    obtain⟨v',sD⟩:=D4;rw[agr,e1.1,sD]at hv;cases hv;refine ak (rs.get sD) λz' sQ rz=> ?_;rw[e1.2]at sQ;cases sQ;exact⟨b,[key,z],rfl,.inr (.inr (acq hb)),⟨_,e3⟩,aJ (q6 _ _ e2 _ _) (aP (rz.keep K))⟩
end
theorem Yt:∀(key:Str)(u:Value),(PySem.strKind W.prog W.w).is key u=true-> ∀ g h,RV W g h (.str key) u:=λkey u e g h=>by obtain⟨t,rfl⟩:=Value.isStrOf_shape e;exact bx
theorem Wb:∀(key:Int)(u:Value),(PySem.intKind W.prog W.w).is key u=true-> ∀ g h,RV W g h (.int key) u:=λkey u e g h=>by obtain⟨t,rfl⟩:=Value.isInt_shape e;exact cA
end
section
variable{k:Nat}{q:Bool}{W:Wd}{fc:FC}{cx:Cx}{g g':Gh}{env ag:aj}{hp hp' hp₁ YC YQ:List Ob}{h h':Heap}
mutual
noncomputable def V.low(n:Nat):V->Bool
|.tup xs=>lows n xs
|.lst xs=>lows n xs
|.dS _ xs=>lows n xs
|.dI _ xs=>lows n xs
|.ref i=>decide (i<n)
|.iref _ i=>decide (i<n)
|.raw _ xs=>lows n xs
|_=>true
noncomputable def lows(n:Nat):List V->Bool
|[]=>true
|x::xs=>x.low n&&lows n xs
end
noncomputable def Ob.low(n:Nat):Ob->Bool
|.list xs=>lows n xs
|.dS _ xs=>lows n xs
|.dI _ xs=>lows n xs
|.ns _ xs=>lows n xs
|.tab _ _=>true
noncomputable def Gh.upto(g:Gh)(n:Nat):Gh:=⟨g.F,g.ρ.take n⟩
theorem oF:(V.int i).low n=true:=rfl
theorem lw:(V.bool i).low n=true:=rfl
theorem mz:(V.str i).low n=true:=rfl
theorem mC:(V.tup xs).low n=lows n xs:=rfl
theorem oG:(V.lst xs).low n=lows n xs:=rfl
theorem ue:(V.dS ks xs).low n=lows n xs:=rfl
theorem pU:(V.dI ks xs).low n=lows n xs:=rfl
theorem oH:(V.ref i).low n=decide (i<n):=rfl
theorem lz:(V.iref c i).low n=decide (i<n):=rfl
theorem gw:lows n []=true:=rfl
theorem lows_cons:lows n (x::xs)=(x.low n&&lows n xs):=rfl
theorem jB:(Ob.list xs).low n=lows n xs:=rfl
theorem rO:(Ob.dS ks xs).low n=lows n xs:=rfl
theorem oV:(Ob.dI ks xs).low n=lows n xs:=rfl
theorem rP:(Ob.ns ks xs).low n=lows n xs:=rfl
theorem oW:(Ob.tab P ps).low n=true:=rfl
theorem uL{n i:Nat}(hi:i<n):(g.upto n).ρ[i]? =g.ρ[i]? :=by simp[Gh.upto,List.getElem?_take,hi]
mutual
theorem RV.upto:∀{x:V}{y:Value},x.low n=true->RV W g h x y->RV W (g.upto n) h x y
|.none,_,_,r=>r
|.bool _,_,_,r=>r
|.int _,_,_,r=>r
|.str _,_,_,r=>r
|.tup xs,_,p,r=>by refine bT r λa vs e ha hl hr=> ?_;exact⟨a,vs,e,ha,hl,aQ.upto p hr⟩
|.lst xs,_,p,r=>by refine bT r λa vs e ha hl hr=> ?_;exact⟨a,vs,e,ha,hl,aQ.upto p hr⟩
|.dS ks xs,_,p,r=>by refine mX r λa vs e ha hk hl hr=> ?_;exact⟨a,vs,e,ha,hk,hl,aQ.upto p hr⟩
|.dI ks xs,_,p,r=>by refine mX r λa vs e ha hk hl hr=> ?_;exact⟨a,vs,e,ha,hk,hl,aQ.upto p hr⟩
|.ref i,_,p,r=>by refine ak r λa ha e=> ?_;exact⟨a,(uL (of_decide_eq_true p)).trans ha,e⟩
|.iref c i,_,p,r=>by obtain⟨a,o,d,e,ha,ho,h1,h2,h3,h4⟩:=r;exact⟨a,o,d,e,ha,ho,h1,h2,h3,(uL (of_decide_eq_true p)).trans h4⟩
|.gl a,_,_,r=>r
|.ty T,_,_,r=>r
|.exc C x,_,_,r=>r
|.raw T xs,_,p,r=>by refine ak r λvs h1 h2=> ?_;exact⟨vs,T.keep W g h (g.upto n) h _ _ (λ_ x=>x) (λ_ _ _ e=>e) h1,aQ.upto p h2⟩
theorem aQ.upto:∀{xs:List V}{ys:List Value},lows n xs=true->aQ W g h xs ys->aQ W (g.upto n) h xs ys
|[],_,_,r=>r
|x::xs,_,p,r=>by have p:=abo.mp p;refine au r λy t e h1 h2=> ?_;exact⟨y,t,e,RV.upto p.1 h1,aQ.upto p.2 h2⟩
end
theorem RO.upto(p:o.low n=true)(r:RO W g h a o):RO W (g.upto n) h a o:=by induction o using Ob.casesOn with
|list xs=>exact ac3 r λvs z=>⟨vs,z.1,z.2.upto p⟩
|dS ks xs=>exact ac3 r λvs z=>⟨vs,z.1,z.2.1,z.2.2.upto p⟩
|dI ks xs=>exact ac3 r λvs z=>⟨vs,z.1,z.2.1,z.2.2.upto p⟩
|ns ks xs=>exact ac3 r λvs z=>ac3 z λm z=>⟨vs,m,z.1,z.2.1,z.2.2.1,z.2.2.2.1,z.2.2.2.2.upto p⟩
|tab _ _=>exact r
theorem Inv.upto(I:Inv W g (hp++hp') h)(hn:hp.length=n)(hb:hp.all (Ob.low n)=true):Inv W (g.upto n) hp h:=by
 have ar:g.ρ.length=n+hp'.length:=by(refine aa I.len ?_;refine aa afs ?_;exact aa hn rfl)
 refine⟨I.base,by simp[Gh.upto,ar,hn],λi o a e1 e2=> ?_,λa ha=>I.ρB a (ae9 ha),λa ha=>I.ρF a (ae9 ha),I.nd.sublist (amn ..),I.fz,I.sys⟩;have hi:i<n:=by exact aa (ach hn) ((abw.mp e1).1)
 rw[uL hi]at e2;exact(I.obs i o a (by refine aa (ael (hn▸hi)) ?_;exact e1) e2).upto (ab7.mp hb o (acq e1))
theorem Call.drop(hc:Call W k q f kw args hp v (hp₁++hp'))(hl:hp.length<=hp₁.length)(hv:v.low hp₁.length=true)(hb:hp₁.all (Ob.low hp₁.length)=true):Call W k q f kw args hp v hp₁:=by
 refine .mk ?_;intro cx g s ys ai Q E bl I rv eC t0 hQ;refine hc.go cx g s ys ai Q E bl I rv eC t0 λYy Yv y r g7=> ?_;refine hQ (Yy.upto hp₁.length) Yv y ⟨⟨r.evo.F,r.evo.Fnew,?_,λa ha=>r.evo.ρnew a (ae9 ha),r.evo.dom,r.evo.keep⟩,r.inv.upto rfl hb,r.same⟩ (g7.upto hv);refine(?_:g.ρ <+: Yy.ρ.take hp₁.length);obtain⟨t,ht⟩:=r.evo.ρ;have ki:g.ρ.length<=hp₁.length:=by exact aa I.len hl
 (refine aa (ach ht) ?_;refine aa am2 ?_;refine aa (adm ki) ?_);exact ai4 ..
end
section
variable{k:Nat}{q:Bool}{W:Wd}{fc:FC}{cx:Cx}{g g':Gh}{env ag:aj}{hp hp' hp₁ YC YQ:List Ob}{h h':Heap}{K:Frag}
theorem Jl(hd:o.data= .dict es ep)(hs:StrKeys es):lookIn name o=some (nsFind es name):=by unfold lookIn;refine aa hd ?_;dsimp only;unfold nsFind findBy;refine aa (ach (ajh)) ?_;induction e:es.toList.find? (λx=>x.key.isStr name)using abt with
|some x=>rfl
|none=>
  have:es.toList.any (·.refKey)=false:=by rw[aga];intro x hx;obtain⟨n,t,e⟩:=hs x (by simpa using hx);simp[DictEntry.refKey,e]
  simp[this]
theorem Sx(r:RV W g h (.iref C i) y):∃ a o d,y= .ref a/\g.F a/\h.get? a=some o/\o.cls= .ref C/\o.dict=some d/\o.data= .plain/\g.ρ[i]? =some d:=r
inductive J8(W:Wd)(g:Gh)(h:Heap)(C:Addr)(i:Nat)(ks:List Str)(vs:List V):Value->Prop where
|mk (a:Addr) (o:Obj) (d:Addr) (od:Obj) (ys:List Value) (m:Str->Option Value) (h0:o.dict=some d) (h1:g.ρ[i]? =some d) (h2:InstAt h a o C (some od)) (h3:h.get? d=some od) (h4:h.Ns d m) (h5:ks.length=vs.length) (h6:(∀ n,lookIn n od=some (m n))) (h7:(∀(j:Nat) k y,ks[j]? =some k->ys[j]? =some y->m k=some y)) (h8:(∀ k,k∉ks->m k=none)) (h9:aQ W g h vs ys):J8 W g h C i ks vs (.ref a)
theorem oh(I:Inv W g hp h)(r:RV W g h (.iref C i) y)(hi:hp[i]? =some (.ns ks vs)):J8 W g h C i ks vs y:=by refine cps λ_ c_=> ?_;obtain⟨a,o,d,rfl,hF,ho,hc,hd,aI,hρ⟩:=Sx r;obtain⟨ys,m,hl,hn,h1,h2,rs⟩:=I.obs _ _ _ hi hρ;obtain⟨od,es,ep,fA,l9,zS,hm⟩:=id hn;refine c_ ?_;refine⟨a,o,d,od,ys,m,hd,hρ,⟨ho,hc,by(rewrite[notCls];exact aa aI rfl),by exact aa hd fA⟩,fA,hn,hl,λn=>by(refine aa (Jl l9 zS) ?_;rw[hm]),h1,h2,rs⟩
theorem JV{Kk:Type}[DecidableEq Kk]:∀{ks:List Kk}{vs:List V}{x:Kk}{v:V},valOf ks vs x=some v-> ∃ j:Nat,ks[j]? =some x/\vs[j]? =some v:=by intro ah;induction ah with
|nil=>intro _ _ _ e;exact(Qg e).elim
|cons k ks ih=>intro bi;induction bi using abn with
 |nil=>intro _ _ e;exact(Qg e).elim|cons u vs=>
   intro x v e
   by_cases hk:k=x
   ·exact⟨0,congrArg some hk,(yq hk).symm.trans e⟩
   ·refine ak (ih ((yp hk).symm.trans e)) λj h1 h2=> ?_;exact⟨j+1,h1,h2⟩
noncomputable def Gs(K:Frag)(C:Addr)(name:Str):Bool:=plainGet K C name&&hasDictIn K C&&(match findIn K (.ref C) name with|some attr=>noGet K attr|none=>false)
theorem Ge{o:Expr}{name:Str}{pos:Pos}{C:Addr}{i:Nat}{ks:List Str}{vs:List V}{v:V}(he:∀ m,eval (.Attribute o name pos) m=(do
   let ov ←eval o m
   standAt pos.atName
   let r ←holding [ov] (getAttr ov name true)
   letTemporaryGo o ov r
   pure r))(X:K.In W.B)(ho:Ev W fc env hp o (.iref C i) hp')(hi:hp'[i]? =some (.ns ks vs))(hv:valOf ks vs name=some v)(hg:Gs K C name=true):Ev W fc env hp (.Attribute o name pos) v hp':=by
 refine .mk ?_;intro cx g s Q E P t0 hQ;refine Attribute_any_ (ho.go cx g s _ E P t0 λYx s₁ y Yw YL=> ?_) (he _);obtain⟨a,ob,d,od,ys,m,hd,hρ,IA,fA,hn,hl,io,h1,h2,rs⟩:=oh Yw.pre.inv YL hi;refine ak (JV hv) λj e1 e2=> ?_;refine ak (rs.get e2) λz hz rz=> ?_;have hm:=h1 j name z e1 hz;have C0:=(abo.mp (abo.mp hg).1).1;have C1:=(abo.mp (abo.mp hg).1).2;have si:=(abo.mp hg).2;induction hf:findIn K (.ref C) name using abt with
|none=>rw[hf]at si;cases si
|some attr=>rw[hf]at si;refine get_value (X.keeps Yw.pre.inv.base) IA (plainGet_of C0).1 (findObj_own C1 hf si (by(rewrite[io];exact aa hm rfl))) (JF rz) ?_;exact hQ Yx _ z (Yw.trans (.toks Yw.pre (acg _))) rz
structure BZ(W:Wd)(fc:FC)(env:aj)(hp:List Ob)(ai:List Keyword)(vs:List V)(hp':List Ob):Prop where
 go:∀(pos:Pos)(cx:Cx)(g:Gh)(s:Shared)(Q:List Value->Shared->Prop)(E:Value->Shared->Prop),Pre W fc cx g env hp s.heap->0<s.toks->
  (∀ g' s' ys,Run W fc cx g s env hp' g' s'->aQ W g' s'.heap vs ys->Q ys s')->wpAny (model W.prog W.w) cx.A (evalAll ((backToKw pos (keywordEach ai cx.menv)).map (·.2))) Q E s
theorem zZ:BZ W fc env hp [] [] hp:= .mk λpos cx g s Q E P t0 hQ=>wpAny_pure (hQ g s [] (.refl P) rfl)
theorem Je(h1:Ev W fc env hp e v hp₁)(h2:BZ W fc env hp₁ ai vs YC):BZ W fc env hp (⟨a,e,p⟩::ai) (v::vs) YC:=by refine .mk ?_;intro pos cx g s Q E P t0 hQ;refine wpAny_evalAll_cons (wpAny_bind (h1.go cx g s _ E P t0 λYx s₁ y Yw YL=>wpAny_bind (wpAny_standAt (wpAny_pure ?_))));exact h2.go pos cx Yx s₁ _ E Yw.pre (Yw.t t0) λYy Yv ys Yz rs=>hQ Yy Yv (y::ys) (Yw.trans Yz) (aJ (YL.keep (Yz.keep Yw.pre)) rs)
noncomputable def dq(ai:List Keyword):List Str:=ai.filterMap (·.arg)
noncomputable def j4(ai:List Keyword):Bool:=ai.all (·.arg.isSome)
theorem mj:((backToKw pos (keywordEach ai m)).all (·.1.isSome))=j4 ai:=by induction ai with
|nil=>rfl
|cons k r ih=>obtain⟨a,e,p⟩:=k;simp only[arm_keywordEach_cons,backToKw,ab3,age,j4]at ih ⊢;(exact aa ih rfl)
theorem Nr:(backToKw pos (keywordEach ai m)).filterMap (·.1)=dq ai:=by induction ai with
|nil=>rfl
|cons k r ih=>obtain⟨a,e,p⟩:=k;induction a using abt<;>simp only[arm_keywordEach_cons,backToKw,ab3,ae4,dq]at ih ⊢ <;>(exact aa ih rfl)
theorem Nq(h:j4 ai=true):(dq ai).length=ai.length:=by induction ai with
|nil=>rfl
|cons k r ih=>simp only[j4,age,ab1]at h ih ⊢;obtain⟨x,e⟩:=acz.mp h.1;simp only[dq,ae4,e,acv]at ih ⊢;(exact aa (ih h.2) rfl)
theorem J3(hk:j4 ai=true)(hl:vs.length=ai.length)(rs:aQ W g h vs zs):((dq ai).zip zs).map (·.2)=zs/\((dq ai).zip zs).map (·.1)=dq ai:=by have h1:=Nq hk;have h2:=rs.length;refine⟨List.map_snd_zip (ab2 (h2.trans (hl.trans h1.symm))),am0 (ab2 (h1.trans (hl.symm.trans h2.symm)))⟩
theorem xd(fN:bv.all (·.1.isSome)=true)
  (h:wpAny M A (spliced []) (λvs s₁=>wpAny M A (evalAll (bv.map (·.2))) (λks Yv=>Q ⟨vs,(bv.filterMap (·.1)).zip ks⟩ Yv) E s₁) E s):wpAny M A (evalArgs f true [] bv) Q E s:=by
 unfold evalArgs;refine(?_:wpAny M A (spliced [] >>= _) Q E s);refine wpAny_bind (wpAny_mono h (λvs s' h'=> ?_) λ_ _ x=>x);refine wpAny_bind (wpAny_pure ?_);refine wpAny_holding ?_;simp only[fN,if_true];exact wpAny_bind (wpAny_mono h' (λks Yv YK=>wpAny_bind (wpAny_pure (wpAny_pure YK))) λ_ _ x=>x)
theorem Ko(hs:es.all (λe=> !isStar e)=true)(hk:j4 ai=true)(hl:us.length=ai.length)(ha:wI W fc env hp es vs hp₁)(hw:BZ W fc env hp₁ ai us YC)
 (P:Pre W fc cx g env hp s.heap) (t0:0<s.toks)
  (hQ:∀ g' s' ys kw,Run W fc cx g s env YC g' s'->aQ W g' s'.heap (vs++us) (ys++kw.map (·.2))->aQ W g' s'.heap vs ys->aQ W g' s'.heap us (kw.map (·.2))->kw.map (·.1)=dq ai->Q ⟨ys,kw⟩ s') :
  wpAny (model W.prog W.w) cx.A (evalArgs f true (backTo pos (starEach es cx.menv)) (backToKw pos (keywordEach ai cx.menv))) Q E s:=by
 have fin:∀ Yx s₁ ys,Run W fc cx g s env hp₁ Yx s₁->aQ W Yx s₁.heap vs ys->
   wpAny (model W.prog W.w) cx.A (evalAll ((backToKw pos (keywordEach ai cx.menv)).map (·.2))) (λks Yv=>Q ⟨ys,((backToKw pos (keywordEach ai cx.menv)).filterMap (·.1)).zip ks⟩ Yv) E s₁:=by
  intro Yx s₁ ys Yw Z2;refine hw.go pos cx Yx s₁ _ E Yw.pre (Yw.t t0) λYy Yv zs Yz Z4=> ?_;obtain⟨e1,e2⟩:=J3 hk hl Z4;refine aa Nr ?_;have Z3:=Z2.keep (Yz.keep Yw.pre);refine hQ Yy Yv ys _ (Yw.trans Yz) ?_ Z3 ?_ e2
  ·exact aa e1 (Z3.append Z4)
  ·exact aa e1 Z4
 have go:wpAny (model W.prog W.w) cx.A (spliced (backTo pos (starEach es cx.menv))) (λys s₁=>wpAny (model W.prog W.w) cx.A (evalAll ((backToKw pos (keywordEach ai cx.menv)).map (·.2))) (λks Yv=>Q ⟨ys,((backToKw pos (keywordEach ai cx.menv)).filterMap (·.1)).zip ks⟩ Yv) E s₁) E s:=
  ha.go pos cx g s _ E P t0 λYx s₁ ys Yw Z2=>fin Yx s₁ ys Yw Z2
 induction es using abn with
|nil=>exact xd (by exact aa mj hk) go
|cons e r=>rw[age,ab1]at hs;rw[aY e r cx.menv (by simpa using hs.1)]at go ⊢;exact evalArgs_kw (by exact aa mj hk) go
end
section
variable{k:Nat}{q:Bool}{W:Wd}{fc:FC}{cx:Cx}{g g':Gh}{env ag:aj}{hp hp' hp₁ YC YQ:List Ob}{h h':Heap}{K:Frag}
noncomputable def fX(K:Frag)(C:Addr)(name:Str)(f:Addr):Bool:=plainGet K C name&&findIn K (.ref C) name==some (some (.ref f))&&isFn K (.ref f)
theorem nC{C f:Addr}{name:Str}(e:fX K C name f=true):plainGet K C name=true/\findIn K (.ref C) name=some (some (.ref f))/\isFn K (.ref f)=true:=by simp only[fX,ab1,beq_iff_eq]at e;exact⟨e.1.1,e.1.2,e.2⟩
theorem wM(hs:es.all (λe=> !isStar e)=true):((backTo pos (starEach es m)).all λx=> !x.1)=true:=by have:=bM (m:=m) (pos:=pos) hs;rw[aga]at this;exact ab7.mpr λx hx=>by exact(λ{a}=>bi_not.mpr) (this x hx)
theorem kw_none(hk:j4 ai=true):((backToKw pos (keywordEach ai m)).any (·.1.isNone))=false:=by rw[←mj (pos:=pos) (m:=m)]at hk;rw[aga];intro x hx;have:=ab7.mp hk x hx;induction e:x.1 using abt with
|none=>rw[e]at this;cases this
|some _=>simp
theorem Np:(backToKw pos (keywordEach ai m)).isEmpty=ai.isEmpty:=by induction ai using abn with
|nil=>rfl
|cons a r=>obtain⟨a,e,p⟩:=a;rfl
theorem zb{yn:Bool}{o:Expr}{m:Env}{A:Around}{E:Value->Shared->Prop}{s:Shared}{y:Value}{C f:Addr}{i:Nat}{ks:List Str}{vs:List V}{name:Str}{Q:Value×List Value->Shared->Prop}
  (X:K.In W.B) (I:Inv W g hp s.heap) (rv:RV W g s.heap (.iref C i) y) (hi:hp[i]? =some (.ns ks vs)) (hn:name∉ks) (hm:fX K C name f=true) (uk:yn=true) (hQ:Q (.ref f,[y]) s):wpAny (model W.prog W.w) A (calleeOf yn o m y name) Q E s:=by
 subst uk;refine bK (nC hm) λh1 h2 h3=> ?_;obtain⟨a,ob,d,od,ys,mm,hd,hρ,IA,fA,fh,hl,io,e1,e2,rs⟩:=oh I rv hi;unfold calleeOf;simp only[if_true];exact method_fn (X.keeps I.base) IA (plainGet_of h1).1 (plainGet_of h1).2 h2 (beq_iff_eq.mp h3) (by refine(?_:(lookIn name od).map _=_);(rewrite[io];refine aa (e2 _ hn) ?_);rfl) hQ
theorem Ma{o:Expr}{name:Str}{cb pos:Pos}{es:List Expr}{ai:List Keyword}{C f:Addr}{i:Nat}{ks:List Str}{vs xs us:List V}{v:V}(da:∀ m,attributeBase o name m (eval o m)=eval o m)(b9:(cb.endLine==pos.line)=true)(hs:es.all (λe=> !isStar e)=true)(hk:j4 ai=true)(ar:decide (es.length+ai.length+(if ai.isEmpty then 0 else 1)<30)=true)(X:K.In W.B)(hm:fX K C name f=true)(nS:Kp W (.ref f))(ho:Ev W fc env hp o (.iref C i) hp₁)(hi:hp₁[i]? =some (.ns ks vs))(hn:name∉ks)(ha:wI W fc env hp₁ es xs YC)(hw:BZ W fc env YC ai us YQ)(rc:us.length=ai.length)(hc:Call W fc.k fc.q (.ref f) (dq ai) ((.iref C i::xs)++us) YQ v hp'):Ev W fc env hp (.Call (.Attribute o name cb) es ai pos) v hp':=by
 refine .mk ?_;intro cx g s Q E P t0 hQ;rw[arm_eval_Call,da];refine wpAny_bind (ho.go cx g s _ E P t0 λYx s₁ y Yw YL=> ?_);refine wpAny_bind (wpAny_standAt ?_);have pw:methodCallForm (es.length+ai.length) (backTo pos (starEach es cx.menv)) (backToKw pos (keywordEach ai cx.menv))=true:=by unfold methodCallForm;(refine aa (wM hs) ?_;refine aa mj ?_;refine aa hk ?_;refine aa Np ?_);assumption
 have wm:methodCallPos true o cx.menv cb pos=pure pos:=by unfold methodCallPos;exact if_pos b9
 unfold methodCall;refine aa pw ?_;refine wpAny_bind (wpAny_holding (zb X Yw.pre.inv YL hi hn hm rfl ?_));refine wpAny_bind (wpAny_of_eq wm ?_);refine callWith_of (P:=λh=> ∀ b o,W.B.get? b=some o->h.get? b=some o) ?_ (λh hh=>nS _ h hh) ?_
 ·(refine aa (bM hs) ?_;refine aa (kw_none hk) ?_);rfl
 ·refine Ko hs hk rc ha hw Yw.pre (Yw.t t0) λYy Yv ys kw Yz rs _ _ pV=>⟨Yz.pre.inv.base,?_⟩;refine hc.go cx Yy Yv (y::ys) kw Q E Yz.pre.fm.bl Yz.pre.inv ?_ pV (Yz.t (Yw.t t0)) λYM s₃ z YH rL=>hQ YM s₃ z ((Yw.trans Yz).trans (YH.run Yz.pre)) rL
  skip
  exact⟨y,_,rfl,YL.keep (Yz.keep Yw.pre),rs⟩
theorem O4{C f:Addr}{i:Nat}{ks:List Str}{vs:List V}{n v u:V}(X:K.In W.B)(hm:fX K C "__setitem__" f=true)(hq:noSeq K C=true)(hi:hp[i]? =some (.ns ks vs))
  (hc:Call W k q (.ref f) [] [.iref C i,n,v] hp u hp') :
  ∀(cx:Cx)(g:Gh)(s:Shared)(x y z:Value)(Q:Unit->Shared->Prop)(E:Value->Shared->Prop),Bl W k q cx g s.heap->Inv W g hp s.heap->RV W g s.heap (.iref C i) x->RV W g s.heap n y->RV W g s.heap v z->0<s.toks->
   (∀ g' s',aH W cx g s hp' g' s'->Q () s')->wpAny (model W.prog W.w) cx.A (setItem x y z) Q E s:=by
 intro cx g s x y z Q E bl I rx ry rz t0 hQ;refine bK (nC hm) λh1 h2 h3=> ?_;obtain⟨a,ob,d,od,ys,mm,hd,hρ,IA,fA,fh,hl,io,e1,e2,rs⟩:=oh I rx hi;have X':=X.keeps I.base;delta setItem sequenceKey;refine wpAny_holding (wpAny_bind (wpAny_bind (IA.type.here ?_)));refine wpAny_bind ((anyM_none X' hq).here ?_);refine aa (if_pos (show(!false)=true from rfl)) ?_;refine wpAny_pure (wpAny_bind (special_fn X' IA h2 (beq_iff_eq.mp h3) ?_));exact hc.go cx g s [.ref a,y,z] [] _ E bl I (by simpa using aJ rx (aJ ry (aP rz))) rfl t0 λg' s' u r _=>wpAny_pure (hQ g' s' r)
theorem KC{o i:Expr}{p:Pos}{C f:Addr}{j:Nat}{ks:List Str}{vs:List V}{n v u:V}(em:isSlice i=false)(X:K.In W.B)(hm:fX K C "__setitem__" f=true)(hq:noSeq K C=true)(h1:Ev W fc env hp o (.iref C j) hp₁)(h2:Ev W fc env hp₁ i n YC)(hi:YC[j]? =some (.ns ks vs))(hc:Call W fc.k fc.q (.ref f) [] [.iref C j,n,v] YC u hp'):gW W fc env hp (.Subscript o i p) v env hp':=by refine .mk ?_;intro cx g s y Q E P t0 rv hQ;rw[arm_assign_Subscript];refine wpAny_bind (wpAny_holding (h1.go cx g s _ E P t0 λYx s₁ x Yw rx=> ?_));refine wpAny_bind (wpAny_holding (h2.go cx Yx s₁ _ E Yw.pre (Yw.t t0) λYy Yv z Yz rz=> ?_));refine wpAny_bind (wpAny_standAt (wpAny_bind (wpAny_holding ?_)));refine O4 X hm hq hi hc cx Yy Yv x z y _ E Yz.pre.fm.bl Yz.pre.inv (rx.keep (Yz.keep Yw.pre)) rz ((rv.keep (Yw.keep P)).keep (Yz.keep Yw.pre)) (Yz.t (Yw.t t0)) λYM s₃ YH=> ?_;exact wpAny_release (hQ YM s₃ ((Yw.trans Yz).trans (YH.run Yz.pre)))
theorem aH.trans(x:aH W cx g s hp₁ Yx s₁)(y:aH W cx Yx s₁ YC Yy Yv):aH W cx g s YC Yy Yv:=⟨x.evo.trans y.evo,y.inv,x.same.trans y.same⟩
theorem uI(A:Around)(C:Addr)(ys:List Value)(ai:List (Str×Value)):(A.under (.builtin "type.__call__" ⟨.ref C::ys,ai⟩)).handled=A.handled/\(A.under (.builtin "type.__call__" ⟨.ref C::ys,ai⟩)).frames=A.frames/\(A.under (.builtin "type.__call__" ⟨.ref C::ys,ai⟩)).depth=A.depth+1/\(A.under (.builtin "type.__call__" ⟨.ref C::ys,ai⟩)).units<=A.units+8:=
 ⟨rfl,rfl,rfl,acs (abk rfl) _⟩
theorem KJ(bl:Bl W (k+1) q cx g h):Bl W k q { cx with A:=cx.A.under (.builtin "type.__call__" ⟨.ref C::ys,ai⟩) } g h:=by
 refine qz (uI cx.A C ys ai) λh1 h2 h3 h4=> ?_;refine⟨⟨?_,?_⟩,λhq=>h1.trans (bl.hnd hq),h2.trans bl.frames,bl.fun_,bl.lF⟩
 ·have:=bl.room.1;refine(?_:(cx.A.under (.builtin "type.__call__" ⟨.ref C::ys,ai⟩)).depth+k+1<_);exact aa h3 (acj (ab2 (congrArg (· +1) (ab9 cx.A.depth k))) this)
 ·have:=bl.room.2;refine(?_:(cx.A.under (.builtin "type.__call__" ⟨.ref C::ys,ai⟩)).units+8 * (k+1)<_);exact acj (abj (ab8 h4 _) (ab2 (afp ..))) this
theorem Bl.keep(bl:Bl W k q cx g s.heap)(r:aH W cx g s hp' g' s'):Bl W k q cx g' s'.heap:=by have e:∀ a o,s.heap.get? a=some o->a∉g.ρ-> ∃ sl,s'.heap.get? a=some { o with slots:=sl }:=λa o ea ha=>gP r.evo ea ha;refine⟨bl.room,bl.hnd,bl.frames,aV bl.fun_ λa o ha ea=>e a o ea (bl.lF a ha).2,λa ha=> ?_⟩;obtain⟨_,o,eo,_⟩:=bl.fun_.mem ha;exact⟨fK r.evo eo (bl.lF a ha).1,evo_freshρ r.evo eo (bl.lF a ha).2⟩
theorem vK{C fI:Addr}{kw:List Str}{args:List V}(X:K.In W.B)(hm:makesIn K C=true)(hi:findIn K (.ref C) "__init__" =some (some (.ref fI)))(hf:isFn K (.ref fI)=true)
  (hc:CallD W k q (.ref fI) kw (.iref C hp.length::args) (hp++[.ns [] []]) .none hp'):Call W (k+1) q (.ref C) kw args hp (.iref C hp.length) hp':=by
 refine .mk ?_;intro cx g s ys ai Q E bl I rv eC t0 hQ;have X':=X.keeps I.base;refine wpAny_call ?_;refine make_core (g:=s.gens) (d:=s.drawn) (t:=s.toks) (os:=s.os) (makes_of X' hm) (looks_findIn X' hi) (λself=>bind_fn X' self (beq_iff_eq.mp hf)) (.inl rfl) ?_;let YF:=s.heap.push emptyDict;let YK:=YF.push (instObj C s.heap.objs.size);have n0:s.heap.get? s.heap.objs.size=none:=aK;have e1:YF.get? s.heap.objs.size=some emptyDict:=ab4 _ rfl;have k1:∀ b o,s.heap.get? b=some o->YF.get? b=some o:=λb o e=>abr _ e;have k2:∀ b o,YF.get? b=some o->YK.get? b=some o:=λb o e=>abr _ e;have hz:YF.objs.size=s.heap.objs.size+1:=adw _ _;have e2:YK.get? (s.heap.objs.size+1)=some (instObj C s.heap.objs.size):=by exact aa (ach hz) (ab4 _ rfl)
 have n1:YF.get? (s.heap.objs.size+1)=none:=by exact aa (ach hz) (get?_size_none _)
 have ZD:Inv W (g.grow s.heap.objs.size) (hp++[.ns [] []]) YF:=by refine I.grow n0 k1 ⟨[],λ_=>none,rfl,⟨emptyDict,#[],0,e1,rfl,λe he=> ?_,λn=>rfl⟩,λi a b e=>by simp at e,λ_ _=>rfl,rfl⟩;simp at he
 have te:Step g s.heap (g.grow s.heap.objs.size) YF:=Step.grow n0 k1;have Zv:Inv W ((g.grow s.heap.objs.size).freeze (s.heap.objs.size+1)) (hp++[.ns [] []]) YK:=ZD.freeze n1 e2 k2;have th:Step (g.grow s.heap.objs.size) YF ((g.grow s.heap.objs.size).freeze (s.heap.objs.size+1)) YK:=Step.freeze n1 k2;let Yv:Shared:={ s with heap:=YK };have Y_:aH W cx g s (hp++[.ns [] []]) ((g.grow s.heap.objs.size).freeze (s.heap.objs.size+1)) Yv:=
  aH.trans (s₁:={ s with heap:=YF }) (aH.step I te ZD ⟨rfl,id,abm _⟩) (aH.step ZD th Zv ⟨rfl,id,abm _⟩)
 have AQ:bU g s.heap ((g.grow s.heap.objs.size).freeze (s.heap.objs.size+1)) YK:=⟨λa ha=>(th.keeps ZD).F a ((te.keeps I).F a ha),λa o ha e=>k2 a o (k1 a o e),api (te.keeps I).ρ (th.keeps ZD).ρ⟩;have lj:RV W ((g.grow s.heap.objs.size).freeze (s.heap.objs.size+1)) YK (.iref C hp.length) (.ref (s.heap.objs.size+1)):=by exact⟨_,_,s.heap.objs.size,rfl,.inr rfl,e2,rfl,rfl,rfl,lZ g I _⟩
 have Z_:=(bl.keep Y_);refine codeAny_mono (hc.go { cx with A:=cx.A.under (.builtin "type.__call__" ⟨.ref C::ys,ai⟩) } ((g.grow s.heap.objs.size).freeze (s.heap.objs.size+1)) Yv (.ref (s.heap.objs.size+1)::ys) ai (λv s'=>v= .none/\Q (.ref (s.heap.objs.size+1)) s') E (KJ Z_) Zv ?_ eC t0 λYM s₃ y YH g7=> ?_) λr s' z=> ?_
 ·skip
  exact⟨_,_,rfl,lj,rv.keep AQ⟩
 ·refine⟨iW g7,?_⟩;have xE:aH W cx ((g.grow s.heap.objs.size).freeze (s.heap.objs.size+1)) Yv hp' YM s₃:=⟨⟨YH.evo.F,YH.evo.Fnew,YH.evo.ρ,YH.evo.ρnew,YH.evo.dom,YH.evo.keep⟩,YH.inv,YH.same⟩;exact hQ YM s₃ _ (Y_.trans xE) (lj.keep (xE.evo.keeps_out Zv Z_.lF))
 ·rcases r with e|(v|_|_|_)
  ·exact z
  ·exact z
  ·exact z
  ·exact z
  ·exact z
noncomputable def Hs(K:Frag)(C:Addr)(name:Str):Bool:=findIn K (.ref C) "__setattr__" ==some (some (.builtin "object.__setattr__"))&&plainOver K C&&takerIn K C name==some none&&hasDictIn K C
theorem N_{m:Str->Option Value}(ho:h.get? d=some o)(hd:o.data= .dict es ep)(hn:h.Ns d m)(he:∀ k,m k=none):es= #[]:=by obtain⟨o',tx,yk,ca,bE,hs,hm⟩:=hn;rw[ho]at ca;cases ca;rw[hd]at bE;cases bE;induction pr:es.toList using abn with
|nil=>simpa using pr
|cons e r=>
  exfalso
  have CM:e∈es:=by(rewrite[←Array.mem_toList_iff];refine aa pr ?_);exact abq
  obtain⟨n,t,ek⟩:=hs e CM;have h1:nsFind es n=none:=(hm n).trans (he n);delta nsFind findBy at h1;rw[←ajh,pr,ais]at h1;have hp:e.key.isStr n=true:=by exact aa ek (beq_self_eq_true n)
  dsimp only at h1;rw[hp]at h1;injection h1
theorem mZ{hs:Int}:apb name hs key v ⟨c,dd,.dict #[] ep,sl⟩=⟨c,dd,.dict #[⟨hs,key,v⟩] (ep+1),sl⟩:=by refine aa Obj.putName_eq ?_;simp[Obj.putNameByArray]
theorem Ky{o:Expr}{name:Str}{p:Pos}{C:Addr}{i:Nat}{v:V}(X:K.In W.B)(er:Hs K C name=true)(ho:Ev W fc env hp o (.iref C i) hp₁)(hi:hp₁[i]? =some (.ns [] [])) :
  gW W fc env hp (.Attribute o name p) v env (hp₁.set i (.ns [name] [v])):=by
 refine .mk ?_;intro cx g s y Q E P t0 rv hQ;show wpAny _ _ (do
  let ov ←holding [y] (eval o cx.menv)
  standAt p.atName
  holding [y,ov] (setAttr ov name y)
  release [y,ov] []) _ _ _
 refine wpAny_bind (wpAny_holding (ho.go cx g s _ E P t0 λYx s₁ x Yw rx=> ?_));refine wpAny_bind (wpAny_standAt (wpAny_bind (wpAny_holding ?_)));have h4:=abo.mp er;have I:=Yw.pre.inv;have X':=X.keeps I.base;obtain⟨a,ob,d,od,ys,mm,hd,hρ,IA,fA,fh,hl,io,e1,e2,rs⟩:=oh I rx hi;have h2:=abo.mp (abo.mp h4.1).1;refine set_plain X' IA (eq_of_beq h2.1) ?_;refine osa_open (s:={ s₁ with toks:=s₁.toks+1 }) X' IA h2.2 (eq_of_beq (abo.mp h4.1).2) λb=> ?_;refine cps λ_ c_=> ?_;obtain⟨cd,hc,bE⟩:=any_some h4.2;have hx:=IA.at_;have cc:=IA.cls;obtain⟨oc,EH,EG,EJ⟩:=ob;refine c_ ?_;dsimp only at cc hd;subst cc hd;refine cps λ_ c_=> ?_;obtain⟨o',es,ep,ca,l9,zS,hm⟩:=id fh;rw[fA]at ca;cases ca;have pr:es= #[]:=N_ fA l9 fh λk=>e2 k adh;subst pr;obtain⟨oc,EH,EG,EK⟩:=od;refine c_ ?_;dsimp only at l9;subst l9;refine wpAny_bind (wpAny_pure (wpAny_bind (wpAny_bind (wpAny_loadPart hx (wpAny_bind (Looks.here (s:={ s₁ with toks:=s₁.toks+1 }) (looks_clsIn X' hc) ?_))))));refine aa bE ?_;refine wpAny_pure (a:=some d) (wpAny_bind (wpAny_pure (wpAny_bind ?_)));delta nsSet;refine wpAny_bind (wpAny_bind (wpAny_askSetting (wpAny_pure (wpAny_bind (wpAny_mkText (wpAny_bind (wpAny_loadPart (s:={ s₁ with toks:=s₁.toks+1+1 }) fA ?_)))))));dsimp only;rw[aRefKeyMayBeTheName_at];simp only[List.any_toArray,Array.any_empty,ak7,acp,if_false];refine wpAny_updatePart (s:={ s₁ with toks:=s₁.toks+1+1 }) fA ?_;have bn:=aid (apb name (abp W.w.params name) (.str name (s₁.toks+1)) y) fA (by exact aa mZ rfl);rw[mZ]at bn;refine wpAny_bind (wpAny_lookBehind bn (pastItsLine_dict (abz _ _)) ?_);refine wpAny_pure ?_;have A9:=Yw.keep P;have ER:ys=[]:=rs;subst ER;have cr:=aH.upd (cx:=cx) (n:=s₁.toks+1+1) (ob:= .ns [name] [v]) I hρ (aen ..) (λK=>⟨[y],λx=>if x=name then some y else none,rfl,
  ⟨_,_,_,bn,rfl,λe he=> ?_,λn=> ?_⟩,λj k z hk hz=> ?_,λk hk=> ?_,(aP (rv.keep A9)).keep K⟩) (ab0 _ 2)
 ·exact wpAny_release (hQ Yx _ (Yw.trans (cr.run Yw.pre)))
 ·simp at he;subst he;exact⟨_,_,rfl⟩
 ·delta nsFind findBy;refine aa (ach (ajh)) ?_;refine(?_:(match name==n with|true=>some _|false=>none).map _=if n=name then _ else _)
  by_cases hn:n=name
  ·rw[if_pos hn,show(name==n)=true from beq_iff_eq.mpr hn.symm];rfl
  ·rw[if_neg hn,show(name==n)=false from beq_eq_false_iff_ne.mpr λe=>hn e.symm];rfl
 ·induction j using acw with
 |zero=>simp at hk hz;simp[←hk,hz]|succ j=>simp at hk
 ·simp only[ace]at hk;exact if_neg hk
end
section
variable{k:Nat}{q:Bool}{W:Wd}{fc:FC}{cx:Cx}{g g':Gh}{env ag:aj}{hp hp' hp₁ YC YQ:List Ob}{h h':Heap}{K:Frag}
theorem vB(hl:s.heap.PlainList l av)(hs:s.heap.IsSliceOf sl .none .none .none)(hb:s.heap.PlainList b news)
  (hz:av.size+news.size<=16777216) (hQ:∀ h',h'.PlainList l news->ae0 l s.heap h'->Q () { s with heap:=h' }) :
  wpAny (model prog w) A (setItem (.ref l) (.ref sl) (.ref b)) Q E s:=by
 refine aD hl λn ho=> ?_;obtain⟨m,tN⟩:=hb;obtain⟨os,hU,sf,kN⟩:=id hs;have hT:s.TypeIs (.ref l) "list" :=⟨_,ho,rfl⟩;have sa:s.TypeIs (.ref sl) "slice" :=⟨_,hU,sf⟩;have Ch:s.TypeIs (.ref b) "list" :=⟨_,tN,rfl⟩;unfold setItem
 try with_reducible refine wpAny_holding ?_
 refine wpAny_bind (wpAny_sequenceKey hT (by decide) ?_);refine wpAny_bind (wpAny_callSpecial?_slot (name:=Mi "__setitem__") hT slot_list_setitem
  (wpAny_call_entry slot_list_setitem hT entry_list_setitem ?_ (args_list_setitem _ _ _)))
 refine(?_:wpAny _ _ (afj (.ref sl) >>= _) _ _ s);have qk:wpAny (model prog w) A.in1 (afj (.ref sl)) (λr s'=>r=none/\s'=s) (λ_ _=>False) s:=by unfold afj;refine wpAny_bind (wpAny_specialOf sa slice_no_index ?_);exact wpAny_pure ⟨rfl,rfl⟩
 refine wpAny_bind (wpAny_mono qk (λr s' hr=> ?_) λ_ _ x=>x.elim);obtain⟨rfl,rfl⟩:=hr;dsimp only;refine wpAny_bind (wpAny_typeOf sa ?_);refine aa (if_neg (by decide)) ?_;refine(?_:wpAny _ _ (ant (.ref sl) >>= _) _ _ _);rw[listSliceParts_eq];refine wpAny_bind (wpAny_bind (wpAny_field hU kN (x:= .none) rfl ?_));refine wpAny_bind (wpAny_listPart .none ?_);refine aa (if_neg (by decide)) ?_;refine wpAny_bind (wpAny_field hU kN (x:= .none) rfl ?_);refine wpAny_bind (wpAny_listPart .none ?_);refine wpAny_bind (wpAny_field hU kN (x:= .none) rfl ?_);refine wpAny_bind (wpAny_listPart .none (wpAny_pure ?_));dsimp only;have fg:∀{a:Addr}{xs:Array Value}{c:Nat}{Q:Array Value->Shared->Prop}{E:Value->Shared->Prop},s'.heap.get? a=some { cls:= .type "list",data:= .seq xs c }->Q xs s'->wpAny (model prog w) A.in1 (akf (.ref a)) Q E s':=by intro a xs c Q E e hq;unfold akf;exact wpAny_bind (wpAny_seqItems e rfl (wpAny_pure hq))
 have fN:∀{Q:Array Value->Shared->Prop}{E:Value->Shared->Prop},Q news s'->wpAny (model prog w) A.in1 (ajm (.ref b) "must assign iterable to extended slice") Q E s':=by intro Q E hq;unfold ajm;refine wpAny_bind (wpAny_typeOf Ch ?_);exact aa (if_pos (by decide)) (fg tN hq)
 have ze:sliceBounds none none none av.size=(0,(av.size:Int),1):=by rfl
 have h1:(max (0:Int) av.size).toNat=av.size:=ah7 av.toList.length;refine aD (bQ (λxs=>xs.extract 0 (0:Int).toNat++news++xs.extract (max (0:Int) av.size).toNat xs.size) ho) λn' ca=> ?_;have e:av.extract 0 (0:Int).toNat++news++av.extract (max (0:Int) av.size).toNat av.size=news:=by refine aa h1 ?_;simp
 rw[e]at ca;have fin:=hQ _ ⟨n',ca⟩ (aen ..)
 split
 ·refine wpAny_bind (fg tN ?_);refine wpAny_bind (fg ho ?_);refine aa (sliceIndices_raw none none none _ (by decide)) ?_;refine wpAny_bind (wpAny_pure ?_);refine aa ze ?_;dsimp only;refine aa (if_pos (by decide)) ?_;refine wpAny_bind (wpAny_rule ?_);refine aa (if_neg (by simp[ahl,sizeLine_eq];assumption)) ?_;refine(?_:wpAny _ _ (updateSeq l (λxs=>xs.extract 0 (0:Int).toNat++news++xs.extract (max (0:Int) av.size).toNat xs.size) >>= _) _ _ _);refine wpAny_bind (wpAny_updateSeq ho rfl ?_ (by exact aa sizeLine_eq (afi hz)) (by(refine aa e ?_;refine aa sizeLine_eq ?_);exact adk (abj (abz _ _) hz)));refine wpAny_bind (wpAny_letGo ?_)
  first
  |exact wpAny_pure ⟨_,rfl,wpAny_pure fin⟩
  |exact wpAny_bind (wpAny_pure ⟨_,rfl,wpAny_pure fin⟩)
  |exact wpAny_pure ⟨_,rfl,fin⟩
 ·refine wpAny_bind (fN ?_);refine wpAny_bind (fg ho ?_);refine aa (sliceIndices_raw none none none _ (by decide)) ?_;refine wpAny_bind (wpAny_pure ?_);refine aa ze ?_;dsimp only;refine aa (if_pos (by decide)) ?_;refine wpAny_bind (wpAny_rule ?_);refine aa (if_neg (by simp[ahl,sizeLine_eq];assumption)) ?_;refine(?_:wpAny _ _ (updateSeq l (λxs=>xs.extract 0 (0:Int).toNat++news++xs.extract (max (0:Int) av.size).toNat xs.size) >>= _) _ _ _);refine wpAny_bind (wpAny_updateSeq ho rfl ?_ (by exact aa sizeLine_eq (afi hz)) (by(refine aa e ?_;refine aa sizeLine_eq ?_);exact adk (abj (abz _ _) hz)));refine wpAny_bind (wpAny_letGo ?_)
  first
  |exact wpAny_pure ⟨_,rfl,wpAny_pure fin⟩
  |exact wpAny_bind (wpAny_pure ⟨_,rfl,wpAny_pure fin⟩)
  |exact wpAny_pure ⟨_,rfl,fin⟩
theorem HQ(h1:Ev W fc env hp o (.ref i) hp₁)(hi:hp₁[i]? =some (.list xs))(lv:Lst hp₁ v ys)(hl:xs.length+ys.length<=16777216) :
  gW W fc env hp (.Subscript o (.Slice none none none sp) p) v env (hp₁.set i (.list ys)):=by
 refine .mk ?_;intro cx g s y Q E P t0 rv hQ;rw[arm_assign_Subscript];refine wpAny_bind (wpAny_holding (h1.go cx g s _ E P t0 λYx s₁ x Yw rx=> ?_));refine wpAny_bind (wpAny_holding (wpAny_Slice (evalPart_none_step (evalPart_none_step ?_))));rw[evalPart_none];refine wpAny_pure ?_;have hk:∀ b o,s₁.heap.get? b=some o->(s₁.heap.push { cls:= .type "slice",data:= .fields #[.none,.none,.none] }).get? b=some o:=λb o e=>abr _ e;have r:aH W cx Yx s₁ hp₁ Yx { s₁ with heap:=s₁.heap.push { cls:= .type "slice",data:= .fields #[.none,.none,.none] },toks:=s₁.toks }:=aH.ext (hn:=abm _) Yw.pre.inv hk;have r':=r.run Yw.pre;refine wpAny_bind (wpAny_standAt (wpAny_bind (wpAny_holding ?_)));(refine ak (iB (rx.keep (r'.keep Yw.pre))) λa ea an=> ?_;obtain rfl:=an);obtain⟨vs,ho,rs⟩:=r.inv.obs _ _ a hi ea;(refine au (lv.at r.inv ((rv.keep (Yw.keep P)).keep (r'.keep Yw.pre))) λb ws an hb rt=> ?_;obtain rfl:=an);refine vB ho (al2 ..) hb (by(refine aa aci ?_;refine aa aci ?_;refine aa rs.length ?_;refine aa rt.length ?_);exact hl) λh' hd hs=> ?_;have cr:=aH.upd (hn:=abm _) (cx:=cx) (n:=s₁.toks) (ob:= .list ys) r.inv ea hs λK=>⟨ws,hd,rt.keep K⟩;exact wpAny_release (hQ Yx _ ((Yw.trans r').trans (cr.run r'.pre)))
theorem Ri{o i:Expr}{p pos:Pos}{C f:Addr}{j:Nat}{ks:List Str}{vs:List V}{n u:V}(X:K.In W.B)(hm:fX K C "__delitem__" f=true)(hq:noSeq K C=true)(h1:Ev W fc env hp o (.iref C j) hp₁)(h2:Ev W fc env hp₁ i n YC)
  (hi:YC[j]? =some (.ns ks vs)) (hc:Call W fc.k fc.q (.ref f) [] [.iref C j,n] YC u hp'):Ex W fc env hp (.Delete [.Subscript o i p] pos) (.next env hp'):=by
 refine .mk ?_;intro cx g s Q E P t0 hQ;refine wpAny_Delete (wpAny_deleteEach_cons ?_);rw[arm_delete_Subscript];refine wpAny_bind (h1.go cx g s _ E P t0 λYx s₁ x Yw rx=> ?_);refine wpAny_bind (wpAny_holding (h2.go cx Yx s₁ _ E Yw.pre (Yw.t t0) λYy Yv z Yz rz=> ?_));refine wpAny_bind (wpAny_standAt (wpAny_bind (wpAny_holding ?_)));refine bK (nC hm) λe1 e2 e3=> ?_;obtain⟨a,ob,d,od,ys,mm,hd,hρ,IA,fA,fh,hl,io,e4,e5,rs⟩:=oh Yz.pre.inv (rx.keep (Yz.keep Yw.pre)) hi;have X':=X.keeps Yz.pre.inv.base;unfold delItem sequenceKey;refine wpAny_holding (wpAny_bind (wpAny_bind (IA.type.here ?_)));refine wpAny_bind ((anyM_none X' hq).here ?_);refine aa (if_pos (show(!false)=true from rfl)) ?_;refine wpAny_pure (wpAny_bind (special_fn X' IA e2 (beq_iff_eq.mp e3) ?_));refine hc.go cx Yy Yv [.ref a,z] [] _ E Yz.pre.fm.bl Yz.pre.inv (by simpa using aJ (rx.keep (Yz.keep Yw.pre)) (aP rz)) rfl (Yz.t (Yw.t t0)) λYM s₃ y YH _=>wpAny_pure ?_;exact wpAny_release (wpAny_deleteEach_nil (hQ YM s₃ .next ⟨rfl,(Yw.trans Yz).trans (YH.run Yz.pre)⟩))
end
section
noncomputable def Rn{α:Type}(P:Addr->Prop)(o:Obj)(C:Code->Prop)(r:Tok->Result)(K:α->Prop)(n:Nat):Sem α->Prop:=
 Nat.rec (motive:=λ_=>Sem α->Prop) (λ_=>False) (λ_ ih t=>apc (motive:=λ_=>Prop) t K (λ_=>False) (λ_=>False) (λ_=>False) (λ_ k=>ih (k ())) (λ_ _=>False)
  (λa _ k=>P a/\ih (k o)) (λ_ _ _ _=>False) (λ_ _=>False) (λ_ _=>False) (λ_ k=>ih (k ())) (λ_ _=>False) (λk=> ∀ x,ih (k x)) (λ_=>False) (λ_ _ _=>False) (λ_ _ _=>False)
  (λc h _ _ k=>(h=none/\C c)/\ ∀ x,ih (k (r x))) (λ_ _=>False) (λ_ _=>False) (λ_ _=>False) (λ_ _ _ _=>False) (λ_ _ _ _=>False) (λ_=>False) (λ_ _=>False) (λ_=>False) (λ_ _ _ _ _=>False)) n
theorem Sw{α:Type}{f:Result->Sem α}{Q:α->Shared->Prop}(hd:d=none)
  (hc:codeAny M A c (λr s'=>wpAny M A (f r) Q E s') s):wpAny M A (.call c d g l f) Q E s:=by
 subst hd;exact fun Γ p x=>wpCode_mono (λr s' h=>h Γ p x) (hc _ p rfl (x.enter c none p (by intro x;cases x)))
theorem Xa{α:Type}{P:Addr->Prop}{o:Obj}{C:Code->Prop}{r:Tok->Result}{K:α->Prop}{M:Model}{A:Around}{Q:α->Shared->Prop}{E:Value->Shared->Prop}{s:Shared}
  (ho:∀ a,P a->s.heap.get? a=some o) (hC:∀ c R k,C c->(∀ x k',R (r x) { s with toks:=k' })->codeAny M A c R { s with toks:=k }) (hK:∀ a k,K a->Q a { s with toks:=k }) :
  ∀ n t k,Rn P o C r K n t->wpAny M A t Q E { s with toks:=k }:=by
 intro n;induction n with
|zero=>intro t k h;exact h.elim
|succ n ih=>intro t;induction t using apc with
 |pure a=>intro k h;exact wpAny_pure (hK a k h)|rule _ f=>intro k h;exact fun Γ p x=>ih (f ()) k h Γ p x|point _ f=>intro k h;exact fun Γ p x=>ih (f ()) k h Γ p x|load a _ f=>intro k h;exact fun Γ p x=>⟨o,ho a h.1,ih (f o) k h.2 Γ p x⟩|fresh f=>intro k h;exact fun Γ p x=>ih (f k) (k+1) (h k) Γ p x|call c d _ _ f=>intro k h;exact Sw h.1.1 (hC c _ k h.1.2 λx' k'=>ih (f (r x')) k' (h.2 x'))|_=>intro k h;exact h.elim
theorem Ij{n:Int}(hd:n.natAbs.log2<1920)(h:∀ x k',R (.ok (.ret (.str (toString n) x))) { s with toks:=k' }) :
  codeAny (model prog w) A (.call (.builtin "int.__repr__") ⟨[.int n u],[]⟩) R s:=
 codeAny_call_builtin anf.plain F.entry_int_repr (anf.check _ _ _ _ _ _ _ _ (typeIs_int s n u) (F.args_int_repr_1 _) ((gives_int_repr n u hd).meets prog w A R s ⟨int_text_fits hd,h _ _⟩))
def Rp(P:Addr->Prop)(o:Obj)(n:Int)(T:Str)(t:Sem Fin):Prop:=Rn P o (λc=> ∃ u,c= .call (.builtin "int.__repr__") ⟨[.int n u],[]⟩) (λx=> .ok (.ret (.str (toString n) x))) (λa=> ∃ t,a= .done (.ret (.str T t))) 100 t
theorem Bb{n:Int}(hd:n.natAbs.log2<1920)(e:Rp P o n T t):Meets t (λ_ R s=>(∀ a,P a->s.heap.get? a=some o)/\ ∀ t' k,R (.ok (.ret (.str T t'))) { s with toks:=k }):=
 Meets.of_wp λprog w A R s hs=>Xa hs.1 (λc R' k hc hR=>hc.elim λu e=>e▸Ij hd hR) (λa k ha=>ha.elim λt' e=>⟨_,e,hs.2 t' k⟩) 100 t s.toks e
def Yl(c T:Str):Prop:= ∀ t u:Tok,Rp (λ_=>False) default 0 T (Builtin.«str.__mod__» ⟨[.str (Mi "{%s}") t,.str c u],[]⟩)= ∀ t':Tok,∃ t,Fin.done (.ret (.str T t'))= .done (.ret (.str T t))
def Yp(b:Addr)(n:Int)(T:Str):Prop:=b=b/\b=b/\b=b/\b=b/\ ∀ u:Tok,((none:Option Value)=none/\ ∃ u',Code.call (.builtin "int.__repr__") ⟨[.int n u],[]⟩= .call (.builtin "int.__repr__") ⟨[.int n u'],[]⟩)/\ ∀ x:Tok,∀ t':Tok,∃ t,Fin.done (.ret (.str T t'))= .done (.ret (.str T t))
def Xx(a:Str)(n:Int)(c T:Str):Prop:=n.natAbs.log2<1920/\ ∀(b:Addr)(t u1 u2 u3:Tok)(d:Option Addr)(m:Nat)(l:Array (Option Value)),
 Rp (· =b) ⟨.type "tuple",d,.seq #[.str a u1,.int n u2,.str c u3] m,l⟩ n T (Builtin.«str.__mod__» ⟨[.str (Mi "%s:%d(%s)") t,.ref b],[]⟩)=Yp b n T
theorem VL{n:Int}:Yp b n T:=⟨rfl,rfl,rfl,rfl,λu=>⟨⟨rfl,u,rfl⟩,λ_ t'=>⟨t',rfl⟩⟩⟩
theorem Ca(e:Yl c T):uP W fc env hp .Mod (.str (Mi "{%s}")) (.str c) (.str T) hp:=by
 refine .mk ?_;intro cx g s x z Q E P t0 ra rb hQ;obtain⟨t,rfl⟩:=aG ra;obtain⟨u,rfl⟩:=aG rb;refine wpAny_with_toks (abm _) (binaryOp_meets (T:= "str") (op:= .Mod) (typeIs_str s _ t) (typeIs_str s _ u) ang ak8 anh (am3 _ _)
  (Bb (by decide +kernel) (Eq.mpr (e t u) λt'=>⟨t',rfl⟩)) ⟨λa z=>z.elim,λt' k=>⟨(λe=>nomatch e),λhk=> ?_⟩⟩)
 exact hQ g _ _ ⟨.refl ..,P,⟨rfl,id,hk⟩⟩ bx
theorem HR{n:Int}(e:Xx a n c T):uP W fc env hp .Mod (.str (Mi "%s:%d(%s)")) (.tup [.str a,.int n,.str c]) (.str T) hp:=by
 refine .mk ?_;intro cx g s x z Q E P t0 ra rb hQ;obtain⟨t,rfl⟩:=aG ra;(refine bT (eY rb) λb vs an hF ht rs=> ?_;obtain rfl:=an);(refine Gg (VJ rs) λy1 y2 y3 ez r1 r2 r3=> ?_;obtain rfl:=ez);obtain⟨u1,rfl⟩:=aG r1;obtain⟨u2,rfl⟩:=aA r2;obtain⟨u3,rfl⟩:=aG r3;obtain⟨m,hm⟩:=id ht;refine wpAny_with_toks (abm _) (KPt.bin_left (T:= "str") (U:= "tuple") (op:= .Mod) (by decide) (typeIs_str s _ t) ⟨_,hm,rfl⟩ ang KPt.fills_tuple ak8
  (call_meets ak8 (typeIs_str s _ t) anh (am3 _ _) (Bb e.1 (Eq.mpr (e.2 b t u1 u2 u3 _ _ _) VL)) ⟨λ_ e=>e▸hm,λt' k=>⟨(λe=>nomatch e),λhk=> ?_⟩⟩))
 exact hQ g _ _ ⟨.refl ..,P,⟨rfl,id,hk⟩⟩ bx
end
section
open PySem PySem.Sre
namespace Rx
noncomputable def go:Nat->M->M
|0,m=>m
|n+1,m=>go n m.step
def Ends(N:Nat)(m:M)(P:M->Prop):Prop:= ∃ n,n<=N/\(go n m).outcome.isSome=true/\P (go n m)
theorem ao(h:m.step=m')(e:Ends N m' P):Ends (N+1) m P:=by obtain⟨n,h1,h2,h3⟩:=e;subst h;exact⟨n+1,adc h1,h2,h3⟩
theorem fJ(h:m.outcome.isSome=true)(p:P m):Ends N m P:=⟨0,ac4 _,h,p⟩
theorem Ends.mono(e:Ends N m P)(h:N<=N')(hp:∀ m,P m->P' m):Ends N' m P':=by obtain⟨n,h1,h2,h3⟩:=e;exact⟨n,abj h1 h,h2,hp _ h3⟩
section
variable{m:M}
theorem d9(ho:m.outcome=none)(ha:m.answer=none)(hp:m.pc<m.code.size):m.step=m.exec:=by unfold M.step;(refine aa ho ?_;refine aa ha ?_);simp[hp]
theorem d_{w:Nat}(ho:m.outcome=none)(ha:m.answer=none)(hp:m.pc<m.code.size)(h0:m.code.getD m.pc 0=16)(h1:m.code.getD (m.pc+1) 0=w)(hl:m.pos<m.lim)(ht:m.text.getD m.pos 0=w) :
  m.step={ m with seen:=m.seen.add 16,pc:=m.pc+2,pos:=m.pos+1 }:=by
 refine aa (d9 ho ha hp) ?_;unfold M.exec;have e0:m.word 0=16:=h0;refine aa e0 ?_;have e1:ops[16]? =some Op.LITERAL:=rfl;refine aa e1 ?_;dsimp only;have e2:¬(m.pos>=m.lim):=aeu hl;refine aa (if_neg e2) ?_;have e3:accepts m.code m.pc (m.text.getD m.pos 0) (m.seen.add 16)= .ok (true,m.seen.add 16):=by unfold accepts;(refine aa h0 ?_;refine aa e1 ?_);dsimp only;(refine aa h1 ?_;refine aa ht ?_);rw[BEq.rfl]
 refine aa e3 ?_;dsimp only;have e4:itemWidth m.code m.pc=2:=by unfold itemWidth;(refine aa h0 ?_;exact aa e1 rfl)
 (exact aa e4 rfl)
theorem gC{w:Nat}(ho:m.outcome=none)(ha:m.answer=none)(hp:m.pc<m.code.size)(h0:m.code.getD m.pc 0=16)(h1:m.code.getD (m.pc+1) 0=w)(ht:m.pos<m.lim->m.text.getD m.pos 0≠w) :
  m.step={ m with seen:=m.seen.add 16,answer:=some false }:=by
 refine aa (d9 ho ha hp) ?_;unfold M.exec;have e0:m.word 0=16:=h0;refine aa e0 ?_;have e1:ops[16]? =some Op.LITERAL:=rfl;refine aa e1 ?_;dsimp only
 by_cases e2:m.pos>=m.lim
 ·exact aa (if_pos e2) rfl
 ·refine aa (if_neg e2) ?_;have e3:accepts m.code m.pc (m.text.getD m.pos 0) (m.seen.add 16)= .ok (false,m.seen.add 16):=by unfold accepts;(refine aa h0 ?_;refine aa e1 ?_);dsimp only;refine aa h1 ?_;(exact aa (beq_eq_false_iff_ne.mpr (ht (by exact aik e2))) rfl)
  exact aa e3 rfl
theorem qj{w:Nat}(ho:m.outcome=none)(ha:m.answer=none)(hp:m.pc<m.code.size)(h0:m.code.getD m.pc 0=15)(h1:m.code.getD (m.pc+1) 0=w) :
  m.step={ m with seen:=m.seen.add 15,pc:=m.pc+1+w }:=by
 refine aa (d9 ho ha hp) ?_;unfold M.exec;have e0:m.word 0=15:=h0;refine aa e0 ?_;have e1:ops[15]? =some Op.JUMP:=rfl;refine aa e1 ?_;dsimp only;have e2:M.word { m with seen:=m.seen.add 15 } 1=w:=h1;(exact aa e2 rfl)
theorem eZ(ho:m.outcome=none)(ha:m.answer=none)(hp:m.pc<m.code.size)(h0:m.code.getD m.pc 0=1)(hw:m.wholeText=false)(hm:m.mustAdvance=false) :
  m.step={ m with seen:=m.seen.add 1,handed:=m.pos,answer:=some true }:=by
 refine aa (d9 ho ha hp) ?_;unfold M.exec;have e0:m.word 0=1:=h0;refine aa e0 ?_;have e1:ops[1]? =some Op.SUCCESS:=rfl;refine aa e1 ?_;dsimp only;(refine aa hw ?_;refine aa hm ?_);simp[M.say]
theorem lM(ho:m.outcome=none)(ha:m.answer=none)(hp:m.pc<m.code.size)(h0:m.code.getD m.pc 0=7)(hi:m.inner=none)(hz:m.code.getD (m.pc+1) 0≠0)(hw:m.weight<=1000) :
  m.step={ m with seen:=m.seen.add 7,frames:={ wait:= .nextBranch,pc:=m.pc+1,pos:=m.pos,outermost:=m.outermost,kept:={ lastmark:=m.lastmark,lastindex:=m.lastindex,whole:=false,marks:= #[] } }::m.frames,weight:=m.weight+1,pc:=m.pc+2,handed:=m.pos }:=by
 refine aa (d9 ho ha hp) ?_;unfold M.exec;have e0:m.word 0=7:=h0;refine aa e0 ?_;have e1:ops[7]? =some Op.BRANCH:=rfl;refine aa e1 ?_;dsimp only;delta M.alternative M.keep;simp only[hi,afq,acp,if_false];refine aa (if_neg (by simpa using hz)) ?_;delta M.attempt;simp only[M.frame,aci,agn,ah7];(exact aa (if_neg (aem.mpr (tl (adc hw) rfl))) rfl)
theorem qY(ho:m.outcome=none)(ha:m.answer=none)(hp:m.pc<m.code.size)(h0:m.code.getD m.pc 0=5)(h2:m.code.getD (m.pc+2) 0=0)(hi:m.inner=none)(hw:m.weight<=1000) :
  m.step={ m with seen:=m.seen.add 5,frames:={ wait:= .lookNot,pc:=m.pc,pos:=m.pos,outermost:=m.outermost,kept:={ lastmark:=m.lastmark,lastindex:=m.lastindex,whole:=false,marks:= #[] } }::m.frames,weight:=m.weight+1,pc:=m.pc+3,handed:=m.pos,outermost:=false }:=by
 refine aa (d9 ho ha hp) ?_;delta M.exec;have e0:m.word 0=5:=h0;refine aa e0 ?_;have e1:ops[5]? =some Op.ASSERT_NOT:=rfl;refine aa e1 ?_;dsimp only;have e2:M.word { m with seen:=m.seen.add 5 } 2=0:=h2;(refine aa e2 ?_;refine aa (if_neg (Nat.not_lt_zero m.pos)) ?_);delta M.attempt M.keep;simp only[hi,afq,ak7,acp,if_false,M.frame,aci,agn,ah7,akg];exact aa (if_neg (aem.mpr (tl (adc hw) rfl))) rfl
theorem step_at{w:Nat}{ja:Bool}(ho:m.outcome=none)(ha:m.answer=none)(hp:m.pc<m.code.size)(h0:m.code.getD m.pc 0=6)(h1:m.code.getD (m.pc+1) 0=w)(hy:m.isAt w= .ok ja) :
  m.step=if ja then{ m with seen:=(m.seen.add 6).add (43+w),pc:=m.pc+2 }else{ m with seen:=(m.seen.add 6).add (43+w),answer:=some false }:=by
 refine aa (d9 ho ha hp) ?_;delta M.exec;have e0:m.word 0=6:=h0;refine aa e0 ?_;have e1:ops[6]? =some Op.AT:=rfl;refine aa e1 ?_;dsimp only;have e2:M.word { m with seen:=m.seen.add 6 } 1=w:=h1;refine aa e2 ?_;have e3:M.isAt { m with seen:=m.seen.add 6 } w= .ok ja:=hy;refine aa e3 ?_;dsimp only;induction ja using aco<;>rfl
theorem S5{p:Bool}{sn:aev}(ho:m.outcome=none)(ha:m.answer=none)(hp:m.pc<m.code.size)(h0:m.code.getD m.pc 0=13)(hl:m.pos<m.lim)(hs:inSet m.code (m.text.getD m.pos 0) m.code.size (m.pc+2) true (m.seen.add 13)= .ok (p,sn)) :
  m.step=if p then{ m with seen:=sn,pc:=m.pc+(1+m.code.getD (m.pc+1) 0),pos:=m.pos+1 }else{ m with seen:=sn,answer:=some false }:=by
 refine aa (d9 ho ha hp) ?_;delta M.exec;have e0:m.word 0=13:=h0;refine aa e0 ?_;have e1:ops[13]? =some Op.IN:=rfl;refine aa e1 ?_;dsimp only;refine aa (if_neg (aeu hl)) ?_;have e3:accepts m.code m.pc (m.text.getD m.pos 0) (m.seen.add 13)= .ok (p,sn):=by delta accepts;(refine aa h0 ?_;refine aa e1 ?_);exact hs
 refine aa e3 ?_;have e4:itemWidth m.code m.pc=1+m.code.getD (m.pc+1) 0:=by delta itemWidth;(refine aa h0 ?_;exact aa e1 rfl)
 induction p using aco
 ·rfl
 ·dsimp only;exact aa e4 rfl
theorem fU{ja:Bool}(ho:m.outcome=none)(ha:m.answer=some ja)(hf:m.frames=[]):m.step={ m with outcome:=some (if ja then .matched else .failed) }:=by delta M.step;(refine aa ho ?_;refine aa ha ?_;refine aa hf ?_);rfl
theorem bF{ja:Bool}{f:Sre.Frame}{r:List Sre.Frame}(ho:m.outcome=none)(ha:m.answer=some ja)(hf:m.frames=f::r) :
  m.step=M.resume { m with answer:=none,frames:=r,weight:=m.weight - (1+f.kept.marks.size),pc:=f.pc,pos:=f.pos,outermost:=f.outermost } f ja:=by
 delta M.step;(refine aa ho ?_;refine aa ha ?_;refine aa hf ?_);rfl
end
noncomputable def nlCode:Array Nat:= #[14,9,4,1,2,16,10,16,13,0,7,7,16,13,16,10,15,18,5,16,10,15,13,11,16,13,5,5,0,16,10,1,15,2,0,1]
noncomputable def base(C T:Array Nat)(lim st ls pc ps hd:Nat)(ob:Bool)(lm li:Int)(sn:aev):M:={ code:=C,text:=T,lim:=lim,start:=st,lastStart:=ls,pc:=pc,pos:=ps,handed:=hd,outermost:=ob,marks:= #[],lastmark:=lm,lastindex:=li,seen:=sn }
def Hit(s e:Nat)(m:M):Prop:=m.outcome=some .matched/\m.start=s/\m.handed=e/\m.marks= #[]
def Miss(m:M):Prop:=m.outcome=some .failed
theorem bY{C T:Array Nat}{lim st ls pc ps hd:Nat}{ob:Bool}{lm li:Int}{sn:aev}{s:Nat}{first:Bool} :
  (base C T lim st ls pc ps hd ob lm li sn).attemptAt s first={ base C T lim s ls pc s s first (-1) (-1) sn with frames:=[{ wait:= .nextStart,pc:=pc,pos:=s,outermost:=first }],weight:=1 }:=by
 rfl
theorem eX(hw:f.wait= .nextStart):M.resume m f true={ m with answer:=some true }:=by delta M.resume;exact aa hw rfl
theorem eV(hw:f.wait= .nextBranch):M.resume m f true={ m with answer:=some true }:=by delta M.resume;exact aa hw rfl
theorem fP(hw:f.wait= .nextBranch)(hk:f.kept.whole=false)(vk:f.kept.marks= #[])(hz:m.code.getD (f.pc+m.code.getD f.pc 0) 0≠0)(D7:m.weight<=1000) :
  M.resume m f false={ m with lastmark:=f.kept.lastmark,lastindex:=f.kept.lastindex,frames:={ wait:= .nextBranch,pc:=f.pc+m.code.getD f.pc 0,pos:=m.pos,outermost:=m.outermost,kept:=f.kept }::m.frames,weight:=m.weight+1,pc:=f.pc+m.code.getD f.pc 0+1,handed:=m.pos }:=by
 delta M.resume;refine aa hw ?_;simp only[acp,if_false,M.putBack,hk,M.alternative];refine aa (if_neg (by simpa using hz)) ?_;delta M.attempt;simp only[M.frame,vk,aci,agn,ah7];(exact aa (if_neg (aem.mpr (tl (adc D7) rfl))) rfl)
theorem uA(hw:f.wait= .lookNot)(hk:f.kept.whole=false):M.resume m f false={ m with lastmark:=f.kept.lastmark,lastindex:=f.kept.lastindex,pc:=m.pc+1+m.word 1 }:=by delta M.resume;refine aa hw ?_;simp[M.putBack,hk]
theorem Sh{T:Array Nat}{lim s st ls ps hd:Nat}{ob first:Bool}{lm li:Int}{sn:aev}(h:T.getD s 0=10)(hl:s<lim):Ends 20 ((base nlCode T lim st ls 10 ps hd ob lm li sn).attemptAt s first) (Hit s (s+1)):=by
 refine aa bY ?_;have rk:T.getD s 0≠13:=by refine aa h ?_;decide
 refine ao (lM rfl rfl (abk rfl) rfl rfl (ae2 rfl) (abk rfl)) ?_;refine ao (gC (w:=13) rfl rfl (abk rfl) rfl rfl (λ_=>rk)) ?_;refine ao ((bF rfl rfl rfl).trans (fP rfl rfl rfl (ae2 rfl) (abk rfl))) ?_;refine ao (d_ (w:=10) rfl rfl (abk rfl) rfl rfl hl h) ?_;refine ao (qj (w:=13) rfl rfl (abk rfl) rfl rfl) ?_;refine ao (eZ rfl rfl (abk rfl) rfl rfl rfl) ?_;refine ao ((bF rfl rfl rfl).trans (eV rfl)) ?_;refine ao ((bF rfl rfl rfl).trans (eX rfl)) ?_;refine ao (fU rfl rfl rfl) ?_;exact fJ rfl ⟨rfl,rfl,rfl,rfl⟩
theorem Sg{T:Array Nat}{lim s st ls ps hd:Nat}{ob first:Bool}{lm li:Int}{sn:aev}(h:T.getD s 0=13)(h2:T.getD (s+1) 0=10)(ft:s+1<lim):Ends 20 ((base nlCode T lim st ls 10 ps hd ob lm li sn).attemptAt s first) (Hit s (s+2)):=by refine aa bY ?_;have hl:s<lim:=ajq ft;refine ao (lM rfl rfl (abk rfl) rfl rfl (ae2 rfl) (abk rfl)) ?_;refine ao (d_ (w:=13) rfl rfl (abk rfl) rfl rfl hl h) ?_;refine ao (d_ (w:=10) rfl rfl (abk rfl) rfl rfl ft h2) ?_;refine ao (qj (w:=18) rfl rfl (abk rfl) rfl rfl) ?_;refine ao (eZ rfl rfl (abk rfl) rfl rfl rfl) ?_;refine ao ((bF rfl rfl rfl).trans (eV rfl)) ?_;refine ao ((bF rfl rfl rfl).trans (eX rfl)) ?_;refine ao (fU rfl rfl rfl) ?_;exact fJ rfl ⟨rfl,rfl,rfl,rfl⟩
theorem Jq{T:Array Nat}{lim s st ls ps hd:Nat}{ob first:Bool}{lm li:Int}{sn:aev}(h:T.getD s 0=13)(h2:s+1<lim->T.getD (s+1) 0≠10)(hl:s<lim):Ends 20 ((base nlCode T lim st ls 10 ps hd ob lm li sn).attemptAt s first) (Hit s (s+1)):=by
 refine aa bY ?_;have rj:T.getD s 0≠10:=by refine aa h ?_;decide
 refine ao (lM rfl rfl (abk rfl) rfl rfl (ae2 rfl) (abk rfl)) ?_;refine ao (d_ (w:=13) rfl rfl (abk rfl) rfl rfl hl h) ?_;refine ao (gC (w:=10) rfl rfl (abk rfl) rfl rfl h2) ?_;refine ao ((bF rfl rfl rfl).trans (fP rfl rfl rfl (ae2 rfl) (abk rfl))) ?_;refine ao (gC (w:=10) rfl rfl (abk rfl) rfl rfl (λ_=>rj)) ?_;refine ao ((bF rfl rfl rfl).trans (fP rfl rfl rfl (ae2 rfl) (abk rfl))) ?_;refine ao (d_ (w:=13) rfl rfl (abk rfl) rfl rfl hl h) ?_;refine ao (qY rfl rfl (abk rfl) rfl rfl rfl (abk rfl)) ?_;refine ao (gC (w:=10) rfl rfl (abk rfl) rfl rfl h2) ?_;refine ao ((bF rfl rfl rfl).trans (uA rfl rfl)) ?_;refine ao (qj (w:=2) rfl rfl (abk rfl) rfl rfl) ?_;refine ao (eZ rfl rfl (abk rfl) rfl rfl rfl) ?_;refine ao ((bF rfl rfl rfl).trans (eV rfl)) ?_;refine ao ((bF rfl rfl rfl).trans (eX rfl)) ?_;refine ao (fU rfl rfl rfl) ?_;exact fJ rfl ⟨rfl,rfl,rfl,rfl⟩
noncomputable def firstAt(p:Nat->Bool)(T:Array Nat)(lim:Nat):Nat->Nat->Option Nat
|0,_=>none
|n+1,s=>if s>=lim then none else if p (T.getD s 0)then some s else firstAt p T lim n (s+1)
theorem pM:firstAt p T lim (n+1) s=if s>=lim then none else if p (T.getD s 0)then some s else firstAt p T lim n (s+1):=rfl
theorem firstAt_some:∀{n s a:Nat},firstAt p T lim n s=some a->s<=a/\a<lim/\p (T.getD a 0)=true/\ ∀ i,s<=i->i<a->p (T.getD i 0)=false:=by intro ah;induction ah with
|zero=>intro _ _ e;exact(Qg e).elim
|succ n ih=>
  intro s a e;rw[pM]at e
  split at e
  ·injection e
  ·split at e
   ·rename_i h1 h2;cases e;exact⟨abm _,by exact aik h1,h2,λi h3 h4=>by exact absurd h3 (aeu h4)⟩
   ·rename_i h1 h2;refine qz (ih e) λh3 h4 h5 h6=> ?_;refine⟨by exact adz h3,h4,h5,λi h7 h8=> ?_⟩
    by_cases hi:i=s
    ·subst hi;exact eq_false_of_ne_true h2
    ·exact h6 i (aft h7 (afv hi)) h8
theorem firstAt_none:∀{n s:Nat},firstAt p T lim n s=none->lim<=s+n-> ∀ i,s<=i->i<lim->p (T.getD i 0)=false:=by intro ah;induction ah with
|zero=>intro s _ h i h1 h2;exact absurd h2 (ae5 (abj h h1))
|succ n ih=>
  intro s e h i h1 h2;rw[pM]at e
  split at e
  ·rename_i h3;exact absurd (acj h1 h2) (ae5 h3)
  ·split at e
   ·injection e
   ·rename_i h3 h4
    by_cases hi:i=s
    ·subst hi;exact eq_false_of_ne_true h4
    ·exact ih e (abj h (ab2 (ab9 s n).symm)) i (aft h1 (afv hi)) h2
theorem yG(hp:∀ c sn,∃ dT,inSet m.code c m.code.size 5 true sn= .ok (p c,dT)):∀(n s:Nat)(sn:aev),∃ dT,M.admitted m n s sn= .ok (firstAt p m.text m.lim n s,dT):=by intro ah;induction ah with
|zero=>intro s sn;exact⟨sn,rfl⟩
|succ n ih=>
  intro s sn
  by_cases h:s>=m.lim
  ·exact⟨sn,(if_pos h).trans (congrArg (λo=>aok (o,sn)) (if_pos h).symm)⟩
  ·refine aa (a:=M.admitted m (n+1) s sn) (if_neg h) ?_;refine aa (pM.trans (if_neg h)) ?_;refine aD (hp (m.text.getD s 0) sn) λdT e=> ?_;refine aa e ?_;induction hc:p (m.text.getD s 0)using aco with
  |true=>exact⟨dT,rfl⟩|false=>exact ih (s+1) dT
noncomputable def dO(C T:Array Nat)(pc s ls:Nat):M:=base C T T.size s ls pc s s true (-1) (-1) (({}:aev).add 14)
theorem nJ
  (hs:afn C T 0 s T.size false=if(decide (s>T.size)||decide (T.size - s<1))=true then(dO C T pc s 0).say false else(dO C T pc s T.size).attemptFrom s true)
  (hf:(match ops[C.getD 0 0]? with|some .INFO=>true|_=>false)&&C.getD 2 0==4)
  (hp:∀ c sn,∃ dT,inSet C c C.size 5 true sn= .ok (p c,dT)) {P:Nat->M->Prop}
  (hit:∀ a st ls ps hd ob lm li sn first,a<T.size->p (T.getD a 0)=true->Ends 20 ((base C T T.size st ls pc ps hd ob lm li sn).attemptAt a first) (P a)) :
  Ends 21 (afn C T 0 s T.size false) (λm=>match firstAt p T T.size (T.size+1 - s) s with|some a=>P a m|none=>Miss m):=by
 have fin:∀ m:M,m.outcome=none->m.answer=none->m.frames=[]->Ends 21 (m.say false) Miss:=by intro m h1 h2 h3;exact ao (N:=20) (fU (m:=m.say false) h1 rfl h3) (fJ rfl rfl)
 refine aa hs ?_
 split
 ·rename_i h;have uS:s>=T.size:=by simp at h;rcases h with h|h<;>first|exact ac1 h|exact aks h|exact h
  have:firstAt p T T.size (T.size+1 - s) s=none:=by induction T.size+1 - s using acw with
  |zero=>rfl|succ n=>exact if_pos uS
  exact aa this (fin _ rfl rfl rfl)
 ·delta M.attemptFrom;have h1:(dO C T pc s T.size).hasFirstSet=true:=hf;refine aa (if_neg (show ¬(!(dO C T pc s T.size).hasFirstSet)=true from by rw[h1];nofun)) ?_;refine aD (yG (m:=dO C T pc s T.size) hp (T.size+1 - s) s (({}:aev).add 14)) λdT e=> ?_;have e':M.admitted (dO C T pc s T.size) ((dO C T pc s T.size).lim+1 - s) s (dO C T pc s T.size).seen= .ok (firstAt p T T.size (T.size+1 - s) s,dT):=e;refine aa e' ?_;induction hq:firstAt p T T.size (T.size+1 - s) s using abt with
 |none=>exact fin _ rfl rfl rfl|some a=>refine qz (firstAt_some hq) λh3 h4 h5 h6=> ?_;exact(hit a s T.size s s true (-1) (-1) dT true h4 h5).mono (by decide) λ_ x=>x
noncomputable def isNl(c:Nat):Bool:=c==10||c==13
theorem Vw(c:Nat)(sn:aev):∃ dT,inSet nlCode c nlCode.size 5 true sn= .ok (isNl c,dT):=by
 by_cases h1:c=10
 ·subst h1;exact⟨_,rfl⟩
 by_cases h2:c=13
 ·subst h2;exact⟨_,rfl⟩
 have e:isNl c=false:=by simp[isNl,h1,h2]
 refine aa e ?_;have b1:(c==10)=false:=beq_false_of_ne h1;have b2:(c==13)=false:=beq_false_of_ne h2;refine⟨((sn.add 16).add 16).add 0,?_⟩;refine(?_:(if(c==10)=true then _ else(if(c==13)=true then _ else _))=_);(refine aa b1 ?_;refine aa b2 ?_);rfl
noncomputable def nlNext(T:Array Nat)(s:Nat):Option (Nat×Nat):=
 (firstAt isNl T T.size (T.size+1 - s) s).map λa=>(a,if T.getD a 0=13/\a+1<T.size/\T.getD (a+1) 0=10 then a+2 else a+1)
def Found(o:Option (Nat×Nat))(m:M):Prop:=match o with|some (a,b)=>Hit a b m|none=>Miss m
theorem search_nl(T:Array Nat)(s:Nat):Ends 21 (afn nlCode T 0 s T.size false) (Found (nlNext T s)):=by
 have:=nJ (C:=nlCode) (T:=T) (p:=isNl) (pc:=10) (s:=s) (P:=λa m=>Hit a (if T.getD a 0=13/\a+1<T.size/\T.getD (a+1) 0=10 then a+2 else a+1) m) rfl rfl Vw ?_
 ·refine this.mono (abm _) λm hm=> ?_;delta nlNext Found;revert hm;induction firstAt isNl T T.size (T.size+1 - s) s using abt with
 |none=>exact id|some a=>exact id
 ·intro a st ls ps hd ob lm li sn first ha hc
  by_cases h1:T.getD a 0=10
  ·rw[if_neg (by exact aa h1 (of_decide_eq_false rfl))];exact Sh h1 ha
  ·have h2:T.getD a 0=13:=by simp only[isNl,aef,beq_iff_eq]at hc;exact hc.resolve_left h1
   by_cases h3:a+1<T.size/\T.getD (a+1) 0=10
   ·exact aa (if_pos ⟨h2,h3⟩) (Sg h2 h3.2 h3.1)
   ·rw[if_neg (λx=>h3 x.2)];exact Jq h2 (λhl e=>h3 ⟨hl,e⟩) ha
noncomputable def dotCode:Array Nat:= #[14,4,0,1,1,6,1,16,46,1]
noncomputable def dotAt(T:Array Nat)(a:Nat):Bool:=(a==0||T.getD (a - 1) 0==10)&&T.getD a 0==46
noncomputable def dotScan(T:Array Nat):Nat->Nat->Option (Nat×Nat)
|0,_=>none
|n+1,s=>if s>=T.size then none else if dotAt T s then some (s,s+1)else dotScan T n (s+1)
theorem Il:dotScan T (n+1) s=if s>=T.size then none else if dotAt T s then some (s,s+1)else dotScan T n (s+1):=rfl
noncomputable def dotNext(T:Array Nat)(s:Nat):Option (Nat×Nat):=dotScan T (T.size+1 - s) s
theorem qX(hw:f.wait= .nextStart):M.resume m f false=if f.pos<m.lastStart then{ m with mustAdvance:=false }.attemptFrom (f.pos+1) false else m.say false:=by delta M.resume;exact aa hw rfl
theorem O2{m:M}(h1:m.outcome=none)(h3:m.frames=[]):Ends 1 (m.say false) Miss:=ao (N:=0) (fU (m:=m.say false) h1 rfl h3) (fJ rfl rfl)
theorem tX(h:Miss m):Found none m:=h
section
variable{lm li:Int}
noncomputable def tried(T:Array Nat)(s:Nat)(first:Bool)(sn:aev):M:={ base dotCode T T.size s T.size 5 s s first (-1) (-1) sn with frames:=[{ wait:= .nextStart,pc:=5,pos:=s,outermost:=first }],weight:=1 }
theorem QW(hb:(s==0||T.getD (s - 1) 0==10)=true)(hl:s<T.size)(hc:T.getD s 0=46):Ends 5 (tried T s first sn) (Hit s (s+1)):=by have fp:M.isAt (tried T s first sn) 1= .ok (s==0||T.getD (s - 1) 0==10):=rfl;rw[hb]at fp;refine ao (step_at (w:=1) rfl rfl (abk rfl) rfl rfl fp) ?_;refine aa (if_pos rfl) ?_;refine ao (d_ (w:=46) rfl rfl (abk rfl) rfl rfl hl hc) ?_;refine ao (eZ rfl rfl (abk rfl) rfl rfl rfl) ?_;refine ao ((bF rfl rfl rfl).trans (eX rfl)) ?_;refine ao (fU rfl rfl rfl) ?_;exact fJ rfl ⟨rfl,rfl,rfl,rfl⟩
theorem QX(hb:(s==0||T.getD (s - 1) 0==10)=false)(h:Ends N (M.resume (base dotCode T T.size s T.size 5 s s first (-1) (-1) ((sn.add 6).add (43+1))) { wait:= .nextStart,pc:=5,pos:=s,outermost:=first } false) P):Ends (N+2) (tried T s first sn) P:=by have fp:M.isAt (tried T s first sn) 1= .ok (s==0||T.getD (s - 1) 0==10):=rfl;rw[hb]at fp;refine ao (step_at (w:=1) rfl rfl (abk rfl) rfl rfl fp) ?_;exact aa (if_neg acb) (ao (m':=M.resume (base dotCode T T.size s T.size 5 s s first (-1) (-1) ((sn.add 6).add (43+1))) { wait:= .nextStart,pc:=5,pos:=s,outermost:=first } false) ((bF (f:={ wait:= .nextStart,pc:=5,pos:=s,outermost:=first }) (r:=[]) rfl rfl rfl).trans rfl) h)
theorem Ln(hb:(s==0||T.getD (s - 1) 0==10)=true)(hc:s<T.size->T.getD s 0≠46)(h:Ends N (M.resume (base dotCode T T.size s T.size 5 s s first (-1) (-1) (((sn.add 6).add (43+1)).add 16)) { wait:= .nextStart,pc:=5,pos:=s,outermost:=first } false) P):Ends (N+3) (tried T s first sn) P:=by have fp:M.isAt (tried T s first sn) 1= .ok (s==0||T.getD (s - 1) 0==10):=rfl;rw[hb]at fp;refine ao (step_at (w:=1) rfl rfl (abk rfl) rfl rfl fp) ?_;refine aa (if_pos rfl) ?_;refine ao (gC (w:=46) rfl rfl (abk rfl) rfl rfl hc) ?_;exact ao (m':=M.resume (base dotCode T T.size s T.size 5 s s first (-1) (-1) (((sn.add 6).add (43+1)).add 16)) { wait:= .nextStart,pc:=5,pos:=s,outermost:=first } false) ((bF (f:={ wait:= .nextStart,pc:=5,pos:=s,outermost:=first }) (r:=[]) rfl rfl rfl).trans rfl) h
theorem zu(ih:∀{sn:aev},s+1<=T.size->Ends (6 * n+6) (tried T (s+1) false sn) (Found (dotScan T n (s+1))))(v2:s>=T.size\/dotAt T s=false) :
  Ends (6 * n+6) (M.resume (base dotCode T T.size s T.size 5 s s first lm li sn) { wait:= .nextStart,pc:=5,pos:=s,outermost:=first } false) (Found (if s>=T.size then none else if dotAt T s then some (s,s+1)else dotScan T n (s+1))):=by
 refine aa (qX rfl) ?_
 by_cases bq:s<T.size
 ·have h1:dotAt T s=false:=v2.resolve_left (aeu bq);(rewrite[if_pos (show s<(base dotCode T T.size s T.size 5 s s first lm li sn).lastStart from bq)];refine aa (if_neg (an2.mpr bq)) ?_;refine aa h1 ?_);refine aa (if_neg acb) ?_;have e:M.attemptFrom { base dotCode T T.size s T.size 5 s s first lm li sn with mustAdvance:=false } (s+1) false=tried T (s+1) false sn:=by refine(?_:(base dotCode T T.size s T.size 5 s s first lm li sn).attemptAt (s+1) false=_);exact aa bY rfl
  exact aa e (ih bq)
 ·(rewrite[if_neg (show ¬s<(base dotCode T T.size s T.size 5 s s first lm li sn).lastStart from bq)];refine aa (if_pos (aes bq)) ?_);exact Ends.mono (O2 (m:=base dotCode T T.size s T.size 5 s s first lm li sn) rfl rfl) (abz _ _) λ_ x=>tX x
end
theorem Lp:∀(n s:Nat){first:Bool}{sn:aev},T.size+1 - s=n->s<=T.size->Ends (6 * n+6) (tried T s first sn) (Found (dotScan T n s)):=by intro ah;induction ah with
|zero=>
  intro s first sn hn hs
  exact absurd hn (aie (amo hs))
|succ n ih=>
  intro s first sn hn hs
  have ih:∀{sn:aev},s+1<=T.size->Ends (6 * n+6) (tried T (s+1) false sn) (Found (dotScan T n (s+1))):=λ{sn} h=>ih (s+1) (by rw[aot,hn];rfl) h;refine aa Il ?_;induction hb:(s==0||T.getD (s - 1) 0==10)using aco with
 |false=>exact Ends.mono (QX hb (zu ih (.inr (by unfold dotAt;exact aa hb rfl)))) (acs (abk rfl) _) λ_ x=>x|true=>
   by_cases hd:s<T.size/\T.getD s 0=46
   ·have h1:dotAt T s=true:=by unfold dotAt;(refine aa hb ?_;refine aa hd.2 ?_);rfl
    (refine aa (if_neg (an2.mpr hd.1)) ?_;refine aa (if_pos h1) ?_);exact Ends.mono (QW hb hd.1 hd.2) (abz _ _) λ_ x=>x
   ·refine Ends.mono (Ln hb (λhl e=>hd ⟨hl,e⟩) (zu ih ?_)) (acs (abk rfl) _) λ_ x=>x
    by_cases hl:s<T.size
    ·right;have:T.getD s 0≠46:=λe=>hd ⟨hl,e⟩;delta dotAt;exact aa (beq_eq_false_iff_ne.mpr this) (ach ((λ{a b}=>Bool.eq_and_self.mpr) λa=>hb))
    ·left;exact aes hl
theorem search_dot(T:Array Nat)(s:Nat)(hs:s<=T.size):Ends (6 * T.size+12) (afn dotCode T 0 s T.size false) (Found (dotNext T s)):=by
 have e:afn dotCode T 0 s T.size false=if(decide (s>T.size)||decide (T.size - s<1))=true then(dO dotCode T 5 s 0).say false else(dO dotCode T 5 s T.size).attemptFrom s true:=rfl
 refine aa e ?_
 split
 ·rename_i h;have uS:s>=T.size:=by simp at h;rcases h with h|h<;>first|exact ac1 h|exact aks h|exact h
  have:dotNext T s=none:=by delta dotNext;induction T.size+1 - s using acw with
  |zero=>rfl|succ n=>exact if_pos uS
  exact aa this (Ends.mono (O2 (m:=dO dotCode T 5 s 0) rfl rfl) (by exact ad0 _) λ_ x=>tX x)
 ·have e:(dO dotCode T 5 s T.size).attemptFrom s true=tried T s true (({}:aev).add 14):=by refine(?_:(base dotCode T T.size s T.size 5 s s true (-1) (-1) (({}:aev).add 14)).attemptAt s true=_);exact aa bY rfl
  exact aa e (Ends.mono (Lp (T:=T) (T.size+1 - s) s rfl hs) (ab8 (acu 6 (aje _ _)) 6) λ_ x=>x)
end Rx
end
section
open PySem PySem.Sre
namespace Rx
noncomputable def nameCode:Array Nat:= #[14,10,4,1,1,22,0,31,16,127,0,13,7,22,0,31,16,127,0,1]
noncomputable def valCode:Array Nat:= #[14,14,4,1,1,9,4294966783,0,0,2147483648,0,0,0,0,0,13,11,9,4294966783,0,0,2147483648,0,0,0,0,0,1]
noncomputable def badName(c:Nat):Bool:=decide (c<=31)||c==127
noncomputable def badVal(c:Nat):Bool:=decide (c<256)&&((#[4294966783,0,0,2147483648,0,0,0,0]:Array Nat).getD (c / 32) 0).testBit (c % 32)
theorem Ae(i:Nat)(hi:i=5\/i=13)(c:Nat)(sn:aev):∃ dT,inSet nameCode c nameCode.size i true sn= .ok (badName c,dT):=by
 have key:∀(a b:Bool),decide (0<=c)=true->decide (c<=31)=a->(c==127)=b-> ∃ dT,(if(decide (0<=c)&&decide (c<=31))=true then(aok (true,sn.add 22):Except String (Bool×aev))else(if(c==127)=true then .ok (true,(sn.add 22).add 16)else .ok (!true,((sn.add 22).add 16).add 0)))= .ok (badName c,dT):=by intro a b h0 h1 h2;unfold badName;(refine aa h0 ?_;refine aa h1 ?_;refine aa h2 ?_);induction a using aco<;>induction b using aco<;>exact⟨_,rfl⟩
 rcases hi with rfl|rfl
 ·exact key _ _ (by rfl) rfl rfl
 ·exact key _ _ (by rfl) rfl rfl
theorem Qv(c:Nat)(h:c<256)(i:Nat)(hi:i=5\/i=17):valCode.getD (i+(1+c / 32)) 0=(#[4294966783,0,0,2147483648,0,0,0,0]:Array Nat).getD (c / 32) 0:=by
 have key:∀ d,d<8->valCode.getD (5+(1+d)) 0=(#[4294966783,0,0,2147483648,0,0,0,0]:Array Nat).getD d 0/\valCode.getD (17+(1+d)) 0=(#[4294966783,0,0,2147483648,0,0,0,0]:Array Nat).getD d 0:=by decide +kernel
 have h8:=key (c / 32) (by exact Nat.div_lt_of_lt_mul h);exact hi.elim (λe=>e▸h8.1) λe=>e▸h8.2
theorem HB(i:Nat)(hi:i=5\/i=17)(c:Nat)(sn:aev):∃ dT,inSet valCode c valCode.size i true sn= .ok (badVal c,dT):=by
 have key:∀(x:Nat),x=(#[4294966783,0,0,2147483648,0,0,0,0]:Array Nat).getD (c / 32) 0\/ ¬c<256->
   ∃ dT,(if(decide (c<256)&&x.testBit (c % 32))=true then(aok (true,sn.add 9):Except String (Bool×aev))else .ok (!true,(sn.add 9).add 0))= .ok (badVal c,dT):=by
  intro x hx;unfold badVal;rcases hx with rfl|hx
  ·induction(decide (c<256)&&((#[4294966783,0,0,2147483648,0,0,0,0]:Array Nat).getD (c / 32) 0).testBit (c % 32))using aco<;>exact⟨_,rfl⟩
  ·simp only[hx,decide_false,ah4];exact⟨_,rfl⟩
 have hx:valCode.getD (i+(1+c / 32)) 0=(#[4294966783,0,0,2147483648,0,0,0,0]:Array Nat).getD (c / 32) 0\/ ¬c<256:=by
  by_cases h:c<256
  ·exact .inl (Qv c h i hi)
  ·exact .inr h
 rcases hi with rfl|rfl
 ·exact key _ hx
 ·exact key _ hx
theorem Hr{C T:Array Nat}{p:Nat->Bool}{pc n:Nat}{s st ls ps hd:Nat}{ob first:Bool}{lm li:Int}{sn:aev}(ss:pc<C.size)(h0:C.getD pc 0=13)(h1:C.getD (pc+1) 0=n)(wh:pc+(1+n)<C.size)(h2:C.getD (pc+(1+n)) 0=1)
  (wT:∀ c sn,∃ dT,inSet C c C.size (pc+2) true sn= .ok (p c,dT)) (hl:s<T.size) (hc:p (T.getD s 0)=true):Ends 20 ((base C T T.size st ls pc ps hd ob lm li sn).attemptAt s first) (Hit s (s+1)):=by
 refine aa bY ?_;refine aD (wT (T.getD s 0) (sn.add 13)) λdT e=> ?_;rw[hc]at e;refine ao (S5 (p:=true) (sn:=dT) rfl rfl ss h0 hl e) ?_;refine aa (if_pos rfl) ?_;subst h1;refine ao (eZ rfl rfl wh h2 rfl rfl) ?_;refine ao ((bF (f:={ wait:= .nextStart,pc:=pc,pos:=s,outermost:=first }) (r:=[]) rfl rfl rfl).trans (eX rfl)) ?_;refine ao (fU rfl rfl rfl) ?_;exact fJ rfl ⟨rfl,rfl,rfl,rfl⟩
theorem search_name(T:Array Nat):Ends 21 (afn nameCode T 0 0 T.size false) (λm=>match firstAt badName T T.size (T.size+1) 0 with|some a=>Hit a (a+1) m|none=>Miss m):=
 nJ (C:=nameCode) (T:=T) (p:=badName) (pc:=11) (s:=0) (P:=λa m=>Hit a (a+1) m) rfl rfl (Ae 5 (.inl rfl)) λa st ls ps hd ob lm li sn first ha hc=>
  Hr (n:=7) (abk rfl) rfl rfl (abk rfl) rfl (Ae 13 (.inr rfl)) ha hc
theorem search_val(T:Array Nat):Ends 21 (afn valCode T 0 0 T.size false) (λm=>match firstAt badVal T T.size (T.size+1) 0 with|some a=>Hit a (a+1) m|none=>Miss m):=
 nJ (C:=valCode) (T:=T) (p:=badVal) (pc:=15) (s:=0) (P:=λa m=>Hit a (a+1) m) rfl rfl (HB 5 (.inl rfl)) λa st ls ps hd ob lm li sn first ha hc=>
  Hr (n:=11) (abk rfl) rfl rfl (abk rfl) rfl (HB 17 (.inr rfl)) ha hc
end Rx
end
section
open PySem PySem.Calls PySem.Spec PyProof.Rows PySem.W PySem.Builtin.Re
namespace Rx
theorem JM{m:anb}(h:m.outcome.isSome=true):m.step=m:=by unfold Sre.M.step;(exact aa (if_pos h) rfl)
theorem rE:∀(n:Nat){m:anb},m.outcome.isSome=true->go n m=m:=by intro ah;induction ah with
|zero=>intro _ _;exact rfl
|succ n ih=>intro m h;refine(?_:go n m.step=m);exact aa (JM h) (ih h)
theorem xu:∀(a b:Nat)(m:anb),go (a+b) m=go b (go a m):=by intro ah;induction ah with
|zero=>intro b m;rw[ae7];rfl
|succ a ih=>intro b m;rw[aou];exact ih b m.step
theorem JD:∀(n:Nat)(m:anb),m.runFor n=go n m:=by intro ah;induction ah with
|zero=>intro _;exact rfl
|succ n ih=>
  intro m;refine(?_:(if m.outcome.isSome then m else m.step.runFor n)=_)
  by_cases h:m.outcome.isSome=true
  ·(refine aa (if_pos h) ?_;exact aa (rE _ h) rfl)
  ·exact aa (if_neg h) (ih m.step)
theorem P_:∀(eT n:Nat){m:anb}{Q:anb->Shared->Prop},n<=4 * eT->0<eT->(go n m).outcome.isSome=true->Q (go n m) s->wpAny M A (reDrive eT m) Q E s:=by intro ah;induction ah with
|zero=>intro n m Q _ h0 _ _;exact absurd h0 (ahj _)
|succ eT ih=>
  intro n m Q hn _ hh hq;refine(?_:wpAny M A (if(m.runFor reTurnSteps).outcome.isSome then pure (m.runFor reTurnSteps)else do rule "sre.turn";reDrive eT (m.runFor reTurnSteps)) Q E s);(refine aa (show reTurnSteps=4 from rfl) ?_;rw[JD])
  by_cases h4:(go 4 m).outcome.isSome=true
  ·refine aa (if_pos h4) ?_;have e:go 4 m=go n m:=by
    rcases Nat.le_total n 4 with h|h
    ·obtain⟨j,hj⟩:=agk h;(refine aa hj ?_;rewrite[xu];exact aa (rE j hh) rfl)
    ·obtain⟨j,rfl⟩:=agk h;(rewrite[xu];exact aa (rE j h4) rfl)
   exact aa e (wpAny_pure hq)
  ·refine aa (if_neg h4) ?_;have h5:¬n<=4:=λh=>by obtain⟨j,hj⟩:=agk h;apply h4;(refine aa hj ?_;rewrite[xu];refine aa (rE j hh) ?_);exact hh
   obtain⟨j,rfl⟩:=agk (ac1 (an2.mp h5));rw[xu]at hh hq;exact wpAny_bind (wpAny_rule (ih j (Nat.le_of_add_le_add_left (abj hn (ab2 (ah0 (4 * eT) 4)))) (al7 λe=>h5 (by rw[e]at hn;exact hn)) hh hq))
theorem Qc:∀{l:List Nat}{Q:PUnit->Shared->Prop},(∀ i (Q':ForInStep PUnit->Shared->Prop),Q' (.yield ⟨⟩) s->wpAny M A (f i ⟨⟩) Q' E s)->Q ⟨⟩ s->wpAny M A (forIn l ⟨⟩ f) Q E s:=by intro ah;induction ah with
|nil=>intro Q _ h;exact aa agx (wpAny_pure h)
|cons i r ih=>intro Q hf h;rw[agl];exact wpAny_bind (hf i _ (ih hf h))
theorem wp_run{m:anb}{N:Nat}{R:anb->Prop}{b:Bool}{Q:Option anb->Shared->Prop}(e:Ends N m R)(hN:N<=2 ^ 60)(ho:∀ m',R m'->m'.outcome=some (if b then .matched else .failed))(hq:∀ m',R m'->Q (if b then some m' else none) s) :
  wpAny M A (reRunToEnd m) Q E s:=by
 obtain⟨n,h1,h2,h3⟩:=e;unfold reRunToEnd;refine wpAny_bind (P_ (2 ^ 64) n (abj h1 (abj hN (abk rfl))) (ad0 _) h2 ?_);refine wpAny_bind (Qc (λi Q' qB=> ?_) ?_)
 ·split
  ·exact wpAny_bind (wpAny_rule (wpAny_pure qB))
  ·exact wpAny_pure qB
 ·refine aa (ho _ h3) ?_;have:=hq _ h3;induction b using aco
  ·exact wpAny_pure this
  ·exact wpAny_pure this
theorem wp_next(e:Ends N m (Found o))(hN:N<=2 ^ 60)(hq:match o with|some (a,b)=> ∀ m',Hit a b m'->Q (some m') s|none=>Q none s):wpAny M A (reRunToEnd m) Q E s:=by induction o using abt with
|none=>exact wp_run (b:=false) e hN (λm' h=>h) (λm' h=>hq)
|some p=>obtain⟨a,b⟩:=p;exact wp_run (b:=true) e hN (λm' h=>h.1) (λm' h=>hq m' h)
end Rx
end
section
open PySem PySem.Calls PySem.Spec PyProof.Rows PySem.W PySem.Builtin.Re
variable{W:Wd}
theorem qJ:Slot "re.Pattern" "search" "re.Pattern.search" :=
 .of (owner:= "re.Pattern") (n:= "search") (by(rewrite[typeLookup_type];refine aa builtinLookup_eq_fast ?_);kernel_rfl) (by decide +kernel) (by decide +kernel) (by decide +kernel)
  (by first|exact .inl (by decide +kernel)|exact .inr (by decide +kernel)) (by rw[isSubtype_type];kernel_rfl)
theorem o7:Slot "re.Pattern" "sub" "re.Pattern.sub" :=
 .of (owner:= "re.Pattern") (n:= "sub") (by(rewrite[typeLookup_type];refine aa builtinLookup_eq_fast ?_);kernel_rfl) (by decide +kernel) (by decide +kernel) (by decide +kernel)
  (by first|exact .inl (by decide +kernel)|exact .inr (by decide +kernel)) (by rw[isSubtype_type];kernel_rfl)
theorem nH:PlainAttrs "re.Pattern" :=
 ⟨⟨"object.__getattribute__",by(rewrite[typeLookup_type];refine aa builtinLookup_eq_fast ?_);kernel_rfl,by decide +kernel⟩,by(rewrite[typeLookup_type];refine aa builtinLookup_eq_fast ?_);kernel_rfl⟩
theorem Bw:typeOf (.builtin "re.Pattern.search")=pure (.type "method_descriptor"):=by refine(?_:builtinType _=_);refine aa builtinType_eq_fast ?_;kernel_rfl
theorem Bx:typeOf (.builtin "re.Pattern.sub")=pure (.type "method_descriptor"):=by refine(?_:builtinType _=_);refine aa builtinType_eq_fast ?_;kernel_rfl
theorem w6:entryFor table "re.Pattern.search" =some Builtin.«re.Pattern.search» :=entryFor_of_tree (by kernel_rfl)
theorem entry_sub:entryFor table "re.Pattern.sub" =some Builtin.«re.Pattern.sub» :=entryFor_of_tree (by kernel_rfl)
theorem vh:entryFor table "re.Pattern.sub.loop" =some Builtin.«re.Pattern.sub.loop» :=entryFor_of_tree (by kernel_rfl)
theorem ji:plainId "re.Pattern.sub.loop" =true:=by decide +kernel
theorem yI(a b:Value):argsOk "re.Pattern.search" ⟨[a,b],[]⟩:=by unfold argsOk;kernel_rfl
theorem Kq(a b c:Value):argsOk "re.Pattern.sub" ⟨[a,b,c],[]⟩:=by unfold argsOk;kernel_rfl
structure Fo(W:Wd)(P:Addr)(C:Array Nat):Prop where
 at_:∃ o fs,W.B.get? P=some o/\o.cls= .type "re.Pattern" /\o.dict=none/\o.data= .fields fs/\reRawNat (fs.getD 6 .none)=0/\reRawNat (fs.getD 2 .none)=0/\
  ∃ a oc k9 n,fs.getD 5 .none= .ref a/\W.B.get? a=some oc/\oc.data= .seq k9 n/\(k9.map reRawOf).map (·.toNat)=C
section
theorem Ow:reNamed "re.Pattern.search" f ["string","pos","endpos"] 1 [a] []=pure [some a,none,none]:=rfl
theorem J1(hp:Fo W P C)(hB:∀ b o,W.B.get? b=some o->s.heap.get? b=some o)
  (h:Q { pattern:= .ref P,string:= .str x t,code:=C,text:=x.cps,kind:=0,groups:=0,pos:=0,lim:=x.cps.size } s) (hx:x.length<=16777216) :
  wpAny (model W.prog W.w) A (reTarget "re.Pattern.search" "search" ⟨[.ref P,.str x t],[]⟩) Q E s:=by
 obtain⟨o,fs,h1,h2,_,h3,h4,h5,a,oc,k9,n,h6,h7,h8,h9⟩:=hp.at_;unfold reTarget;dsimp only;refine aa Ow ?_;refine wpAny_bind (wpAny_pure ?_);dsimp only;refine wpAny_bind (wpAny_pure ?_);refine wpAny_bind (wpAny_pure ?_);refine wpAny_bind (wpAny_fieldsOf (hB _ _ h1) h3 ?_);refine wpAny_bind (m:=reTextOf _) (wpAny_of_eq (a:=(x.cps,0)) rfl ?_);dsimp only;(refine aa h4 ?_;refine aa h5 ?_);simp only[beq_self_eq_true,aim,show((0:Nat)==1)=false from rfl,acp,if_false,ah4,ak7];refine wpAny_bind (wpAny_pure ?_);unfold reRawItems;refine aa h6 ?_;refine wpAny_bind (wpAny_bind (wpAny_seqItems (hB _ _ h7) h8 (wpAny_pure ?_)));refine wpAny_pure ?_;simp only[aet,h9];have e1:min (Int.toNat 0) x.cps.size=0:=by rfl
 have e2:min ((2 ^ 63 - 1:Int)).toNat x.cps.size=x.cps.size:=by have:x.cps.size<=16777216:=hx;exact Nat.min_eq_right (tl this (by decide +kernel))
 (refine aa e1 ?_;refine aa e2 ?_);exact h
theorem BV(hQ:∀ a h' o,(∀ b o,s.heap.get? b=some o->h'.get? b=some o)->s.heap.get? a=none->h'.get? a=some o->o.cls= .type "re.Match" ->Q (.ref a) { s with heap:=h' }) :
  wpAny (model W.prog W.w) A (reNewMatch (.ref P) (.str x t) 0 0 lim m) Q E s:=by
 delta reNewMatch;dsimp only;refine aa (show ai9 0=[]from rfl) ?_;refine aa List.any_nil ?_;refine aa (if_neg acb) ?_;refine aa ag8 ?_;refine wpAny_bind ?_;simp only[newTuple];refine wpAny_newObj_type ?_ (by size_fits);have k1:∀ b o,s.heap.get? b=some o->(s.heap.push { cls:= .type "tuple",data:= .seq [rawInt m.start,rawInt m.handed].toArray }).get? b=some o:=λb o e=>abr _ e;refine wpAny_newObj_type ?_ (by size_fits);refine hQ _ _ _ (λb o e=>abr _ (k1 b o e)) ?_ (ab4 _ rfl) rfl;induction e:s.heap.get? (s.heap.push { cls:= .type "tuple",data:= .seq [rawInt m.start,rawInt m.handed].toArray }).objs.size using abt with
|none=>rfl
|some o=>exact absurd (ado (k1 _ _ e)) (ahj _)
end
noncomputable def XX(T:String):Thing where
 P:=λ_ g h y vs=>vs=[]/\ ∃ a o,y= .ref a/\g.F a/\h.get? a=some o/\o.cls= .type T
 keep:=λW g h g' h' y vs hF hk ⟨e,a,o,ey,ha,ho,hc⟩=>⟨e,a,o,ey,hF a ha,hk a o ha ho,hc⟩
 ref:=λ_ _ _ _ _ ⟨_,a,_,e,_⟩=>⟨a,e⟩
noncomputable abbrev V.obj(T:String):V:= .raw (XX T) []
theorem VH:RV W g h (.obj T) y↔ ∃ a o,y= .ref a/\g.F a/\h.get? a=some o/\o.cls= .type T:=by
 skip
 constructor
 ·rintro⟨vs,⟨_,x⟩,_⟩;exact x
 ·intro x;exact⟨[],⟨rfl,x⟩,rfl⟩
theorem zM:(Rx.firstAt p T T.size (T.size+1) 0).isSome=T.toList.any p:=by induction e:Rx.firstAt p T T.size (T.size+1) 0 using abt with
|none=>
  have:=Rx.firstAt_none e (by lia);symm;(refine aa afq ?_;rw[aga]);intro c hc;obtain⟨i,hi,rfl⟩:=ac5 hc;have eA:i<T.size:=by simpa using hi
  have:=this i (ac4 _) eA;simp only[agv,ad6 eA,aet]at this;exact ne_true_of_eq_false this
|some a=>refine qz (Rx.firstAt_some e) λ_ h2 h3 _=> ?_;symm;(refine aa ajc ?_;rw[ag9]);simp only[agv,ad6 h2,aet]at h3;exact⟨T[a],by simp,h3⟩
def Ka(C:Array Nat)(p:Nat->Bool):Prop:= ∀ T:Array Nat,Rx.Ends 21 (afn C T 0 0 T.size false) (λm=>match Rx.firstAt p T T.size (T.size+1) 0 with|some a=>Rx.Hit a (a+1) m|none=>Rx.Miss m)
theorem yW(aI:Fo W P C)(hl:Ka C p)(hx:x.length<=16777216) :
  Call W k q (.builtin "re.Pattern.search") [] [.gl P,.str x] hp (if x.cps.toList.any p then .obj "re.Match" else .none) hp:=
 .of2 λcx g s y z Q E bl I r1 r2 hQ=>by obtain⟨t,rfl⟩:=aG r2;obtain⟨rfl,hP⟩:=r1;refine bT (id aI.at_) λo fs h1 h2 h3 _=> ?_;have hT:s.TypeIs (.ref P) "re.Pattern" :=⟨o,I.base _ _ h1,h2⟩;refine wpAny_call_entry qJ hT w6 ?_ (yI _ _);unfold Builtin.«re.Pattern.search»;refine wpAny_bind (J1 aI I.base ?_ hx);dsimp only;unfold reAnswer;have f3:=hl x.cps;have fR:=zM (p:=p) (T:=x.cps);revert f3 fR;induction e:Rx.firstAt p x.cps x.cps.size (x.cps.size+1) 0 using abt with
 |none=>intro f3 fR;rw[←fR]at hQ;dsimp only[afq,acp,if_false]at hQ;refine wpAny_bind (Rx.wp_run (b:=false) f3 (abz _ _) (λm' h=>h) λm' h=> ?_);exact wpAny_pure ⟨_,rfl,hQ g s .none (.refl I) of_none⟩|some a=>intro f3 fR;rw[←fR]at hQ;dsimp only[ajc,if_true]at hQ;refine wpAny_bind (Rx.wp_run (b:=true) f3 (abz _ _) (λm' h=>h.1) λm' h=> ?_);refine wpAny_bind (BV λa h' o hk ha ho hc=>wpAny_pure ?_);obtain⟨cr,K⟩:=aH.freeze (hn:=abm _) (n:=s.toks) (cx:=cx) I ha ho hk;exact⟨_,rfl,hQ _ _ _ cr (VH.mpr ⟨a,o,rfl,.inr rfl,ho,hc⟩)⟩
end
section
open PySem PySem.Calls PySem.Spec PyProof.Rows PySem.W PySem.Builtin.Re
variable{k:Nat}{q:Bool}{W:Wd}{fc:FC}{cx:Cx}{g g':Gh}{env ag:aj}{hp hp' hp₁ YC YQ:List Ob}{h h':Heap}{K:Frag}
structure q7(C:Array Nat)(x r:Str)(nx:Nat->Option (Nat×Nat))(out:Nat->List Nat)(N:Nat):Prop where
 run:∀ s,s<=x.cps.size->Rx.Ends N (afn C x.cps 0 s x.cps.size false) (Rx.Found (nx s))
 bnd:N<=2 ^ 60
 inc:∀ s a b,nx s=some (a,b)->s<=a/\a<b/\b<=x.cps.size
 hit:∀ s a b,s<=x.cps.size->nx s=some (a,b)->out s=(x.cps.toList.drop s).take (a - s)++r.cps.toList++out b
 miss:∀ s,s<=x.cps.size->nx s=none->out s=x.cps.toList.drop s
 len:(out 0).length<=16777216
 xlen:x.length<=1000000
noncomputable def flat(p:List (Str×Tok)):List Nat:=p.flatMap λy=>y.1.cps.toList
section
variable{A:Around}{E:Value->Shared->Prop}{s:Shared}{P:Addr}{C:Array Nat}{x r:Str}{t u:Tok}{nx:Nat->Option (Nat×Nat)}{out:Nat->List Nat}{N:Nat}{R:Result->Shared->Prop}
theorem BW(hp:Fo W P C)(hB:∀ b o,W.B.get? b=some o->s.heap.get? b=some o)
  (h:Q { pattern:= .ref P,string:= .str x t,code:=C,text:=x.cps,kind:=0,groups:=0,pos:=0,lim:=x.cps.size } s) :
  wpAny M A (reWholeTarget (.ref P) (.str x t)) Q E s:=by
 obtain⟨o,fs,h1,h2,_,h3,h4,h5,a,oc,k9,n,h6,h7,h8,h9⟩:=hp.at_;unfold reWholeTarget;refine wpAny_bind (wpAny_fieldsOf (hB _ _ h1) h3 ?_);refine wpAny_bind (m:=reTextOf _) (wpAny_of_eq (a:=(x.cps,0)) rfl ?_);dsimp only;(refine aa h4 ?_;refine aa h5 ?_);refine aa (if_neg (by decide)) ?_;refine aa (if_neg (by decide)) ?_;refine wpAny_bind (wpAny_pure ?_);unfold reRawItems;refine aa h6 ?_;refine wpAny_bind (wpAny_bind (wpAny_seqItems (hB _ _ h7) h8 (wpAny_pure ?_)));refine wpAny_pure ?_;refine aa (show(Option.getD (some k9) #[])=k9 from rfl) ?_;exact aa h9 h
theorem k_(T:Array Nat)(a b:Nat):(T.extract a b).toList=(T.toList.drop a).take (b - a):=ak9
theorem Jd:∀(p:List (Str×Tok))(fy:Str),fy.cps= #[]->(ala fy (p.map (·.1))).cps.toList=flat p:=by intro ah;induction ah with
|nil=>intro fy _;exact rfl
|cons a bi ih=>induction bi using abn with
 |nil=>intro fy _;simp[flat,ala]|cons b r=>intro fy h;have:=ih fy h;simp only[ab3,flat,agb]at this ⊢;refine aa (show ala fy (a.1::b.1::r.map (·.1))=a.1++fy++ala fy (b.1::r.map (·.1))from rfl) ?_;simp only[ag2,h,alr,adv];(exact aa this rfl)
theorem Qa(h:s.heap.get? S=some { cls:= .type "list",data:= .seq (strValues p).toArray c })(hs:fy.cps= #[])(hl:(flat p).length<=16777216)
  (hQ:∀ y t' tk,y.cps.toList=flat p->Q (.str y t') { s with toks:=tk }):wpAny (model W.prog W.w) A (call (.builtin "str.join") [.str fy v,.ref S]) Q E s:=by
 have em:fy.length=0:=by refine(?_:fy.cps.size=0);exact aa hs rfl
 have aT:aec ((p.map (·.1)).toArray.foldl (· + ·.length+fy.length) 0)=false:=by
  refine aa em ?_;have e:∀(p:List (Str×Tok))(n:Nat),(p.map (·.1)).foldl (λa (b:Str)=>a+b.length+0) n=n+(flat p).length:=by intro p;induction p with
  |nil=>intro n;rfl|cons a r ih=>intro n;(refine aa ab3 ?_;refine aa acd ?_;rw[ih]);simp only[flat,agb,afs];refine(?_:n+a.1.cps.size+0+_=_);simp;exact ain n a.fst.cps.size (amq (λa=>a.fst.cps.size) r).sum
  rw[List.foldl_toArray',e]
  ·simp[aec,sizeLine_eq];assumption
  ·rfl
 refine call_meets ajt (typeIs_str _ _ _) amz (amg _ _) (meets_str_join_list fy v S p aT) ⟨⟨_,h,rfl,_,rfl⟩,?_⟩;have ar:=joinFit_length aT;have hj:∀ l:List (Str×Tok),(ala fy (l.map (·.1))).cps.toList=flat l:=λl=>Jd l fy hs
 match p,ar,hQ with
|[],ar,hQ=>exact⟨ar,hQ _ _ _ (hj [])⟩
|[p],ar,hQ=>exact hQ _ _ s.toks (by simp[flat])
|a::b::r,ar,hQ=>exact⟨ar,hQ _ _ _ (by rw[StrLaws.glued_eq_join];exact hj _)⟩
theorem Pg(aI:Fo W P C)(sp:q7 C x r nx out N){S:Addr}(r_:W.B.get? S=none)
  (hR:∀ h' ow y t',(∀ b o,b≠S->s.heap.get? b=some o->h'.get? b=some o)->y.cps.toList=out 0->R (.ok (.ret (.str y t'))) { s with heap:=h',toks:=ow }) :
  ∀(n st:Nat)(h:Heap)(tk c cnt:Nat)(p:List (Str×Tok)),x.cps.size - st=n->st<=x.cps.size->(∀ b o,W.B.get? b=some o->h.get? b=some o)->(∀ b o,b≠S->s.heap.get? b=some o->h.get? b=some o)->
   h.get? S=some { cls:= .type "list",data:= .seq (strValues p).toArray c }->flat p++out st=out 0->p.length<=2 * st->
   codeAny (model W.prog W.w) A (.builtin "re.Pattern.sub.loop" ⟨[.ref P,.str x t,.str r u,rawInt 0,rawInt 0,rawInt cnt,rawInt st,rawInt st,.bool false,.ref S,.bool false],[]⟩) R { s with heap:=h,toks:=tk }:=by
 intro n;induction n using ait with
|ind n ih=>
  intro st h tk c cnt p hn er hB hk hS ec cw;refine codeAny_builtin vh ?_;rw[Around.under_plainId ji];unfold Builtin.«re.Pattern.sub.loop»;dsimp only[rawInt];refine wpAny_bind (BW aI hB ?_);have vr:∀(Q:Unit->Shared->Prop)(E:Value->Shared->Prop)(s:Shared),Q () s->wpAny (model W.prog W.w) A.in1 (reLiteralCannotBeTurned (.str r u)) Q E s:=by intro Q E s hq;unfold reLiteralCannotBeTurned;refine wpAny_bind (wpAny_of_eq (a:=some r) rfl ?_);exact wpAny_pure hq
  refine aa (if_pos (show((0:Int)==0)=true from rfl)) ?_;refine wpAny_bind (vr _ _ _ ?_);dsimp only;refine aa (if_neg (ne_true_of_eq_false rfl)) ?_;have BI:((st:Nat):Int).toNat=st:=by rfl
  refine aa BI ?_;unfold reNextFound;refine wpAny_bind (Rx.wp_next (sp.run st er) sp.bnd ?_);have CS:∀(p:List (Str×Tok)),flat p++out st=out 0->(flat p).length<=16777216:=λp e=>by have:=sp.len;rw[←e,afs]at this;exact afi this
  have rf:x.cps.size<=1000000:=sp.xlen;have n5:p.length+2<=2000002:=ab8 (abj cw (acu 2 (abj er rf))) 2;have f5:∀ p:List (Str×Tok),(strValues p).length=p.length:=λp=>by simp[strValues]
  induction hnx:nx st using abt with
 |some ab=>
   obtain⟨a,b⟩:=ab;refine bK (sp.inc st a b hnx) λi1 i2 i3=> ?_;have kz:=sp.hit st a b er hnx;intro m hm;obtain⟨_,DE,DC,_⟩:=hm;dsimp only;(refine aa DE ?_;refine aa DC ?_);have CB:(b==a)=false:=by simp;exact Nat.ne_of_lt' i2
   refine aa CB ?_;have kP:((afz r u) !=ag1)=true:=rfl;have last:∀(p':List (Str×Tok))(YF:Heap)(Zo Y_:Nat),(∀ b o,W.B.get? b=some o->YF.get? b=some o)->(∀ b o,b≠S->s.heap.get? b=some o->YF.get? b=some o)->
     YF.get? S=some { cls:= .type "list",data:= .seq (strValues p').toArray Y_ }->flat p'=flat p++(x.cps.toList.drop st).take (a - st)->p'.length<=p.length+1->
     wpAny (model W.prog W.w) A.in1 (updateSeq S (λx=>x.push (afz r u)) >>= λ_=>again (.builtin "re.Pattern.sub.loop" ⟨[.ref P,.str x t,.str r u,.int 0 0,.int 0 0,.int ((cnt:Int)+1) 0,.int b 0,.int b 0,.bool false,.ref S,.bool false],[]⟩))
      (λfin s'=>match fin with|.done f=>R (.ok f) s'|.again c'=>c'.quiet=true/\codeAny (model W.prog W.w) A c' R s') (λe s'=>R (.error e) s') { s with heap:=YF,toks:=Zo }:=by
    intro p' YF Zo Y_ A3 ZM Zb Zn ZW;refine wpAny_bind (wpAny_updateSeq Zb rfl ?_ (by(refine aa aci ?_;rewrite[f5];refine aa sizeLine_eq ?_);exact abj ZW (abj (acg _) (abj n5 (abk rfl)))) (by(rewrite[aiu];refine aa aci ?_;rewrite[f5];refine aa sizeLine_eq ?_);exact abj (adc ZW) (abj n5 (abk rfl))));refine wpAny_pure ⟨plainId_quiet ji _,?_⟩;refine aD (bQ (s:={ s with heap:=YF }) (λx=>x.push (afz r u)) Zb) λAV xD=> ?_;have e1:(strValues p').toArray.push (afz r u)=(strValues (p'++[(r,u)])).toArray:=by simp[strValues]
    rw[e1]at xD;have:=ih (x.cps.size - b) (hn▸aiy (aby (acj i1 i2) i3) (acj i1 i2)) b (YF.update S (aij λx=>x.push (afz r u))) Zo AV (cnt+1) (p'++[(r,u)]) rfl i3
     (λb' o e=>(afk _ _ (λq=>by rw[←q,r_]at e;injection e)).trans (A3 b' o e))
     (λb' o hb e=>(afk _ _ (afv hb)).trans (ZM b' o hb e)) xD ?_ (by rw[afs];exact abj (adc ZW) (abj (ab8 cw 2) (acu 2 (acj i1 i2))))
    ·have e2:((cnt+1:Nat):Int)=(cnt:Int)+1:=by rfl
     rw[e2]at this;exact this
    ·(refine aa (ach ec) ?_;refine aa kz ?_);simp only[flat,als,agb,ag8,adv]at Zn ⊢;refine aa Zn ?_;simp[adb]
   by_cases bq:st<a
   ·refine aa (if_pos bq) ?_;refine wpAny_bind ?_;unfold reSlice;rw[if_pos (by rfl)];refine wpAny_mkStr ?_ (by refine(?_:(x.cps.extract st a).size<=_);(refine aa ahs ?_;refine aa sizeLine_eq ?_);exact tl (abj (aje _ _) (abj (agi _ _) rf)) rfl);refine wpAny_bind (wpAny_updateSeq hS rfl ?_ (by(refine aa aci ?_;rewrite[f5];refine aa sizeLine_eq ?_);exact abj (ab0 _ 2) (abj n5 (abk rfl))) (by(rewrite[aiu];refine aa aci ?_;rewrite[f5];refine aa sizeLine_eq ?_);exact abj (acg _) (abj n5 (abk rfl))));refine aa (if_pos (show((0:Int)==0)=true from rfl)) ?_;refine wpAny_bind (wpAny_pure ?_);refine aa (if_pos kP) ?_;refine aD (bQ (s:={ s with heap:=h }) (λy=>y.push (afz ⟨x.cps.extract st a⟩ tk)) hS) λY_ Zb=> ?_;have e1:(strValues p).toArray.push (afz ⟨x.cps.extract st a⟩ tk)=(strValues (p++[(⟨x.cps.extract st a⟩,tk)])).toArray:=by simp[strValues]
    rw[e1]at Zb;refine last (p++[(⟨x.cps.extract st a⟩,tk)]) _ (tk+1) Y_ (λb' o e=>(afk _ _ (λq=>by rw[←q,r_]at e;injection e)).trans (hB b' o e))
     (λb' o hb e=>(afk _ _ (afv hb)).trans (hk b' o hb e)) Zb ?_ (by simp)
    simp[flat,k_]
   ·(refine aa (if_neg bq) ?_;refine aa (if_pos (show((0:Int)==0)=true from rfl)) ?_);refine wpAny_bind (wpAny_pure ?_);refine aa (if_pos kP) ?_;refine last p h tk c hB hk hS ?_ (acg _);have:a - st=0:=ags (aes bq);refine aa this ?_;simp
 |none=>
   have kz:=sp.miss st er hnx;dsimp only;have tail:∀(p':List (Str×Tok))(YF:Heap)(Zo Y_:Nat)(Kf:Value->Sem PySem.Fin),(∀ b o,b≠S->s.heap.get? b=some o->YF.get? b=some o)->
     YF.get? S=some { cls:= .type "list",data:= .seq (strValues p').toArray Y_ }->flat p'=out 0->(∀ v,Kf v=ret v)->
     wpAny (model W.prog W.w) A.in1 (reSlice x.cps 0 0 0 >>= λiS=>seqItems? (.ref S) >>= λk9=>if(k9.getD #[]).isEmpty=true then(pure iS >>= Kf)else(call (.builtin (if((0:Nat)==0)=true then "str.join" else "bytes.join")) [iS,.ref S] >>= Kf))
      (λfin s'=>match fin with|.done f=>R (.ok f) s'|.again c'=>c'.quiet=true/\codeAny (model W.prog W.w) A c' R s') (λe s'=>R (.error e) s') { s with heap:=YF,toks:=Zo }:=by
    intro p' YF Zo Y_ Kf ZM Zb Zn y7;unfold reSlice;rw[if_pos (by rfl)];refine wpAny_bind (wpAny_mkStr ?_ (by refine(?_:(x.cps.extract 0 0).size<=_);(refine aa ahs ?_;refine aa sizeLine_eq ?_);exact abj (aje _ _) (abj (af1 _ _) (ac4 _))));refine wpAny_bind (wpAny_seqItems Zb rfl ?_);have e0:(⟨x.cps.extract 0 0⟩:Str).cps= #[]:=by simp
    split
    ·rename_i he;have:p'=[]:=by
      have h2:(strValues p').toArray.isEmpty=true:=he;have h3:(strValues p').length=0:=by simpa using h2
      rw[f5]at h3;exact adp.mp h3
     subst this;refine wpAny_bind (wpAny_pure ?_);rw[y7];refine wpAny_pure (hR _ _ _ _ ZM ?_);(refine aa (ach Zn) ?_;refine aa e0 ?_);rfl
    ·rw[if_pos (by rfl)];refine wpAny_bind (Qa Zb e0 (by exact aa Zn sp.len) λy t' ow hy=> ?_);rw[y7];exact wpAny_pure (hR _ _ _ _ ZM (hy.trans Zn))
   by_cases bq:st<x.cps.size
   ·refine aa (if_pos bq) ?_;refine wpAny_bind ?_;refine aa (show reSlice x.cps 0 st x.cps.size=mkStr ⟨x.cps.extract st x.cps.size⟩from rfl) ?_;refine wpAny_mkStr ?_ (by refine(?_:(x.cps.extract st x.cps.size).size<=_);(refine aa ahs ?_;refine aa sizeLine_eq ?_);exact tl (abj (aje _ _) (abj (agi _ _) rf)) rfl);refine wpAny_bind (wpAny_updateSeq hS rfl ?_ (by(refine aa aci ?_;rewrite[f5];refine aa sizeLine_eq ?_);exact abj (ab0 _ 2) (abj n5 (abk rfl))) (by(rewrite[aiu];refine aa aci ?_;rewrite[f5];refine aa sizeLine_eq ?_);exact abj (acg _) (abj n5 (abk rfl))));refine aD (bQ (s:={ s with heap:=h }) (λy=>y.push (afz ⟨x.cps.extract st x.cps.size⟩ tk)) hS) λY_ Zb=> ?_;have e1:(strValues p).toArray.push (afz ⟨x.cps.extract st x.cps.size⟩ tk)=(strValues (p++[(⟨x.cps.extract st x.cps.size⟩,tk)])).toArray:=by simp[strValues]
    rw[e1]at Zb;refine tail (p++[(⟨x.cps.extract st x.cps.size⟩,tk)]) _ (tk+1) Y_ _ (λb' o hb e=>(afk _ _ (afv hb)).trans (hk b' o hb e)) Zb ?_ (λv=>if_neg (by simp));(refine aa (ach ec) ?_;refine aa kz ?_);have e2:(x.cps.extract st x.cps.size).toList=x.cps.toList.drop st:=by(rewrite[k_];exact aa (adm (by simp)) rfl)
    simp only[flat,als,agb,ag8,adv,e2]
   ·refine aa (if_neg bq) ?_;refine tail p h tk c _ hk hS ?_ (λv=>if_neg (by simp));(refine aa (ach ec) ?_;refine aa kz ?_;refine aa (akh (by simp;exact aes bq)) ?_);simp
theorem Ew:typeLookup (.type "str") "__call__" =pure none:=by(rewrite[typeLookup_type];refine aa builtinLookup_eq_fast ?_);kernel_rfl
theorem vC(h:Q none s):wpAny M A (specialOf (.str x t) "__call__") Q E s:=wpAny_specialOf (typeIs_str _ _ _) Ew h
theorem Ei:reNamed "re.Pattern.sub" "sub" ["repl","string","count"] 2 [a,b] []=pure [some a,some b,none]:=rfl
end
theorem yZ(aI:Fo W P C)(sp:q7 C x r nx out N)(hr:r.cps.contains 92=false)(hy:y.cps.toList=out 0) :
  Call W k q (.builtin "re.Pattern.sub") [] [.gl P,.str r,.str x] hp (.str y) hp:=
 .of3 λcx g s a b c Q E bl I r1 r2 r3 hQ=>by
  obtain⟨u,rfl⟩:=aG r2;obtain⟨t,rfl⟩:=aG r3;obtain⟨rfl,hP⟩:=r1;refine bT (id aI.at_) λo fs h1 h2 h3 _=> ?_;have hT:s.TypeIs (.ref P) "re.Pattern" :=⟨o,I.base _ _ h1,h2⟩;refine wpAny_with_toks (abm _) ?_;refine wpAny_call (codeAny_call_builtin o7.plain entry_sub (o7.check _ _ _ _ _ _ _ _ hT (Kq _ _ _) ?_));refine(?_:wpAny _ _ (reSubstitute "re.Pattern.sub" "sub" false ⟨[.ref P,.str r u,.str x t],[]⟩) _ _ _);unfold reSubstitute;dsimp only;refine aa Ei ?_;refine wpAny_bind (wpAny_pure ?_);dsimp only;refine wpAny_bind (wpAny_pure ?_);refine wpAny_bind (vC ?_);refine aa (if_neg (by decide)) ?_;refine wpAny_bind (wpAny_of_eq (a:=some r) rfl ?_);dsimp only;refine aa hr ?_;refine wpAny_bind (wpAny_pure ?_);refine aa (if_neg (by decide)) ?_;refine aa (if_pos (by decide)) ?_;refine wpAny_bind (wpAny_pure ?_);dsimp only;refine wpAny_bind (wpAny_holding (BW aI I.base ?_));refine aa (if_neg (by decide)) ?_;refine wpAny_bind (wpAny_newObj_type ?_);refine wpAny_pure ⟨plainId_quiet ji _,?_⟩;have hS:=ab4 s.heap (o:={ cls:= .type "list",data:= .seq ([]:List Value).toArray }) rfl;have hk:∀ b o,s.heap.get? b=some o->(s.heap.push { cls:= .type "list",data:= .seq ([]:List Value).toArray }).get? b=some o:=λb o e=>abr _ e;have r_:W.B.get? s.heap.objs.size=none:=by induction e:W.B.get? s.heap.objs.size using abt with
  |none=>rfl|some o=>have:=I.base _ o e;rw[aK]at this;injection this
  refine Pg (s:=s) (nx:=nx) (out:=out) (N:=N) aI sp r_ (λh' ow z t' gI hz hn=> ?_) x.cps.size 0 _ s.toks 0 0 [] (akg _) (ac4 _) (λb o e=>hk _ _ (I.base b o e)) (λb o _ e=>hk b o e) hS rfl (ac4 _);have e:z=y:=by induction z using agy;induction y using agy;simp only at hz hy;congr 1;exact aj5.mp (hz.trans hy.symm)
  subst e;have cr:aH W cx g s hp g { s with heap:=h',toks:=ow }:=aH.ext I (λb o e=>gI b o (λq=>by rw[q,aK]at e;injection e) e) hn;exact hQ g _ _ cr bx
end
section
open PySem PySem.Calls PySem.Spec PyProof.Rows PySem.W PySem.Builtin.Re
variable{k:Nat}{q:Bool}{W:Wd}{fc:FC}{cx:Cx}{g g':Gh}{env ag:aj}{hp hp' hp₁ YC YQ:List Ob}{h h':Heap}{K:Frag}
noncomputable def crlf:List Nat->List Nat
|[]=>[]
|c::r=>if c=13/\r.head? =some 10 then crlf r else if c=13\/c=10 then 13::10::crlf r else c::crlf r
noncomputable def dots:Bool->List Nat->List Nat
|_,[]=>[]
|b,c::r=>if b/\c=46 then 46::46::dots false r else c::dots (c=10) r
theorem Dd:crlf []=[]:=rfl
theorem fH(r:List Nat):crlf (13::10::r)=13::10::crlf r:=rfl
theorem gn(c:Nat)(r:List Nat)(h:c=13->r.head? ≠some 10):crlf (c::r)=if c=13\/c=10 then 13::10::crlf r else c::crlf r:=if_neg λe=>h e.1 e.2
theorem vO(r:List Nat):crlf (10::r)=13::10::crlf r:=by exact aa (gn 10 r (λh=>by lia)) rfl
theorem zr(r:List Nat)(h:r.head? ≠some 10):crlf (13::r)=13::10::crlf r:=by exact aa (gn 13 r (λ_=>h)) rfl
theorem De(c:Nat)(r:List Nat)(h:Rx.isNl c=false):crlf (c::r)=c::crlf r:=by simp only[Rx.isNl,alb,beq_eq_false_iff_ne]at h;(refine aa (gn c r (λe=>absurd e h.2)) ?_;exact aa (if_neg (by exact(λ{p q}=>not_or.mpr) (id (And.symm h)))) rfl)
theorem tE:∀(p r:List Nat),(∀ c∈p,Rx.isNl c=false)->crlf (p++r)=p++crlf r:=by intro ah;induction ah with
|nil=>intro r _;exact rfl
|cons c p ih=>intro r h;(refine aa adu ?_;refine aa (De c _ (h c abq)) ?_;refine aa (ih r λd hd=>h d (abl _ hd)) ?_);rfl
theorem jx(l:List Nat):(crlf l).length<=2 * l.length:=by
 have:∀ n (l:List Nat),l.length=n->(crlf l).length<=2 * l.length:=by intro n;induction n using ait with
 |ind n ih=>intro l hn;induction l using abn with
  |nil=>exact abm _|cons c r=>
    by_cases h:c=13/\r.head? =some 10
    ·obtain⟨rfl,h⟩:=h;induction r using abn with
    |nil=>exact abm _|cons d r=>simp at h;subst h;rw[fH];exact abj (ab8 (ih r.length (hn▸af8 (aej _)) r rfl) 2) (ab0 _ 2)
    ·rw[gn c r (λe1 e2=>h ⟨e1,e2⟩)];have:=ih r.length (by simp at hn;exact ab2 hn) r rfl
     split
     ·exact ab8 this 2
     ·exact adk (ab8 this 1)
 exact this _ l rfl
theorem getD_list(T:Array Nat)(i:Nat):T.getD i 0=T.toList.getD i 0:=arr_getD_list T i
theorem n6{L:List Nat}(h:a<L.length):L.drop a=L.getD a 0::L.drop (a+1):=by refine aa (ahc h) ?_;simp[aee,abu h]
theorem uC{L:List Nat}(h:s<=a):L.drop s=(L.drop s).take (a - s)++L.drop a:=by
 have:L.drop a=(L.drop s).drop (a - s):=by refine aa an3 ?_;congr 1;exact ach (Nat.add_sub_of_le h)
 (refine aa this ?_;rw[akt])
theorem pW{s a j n:Nat}(h:j<min (a - s) (n - s)):s+j<a/\s+j<n:=⟨aku (aby h (af1 _ _)),aku (aby h (agi _ _))⟩
theorem G5{L:List Nat}(h:c∈(L.drop s).take (a - s)):∃ i,s<=i/\i<a/\i<L.length/\L.getD i 0=c:=by obtain⟨j,hj,e⟩:=ac5 h;rw[aeh,ae6]at hj;refine⟨s+j,by exact ab0 _ _,(pW hj).1,(pW hj).2,?_⟩;refine aa (ach e) ?_;simp[aee,aju,amr,abu (pW hj).2]
theorem V0(hx:x.length<=1000000):q7 Rx.nlCode x (Mi "\r\n") (Rx.nlNext x.cps) (λs=>crlf (x.cps.toList.drop s)) 21:=by
 have hl:x.cps.size=x.cps.toList.length:=by simp
 refine⟨λs _=>Rx.search_nl x.cps s,by exact abz _ _,λs a b e=> ?_,λs a b hs e=> ?_,λs hs e=> ?_,?_,hx⟩
 ·unfold Rx.nlNext at e;refine ak (adl.mp e) λa' h1 h2=> ?_;cases h2;refine qz (Rx.firstAt_some h1) λh3 h4 _ _=> ?_
  by_cases h7:x.cps.getD a 0=13/\a+1<x.cps.size/\x.cps.getD (a+1) 0=10
  ·exact aa (if_pos h7) ⟨h3,aew (by decide),h7.2.1⟩
  ·exact aa (if_neg h7) ⟨h3,aej _,h4⟩
 ·unfold Rx.nlNext at e;refine ak (adl.mp e) λa' h1 h2=> ?_;cases h2;refine qz (Rx.firstAt_some h1) λh3 h4 h5 h6=> ?_;have hr:(Mi "\r\n").cps.toList=[13,10]:=by decide +kernel
  refine aa hr ?_;refine(?_:crlf (x.cps.toList.drop s)=_);rw[uC (L:=x.cps.toList) h3,tE _ _ λc hc=>by(refine Ml (G5 hc) λi i1 i2 i3 dn=> ?_;obtain rfl:=dn);rw[←getD_list];exact h6 i i1 i2];(refine aa (ach (uC (L:=x.cps.toList) h3)) ?_;rw[adb]);congr 1;rw[n6 (by exact aa (ach hl) h4)];rw[getD_list]at h5;simp only[getD_list]at h5 ⊢;simp only[Rx.isNl,aef,beq_iff_eq]at h5;rcases h5 with h5|h5
  ·(refine aa h5 ?_;refine aa (if_neg (of_decide_eq_false rfl)) ?_;rw[vO]);rfl
  ·refine aa h5 ?_
   by_cases h7:a+1<x.cps.size/\x.cps.toList.getD (a+1) 0=10
   ·rw[if_pos ⟨rfl,h7⟩,n6 (by exact aa (ach hl) h7.1),h7.2,fH];rfl
   ·rw[if_neg (λz=>h7 z.2),zr]
    ·rfl
    ·intro z;apply h7;rw[af2]at z;have h8:=(abw.mp z);obtain⟨h9,kK⟩:=h8;refine⟨by exact aa hl h9,?_⟩;simp[aee,abu h9,kK]
 ·unfold Rx.nlNext at e;have h1:Rx.firstAt Rx.isNl x.cps x.cps.size (x.cps.size+1 - s) s=none:=(λ{α}{x}{α_1}{f}=>aki.mp) e;have h2:=Rx.firstAt_none h1 (akj.mp (aip (acg _) _));have:=tE (x.cps.toList.drop s) [] λc hc=>by
   have fe:c∈(x.cps.toList.drop s).take (x.cps.size - s):=by rw[adm (by(refine aa ae6 ?_;refine aa hl ?_);exact abm _)];exact hc
   (refine Ml (G5 fe) λi i1 i2 i3 dn=> ?_;obtain rfl:=dn);rw[←getD_list];exact h2 i i1 i2
  simpa[Dd]using this
 ·exact abj (jx (x.cps.toList.drop 0)) (abj (acu 2 hx) (abk rfl))
theorem vR(b:Bool)(c:Nat)(r:List Nat):dots b (c::r)=if b/\c=46 then 46::46::dots false r else c::dots (c=10) r:=rfl
theorem Lq:∀(p r:List Nat)(b:Bool),(∀ i c,p[i]? =some c-> ¬((if i=0 then b=true else p[i - 1]? =some 10)/\c=46))->dots b (p++r)=p++dots (if p=[]then b else decide (p.getLast? =some 10)) r:=by intro ah;induction ah with
|nil=>intro r b _;rfl
|cons c p ih=>
  intro r b h;have h0:=h 0 c rfl;simp only[if_true]at h0;refine aa adu ?_;rw[vR,if_neg (by assumption),ih r (decide (c=10)) λi d hd=> ?_]at ⊢
  ·induction p using abn with
  |nil=>simp|cons e p=>rfl
  ·have:=h (i+1) d (by simpa using hd);induction i using acw with
  |zero=>simpa using this|succ i=>assumption
theorem tG:∀(l:List Nat)(b:Bool),(dots b l).length<=2 * l.length:=by intro ah;induction ah with
|nil=>intro b;exact abm _
|cons c r ih=>
  intro b;rw[vR]
  split
  ·exact ab8 (ih false) 2
  ·exact adk (ab8 (ih (decide (c=10))) 1)
noncomputable def atHead(L:List Nat)(s:Nat):Bool:=s==0||L.getD (s - 1) 0==10
theorem nZ:∀{n s a b:Nat},Rx.dotScan T n s=some (a,b)->b=a+1/\s<=a/\a<T.size/\Rx.dotAt T a=true/\ ∀ i,s<=i->i<a->Rx.dotAt T i=false:=by intro ah;induction ah with
|zero=>intro _ _ _ e;exact(Qg e).elim
|succ n ih=>
  intro s a b e;have e:(if s>=T.size then none else if Rx.dotAt T s then some (s,s+1)else Rx.dotScan T n (s+1))=_:=e
  split at e
  ·injection e
  ·split at e
   ·rename_i h1 h2;cases e;exact⟨rfl,abm _,by exact aik h1,h2,λi h3 h4=>by exact absurd h3 (aeu h4)⟩
   ·rename_i h1 h2;refine n8 (ih e) λh3 h4 h5 h6 h7=> ?_;refine⟨h3,by exact adz h4,h5,h6,λi h8 h9=> ?_⟩
    by_cases hi:i=s
    ·subst hi;simpa using h2
    ·exact h7 i (aft h8 (afv hi)) h9
theorem w5:∀{n s:Nat},Rx.dotScan T n s=none->T.size<=s+n-> ∀ i,s<=i->i<T.size->Rx.dotAt T i=false:=by intro ah;induction ah with
|zero=>intro s _ h i h1 h2;exact absurd h2 (ae5 (abj h h1))
|succ n ih=>
  intro s e h i h1 h2;have e:(if s>=T.size then none else if Rx.dotAt T s then some (s,s+1)else Rx.dotScan T n (s+1))=_:=e
  split at e
  ·rename_i h3;exact absurd (acj h1 h2) (ae5 h3)
  ·split at e
   ·injection e
   ·rename_i h3 h4
    by_cases hi:i=s
    ·subst hi;simpa using h4
    ·exact ih e (abj h (ab2 (ab9 s n).symm)) i (aft h1 (afv hi)) h2
theorem run_get{L:List Nat}(e:((L.drop s).take (a - s))[i]? =some c):s+i<a/\s+i<L.length/\L.getD (s+i) 0=c:=by obtain⟨hi,e⟩:=abw.mp e;rw[aeh,ae6]at hi;refine⟨(pW hi).1,(pW hi).2,?_⟩;refine aa (ach e) ?_;simp[aee,aju,amr,abu (pW hi).2]
theorem zx(hs:s<=a)(ha:a<=T.size)(h:∀ i,s<=i->i<a->Rx.dotAt T i=false)(r:List Nat) :
  dots (atHead T.toList s) ((T.toList.drop s).take (a - s)++r)=(T.toList.drop s).take (a - s)++dots (atHead T.toList a) r:=by
 rw[Lq]
 ·congr 2
  by_cases he:s=a
  ·subst he;simp
  ·have bq:s<a:=aft hs he;have ar:((T.toList.drop s).take (a - s)).length=a - s:=by rw[aeh,ae6];exact ako (aip (by simpa using ha) s)
   have dv:(T.toList.drop s).take (a - s)≠[]:=λz=>aie bq (ar.symm.trans (congrArg apd z));refine aa (if_neg dv) ?_;have hg:((T.toList.drop s).take (a - s)).getLast? =some (T.toList.getD (a - 1) 0):=by(refine aa (ahe) ?_;refine aa ar ?_);induction e:((T.toList.drop s).take (a - s))[a - s - 1]? using abt with
   |none=>rw[ahd,ar]at e;exact absurd e (aeu (Nat.sub_lt (ajv bq) Nat.one_pos))|some c=>refine bK (run_get e) λ_ _ h3=> ?_;refine aa (ach h3) ?_;rw[←ams (ajv bq),aiz hs]
   refine aa hg ?_;delta atHead;have:(a==0)=false:=beq_eq_false_iff_ne.mpr (ahz (acj (ac4 _) bq));refine aa this ?_;simp only[aod,ae1];induction hd:(T.toList.getD (a - 1) 0==10)using aco
   ·assumption
   ·assumption
 ·intro i c hc hh;refine bK (run_get hc) λh1 h2 h3=> ?_;have h4:=h (s+i) (ab0 _ _) h1;obtain⟨h5,rfl⟩:=hh;unfold Rx.dotAt at h4;rw[getD_list,getD_list,h3]at h4;simp only[beq_self_eq_true,ahk,alb]at h4
  by_cases hi:i=0
  ·subst hi;dsimp only[if_true,atHead]at h5;dsimp only[ah7]at h4;rw[h4.1,h4.2]at h5;injection h5
  ·rw[if_neg hi]at h5;refine bK (run_get h5) λ_ _ h6=> ?_;have:s+i - 1=s+(i - 1):=ams (al7 hi) s;rw[this,h6]at h4;simp at h4
theorem S7(hx:x.length<=1000000):q7 Rx.dotCode x (Mi "..") (Rx.dotNext x.cps) (λs=>dots (atHead x.cps.toList s) (x.cps.toList.drop s)) (6 * x.cps.size+12):=by
 have hl:x.cps.size=x.cps.toList.length:=by simp
 have f8:x.cps.size<=1000000:=hx;refine⟨λs hs=>Rx.search_dot x.cps s hs,abj (ab8 (acu 6 f8) 12) (abk rfl),λs a b e=> ?_,λs a b hs e=> ?_,λs hs e=> ?_,?_,hx⟩
 ·obtain⟨rfl,h2,h3,_,_⟩:=nZ e;exact⟨h2,aej _,h3⟩
 ·obtain⟨rfl,h2,h3,h4,h5⟩:=nZ e;have hr:(Mi "..").cps.toList=[46,46]:=by decide +kernel
  refine aa hr ?_;refine(?_:dots (atHead x.cps.toList s) (x.cps.toList.drop s)=_)
  conv=>lhs;rw[uC (L:=x.cps.toList) h2]
  rw[zx h2 (adz h3) h5,adb];congr 1;rw[n6 (by exact aa (ach hl) h3)];unfold Rx.dotAt at h4;rw[getD_list,getD_list]at h4;simp only[ab1,beq_iff_eq]at h4;have hh:atHead x.cps.toList a=true:=by unfold atHead;exact h4.1
  (refine aa h4.2 ?_;refine aa hh ?_);have hn:atHead x.cps.toList (a+1)=false:=by
   unfold atHead;have:a+1 - 1=a:=by rfl
   (refine aa this ?_;refine aa h4.2 ?_);rfl
  exact aa hn rfl
 ·have h2:=w5 e (akj.mp (aip (acg _) _));have:=zx (T:=x.cps) (s:=s) (a:=x.cps.size) hs (abm _) (λi h1 h3=>h2 i h1 h3) [];have e2:(x.cps.toList.drop s).take (x.cps.size - s)=x.cps.toList.drop s:=adm (by(refine aa ae6 ?_;refine aa hl ?_);exact abm _);rw[e2]at this;simpa[show ∀ b,dots b []=[]from λ_=>rfl]using this
 ·exact abj (tG (x.cps.toList.drop 0) (atHead x.cps.toList 0)) (abj (acu 2 hx) (abk rfl))
end
section
variable{k:Nat}{q:Bool}{W:Wd}{fc:FC}{cx:Cx}{g g':Gh}{env ag:aj}{hp hp' hp₁ YC YQ:List Ob}{h h':Heap}
theorem dm{o:Ob}{l:List Ob}{i:Nat}(h:hp[i]? =some o):(hp++l)[i]? =some o:=by refine aa (ael (abw.mp h).1) ?_;exact h
theorem cz:(hp++[o])[hp.length]? =some o:=ai1
theorem get_set{o o':Ob}{i:Nat}(h:hp[i]? =some o'):(hp.set i o)[i]? =some o:=by(refine aa (aj9 (abw.mp h).1) ?_;rfl)
theorem tZ{o o':Ob}{i j:Nat}(C4:j≠i)(h:hp[i]? =some o):(hp.set j o')[i]? =some o:=by refine aa (akz C4) ?_;exact h
theorem Lj{K:Type}[DecidableEq K]{knd:aep W.prog W.w K}{x:V}{ks:List K}{vs:List V}(d:Tv W knd hp x ks vs):∀(g:Gh)(s:Shared)(y:Value),Inv W g hp s.heap->RV W g s.heap x y->s.TypeIs y "dict" /\ ∀ a,y= .ref a-> ∃ ob,s.heap.get? a=some ob/\ob.dict=none:=λg s y I r=>by obtain⟨a,ys,rfl,_,_,hm,_⟩:=d g _ y I r;refine⟨hm.typeIs,λb e=> ?_⟩;cases e;exact hm.mapOf.noDict a rfl
theorem Vx{C:Addr}{T:String}{y:Value}{o:Obj}(ho:W.B.get? C=some o)(hc:o.cls= .type T)(hd:o.dict=none):∀(g:Gh)(hp:List Ob)(s:Shared)(y:Value),Inv W g hp s.heap->RV W g s.heap (.gl C) y->s.TypeIs y T/\ ∀ a,y= .ref a-> ∃ ob,s.heap.get? a=some ob/\ob.dict=none:=λg hp s y I r=>by obtain⟨rfl,_⟩:=r;exact⟨⟨o,I.base _ _ ho,hc⟩,λa e=>by cases e;exact⟨o,I.base _ _ ho,hd⟩⟩
theorem Fo.hT{P:Addr}{C:Array Nat}(aI:Fo W P C):∀(g:Gh)(hp:List Ob)(s:Shared)(y:Value),Inv W g hp s.heap->RV W g s.heap (.gl P) y->s.TypeIs y "re.Pattern" /\ ∀ a,y= .ref a-> ∃ ob,s.heap.get? a=some ob/\ob.dict=none:=by refine bT aI.at_ λo fs h1 h2 h3 _=> ?_;exact λg hp s y I r=>Vx (y:=y) h1 h2 h3 g hp s y I r
section
theorem My(he:bh ag env)(x:cU W fc ag hp l o):cU W fc env hp l o:= .mk λcx g s Q E P t0 hQ=>x.go cx g s Q E (P.weaken he) t0 hQ
inductive vI{σ:Type}(W:Wd)(fc:FC)(hp:List Ob)(aE:Expr)(body:List Stmt)(P:σ->Prop)(en res:σ->aj)(μ:σ->Nat)(s:σ):Prop
|stop (a:g8 W fc (en s) hp aE false hp) (b:bh (res s) (en s))
|next {e₂:aj} (s':σ) (a:g8 W fc (en s) hp aE true hp) (b:cU W fc (en s) hp body (.next e₂ hp)) (c:bh (en s') e₂) (d:P s') (e:μ s'<μ s) (f:res s'=res s)
|brk {e₂:aj} (a:g8 W fc (en s) hp aE true hp) (b:cU W fc (en s) hp body (.brk e₂ hp)) (c:bh (res s) e₂)
theorem Fd{σ:Type}{P:σ->Prop}{en res:σ->aj}{μ:σ->Nat}{aE:Expr}{body:List Stmt}(H:∀ s,P s->vI W fc hp aE body P en res μ s) :
  ∀(n:Nat)(s:σ),μ s=n->P s-> ∃ e',kh W fc aE body (en s) hp (.next e' hp)/\bh (res s) e':=by
 intro n;induction n using ait with
|ind n ih=>intro s hs hP;induction H s hP using vI.casesOn with
 |stop h1 h2=>exact⟨_,.stop h1,h2⟩|next s' h1 h2 h3 h4 h5 h6=>refine ak (ih (μ s') (hs▸h5) s' rfl h4) λe' t l=> ?_;exact⟨e',.next h1 h2 (.less h3 t),h6▸l⟩|brk h1 h2 h3=>exact⟨_,.brk h1 h2,h3⟩
theorem I2{σ:Type}{P:σ->Prop}{en res:σ->aj}{μ:σ->Nat}{s:σ}{aE:Expr}{body rest:List Stmt}{pos:Pos}{o:Out}(hP:P s)(he:en s=env)
  (H:∀ s,P s->vI W fc hp aE body P en res μ s) (hr:cU W fc (res s) hp rest o):cU W fc env hp (.While aE body [] pos::rest) o:=by
 subst he;refine ak (Fd H _ s rfl hP) λe' t l=> ?_;exact gq (Mw t) (My l hr)
end
end
section
theorem Q8(hg:Gn W fc e (.str x t)):Ev W fc env hp e (.str x) hp:= .mk λcx g s Q E P t0 hQ=>hg.go env hp cx g s Q E P (hQ g s _ (.refl P) bx)
theorem O1(r:aQ W g h vs ys):∀ n:Nat,aQ W g h (adn n vs).flatten (adn n ys).flatten:=by intro ah;induction ah with
|zero=>exact rfl
|succ n ih=>simp only[alu,amt];exact r.append (ih)
theorem wO{n:Int}(la:Lst hp a xs)(h0:0<=n)(h1:n<=1000000)(hl:xs.length * n.toNat<=16777216):uP W fc env hp .Mult a (.int n) (.lst (adn n.toNat xs).flatten) hp:=
 .of λcx g s y z Q E bl I ra rb hQ=>by
  (refine au (la.at I ra) λl vs an ez rs=> ?_;obtain rfl:=an;obtain⟨k,ho⟩:=ez);obtain⟨u,rfl⟩:=aA rb;have mS:vs.toArray.size * n.toNat<=16777216:=by simpa[rs.length]using hl
  have e0:sizeLine=16777216:=sizeLine_eq;refine wpAny_binaryOp_repeat_ref (T:= "list") (U:= "int") (by decide) ⟨_,ho,rfl⟩ (λs'=>typeIs_int s' n u) noFill_list_mul F.fills_int_mul ani repeat_list F.slot_int_index.lookup
   (call_meets ani (typeIs_int s n u) F.entry_int_rmul (F.args_int_rmul_2 _ _) (lm_int_rmul_list_any n u l vs.toArray k none #[])
    ⟨ho,rfl,⟨_,ho,rfl⟩,call_meets F.slot_list_mul ⟨_,ho,rfl⟩ F.entry_list_mul (F.args_list_mul_2 _ _)
     (lm_list_mul_any l vs.toArray k none #[] n u (by simp[an4];exact⟨acr (by decide) h0,ad1 h1 (by decide)⟩) (aem.mpr (tl mS rfl)) (by simp only[ahl,decide_eq_true_eq];exact(λ{a b}=>aem.mpr) mS))
     ⟨ho,?_⟩⟩)
  rw[listMul_foldl_if];have hn:=ab4 s.heap (o:={ cls:=Value.type "list",data:=Data.seq (adn n.toNat vs).flatten.toArray }) rfl;obtain⟨r,K⟩:=aH.freeze (hn:=abm _) (cx:=cx) (n:=s.toks) I aK hn (λb o e=>abr _ e);refine hQ _ _ _ r ?_;exact⟨_,_,rfl,.inr rfl,⟨0,hn⟩,(O1 rs _).keep K⟩
theorem Nf(t:pD xs l):∀{ys:List Value},aQ W g h xs ys-> ∃ zs:List (Int×Tok),ys.toArray=intItems zs.toArray/\zs.map (·.1)=l:=by intro ys r;have hi:=zX t r;clear r t;induction hi with
|nil=>exact⟨[],by simp[intItems],rfl⟩
|cons n t _ ih=>refine ak ih λzs e hz=> ?_;refine⟨(n,t)::zs,?_,by simp[hz]⟩;have e':=congrArg Array.toList e;simp[intItems]at e' ⊢;exact e'
theorem uX(lx:Lst hp x xs)(t:pD xs l):Call W k true (.builtin "sum") [] [x] hp (.int l.sum) hp:=
 .of1 λcx g s y Q E bl I r1 hQ=>by(refine au (lx.at I r1) λa vs an ho rs=> ?_;obtain rfl:=an);refine ak (Nf t rs) λzs e hz=> ?_;rw[e]at ho;refine wpAny_with_toks (abm _) (sum_intListG (jK bl) ho.isList λh' tk t' hk ht=> ?_);refine hQ g _ _ (.ext I hk ht) ?_;(rewrite[preSum_eq];refine aa (adm (by simp)) ?_);simp only[hz];exact cA
end
section
theorem Ss{K:Type}[DecidableEq K]:∀(ks:List K)(vs:List V)(x:K)(v:V),(putK ks vs x v).2.length<=vs.length+1:=by intro ks;induction ks with
|nil=>intro vs x v;induction vs using abn<;>exact ab2 afs
|cons a ks ih=>intro vs x v;induction vs using abn with
 |nil=>exact abm _|cons b vs=>
   have:=ih vs x v
   by_cases e:a=x
   ·subst e;exact aa Eh (acg _)
   ·exact aa (Eg e) (adc this)
theorem RZ{α:Type}{t:Sem α}{Q:α->Shared->Prop}(hx:wpAny M A (letOwnedTupleGo (.Name xn px) it y) (λ_ Yv=>wpAny M A t Q E Yv) E' s):wpAny M A t Q E s:=
 fun Γ p hΓ =>(hx Γ p hΓ) Γ p hΓ
class inductive dB(W:Wd)(fc:FC)(ok:List Ob->Prop)(ac:Expr)(kx vx:Expr):aj->List Ob->List V->List Int->List V->List Int->List V->List Ob->Prop
|nil {e:aj} {q:List Ob} {ks:List Int} {us:List V}:dB W fc ok ac kx vx e q [] ks us ks us q
|take {e YB:aj} {q YD YG Za q':List Ob} {v u:V} {n:Int} {vs us kH:List V} {ks kG:List Int}:gW W fc e q ac v YB YD->Ev W fc YB YD kx (.int n) YG->Ev W fc YB YG vx u Za->ok Za->
   dB W fc ok ac kx vx YB Za vs (putK ks us n u).1 (putK ks us n u).2 kG kH q'->dB W fc ok ac kx vx e q (v::vs) ks us kG kH q'
|less {e e':aj} {q q':List Ob} {vs us kH:List V} {ks kG:List Int}:bh e' e->dB W fc ok ac kx vx e' q vs ks us kG kH q'->dB W fc ok ac kx vx e q vs ks us kG kH q'
theorem dB.on{G:Prop}{ok:List Ob->Prop}{ac kx vx:Expr}{e:aj}{q q':List Ob}{vs us kH:List V}{ks kG:List Int}(l:dB W fc ok ac kx vx e q vs ks us kG kH q')
  (h0:∀ e',bh e' e->vs=[]->kG=ks->kH=us->q'=q->G)
  (h1:∀ e',bh e' e-> ∀ v n u ws YB YD YG Za,vs=v::ws->gW W fc e' q ac v YB YD->Ev W fc YB YD kx (.int n) YG->Ev W fc YB YG vx u Za->ok Za->dB W fc ok ac kx vx YB Za ws (putK ks us n u).1 (putK ks us n u).2 kG kH q'->G):G:=by
 induction l with
|nil=>exact h0 _ (.refl _) rfl rfl rfl rfl
|take a b c d f _=>exact h1 _ (.refl _) _ _ _ _ _ _ _ _ rfl a b c d f
|less x _ ih=>exact ih (λe' l=>h0 e' (l.trans x)) (λe' l=>h1 e' (l.trans x))
theorem tC
  (hq:fc.q=true) (aS:Src W fc env hp iter hp₁ ok tup vs) (aT:ok hp₁) (ax:scope.kind= .function) (hc:mQ fc.nm env scope.names cy Y4) (hnd:(scope.names.map (·.1)).Nodup)
  (cw:∀ x,x∈scope.names.map (·.1)->(x==("__debug__" : Str))=false/\(x==("__classdict__" : Str))=false)
  (hl:dB W (inner fc scope.names cy) ok (.Name xn px) kx vx Y4 hp₁ vs [] [] kf uf hp') (ar:vs.length<=16777216) (ht:gD tup (.Name xn px)=true) (hs:∀ m x,foldedSetIterable iter m x=pure x)
 (P:Pre W fc cx g env hp s.heap) (t0:0<s.toks)
  (hQ:∀ C D g' s',Run W fc cx g s env hp' g' s'->RV W g' s'.heap (.dI kf uf) (.ref D)->Loose W [C] g' s.heap s'.heap->(∃ m,s'.heap.Ns C m)->compPost (model W.prog W.w) cx.A E use Q (.ref D) C (.ok .next) s') :
  wpAny (model W.prog W.w) cx.A (comprehension (.DictComp kx vx [⟨.Name xn px,iter,[],0⟩] scope pos) scope cx.menv (firstIterPos [⟨.Name xn px,iter,[],0⟩] pos) newDict false (firstIter [⟨.Name xn px,iter,[],0⟩] cx.menv) use) Q E s:=by
 refine tD (oN:={ cls:= .type "dict",dict:=none,data:= .dict #[] }) rfl (λh=>wpAny_newObj_type h) rfl (λv q=>nomatch q) hq aS ax hc hnd cw hs P t0 λci it wr St Yx s₃ D O am f4 fF=> ?_;have dQ:∀{kk:List Int}{acc:List V}{ys:List Value},J7 D λg s=>s.heap.DictOf (intKind W.prog W.w) D (kk.zip ys)/\aQ W g s.heap acc ys:=⟨λr K e=>⟨pI r.1 e,r.2.keep K⟩,λr=>by obtain⟨oD,BH,BG,tI,_,pp,_⟩:=r.1;exact⟨oD,tI,λv q=>nomatch pp.symm.trans q⟩⟩;have loop:codeAny (model W.prog W.w) cx.A (.compLoop (.DictComp kx vx [⟨.Name xn px,iter,[],0⟩] scope pos) 0 (.ref it) (.ref D) ci.menv) (compPost (model W.prog W.w) cx.A E use Q (.ref D) ci.menv.locals) s₃:=by
  refine codeAny_compLoop_testsD (λn s'=> ∀ G:Prop,(∀(e':aj)(YC:List Ob)(g':Gh)(ws:List V)(kk:List Int)(acc:List V)(ys:List Value)(j:Nat),n=ws.length+1->j+ws.length=vs.length->vs.drop j=ws->kk.length=acc.length->acc.length<=j->
   dB W (inner fc scope.names cy) ok (.Name xn px) kx vx e' YC ws kk acc kf uf hp'->ok YC->Mid W fc (inner fc scope.names cy) cx ci g s wr D env St (λg s=>s.heap.DictOf (intKind W.prog W.w) D (kk.zip ys)/\aQ W g s.heap acc ys) j e' YC g' s'->G)->G) ?_ (vs.length+1)
   λ_ k=>k Y4 hp₁ Yx vs [] [] [] 0 rfl (ae7 vs.length) (by rfl) rfl (ac4 _) hl aT ⟨am,f4,ig fF,rfl⟩
  refine λn s' hI=>hI _ λe' YC g' ws kk acc ys j hn hj hd hO nI cc dr m=> ?_;refine cc.on (λYB le hu fS ij u7=> ?_) (λYB le v n u i0 e₂ YD Za Bi hu ha vl ui Y9 Zc=> ?_)
  ·have j':j=vs.length:=(congrArg (λx:List V=>j+x.length) hu).symm.trans hj;exact Ad O dQ (j'▸m) dr λYy Yv rr L hn hF r=>hQ _ D Yy Yv (u7▸rr) ⟨D,ys,rfl,hF,fS▸ij▸hO,fS▸r.1,ij▸r.2⟩ L hn
  ·refine bw (pJ (hd.trans hu)) λhv bE=> ?_;refine wpAny_mono (ul (E₃:=E) O dQ ht m dr le hv ha λYy Yv Y8=> ?_) (λr s₁ hx=>by rcases hx with⟨y,rfl,hx⟩;exact RZ hx) λ_ _ h'=>h';refine wpAny_tests_nil ?_;simp only[if_true];refine aa (ach O.nest.A) ?_;refine vl.go ci Yy Yv _ _ Y8.am.inn (aby t0 Y8.am.same.tk) λYM s₃ z YH rL=> ?_;have Zu:=(mG O dQ Y8 YH).1;refine ui.go ci YM s₃ _ _ Zu.am.inn (aby t0 Zu.am.same.tk) λZk Zg y ZL g7=> ?_;have Zj:=(mG O dQ Zu ZL).1;obtain⟨tz,rfl⟩:=aA rL;refine iR (uE (x:=n) Zj.r.2 hO (nY Zj.r.1 (hO.trans Zj.r.2.length.symm)) g7) λbS e1 e2 e3=> ?_;refine wpAny_dictSet_pairs (knd:=intKind W.prog W.w) (k:=n) (intKind_is _ _ _ _) Zj.r.1 (λh' Zw ZZ=> ?_) (by(refine aa af3 ?_;refine aa Zj.r.2.length ?_;refine aa hO ?_;rewrite[af9];refine aa sizeLine_eq ?_);exact abj nI (abj (ab0 j ws.length) (abj (ab2 hj) ar)));rw[e1]at Zw;have ho:∃ o,h'.get? D=some o/\ ∀ v,o.data≠ .cell v:=by obtain⟨oD,BH,BG,tI,_,pp,_⟩:=Zw;exact⟨oD,tI,λv q=>nomatch pp.symm.trans q⟩
   refine aD ho λo ho=>bK (v_ O Zj ZZ.extBut (acg _) ho) λZR Z5 K5=> ?_;refine⟨i0.length+1,?_,λ_ k=>k e₂ Bi Zk i0 (putK kk acc n u).1 (putK kk acc n u).2 bS (j+1) rfl ?_ bE e3 ?_ Zc Y9 ⟨ZR,Z5,Zw,e2.keep K5⟩⟩
   ·(refine aa hn ?_;refine aa hu ?_);exact aej _
   ·rw[hu]at hj;exact(ab9 j i0.length).trans hj
   ·exact abj (Ss _ _ _ _) (adc nI)
 exact codeAny_compStart_dict loop (O.hw.self f4 loop)
theorem n7(ax:scope.kind= .function)(hnd:(scope.names.map (·.1)).Nodup)(cw:plainNames scope.names=true)(ht:gD tup (.Name xn px)=true)(hs:∀ m x,foldedSetIterable iter m x=pure x)(hq:fc.q=true)(aS:Src W fc env hp iter hp₁ ok tup vs)(aT:ok hp₁)(hc:mQ fc.nm env scope.names cy Y4)(hl:dB W (inner fc scope.names cy) ok (.Name xn px) kx vx Y4 hp₁ vs [] [] kf uf hp')(ar:vs.length<=16777216) :
  Ev W fc env hp (.DictComp kx vx [⟨.Name xn px,iter,[],0⟩] scope pos) (.dI kf uf) hp':=by
 refine .mk ?_;intro cx g s Q E P t0 hQ;refine tC (use:=none) hq aS aT ax hc hnd (fZ cw) hl ar ht hs P t0 λC D g' s' r rv L hn=> ?_;obtain⟨m,hn⟩:=hn;refine⟨m,hn,λh' gi=> ?_⟩;obtain⟨r',K⟩:=kO P r L gi;exact hQ g' _ _ r' (rv.keep K)
end
section
def Binds(W:Wd)(hp:List Ob)(g:Gh)(s:Shared)(fd:FuncData)(args:Args)(xs:List Str)(args':List V):Prop:=
 ∀(M:Model)(A:Around)(E:Value->Shared->Prop)(Q:List (Str×Value)->Shared->Prop)(cx:Cx),(∀ Yx s₁ bS,aH W cx g s hp Yx s₁->aQ W Yx s₁.heap args' bS->Q (xs.zip bS) s₁)->wpAny M A (bindArgs fd args) Q E s
theorem KH(I:Inv W g hp s.heap)(rv:aQ W g s.heap as ys)(e:bindArgs fd args=(do let d ←alloc { cls:= .type "dict",data:= .dict #[] };pure (xs.zip ys++[(x,.ref d)])))(hl:xs.length=ys.length) :
  Binds W hp g s fd args (xs++[x]) (as++[.dS [] []]):=by
 intro M A E Q cx hQ;refine aa e ?_;refine wpAny_bind (wpAny_alloc ?_);refine wpAny_pure ?_;have hn:=ab4 s.heap (o:={ cls:= .type "dict",data:= .dict #[] }) rfl;obtain⟨r,K⟩:=aH.freeze (hn:=abm _) (cx:=cx) (n:=s.toks) I aK hn (λb o e=>abr _ e);have:=hQ _ _ (ys++[.ref s.heap.objs.size]) r ((rv.keep K).append (aP (⟨_,[],rfl,.inr rfl,rfl,ig hn,rfl⟩)));rw[List.zip_append hl]at this;exact this
theorem Ia(hf:FnAt W f fd body)
  (hb:∀(g:Gh)(s:Shared)(ys:List Value)(ai:List (Str×Value)),Inv W g hp s.heap->aQ W g s.heap args (ys++ai.map (·.2))->ai.map (·.1)=kw->Binds W hp g s fd ⟨ys,ai⟩ xs args')
  (aI:Puts fd.scope.names [] xs args' YJ) (aw:cU W (cH fd k q) YJ hp body o) (ho:o.value v hp₁):CallD W (k+1) q (.ref f) kw args hp v hp₁:=by
 refine .mk ?_;intro cx YW s₀ ys ai Q E Z9 tc rv eC t0 A4;refine ak hf.obj λob gL dP=> ?_;have ch:cx.A.depth<recursionLimit:=by have:=Z9.room.1;exact acj (ab0 _ (k+1+1)) this
 refine codeAny_call_function ch (tc.base _ _ gL) dP hf.co hf.gen hf.body ?_ (hb YW s₀ ys ai tc rv eC _ _ _ _ cx λg s bS cr df=> ?_)
 ·obtain⟨c,oc,vs,t,e,hc,r⟩:=hf.code;exact⟨c,oc,vs,t,e,tc.base _ _ hc,r⟩
 have I:=cr.inv;have bl:=Z9.keep cr;have t0:=aby t0 cr.same.tk;have hQ:=λg' s' y (r:aH W cx g s hp₁ g' s') rv=>A4 g' s' y (cr.trans r) rv;have ax:∀ x∈xs.zip bS,fd.scope.names.lookup x.1=some .local\/(fd.scope.names.lookup x.1=some .cell/\((cellsFrom (s.heap.objs.size+1) fd.scope.names []).lookup x.1).isSome=true):=
  λx hx=>fO hf.nodup aI x.1 (af0 hx).1
 refine aa hf.clo ?_;refine aR hf.kind ax λmenv he s₁ x eB=> ?_;have en:=entered hf bl I df aI he x eB;refine⟨en.lim,codeAny_func ?_⟩;refine aw.go (cx.under menv) g s₁ _ _ en.pre (aby t0 eB) λYy Yv fl af=> ?_;induction o using Out.casesOn with
|next e1 YC=>obtain⟨rfl,r⟩:=af;obtain⟨rfl,rfl⟩:=ho;exact hQ Yy Yv .none (en.fin r) rfl
|ret u YC=>obtain⟨y,rfl,r,Y0⟩:=af;obtain⟨rfl,rfl⟩:=ho;exact hQ Yy Yv y (en.fin r) Y0
|brk=>exact ho.elim
|cont=>exact ho.elim
theorem K8(hf:FnAt W f fd body)
  (hb:∀(g:Gh)(s:Shared)(ys:List Value)(ai:List (Str×Value)),Inv W g hp s.heap->aQ W g s.heap args (ys++ai.map (·.2))->ai.map (·.1)=kw->Binds W hp g s fd ⟨ys,ai⟩ xs args')
  (aI:Puts fd.scope.names [] xs args' YJ) (aw:cU W (cH fd k q) YJ hp body o) (ho:o.value v hp₁):Call W (k+1) q (.ref f) kw args hp v hp₁:=(Ia hf hb aI aw ho).call
theorem H6(hf:FnAt W f fd body)(hx:fd.params.args.map (·.arg)=[x1,x2,x3])(f8:fd.params.kwarg.map (·.arg)=some x4)(hb:∀ y1 y2 y3,bindArgs fd ⟨[y1,y2,y3],[]⟩=(do let d ←alloc { cls:= .type "dict",data:= .dict #[] };pure [(x1,y1),(x2,y2),(x3,y3),(x4,.ref d)]))
  (aI:Puts fd.scope.names [] [x1,x2,x3,x4] [a1,a2,a3,.dS [] []] YJ) (aw:cU W (cH fd k q) YJ hp body o) (ho:o.value v hp₁):Call W (k+1) q (.ref f) [] [a1,a2,a3] hp v hp₁:=
 K8 hf (xs:=[x1,x2,x3,x4]) (args':=[a1,a2,a3,.dS [] []]) (λg s ys ai I rv hk=>by
  obtain rfl:ai=[]:=by simpa using hk
  have df:aQ W g s.heap [a1,a2,a3] ys:=by simpa using rv
  (refine au (aX df) λy1 t1 an r1 i9=> ?_;obtain rfl:=an);(refine au (aX i9) λy2 t2 an r2 rq=> ?_;obtain rfl:=an);(refine au (aX rq) λy3 t3 an r3 xz=> ?_;obtain rfl:=an);obtain rfl:=vz xz;exact KH (xs:=[x1,x2,x3]) (as:=[a1,a2,a3]) (x:=x4) I df (hb y1 y2 y3) rfl) aI aw ho
theorem Cw(hf:FnAt W f fd body)(hx:fd.params.args.map (·.arg)=[x1,x2])
  (hb:∀(s:Shared) y1,(∀ b o,W.B.get? b=some o->s.heap.get? b=some o)->BindsTo s fd ⟨[y1],[]⟩ [(x1,y1),(x2,.none)])
  (aI:Puts fd.scope.names [] [x1,x2] [a1,.none] YJ) (aw:cU W (cH fd k q) YJ hp body o) (ho:o.value v hp₁):CallD W (k+1) q (.ref f) [] [a1] hp v hp₁:=
 s6 hf (xs:=[x1,x2]) (args':=[a1,.none]) (λg s ys ai hB rv hk=>by
  obtain rfl:ai=[]:=by simpa using hk
  have df:aQ W g s.heap [a1] ys:=by simpa using rv
  (refine au (aX df) λy1 t1 an r1 i9=> ?_;obtain rfl:=an);obtain rfl:=vz i9;exact⟨[y1,.none],aJ r1 (aP (rfl)),hb s y1 hB⟩) aI aw ho
theorem H5(hf:FnAt W f fd body)(hx:fd.params.args.map (·.arg)=[x1,x2,x3])
  (hb:∀(s:Shared) y1 y2,(∀ b o,W.B.get? b=some o->s.heap.get? b=some o)->BindsTo s fd ⟨[y1,y2],[]⟩ [(x1,y1),(x2,y2),(x3,.none)])
  (aI:Puts fd.scope.names [] [x1,x2,x3] [a1,a2,.none] YJ) (aw:cU W (cH fd k q) YJ hp body o) (ho:o.value v hp₁):Call W (k+1) q (.ref f) [] [a1,a2] hp v hp₁:=
 lU hf (xs:=[x1,x2,x3]) (args':=[a1,a2,.none]) (λg s ys ai hB rv hk=>by
  obtain rfl:ai=[]:=by simpa using hk
  have df:aQ W g s.heap [a1,a2] ys:=by simpa using rv
  (refine au (aX df) λy1 t1 an r1 i9=> ?_;obtain rfl:=an);(refine au (aX i9) λy2 t2 an r2 rq=> ?_;obtain rfl:=an);obtain rfl:=vz rq;exact⟨[y1,y2,.none],aJ r1 (aJ r2 (aP (rfl))),hb s y1 y2 hB⟩) aI aw ho
theorem vJ(hf:FnAt W f fd body)(hx:fd.params.args.map (·.arg)++fd.params.kwonlyargs.map (·.arg)=[x1,x2,x3])(hb:∀ y1 y2 y3,bindArgs fd ⟨[y1,y2],[(x3,y3)]⟩=pure [(x1,y1),(x2,y2),(x3,y3)])
  (aI:Puts fd.scope.names [] [x1,x2,x3] [a1,a2,a3] YJ) (aw:cU W (cH fd k q) YJ hp body o) (ho:o.value v hp₁):Call W (k+1) q (.ref f) [x3] [a1,a2,a3] hp v hp₁:=
 lU hf (xs:=[x1,x2,x3]) (args':=[a1,a2,a3]) (λg s ys ai hB rv hk=>by induction ai using abn with
 |nil=>simp at hk|cons p r=>
   obtain⟨n,y3⟩:=p;simp only[ab3,ago,List.map_eq_nil_iff]at hk;obtain⟨rfl,rfl⟩:=hk;refine au (aX rv) λz1 t1 e1 r1 i9=> ?_;refine au (aX i9) λz2 t2 e2 r2 rq=> ?_;refine au (aX rq) λz3 t3 e3 r3 xz=> ?_;have e4:=vz xz;subst e4 e3 e2
   match ys,e1 with
  |[b1,b2],e1=>simp only[ab3,aha,adu,aeg,ago,and_true]at e1;(refine bK e1 λhV dy an=> ?_;obtain rfl:=hV;obtain rfl:=dy;obtain rfl:=an);exact⟨_,aJ r1 (aJ r2 (aP r3)),aez (hb _ _ _)⟩
  |[],e1=>simp at e1|[b1],e1=>simp at e1|b1::b2::b3::r,e1=>simp at e1) aI aw ho
end
section
open Sem (wp)
section
theorem uo(hit:IsTupIter s.heap it t i)(ht:IsTup s.heap t av)(hx:av[i]? =some x)
  (hQ:∀ h',IsTupIter h' it t (i+1)->ae0 it s.heap h'->Q x { s with heap:=h' }):wpAny (model prog w) A (ad7 (.ref it)) Q E s:=by
 refine cps λ_ c_=> ?_;obtain⟨o,ho,hc,hd⟩:=id hit;obtain⟨ot,mv,_,n,sg⟩:=ht;refine c_ ?_;unfold ad7;refine wpAny_bind (wpAny_callSpecial?_slot (name:=Mi "__next__") hit.typeIs slot_tupleiter_next (wpAny_call_entry slot_tupleiter_next hit.typeIs entry_tupleiter_next ?_ (args_tupleiter_next _)));refine(?_:wpAny _ _ (field (.ref it) 0 >>= _) _ _ s);refine wpAny_bind (wpAny_field ho hd (x:= .ref t) rfl ?_);refine(?_:wpAny _ _ (if(agh t==ag1)=true then _ else _) _ _ s);rw[if_neg (show ¬((agh t==ag1)=true)from acb)];refine(?_:wpAny _ _ (field (.ref it) 1 >>= _) _ _ s);refine wpAny_bind (wpAny_field ho hd (x:= .int i 0) rfl ?_);refine(?_:wpAny _ _ (seqItems? (.ref t) >>= _) _ _ s);refine wpAny_bind (wpAny_seqItems mv sg ?_);simp only[ajw,hx];refine wpAny_bind (wpAny_setField ho hd (abm _) (wpAny_pure ⟨x,rfl,wpAny_pure (hQ _ ⟨_,aid _ ho (Obj.isFreed_of_fields (al8 hd _)),(Obj.cls_mapFields ..).trans hc,?_⟩ (aen ..))⟩));rw[al8 hd];rfl
theorem Jp(hh:A.handled=none)(hit:IsTupIter s.heap it t i)(ht:IsTup s.heap t av)(hx:av[i]? =none)
  (hE:∀ h' e,ahv it s.heap h'->(∃ o,h'.get? e=some o/\o.cls= .type "StopIteration")->E (.ref e) { s with heap:=h' }):wpAny (model prog w) A (ad7 (.ref it)) Q E s:=by
 refine cps λ_ c_=> ?_;obtain⟨o,ho,hc,hd⟩:=id hit;obtain⟨ot,mv,_,n,sg⟩:=ht;refine c_ ?_;unfold ad7;refine wpAny_bind (wpAny_callSpecial?_slot (name:=Mi "__next__") hit.typeIs slot_tupleiter_next (wpAny_call_entry slot_tupleiter_next hit.typeIs entry_tupleiter_next ?_ (args_tupleiter_next _)));refine(?_:wpAny _ _ (field (.ref it) 0 >>= _) _ _ s);refine wpAny_bind (wpAny_field ho hd (x:= .ref t) rfl ?_);refine(?_:wpAny _ _ (if(agh t==ag1)=true then _ else _) _ _ s);rw[if_neg (show ¬((agh t==ag1)=true)from acb)];refine(?_:wpAny _ _ (field (.ref it) 1 >>= _) _ _ s);refine wpAny_bind (wpAny_field ho hd (x:= .int i 0) rfl ?_);refine(?_:wpAny _ _ (seqItems? (.ref t) >>= _) _ _ s);refine wpAny_bind (wpAny_seqItems mv sg ?_);simp only[ajw,hx];refine wpAny_bind (wpAny_rule (wpAny_bind (wpAny_setField ho hd (ad0 _) ?_)));refine(?_:wpAny _ _ (newExc (.type "StopIteration") [] >>= _) _ _ _);refine wpAny_bind ?_;simp only[newExc,newTuple];refine wpAny_bind (wpAny_newObj_type ?_ (by size_fits));refine wpAny_bind (m:=firstArgMember _ _) (wpAny_of_eq (a:=ag1) (by first|rfl|(simp only[firstArgMember];rfl)) ?_);refine wpAny_newObj_type ?_ (by size_fits);dsimp only[raiseNew];refine wpAny_bind (wpAny_handled ?_)
 first|refine aa (show A.in1.handled=none from hh) ?_|rw[hh]
 refine wpAny_bind (wpAny_pure (wpAny_throw ?_));exact hE _ _ (((aen ..).extBut.push _).push _) ⟨_,ab4 _ rfl,rfl⟩
structure Zp(h:Heap)(z TI TO i1 i2 l1 l2:Addr)(f0:Value)(k:Nat)(xs ys:Array Value):Prop where
 z_:IsZip h z TI TO f0
 I_:IsPair h TI (.ref i1) (.ref i2)
 O_:∃ a b,IsPair h TO a b
 a_:IsTupIter h i1 l1 k
 b_:IsTupIter h i2 l2 k
 x_:IsTup h l1 xs
 y_:IsTup h l2 ys
theorem IsTupIter.at'(x:IsTupIter h a t i)(e:∀ o,h.get? a=some o->h'.get? a=some o):IsTupIter h' a t i:=let⟨o,ho,r⟩:=x;⟨o,e _ ho,r⟩
theorem IsTup.at'(x:IsTup h a av)(e:∀ o,h.get? a=some o->h'.get? a=some o):IsTup h' a av:=let⟨o,ho,r⟩:=x;⟨o,e _ ho,r⟩
theorem J2{Q:Value->Shared->Prop}(D:ZipApart z TI TO i1 i2 l1 l2)(Z:Zp s.heap z TI TO i1 i2 l1 l2 .none k xs ys)(hx:xs[k]? =some x)(hy:ys[k]? =some y)
  (hQ:∀ h',Zp h' z TI TO i1 i2 l1 l2 (rawInt s.heap.objs.size) (k+1) xs ys->IsPair h' s.heap.objs.size x y->(∀ c o,c≠z->c≠TO->c≠i1->c≠i2->s.heap.get? c=some o->h'.get? c=some o)->Q (.ref s.heap.objs.size) { s with heap:=h' }) :
  wpAny (model prog w) A (Builtin.«zip.__next__» ⟨[.ref z],[]⟩) (λfin s'=> ∃ v,fin= .done (.ret v)/\Q v s') E s:=by
 obtain⟨hz,kL,⟨a,b,nB⟩,h1,h2,fq,ft⟩:=Z;refine(?_:wpAny _ _ (field (.ref z) 2 >>= _) _ _ _);refine wpAny_bind (wpAny_field hz rfl (x:= .bool false) rfl ?_);refine(?_:wpAny _ _ (field (.ref z) 3 >>= _) _ _ _);refine wpAny_bind (wpAny_field hz rfl (x:= .ref TI) rfl ?_);refine wpAny_bind (wpAny_seqItems kL rfl ?_);refine(?_:wpAny _ _ (aeq (.ref z) >>= _) _ _ _);refine wpAny_bind ?_;unfold aeq;refine wpAny_bind (wpAny_field hz rfl (x:= .none) rfl (wpAny_pure ?_));dsimp only[if_true];refine wpAny_bind (wpAny_rule (wpAny_bind (wpAny_field hz rfl (x:= .ref TO) rfl (wpAny_bind (wpAny_setField_rec hz (ad0 _) λha m0 k7=> ?_)))))
 replace m0:IsZip ha z TI TO .ellipsis:=m0
 refine wpAny_bind ?_;dsimp only[am4,anj,agl,agx];refine wpAny_bind (wpAny_bind (wpAny_onRaise ?_));refine(?_:wpAny _ _ (ad7 (.ref i1) >>= _) _ _ _);refine wpAny_bind (uo (h1.extBut k7.extBut D.i1z) (fq.extBut k7.extBut D.l1z) hx λhb C3 gi=>wpAny_pure ?_);have kb:∀ c o,c≠z->c≠i1->s.heap.get? c=some o->hb.get? c=some o:=λc o c1 c2 e=>gi.extBut _ _ c2 (k7.extBut _ _ c1 e);have oS:IsPair hb TO a b:=kb _ _ D.TOz D.TOi1 nB;refine wpAny_bind (wpAny_seqItems oS rfl (wpAny_bind (wpAny_updateSeq_pair oS λhc l4 mB=> ?_)))
 replace l4:IsPair hc TO x b:=l4
 have kc:∀ c o,c≠z->c≠i1->c≠TO->s.heap.get? c=some o->hc.get? c=some o:=λc o c1 c2 c3 e=>mB.extBut _ _ c3 (kb c o c1 c2 e);refine wpAny_bind (wpAny_letGo (wpAny_pure ?_));refine wpAny_bind (wpAny_bind (wpAny_onRaise ?_));refine(?_:wpAny _ _ (ad7 (.ref i2) >>= _) _ _ _);refine wpAny_bind (uo (IsTupIter.at' h2 λo e=>kc _ o D.i2z D.i12.symm D.TOi2.symm e) (IsTup.at' ft λo e=>kc _ o D.l2z D.l2i1 D.l2TO e) hy λhd zv fk=>wpAny_pure ?_);have oT:IsPair hd TO x b:=fk.extBut _ _ D.TOi2 l4;refine wpAny_bind (wpAny_seqItems oT rfl (wpAny_bind (wpAny_updateSeq_pair oT λhe j1 qS=> ?_)))
 replace j1:IsPair he TO x y:=j1
 have ke:∀ c o,c≠z->c≠TO->c≠i1->c≠i2->s.heap.get? c=some o->he.get? c=some o:=λc o c1 c2 c3 c4 e=>qS.extBut _ _ c2 (fk.extBut _ _ c4 (kc c o c1 c3 c2 e));refine wpAny_bind (wpAny_letGo (wpAny_pure (wpAny_pure ?_)));refine wpAny_bind (wpAny_seqItems j1 rfl (wpAny_bind (wpAny_newTuple ?_)));have et:he.objs.size=s.heap.objs.size:=by rw[qS.1,fk.1,mB.1,gi.1,k7.1]
 have AD:IsZip he z TI TO .ellipsis:=qS.extBut _ _ D.TOz.symm (fk.extBut _ _ D.i2z.symm (mB.extBut _ _ D.TOz.symm (gi.extBut _ _ D.i1z.symm m0)));have AJ:z<he.objs.size:=ado AD;refine(?_:wpAny _ _ (ahi (.ref z) (.ref he.objs.size) >>= _) _ _ _);refine wpAny_bind ?_;unfold ahi;have EC:IsZip (he.push { cls:= .type "tuple",data:= .seq #[x,y] }) z TI TO .ellipsis:=abr _ AD;refine wpAny_bind (wpAny_setField_rec EC (ad0 _) λhg xo zI=> ?_)
 replace xo:IsZip hg z TI TO (rawInt he.objs.size):=xo
 refine wpAny_setField_rec xo (ak5 [anu false,agh TI,agh TO].length) λhi sR og=> ?_
 replace sR:IsZip hi z TI TO (rawInt he.objs.size):=sR
 have up:∀ c o,c≠z->he.get? c=some o->hi.get? c=some o:=λc o c1 e=>og.extBut _ _ c1 (zI.extBut _ _ c1 (abr _ e));have hT:IsPair hi he.objs.size x y:=og.extBut _ _ (ahz AJ) (zI.extBut _ _ (ahz AJ) (ab4 _ rfl));have BO:IsTupIter he i1 l1 (k+1):=IsTupIter.at' C3 λo e=>qS.extBut _ _ D.TOi1.symm (fk.extBut _ _ D.i12 (mB.extBut _ _ D.TOi1.symm e));have BS:IsTupIter he i2 l2 (k+1):=IsTupIter.at' zv λo e=>qS.extBut _ _ D.TOi2.symm e;rw[et]at sR hT;refine wpAny_pure ⟨_,rfl,?_⟩;refine(?_:Q (.ref he.objs.size) _);refine aa et ?_;exact hQ hi ⟨sR,up _ _ D.TIz (ke _ _ D.TIz D.TITO D.TIi1 D.TIi2 kL),⟨_,_,up _ _ D.TOz j1⟩,IsTupIter.at' BO λo e=>up _ o D.i1z e,IsTupIter.at' BS λo e=>up _ o D.i2z e,
  IsTup.at' fq λo e=>up _ o D.l1z (ke _ o D.l1z D.l1TO D.l1i1 D.l1i2 e),IsTup.at' ft λo e=>up _ o D.l2z (ke _ o D.l2z D.l2TO D.l2i1 D.l2i2 e)⟩ hT λc o c1 c2 c3 c4 e=>up c o c1 (ke c o c1 c2 c3 c4 e)
theorem Qd(hh:A.handled=none)(D:ZipApart z TI TO i1 i2 l1 l2)(Z:Zp s.heap z TI TO i1 i2 l1 l2 .none k xs ys)(hx:xs[k]? =none)
  (hE:∀ h' e,(∀ c o,c≠z->c≠TO->c≠i1->c≠i2->s.heap.get? c=some o->h'.get? c=some o)->(∃ o,h'.get? e=some o/\o.cls= .type "StopIteration")->E (.ref e) { s with heap:=h' }) :
  wpAny (model prog w) A (Builtin.«zip.__next__» ⟨[.ref z],[]⟩) Q E s:=by
 obtain⟨hz,kL,⟨a,b,nB⟩,h1,h2,fq,ft⟩:=Z;refine(?_:wpAny _ _ (field (.ref z) 2 >>= _) _ _ _);refine wpAny_bind (wpAny_field hz rfl (x:= .bool false) rfl ?_);refine(?_:wpAny _ _ (field (.ref z) 3 >>= _) _ _ _);refine wpAny_bind (wpAny_field hz rfl (x:= .ref TI) rfl ?_);refine wpAny_bind (wpAny_seqItems kL rfl ?_);refine(?_:wpAny _ _ (aeq (.ref z) >>= _) _ _ _);refine wpAny_bind ?_;unfold aeq;refine wpAny_bind (wpAny_field hz rfl (x:= .none) rfl (wpAny_pure ?_));dsimp only[if_true];refine wpAny_bind (wpAny_rule (wpAny_bind (wpAny_field hz rfl (x:= .ref TO) rfl (wpAny_bind (wpAny_setField_rec hz (ad0 _) λha m0 k7=> ?_)))))
 replace m0:IsZip ha z TI TO .ellipsis:=m0
 refine wpAny_bind ?_;dsimp only[am4,anj,agl,agx];refine wpAny_bind (wpAny_bind (wpAny_onRaise ?_));refine(?_:wpAny _ _ (ad7 (.ref i1) >>= _) _ _ _);refine wpAny_bind (Jp hh (h1.extBut k7.extBut D.i1z) (fq.extBut k7.extBut D.l1z) hx λhb e gi he=> ?_);refine ak he λoe nX zk=> ?_;have AC:IsZip hb z TI TO .ellipsis:=gi _ _ D.i1z.symm m0;have CO:e≠z:=λq=>by subst q;rw[AC]at nX;cases nX;simp at zk
 refine wpAny_setField_rec AC (ad0 _) λhc _ mB=>hE hc e (λc o c1 _ c3 _ x=>mB.extBut _ _ c1 (gi _ _ c3 (k7.extBut _ _ c1 x))) ⟨oe,mB.extBut _ _ CO nX,zk⟩
theorem D_(l1 l2:Addr)(xs ys:Array Value) :
  Meets (Builtin.«zip.__new__» ⟨[.type "zip",.ref l1,.ref l2],[]⟩) (λ_ R s=>s.heap.IsTuple l1 xs/\s.heap.IsTuple l2 ys/\
   ∀ h',(∀ c o,s.heap.get? c=some o->h'.get? c=some o)->Zp h' (s.heap.objs.size+4) (s.heap.objs.size+2) (s.heap.objs.size+3) s.heap.objs.size (s.heap.objs.size+1) l1 l2 .none 0 xs ys->h'.objs.size=s.heap.objs.size+5->
    R (.ok (.ret (.ref (s.heap.objs.size+4)))) { s with heap:=h' }):=
 .of_wp λprog w A R s h=>by
  obtain⟨hp,g,d,tk,os⟩:=s;obtain⟨fq,ft,h⟩:=h;have q0:=sub_zip;have B':aov (ape ⟨hp,g,d,tk,os⟩) l1 xs:=fq;have Cb:aov (ape ⟨hp.push { cls:= .type "tuple_iterator",data:= .fields #[.ref l1,.int 0 0] },g,d,tk,os⟩) l2 ys:=(let⟨o,ho,r⟩:=ft;⟨o,abr _ ho,r⟩)
  wp_walk using wpAny_pyIter_tuple B',wpAny_pyIter_tuple Cb
  refine⟨_,rfl,?_⟩;let h1:=hp.push { cls:= .type "tuple_iterator",data:= .fields #[.ref l1,.int 0 0] };let h2:=h1.push { cls:= .type "tuple_iterator",data:= .fields #[.ref l2,.int 0 0] };let h3:=h2.push { cls:= .type "tuple",data:= .seq #[.ref hp.objs.size,.ref h1.objs.size] };let h4:=h3.push { cls:= .type "tuple",data:= .seq #[.none,.none] };let h5:=h4.push { cls:= .type "zip",data:= .fields #[.none,.bool false,.bool false,.ref h2.objs.size,.ref h3.objs.size] };have z1:h1.objs.size=hp.objs.size+1:=adw ..;have z2:h2.objs.size=hp.objs.size+2:=by(rewrite[adw];exact aa z1 rfl)
  have z3:h3.objs.size=hp.objs.size+3:=by(rewrite[adw];exact aa z2 rfl)
  have z4:h4.objs.size=hp.objs.size+4:=by(rewrite[adw];exact aa z3 rfl)
  have z5:h5.objs.size=hp.objs.size+5:=by(rewrite[adw];exact aa z4 rfl)
  have g5:h5.get? h4.objs.size=some _:=ab4 _ rfl;have g4:h5.get? h3.objs.size=some _:=abr _ (ab4 _ rfl);have g3:h5.get? h2.objs.size=some _:=abr _ (abr _ (ab4 _ rfl));have g2:h5.get? h1.objs.size=some _:=abr _ (abr _ (abr _ (ab4 _ rfl)));have g1:h5.get? hp.objs.size=some _:=abr _ (abr _ (abr _ (abr _ (ab4 _ rfl))));have up:∀ c o,hp.get? c=some o->h5.get? c=some o:=λc o e=>abr _ (abr _ (abr _ (abr _ (abr _ e))));rw[z2,z3,z4]at g5;rw[z1,z2]at g3;rw[z3]at g4;rw[z1]at g2;refine(?_:R (.ok (.ret (.ref h4.objs.size))) _);exact aa z4 (h h5 up ⟨g5,g3,⟨_,_,g4⟩,⟨_,g1,rfl,rfl⟩,⟨_,g2,rfl,rfl⟩,(let⟨o,ho,r⟩:=fq;⟨o,up _ o ho,r⟩),(let⟨o,ho,r⟩:=ft;⟨o,up _ o ho,r⟩)⟩ z5)
theorem H_(fq:s.heap.IsTuple l1 xs)(ft:s.heap.IsTuple l2 ys)
  (h:∀ h',(∀ c o,s.heap.get? c=some o->h'.get? c=some o)->Zp h' (s.heap.objs.size+4) (s.heap.objs.size+2) (s.heap.objs.size+3) s.heap.objs.size (s.heap.objs.size+1) l1 l2 .none 0 xs ys->h'.objs.size=s.heap.objs.size+5->
   Q (.ref (s.heap.objs.size+4)) { s with heap:=h' }):wpAny (model prog w) A (call (.type "zip") [.ref l1,.ref l2]) Q E s:=
 callType_new F.called_zip (by decide) (F.typeCall_zip_2 _ _) (F.newCall_zip_2 _ _) (λobj=>F.args_object_init_3 obj _ _) F.entry_zip_new
  (D_ l1 l2 xs ys) ⟨fq,ft,λh' k Z et=>⟨⟨_,Z.z_,rfl⟩,h h' k Z et⟩⟩
theorem Fi(hh:A.handled=none)(z TI TO i1 i2 l1 l2:Addr)(D:ZipApart z TI TO i1 i2 l1 l2)(xs ys:Array Value)(et:xs.size=ys.size) :
  WalksU prog w A z [z,TI,TO,i1,i2,l1,l2] [z,TO,i1,i2] xs.size (λi f_=> ∃ x y,xs[i]? =some x/\ys[i]? =some y/\f_= #[x,y])
   (λi h=>Zp h z TI TO i1 i2 l1 l2 .none i xs ys) (λi T h=>Zp h z TI TO i1 i2 l1 l2 (rawInt T) (i+1) xs ys/\T≠z/\T≠TO/\T≠i1/\T≠i2) where
 sub:=λc hc=>by simp at hc ⊢;rcases hc with rfl|rfl|rfl|rfl<;>simp
 frame:=λi h h' Z hk=>by
  obtain⟨hz,kL,⟨a,b,nB⟩,h1,h2,fq,ft⟩:=Z;exact⟨hk z abq _ hz,hk TI (.tail _ (.head _)) _ kL,⟨a,b,hk TO (.tail _ (.tail _ (.head _))) _ nB⟩,IsTupIter.at' h1 λo e=>hk i1 (.tail _ (.tail _ (.tail _ (.head _)))) o e,IsTupIter.at' h2 λo e=>hk i2 (.tail _ (.tail _ (.tail _ (.tail _ (.head _))))) o e,
   IsTup.at' fq λo e=>hk l1 (.tail _ (.tail _ (.tail _ (.tail _ (.tail _ (.head _)))))) o e,IsTup.at' ft λo e=>hk l2 (List.mem_of_getLast? rfl) o e⟩
 item:=λi s Q E hi Z hQ=>by
  have lt:∀{c o},s.heap.get? c=some o->s.heap.objs.size≠c:=λe=>ahz (ado e);have n1:=lt Z.z_;have n2:s.heap.objs.size≠TO:=by refine Gf Z.O_ λ_ _ e=> ?_;exact lt e
  have n3:s.heap.objs.size≠i1:=by obtain⟨_,e,_⟩:=Z.a_;exact lt e
  have n4:s.heap.objs.size≠i2:=by obtain⟨_,e,_⟩:=Z.b_;exact lt e
  have hT:s.TypeIs (.ref z) "zip" :=⟨_,Z.z_,rfl⟩;unfold pyNext;refine wpAny_bind (wpAny_attempt (wpAny_callSpecial?_slot (name:=Mi "__next__") hT aiv (wpAny_call_entry aiv hT am5
   (J2 D Z (ad6 hi) (ad6 (et▸hi)) λh' Z' hP hk=>wpAny_pure ?_) (amu _))))
  exact hQ s.heap.objs.size #[xs[i],ys[i]'(et▸hi)] h' s.toks ⟨_,_,ad6 hi,ad6 (et▸hi),rfl⟩ ⟨_,hP,rfl,_,rfl⟩ ⟨Z',n1,n2,n3,n4⟩
   λc o hc e=>hk c o (λx=>hc (by simp[x])) (λx=>hc (by simp[x])) (λx=>hc (by simp[x])) (λx=>hc (by simp[x])) e
 go:=λdA k pos i T s Q E hm hQ=>by
  obtain⟨⟨hz,kL,⟨a,b,nB⟩,h1,h2,fq,ft⟩,_⟩:=hm;exact wpAny_letOwnedTupleGo_zip hz λh' sQ eK=>hQ h' ⟨sQ,eK.extBut _ _ D.TIz kL,⟨a,b,eK.extBut _ _ D.TOz nB⟩,h1.extBut eK.extBut D.i1z,h2.extBut eK.extBut D.i2z,
   fq.extBut eK.extBut D.l1z,ft.extBut eK.extBut D.l2z⟩ λc o hc e=>eK.extBut _ _ (λx=>hc (by simp[x])) e
 apart:=λi T h hm hT=>by
  refine n8 hm λ_ t1 t2 t3 t4=> ?_;simp at hT;rcases hT with rfl|rfl|rfl|rfl
  ·exact t1 rfl
  ·exact t2 rfl
  ·exact t3 rfl
  ·exact t4 rfl
 done:=λs Q E Z hQ=>by
  have hT:s.TypeIs (.ref z) "zip" :=⟨_,Z.z_,rfl⟩;unfold pyNext;refine wpAny_bind (wpAny_attempt (wpAny_callSpecial?_slot (name:=Mi "__next__") hT aiv (wpAny_call_entry aiv hT am5
   (Qd hh D Z (Array.getElem?_eq_none (abm _)) λh' e hk he=> ?_) (amu _))))
  refine ak he λo ho hc=> ?_;refine wpAny_bind (wpAny_isInstance (T:= "StopIteration") (b:=true) ⟨o,ho,hc⟩ isSubtype_stop ?_);exact wpAny_pure (hQ h' s.toks λc o hc e=>hk c o (λx=>hc (by simp[x])) (λx=>hc (by simp[x])) (λx=>hc (by simp[x])) (λx=>hc (by simp[x])) e)
 self:=λi s Q E Z hQ=>wpAny_pyIter_zip Z.z_ hQ
end
end
section
inductive vH(W:Wd)(fc:FC)(ac:Expr)(body:List Stmt)(e:aj)(q:List Ob)(v:V)(u:V)(q':List Ob):Prop
|mk {YB:aj} {YD:List Ob} (a:gW W fc e q ac v YB YD) (b:cU W fc YB YD body (.ret u q')):vH W fc ac body e q v u q'
theorem Loop.find{β:Type}{emb:β->V}{ok:List Ob->Prop}{ac:Expr}{body:List Stmt}{f:β->Option V}:∀{vs:List β},(∀ v∈vs,f v=none->Turn W fc ok ac body env hp (emb v) env hp)->(∀ v∈vs,∀ u,f v=some u->vH W fc ac body env hp (emb v) u hp)->
  Loop W fc ok ac body env hp (vs.map emb) (match vs.findSome? f with|none=> .next env hp|some u=> .ret u hp):=by
 intro ah;induction ah with
|nil=>intro _ _;exact .nil
|cons v vs ih=>intro h1 h2;induction e:f v using abt with
 |none=>(refine aa (afh) ?_;refine aa e ?_);induction h1 v abq e using Turn.casesOn with
  |mk a b c d=>exact .next a b c (.less d (ih (λv hv=>h1 v (abl _ hv)) λv hv=>h2 v (abl _ hv)))
 |some u=>(refine aa (afh) ?_;refine aa e ?_);induction h2 v abq u e using vH.casesOn with
  |mk a b=>exact .ret a b
theorem Mx{ac iter:Expr}{body rest:List Stmt}{pos:Pos}{ok:List Ob->Prop}{tup:Bool}{β:Type}{emb:β->V}{vs:List β}{o:Out}{f:β->Option V}(ht:gD tup ac=true)(hs:∀ m x,foldedSetIterable iter m x=pure x)(hq:fc.q=true)(aS:Src W fc env hp iter hp₁ ok tup (vs.map emb))(aT:ok hp₁)(h1:∀ v∈vs,f v=none->Turn W fc ok ac body env hp₁ (emb v) env hp₁)(h2:∀ v∈vs,∀ u,f v=some u->vH W fc ac body env hp₁ (emb v) u hp₁)(hn:vs.findSome? f=none->cU W fc env hp₁ rest o)(eK:∀ u,vs.findSome? f=some u->o= .ret u hp₁) :
  cU W fc env hp (.For ac iter body [] pos::rest) o:=by
 have l:=Loop.find h1 h2;induction e:vs.findSome? f using abt with
|none=>rw[e]at l;exact gq (pK ht hs hq aS aT l) (hn e)
|some u=>rw[e]at l;obtain rfl:=eK u e;exact fM (hl:=trivial) (pK ht hs hq aS aT l)
theorem zL{β α γ:Type}{f:β->Option α}{g:α->γ}:∀{xs:List β},xs.findSome? (λp=>(f p).map g)=(xs.findSome? f).map g:=by intro ah;induction ah with
|nil=>exact rfl
|cons x xs ih=>(refine aa afh ?_;refine aa afh ?_);induction f x using abt with
 |none=>exact ih|some a=>rfl
end
section
inductive yu(W:Wd)(fc:FC)(ac elt:Expr)(e:aj)(hp:List Ob)(v u:V):Prop
|mk {YB:aj} (a:gW W fc e hp ac v YB hp) (b:Ev W fc YB hp elt u hp) (d:bh e YB):yu W fc ac elt e hp v u
inductive sH(W:Wd)(fc:FC)(ac elt c:Expr)(e:aj)(hp:List Ob)(v:V)(t:Bool)(u:V):Prop
|mk {YB:aj} (a:gW W fc e hp ac v YB hp) (x:g8 W fc YB hp c t hp) (b:t=true->Ev W fc YB hp elt u hp) (d:bh e YB):sH W fc ac elt c e hp v t u
end
section
variable{h:Heap}
theorem Rf(er:isStar t=false)(hs:∀ n m,swapsWithSole [t] value n m=pure false)(aI:swappedStores [t] value=λ_=>pure none)(h1:Ev W fc env hp value v hp₁)(h2:gW W fc env hp₁ t v ag hp') :
  Ex W fc env hp (.Assign [t] value pos) (.next ag hp'):=by
 refine .mk ?_;intro cx g s Q E P t0 hQ;refine wpAny_Assign_stores (h1.go cx g s _ E P t0 λYx s₁ y r rv=> ?_) (hs _ _) (f9 aI);refine aa (bG er) ?_;refine(?_:wpAny _ _ (assign t cx.menv y) _ _ s₁);exact h2.go cx Yx s₁ y _ E r.pre (r.t t0) rv λYy Yv Yz=>hQ Yy Yv .next ⟨rfl,r.trans Yz⟩
theorem qZ{s:Shared}(P:Pre W fc cx g env hp s.heap) :
  swapsWith (.DictComp kx vx gens scope pos) (some (.Name x p)) n cx.menv=pure (JQ fc.nm x p pos scope.names):=by
 have hb:cx.menv.blockKind= .function:=by unfold alx;exact aa P.fm.kind rfl
 refine(?_:(pure (cx.menv.blockKind== .function&&cx.menv.kindOf x==some .local&&p.line==pos.line&& !(scope.names.any λ(n,k)=>n==x&&(k== .local||k== .cell))):Sem Bool)=_);(refine aa hb ?_;refine aa (P.fm.names x) ?_);rfl
theorem Mu(ax:scope.kind= .function)(hnd:(scope.names.map (·.1)).Nodup)(cw:plainNames scope.names=true)(ht:gD tup (.Name xn px)=true)(hs:∀ m x,foldedSetIterable iter m x=pure x)(hq:fc.q=true)(aS:Src W fc env hp iter hp₁ ok tup vs)(aT:ok hp₁)(hc:mQ fc.nm env scope.names cy Y4)(hl:dB W (inner fc scope.names cy) ok (.Name xn px) kx vx Y4 hp₁ vs [] [] kf uf hp')(ar:vs.length<=16777216)(aI:pC fc.nm env x .local (.dI kf uf) ag) :
  Ex W fc env hp (.Assign [.Name x p] (.DictComp kx vx [⟨.Name xn px,iter,[],0⟩] scope pos) spos) (.next ag hp'):=by
 refine .mk ?_;intro cx g s Q E P t0 hQ;rw[exec_Assign_arm];refine wpAny_bind (wpAny_standAt ?_);refine(?_:wpAny _ _ (swapsWith (.DictComp kx vx [⟨.Name xn px,iter,[],0⟩] scope pos) (some (.Name x p)) spos.line cx.menv >>= _) _ _ s);refine aa (qZ P) ?_;refine wpAny_bind (wpAny_pure ?_);induction JQ fc.nm x p pos scope.names using aco with
|true=>
  refine aa (if_pos rfl) ?_;refine wpAny_bind ?_;rw[arm_evalThenUse_DictComp];refine wpAny_bind ?_;refine tC (use:=some _) hq aS aT ax hc hnd (fZ cw) hl ar ht hs P t0 λC D g' s' r rv L hn=> ?_;refine wpAny_bind (wpAny_standAt (wpAny_bindName (dw r.pre aI rv λYv Yz=> ?_)));have h0:∀ a,a∈cx.own-> ∃ o,s.heap.get? a=some o:=P.fm.ownD;have h1:∀ a,a∈cx.l.filterMap (·.frame)-> ∃ o,s.heap.get? a=some o:=λa ha=>by obtain⟨_,o,e,_⟩:=P.fm.fun_.mem ha;exact⟨o,e⟩
  refine bw (Yz.loose L h0 h1) λkp Y6=> ?_;refine Mp hn λm o es ep ho dE=> ?_;refine⟨m,⟨o,es,ep,(kp C (ab5 C)).trans ho,dE⟩,λh' gi=> ?_⟩;refine bw (kO P (r.trans Yz) Y6 gi) λr' K=> ?_;exact wpAny_pure (wpAny_pure (hQ g' _ .next ⟨rfl,r'⟩))
|false=>refine aa (if_neg (by decide)) ?_;refine wpAny_bind ((n7 ax hnd cw ht hs hq aS aT hc hl ar).go cx g s _ E P t0 λg' s' y r rv=> ?_);refine(?_:wpAny _ _ (pure none >>= _) _ _ s');refine wpAny_bind (wpAny_pure ?_);refine(?_:wpAny _ _ (assignAll y [assign (.Name x p) cx.menv] >>= _) _ _ s');refine wpAny_bind ?_;refine(?_:wpAny _ _ (assign (.Name x p) cx.menv y) _ _ s');exact wpAny_assign_Name (dw r.pre aI rv λYv Yz=>wpAny_pure (hQ g' Yv .next ⟨rfl,r.trans Yz⟩))
end
section
variable{h:Heap}
theorem Inv.tabAt(I:Inv W g hp h){t:Nat}{P:Addr}{ps:Array Value}(ht:hp[t]? =some (.tab P ps)):g.ρ[t]? =some P/\RO W g h P (.tab P ps):=by
 have hl:t<g.ρ.length:=by exact aa I.len ((abw.mp ht).1)
 have e:=abu hl;have r:=I.obs t _ _ ht e;have:g.ρ[t]=P:=r.1;rw[this]at e r;exact⟨e,r⟩
theorem Inv.table(I:Inv W g hp h){t:Nat}{P:Addr}{ps:Array Value}(ht:hp[t]? =some (.tab P ps))(hx:ahv P h h')(ho:RO W g h' P (.tab P ps)):Inv W g hp h'/\Step g h g h'/\bU g h g h':=by
 refine bw (I.tabAt ht) λe r=> ?_;have hm:P∈g.ρ:=acq e;have ne:∀ a,g.F a->a≠P:=λa ha q=>I.ρF P hm (q▸ha);have K:bU g h g h':=⟨λ_ x=>x,λa o ha e=>hx a o (ne a ha) e,ac2⟩;have nd:∀ i a,g.ρ[i]? =some a->a=P->i=t:=λi a e1 q=>by subst q;refine aD (abw.mp e1) λh1 tp=> ?_;refine aD (abw.mp e) λh2 tw=> ?_;exact(aii I.nd).mp (tp.trans tw.symm)
 refine⟨⟨λb o eb=> ?_,I.len,λi o a e1 e2=> ?_,I.ρB,I.ρF,I.nd,λa ha=> ?_,I.sys⟩,⟨λ_ x=>x,λ_ x=> .inl x,ac2,λ_ x=> .inl x,λa o e1 hn=>hx a o (λq=>hn (q▸hm)) e1⟩,K⟩
 ·refine hx b o (λq=> ?_) (I.base b o eb);have:=I.ρB P hm;rw[q,this]at eb;cases eb
 ·by_cases aI:a=P
  ·obtain rfl:=nd i a e2 aI;rw[ht]at e1;cases e1;exact aI▸ho
  ·have r:=I.obs i o a e1 e2;refine aD r.some λO eO=> ?_;exact r.keep K ((hx a O aI eO).trans eO.symm)
 ·obtain⟨o,eo⟩:=I.fz a ha;exact⟨o,hx a o (ne a ha) eo⟩
structure yw(W:Wd)(cd P:Addr):Prop where
 is:∃ o vs jv tf f' tg sT text tt,W.B.get? cd=some o/\o.cls= .type "code" /\o.data= .fields vs/\vs[11]? =some (.ref P)/\vs.getD 18 .none= .str jv tf/\vs.getD 7 .none= .int f' tg/\vs.getD 9 .none= .bool sT/\vs.getD 10 .none= .int text tt
 ne:cd≠P
theorem yw.code{ps:Array Value}(C:yw W cd P)(hB:∀ b o,W.B.get? b=some o->h.get? b=some o)(hP:h.get? P=some { cls:= .none,data:= .fields ps })(ht:TriplesOk ps.toList):h.IsCode cd P ps/\h.TableAt cd P ps:=by obtain⟨o,vs,jv,tf,f',tg,sT,text,tt,ho,hc,hd,yA,h1,h2,h3,h4⟩:=C.is;exact⟨⟨o,vs,jv,tf,f',tg,sT,text,tt,_,hB _ _ ho,hd,by(refine aa (agv) ?_;refine aa yA ?_);rfl,h1,h2,h3,h4,hP,rfl,ht,C.ne⟩,⟨⟨o,vs,hB _ _ ho,hc,hd,yA⟩,hP⟩⟩
theorem Fg{M:Model}{A:Around}{E:Value->Shared->Prop}{s:Shared}{en:Env}{cd P:Addr}{ps:Array Value}{pos:Pos}{qn:Str}{scope:Scope}{Q:Value->Shared->Prop}(C:yw W cd P)(hc:en.code= .ref cd)(I:Inv W g hp s.heap){t:Nat}(ht:hp[t]? =some (.tab P ps))
  (hQ:∀ c h' tk,ahv P s.heap h'->RO W g h' P (.tab P ps)->s.toks<=tk->Q c { s with heap:=h',toks:=tk }):wpAny M A (genexprCode en pos qn scope) Q E s:=by
 refine bw (I.tabAt ht) λe r=> ?_;have r':=r;obtain⟨_,eM,hP,w9⟩:=r;refine bw (C.code I.base hP w9) λh1 h2=> ?_;induction hf:codeAmong pos (ps++eM).toList using abt with
|some c=>exact wpAny_genexprCode_hit hc h1 hf (hQ c s.heap s.toks (Heap.ExtBut.refl _ _) r' (abm _))
|none=>refine wpAny_with_toks (abm s.toks) (wpAny_genexprCodeX hc h1 h2 hf λc' h' tk hx _ _ zt _ DZ _ eB=> ?_);refine hQ _ h' tk hx ?_ eB;obtain⟨o,vs,jv,tf,f',tg,sT,text,tt,op,a1,a2,a3,a4,a5,a6,a7,a8,a9,AO,ES⟩:=zt;exact⟨rfl,eM++ #[rawInt pos.line,rawInt pos.col,.ref c'],by exact aa (ach al9) DZ.2,by exact aa (ach al9) AO⟩
end
section
theorem Wz{cn dx eW jp ox s9 AK AL AM:Type _}{p:cn->dx->eW->jp->ox->s9->AK->AL->AM->Prop}(a1:cn)(a2:dx)(a3:eW)(a4:jp)(a5:ox)(a6:s9)(a7:AK)(a8:AL)(a9:AM)(h:p a1 a2 a3 a4 a5 a6 a7 a8 a9):∃ x1 x2 x3 x4 x5 x6 x7 x8 x9,p x1 x2 x3 x4 x5 x6 x7 x8 x9:=⟨_,_,_,_,_,_,_,_,_,h⟩
theorem IK{np zp p1 p2 bp pa pb pt cp gp pos:Pos}{xa xb:Str}{kt:Nat}{es:List Expr}{scope:Scope}{as bs:List Int}{cd P bm:Addr}{ps:Array Value}{t:Nat}{mg:Str->Option Value}{ob:Obj}
  (hq:fc.q=true) (ht:fc.t=true) (nK:fc.c= .ref cd) (C:yw W cd P) (M:BMod W.B mainGlobals mg bm ob) (mo:W.B.NoLimit)
  (gt:Gn W fc (.Name (Mi "tuple") np) (.type "tuple")) (gz:Gn W fc (.Name (Mi "zip") zp) (.type "zip"))
  (ha:wI W fc env hp es [.tup (iL as),.tup (iL bs)] hp₁) (hT:hp₁[t]? =some (.tab P ps)) (hl:as.length=bs.length) (hz:as.length<=1000)
  (hn:scope.names=[((".0" : Str),NameKind.local),(xa,.local),(xb,.local)]) (hk:scope.kind= .function) (tP:scope.isCoroutine=false) (nE:xa≠xb) (D9:xa≠(".0" : Str)) (D':xb≠(".0" : Str)) (t9:(xa==("__debug__" : Str))=false) (CI:(xb==("__debug__" : Str))=false)
  (hs:es.all (λe=> !isStar e)=true) (hf:∀ m x,genFold (.Call (.Name (Mi "zip") zp) es [] cp) m x=pure x) :
  Ev W fc env hp (.Call (.Name (Mi "tuple") np) [.GeneratorExp (.BinOp (.Name xa p1) .Add (.Name xb p2) bp) [⟨.Tuple [.Name xa pa,.Name xb pb] kt pt,.Call (.Name (Mi "zip") zp) es [] cp,[],0⟩] scope gp] [] pos)
   (.tup (iL (ae8 (· + ·) as bs))) hp₁:=by
 refine .mk ?_;intro cx g s Q E P0 t0 hQ;have hh:=P0.fm.hnd hq;have ch:cx.A.depth<recursionLimit:=by have:=P0.fm.room.1;exact acj (ab0 _ (fc.k+1)) this
 refine wpAny_Call_Name_kw (gt.go env hp cx g s _ E P0 ?_);refine callWith_of (P:=λh=> ∀ b o,W.B.get? b=some o->h.get? b=some o) (by rfl) (λh hh=>eQ _ h hh) (bk rfl ?_);refine aa (aY _ _ _ rfl) ?_;refine spliced_cons ?_;have e0:((".0" : Str)==(".0" : Str))=true:=by decide +kernel
 have e1:(xa==(".0" : Str))=false:=beq_false_of_ne D9;have e2:(xb==(".0" : Str))=false:=beq_false_of_ne D';have e3:(xb==xa)=false:=by simpa using afv nE
 refine wpAny_with_toks (abm _) (wpAny_GeneratorExp_walksQTD (cl:=[]) hh tP ?_ ?_ ?_ ?_ ?_ nE hk ch ?_ (hf cx.menv))
 ·exact j0 (menv:=cx.menv) (scope:=scope) (λn hm=>by rw[hn]at hm;simp at hm) |>.trans (by exact aa hn rfl)
 ·intro y hy;rw[hn]at hy;simp at hy;rcases hy with rfl|rfl|rfl<;>exact not_eq_of_beq_eq_false rfl
 ·exact aa hn rfl
 ·refine aa hn ?_;simp[alc,e1]
 ·refine aa hn ?_;simp[alc,e2,e3]
 refine wpAny_Call_Name_kw (gz.go env hp cx g s _ _ P0 ?_);refine callWith_of (P:=λh=> ∀ b o,W.B.get? b=some o->h.get? b=some o) (by refine(?_:(_||false)=false);rw[afm];exact bM hs) (λh hh=>eQ _ h hh) (bk hs ?_);refine ha.go cp cx g s _ _ P0 t0 λYx s₁ ys Yw rv=>⟨Yw.pre.inv.base,?_⟩;(refine au (Eo rv) λy1 y2 an ra rb=> ?_;obtain rfl:=an);(refine bT (eY ra) λl1 vs an F1 T1 R1=> ?_;obtain rfl:=an);(refine bT (eY rb) λl2 us an F2 T2 R2=> ?_;obtain rfl:=an);refine H_ T1.isTuple T2.isTuple λYK Zf Z ET=> ?_;refine wpAny_pyIter_zip Z.z_ ?_;refine⟨mo.keeps λb o e=>Zf b o (Yw.pre.inv.base b o e),?_⟩;have Zv:=Yw.pre.inv.ext Zf;refine Fg (s:={ s₁ with heap:=YK }) C ((P0.fm.code ht).trans nK) Zv hT λcv YT tk hx wv eB=> ?_;refine bK (Zv.table hT hx wv) λtd EU Z6=> ?_;have ZG:=M.keeps td.base;refine aa P0.fm.globals ?_;refine wpAny_builtinsFor ZG.ns ZG.name ZG.ne ZG.obj ZG.cls ZG.dict ZG.data ?_;have eP:=(Zv.tabAt hT).1;have hPρ:P∈Yx.ρ:=acq eP;obtain⟨oP,hoP⟩:∃ o,s₁.heap.get? P=some o:=by refine bw (Yw.pre.inv.tabAt hT) λe r=> ?_;dsimp only[RO]at r;obtain⟨_,eM,hP,_⟩:=r;exact⟨_,hP⟩
 have oQ:P<s₁.heap.objs.size:=ado hoP;have n1:l1≠P:=λq=>Yw.pre.inv.ρF P hPρ (q▸F1);have n2:l2≠P:=λq=>Yw.pre.inv.ρF P hPρ (q▸F2);have gT:l1<s₁.heap.objs.size:=by obtain⟨m,e⟩:=T1;exact ado e
 have gX:l2<s₁.heap.objs.size:=by obtain⟨m,e⟩:=T2;exact ado e
 generalize hN:s₁.heap.objs.size=N at *;have oq:∀ n:Nat,N<=n->n≠P:=λn h0=>ahz (aby oQ h0);have EB:YT.get? (N+4)=some _:=hx _ _ (oq _ (ab0 _ _)) Z.z_;have nr:N+4<YT.objs.size:=ado EB;have AU:Zp YT (N+4) (N+2) (N+3) N (N+1) l1 l2 .none 0 vs.toArray us.toArray:=
  ⟨hx _ _ (oq _ (ab0 _ _)) Z.z_,hx _ _ (oq _ (ab0 _ _)) Z.I_,(let⟨a,b,e⟩:=Z.O_;⟨a,b,hx _ _ (oq _ (ab0 _ _)) e⟩),IsTupIter.at' Z.a_ λo e=>hx _ o (oq _ (abm _)) e,IsTupIter.at' Z.b_ λo e=>hx _ o (oq _ (ab0 _ _)) e,
   IsTup.at' Z.x_ λo e=>hx _ o n1 e,IsTup.at' Z.y_ λo e=>hx _ o n2 e⟩
 have D:ZipApart (N+4) (N+2) (N+3) N (N+1) l1 l2:=by constructor<;>(refine(?_:@Ne Nat _ _);have:= @id (@anc Nat _ l1 N) gT;have:= @id (@anc Nat _ l2 N) gX;first|exact aeb (aby gT (ab0 N _))|exact aeb (aby gX (ab0 N _))|exact aeb gT|exact aeb gX|lia)
 have sK:vs.length=as.length:=by refine aa R1.length ?_;simp[iL]
 have rc:us.length=bs.length:=by refine aa R2.length ?_;simp[iL]
 have rV:∀(i:Nat)(x y:Value),vs.toArray[i]? =some x->us.toArray[i]? =some y-> ∃(a b:Int)(ta tb:Tok),as[i]? =some a/\bs[i]? =some b/\x=ag3 a ta/\y=ag3 b tb:=by
  intro i x y f8 sP;simp only[List.getElem?_toArray]at f8 sP;have hi:i<as.length:=by exact aa (ach sK) ((abw.mp f8).1)
  have hj:i<bs.length:=by exact aa (ach hl) hi
  refine cps λ_ c_=> ?_;refine ak (R1.get (i:=i) (x:= .int as[i]) (by simp[iL,hi])) λy1 e1 EN=> ?_;refine ak (R2.get (i:=i) (x:= .int bs[i]) (by simp[iL,hj])) λy2 e2 EO=> ?_;rw[f8]at e1;cases e1;rw[sP]at e2;cases e2;obtain⟨ta,rfl⟩:=aA EN;obtain⟨tb,rfl⟩:=aA EO;refine c_ ?_;exact⟨_,_,_,_,abu hi,abu hj,rfl,rfl⟩
 refine Wz _ _ _ _ _ _ _ (λ_=>true) (λ(i:Nat)(y:Value)=> ∃(a b:Int)(u:Tok),as[i]? =some a/\bs[i]? =some b/\y=ag3 (a+b) u) ⟨rfl,λA' hA=>Fi hA _ _ _ _ _ l1 l2 D vs.toArray us.toArray (by simp[sK,rc,hl]),?_,AU,?_,mo.keeps td.base,?_,?_,?_⟩
 ·rintro i f_ ⟨x,y,_,_,rfl⟩;exact⟨x,y,rfl⟩
 ·intro b hb;simp only[abx,adh,or_false]at hb;refine(?_:b<YT.objs.size);have gT:= @id (@anc Nat _ l1 N) gT;have gX:= @id (@anc Nat _ l2 N) gX;rcases hb with rfl|rfl|rfl|rfl|rfl|rfl|rfl<;>(refine(?_:@anc Nat _ _ _);first|exact nr|exact acj (acs (abk rfl) _) nr|exact acj (ab0 _ 4) nr|exact ag5 gT (acj (ab0 _ 4) nr)|exact ag5 gX (acj (ab0 _ 4) nr))
 ·intro hm;obtain⟨_,⟨o,tx,ep,ho,_⟩,_⟩:=mo;have hc:@anc Nat _ cStatics N:=hN▸ado (Yw.pre.inv.base _ _ ho);simp only[abx,adh,or_false]at hm;have hm:@Eq Nat cStatics (N+4)\/ @Eq Nat cStatics (N+3)\/ @Eq Nat cStatics N\/ @Eq Nat cStatics (N+1):=hm
  (have T:∀ k,@Ne Nat cStatics (N+k):=λk e=>ae5 (ab0 N k) (e▸hc);exact hm.elim (T 4) λe=>e.elim (T 3) λe=>e.elim (T 0) (T 1))
 ·intro DU E5;refine⟨?_,?_⟩
  ·intro A' E' i va vb Yv Y8 _ _ _ _ _ _ _ _;exact wpAny_tests_nil ⟨rfl,⟨Yv.heap,Yv.toks,rfl,λ_ _ e=>e⟩⟩
  ·intro A' E' i va vb Yv Y8 _ _ _ hP _ fh ma mb _;refine cps λ_ c_=> ?_;refine au hP λx y f8 sP Au=> ?_;simp only[Array.mk.injEq,ago,and_true]at Au;obtain⟨rfl,rfl⟩:=Au;(refine T7 (rV i _ _ f8 sP) λa b ta tb tp tw oB BF=> ?_;obtain rfl:=oB;obtain rfl:=BF);refine c_ ?_;have kA:(genEnv scope [] YT.objs.size cv builtinsNs cx.menv).kindOf xa=some .local:=by refine(?_:scope.names.lookup xa=_);refine aa hn ?_;simp[alc,e1]
   have kB:(genEnv scope [] YT.objs.size cv builtinsNs cx.menv).kindOf xb=some .local:=by refine(?_:scope.names.lookup xb=_);refine aa hn ?_;simp[alc,e2,e3]
   refine wpAny_BinOp (wpAny_Name (wpAny_loadName_local hk kA fh ma ?_) t9);refine wpAny_Name (wpAny_loadName_local hk kB fh mb ?_) CI;exact wpAny_add_int ⟨⟨a,b,_,tp,tw,rfl⟩,⟨_,_,rfl,λ_ _ e=>e⟩⟩
 ·intro a Z7 A8 gs C2 bq A1 ZV WS GA A2;refine spliced_nil ⟨λb o e=>ZV b o (td.base b o e),?_⟩;have kU:∀ n,passing (λ_=>true) n 0=ai9 n:=λn=>by dsimp only[passing,ajf];exact ai0.mpr (λ_ _=>rfl)
  have ku:∀ n,(passing (λ_=>true) n 0).length=n:=λn=>by(rewrite[kU];exact aa amv rfl)
  have C9:@anc Nat _ YT.objs.size a:=bq;refine call_tuple_gen WS.in4_3 (λi s st=>(let⟨o,nm,qn,ho,hc,_⟩:=st.1;⟨o,ho,hc⟩)) GA (λb hb=> ?_) (abq ..) (λs' acc hm cq=> ?_) (by rw[ku];refine aa sizeLine_eq ?_;simp;exact tl (abj (ab2 sK) hz) rfl)
  ·refine(?_:@anc Nat _ b Z7.objs.size);refine aa A1 ?_;rcases abx.mp hb with rfl|hb
   ·exact aej _
   rcases abx.mp hb with rfl|hb
   ·exact af8 bq
   ·exact af8 (ag5 (List.mem_range.mp hb) bq)
  have lh:∀ b:Nat,b<N->b∉(YT.objs.size::[N+4,N+3,N,N+1]:List Nat):=λb hb i6=>by
   simp only[abx,adh,or_false]at i6;have:= @id (@anc Nat _ (N+4) YT.objs.size) nr
   (have T:∀ k,@Ne Nat b (N+k):=λk e=>ae5 (ab0 N k) (e▸hb);exact i6.elim (λe=>ahj b (ag5 hb (acj (ab0 N 4) (aby nr (ab2 e.symm))))) λe=>e.elim (T 4) λe=>e.elim (T 3) λe=>e.elim (T 0) (T 1))
  have f8:ahv P s₁.heap s'.heap:=λb o hb e=>hm.heap b o (lh b (hN▸ado e)) (ZV b o (hx b o hb (Zf b o e)));have wx:RO W Yx s'.heap P (.tab P ps):=by simp only[RO]at wv ⊢;obtain⟨_,eM,e,w9⟩:=wv;exact⟨trivial,eM,hm.heap P _ (lh P oQ) (ZV P _ e),w9⟩
  refine bK (Yw.pre.inv.table hT f8 wx) λI' AH K'=> ?_;have rT:Run W fc cx g s env hp₁ Yx s':=⟨Yw.evo.trans (AH.evo Yw.pre.inv I'),AH.pre Yw.pre I',⟨hm.os.trans Yw.same.os,λG=>AllBare.movedS (s:={ heap:=Z7,gens:=s₁.gens.push gs,drawn:=s₁.drawn,toks:=A8,os:=s₁.os }) ((Yw.same.gens G).push C2) hm,abj A2 hm.toks⟩⟩;have hD:=ab4 s'.heap (o:={ cls:= .type "tuple",data:= .seq acc }) rfl;refine bw (aH.freeze (hn:=abm _) (cx:=cx) (n:=s'.toks) I' aK hD (λb o e=>abr _ e)) λcr Kf=> ?_;refine hQ _ _ _ (rT.trans (cr.run rT.pre)) ?_;refine⟨_,acc.toList,rfl,.inr rfl,⟨0,by simpa using hD⟩,Bd ?_ λj v hv=> ?_⟩
  ·have:=cq.1;rw[ku]at this;simp[this,sK,hl]
  ·obtain⟨i,hi,a',b',u,ea,eb,rfl⟩:=cq.2 j v (by simpa using hv);have:i=j:=by rw[kU]at hi;have h1:=abw.mp hi;refine aD h1 λh1 h2=> ?_;simpa using h2.symm
   subst this;exact⟨u,_,by(refine aa (agr) ?_;refine aa ea ?_;exact aa eb rfl),rfl⟩
end
section
theorem Inv.freeze_old(I:Inv W g hp h)(hD:∃ o,h.get? D=some o)(hρ:D∉g.ρ)(hB:W.B.get? D=none):Inv W (g.freeze D) hp h/\bU g h (g.freeze D) h:=by
 have K:bU g h (g.freeze D) h:=⟨λa x=> .inl x,λa o _ e=>e,ac2⟩;refine⟨⟨I.base,I.len,λi o a e1 e2=>(I.obs i o a e1 e2).keep K rfl,I.ρB,λa ha hF=> ?_,I.nd,λa ha=> ?_,I.sys.1,λhF=> ?_⟩,K⟩
 ·rcases hF with q|q
  ·exact I.ρF a ha q
  ·subst q;exact hρ ha
 ·rcases ha with q|q
  ·exact I.fz a q
  ·subst q;exact hD
 ·rcases hF with q|q
  ·exact I.sys.2 q
  ·obtain⟨o,e⟩:=I.sys.1;rw[q,hB]at e;cases e
theorem Call.frz(hc:Call W k q f kw args hp (.ref hp₁.length) (hp₁++[ob]))(hl:hp.length<=hp₁.length)(hb:hp₁.all (Ob.low hp₁.length)=true)(ho:ob.low hp₁.length=true)
  (hv:∀ g h a,RO W g h a ob->g.F a->RV W g h v (.ref a)):Call W k q f kw args hp v hp₁:=by
 refine .mk ?_;intro cx g s ys ai Q E bl I rv eC t0 hQ;refine hc.go cx g s ys ai Q E bl I rv eC t0 λYy Yv y r g7=> ?_;have ar:Yy.ρ.length=hp₁.length+1:=by refine aa r.inv.len ?_;simp
 have ki:g.ρ.length<=hp₁.length:=by exact aa I.len hl
 (refine ak (iB g7) λD eD an=> ?_;obtain rfl:=an);have rD:=r.inv.obs hp₁.length ob D cz eD;have I':=r.inv.upto (hp:=hp₁) (n:=hp₁.length) rfl hb;have hDρ:D∈Yy.ρ:=acq eD;have ny:D∉Yy.ρ.take hp₁.length:=λhm=>by
  obtain⟨i,hi,e⟩:=ac5 hm;have eA:i<hp₁.length:=by simp[aeh]at hi;exact aby hi (af1 _ _)
  have e1:Yy.ρ[i]'(aby (af8 eA) (ab2 ar.symm))=D:=by(refine aa (ach e) ?_;exact aa aju rfl)
  have e2:=abw.mp eD;obtain⟨h2,e2⟩:=e2;have:=(aii r.inv.nd).mp (e1.trans e2.symm);exact aeb eA this
 have B8:D∉g.ρ:=λhm=>by obtain⟨i,hi,e⟩:=ac5 hm;have e1:=iw r.evo.ρ (abu hi);obtain⟨h1,e1⟩:=abw.mp e1;obtain⟨h2,e2⟩:=abw.mp eD;have:=(aii r.inv.nd).mp (e1.trans (e.trans e2.symm));exact aeb (aby hi ki) this
 have mi:s.heap.get? D=none:=(r.evo.ρnew D hDρ).resolve_left B8;obtain⟨AN,K⟩:=I'.freeze_old rD.some ny (r.inv.ρB D hDρ);refine hQ ((Yy.upto hp₁.length).freeze D) Yv _ ⟨⟨λa x=> .inl (r.evo.F a x),λa ha=> ?_,?_,λa ha=>r.evo.ρnew a (ae9 ha),r.evo.dom,r.evo.keep⟩,AN,r.same⟩ ?_
 ·rcases ha with q|q
  ·exact r.evo.Fnew a q
  ·subst q;exact .inr mi
 ·refine(?_:g.ρ <+: Yy.ρ.take hp₁.length);obtain⟨t,ht⟩:=r.evo.ρ;(refine aa (ach ht) ?_;refine aa am2 ?_;refine aa (adm ki) ?_);exact ai4 ..
 ·exact hv _ _ _ ((rD.upto ho).keep K rfl) (.inr rfl)
theorem MF:∀ g h a,RO W g h a (.dI ks xs)->g.F a->RV W g h (.dI ks xs) (.ref a):=λg h a r hF=>by simp only[RO]at r;refine iR r λvs h1 h2 h3=> ?_;exact⟨a,vs,rfl,hF,h1,h2,h3⟩
end
section
noncomputable def dX{α:Type}:List (Int×α)->Int->α->List (Int×α)
|[],k,x=>[(k,x)]
|(a,y)::d,k,x=>if a=k then(a,x)::d else(a,y)::dX d k x
noncomputable def gG{α:Type}:List (Int×α)->Int->Option α
|[],_=>none
|(a,y)::d,k=>if a=k then some y else gG d k
theorem p8{α:Type}{k:Int}{x:α}:dX [] k x=[(k,x)]:=rfl
theorem lG{α:Type}{a k:Int}{x y:α}{d:List (Int×α)}:dX ((a,y)::d) k x=if a=k then(a,x)::d else(a,y)::dX d k x:=rfl
theorem dW{α:Type}{k:Int}:gG ([]:List (Int×α)) k=none:=rfl
theorem cW{α:Type}{a k:Int}{y:α}{d:List (Int×α)}:gG ((a,y)::d) k=if a=k then some y else gG d k:=rfl
noncomputable def dK{α:Type}(d:List (Int×α)):List Int:=d.map (·.1)
noncomputable def dV{α:Type}(f:α->V)(d:List (Int×α)):List V:=d.map λp=>f p.2
theorem Om{α:Type}(f:α->V):∀(d:List (Int×α))(k:Int)(x:α),putK (dK d) (dV f d) k (f x)=(dK (dX d k x),dV f (dX d k x)):=by intro ah;induction ah with
|nil=>intro k x;exact rfl
|cons bi d ih=>
  obtain⟨a,y⟩:=bi;intro k x;have ih:=ih k x
  by_cases e:a=k
  ·subst e;exact Eh.trans (by rw[lG,if_pos rfl];rfl)
  ·exact(Eg (ks:=dK d) (vs:=dV f d) e).trans (by rw[lG,if_neg e,ih];rfl)
theorem Tp{α:Type}(f:α->V):∀(d:List (Int×α))(k:Int),valOf (dK d) (dV f d) k=(gG d k).map f:=by intro ah;induction ah with
|nil=>intro k;exact rfl
|cons bi d ih=>
  obtain⟨a,y⟩:=bi;intro k;have ih:=ih k
  by_cases e:a=k
  ·exact(yq e).trans (by rw[cW,if_pos e];rfl)
  ·exact(yp (ks:=dK d) (vs:=dV f d) e).trans (by rw[cW,if_neg e,ih])
theorem W6{α:Type}:∀(d:List (Int×α))(k:Int),decide (k∈dK d)=(gG d k).isSome:=by intro ah;induction ah with
|nil=>intro k;exact rfl
|cons bi d ih=>
  obtain⟨a,y⟩:=bi;intro k;have ih:=ih k;simp only[dK,ab3,dW,cW,abx]at ih ⊢
  by_cases e:a=k
  ·simp[e]
  ·have e':¬k=a:=λq=>e q.symm;(refine aa (if_neg e) ?_;refine aa (ach ih) ?_);exact decide_eq_decide.mpr (or_iff_right e')
theorem l_{α:Type}(f:α->V):∀(d:List (Int×α)),ae8 (λ(a:Int) b=>V.tup [.int a,b]) (dK d) (dV f d)=d.map λp=>V.tup [.int p.1,f p.2]:=by intro ah;induction ah with
|nil=>exact rfl
|cons p d ih=>have ih:=ih;simp only[dK,dV,ab3,List.zipWith_cons_cons]at ih ⊢;(exact aa ih rfl)
theorem iy{α:Type}:∀(d:List (Int×α))(k:Int)(x:α),(dX d k x).length<=d.length+1:=by intro ah;induction ah with
|nil=>intro _ _;exact abm _
|cons bi d ih=>
  obtain⟨a,y⟩:=bi;intro k x;have:=ih k x;simp only[p8,lG]
  split<;>simp<;>assumption
theorem Loop.foldN{σ β:Type}{emb:β->V}{P:Nat->σ->Prop}{ok:List Ob->Prop}{ac:Expr}{body:List Stmt}{f:σ->β->σ}{en:σ->aj}{hq:σ->List Ob}{n:Nat}:∀{xs:List β}{i:Nat}{s:σ},i+xs.length=n->P i s->
  (∀ i s b,i<n->P i s->b∈xs->Turn W fc ok ac body (en s) (hq s) (emb b) (en (f s b)) (hq (f s b))/\P (i+1) (f s b))->
  Loop W fc ok ac body (en s) (hq s) (xs.map emb) (.next (en (xs.foldl f s)) (hq (xs.foldl f s))):=by
 intro ah;induction ah with
|nil=>intro _ _ _ _ _;exact .nil
|cons b xs ih=>intro i s hn hP H;obtain⟨t,lT⟩:=H i s b (by simp at hn;exact hn▸aew (ad0 _)) hP abq;induction t using Turn.casesOn with
 |mk a b' c d=>exact .next a b' c (.less d (ih (i:=i+1) (by simp at hn;exact(ab9 _ _).trans hn) lT λi s b hi hs hb=>H i s b hi hs (abl _ hb)))
theorem Loop.foldM{σ β:Type}{emb:β->V}{P:Nat->σ->Prop}{ok:List Ob->Prop}{ac:Expr}{body:List Stmt}{f:σ->β->σ}{en:σ->aj}{hq:σ->List Ob}{xs:List β}{s:σ}(hP:P 0 s)
  (H:∀ i s b,i<xs.length->P i s->b∈xs->Turn W fc ok ac body (en s) (hq s) (emb b) (en (f s b)) (hq (f s b))/\P (i+1) (f s b)) :
  Loop W fc ok ac body (en s) (hq s) (xs.map emb) (.next (en (xs.foldl f s)) (hq (xs.foldl f s))):=Loop.foldN (ae7 _) hP H
theorem dF.foldN{σ β:Type}{emb:β->V}{P:Nat->σ->Prop}{ok:List Ob->Prop}{ac:Expr}{body:List Stmt}{f:σ->β->σ}{en:σ->aj}{hq:σ->List Ob}{n:Nat}:∀{xs:List β}{i:Nat}{s:σ},i+xs.length=n->P i s->
  (∀ i s b,i<n->P i s->b∈xs->vG W fc ok ac body (en s) (hq s) (emb b) (en (f s b)) (hq (f s b))/\P (i+1) (f s b))->
  dF W fc ok ac body (en s) (hq s) (xs.map emb) (.next (en (xs.foldl f s)) (hq (xs.foldl f s))):=by
 intro ah;induction ah with
|nil=>intro _ _ _ _ _;exact .nil
|cons b xs ih=>intro i s hn hP H;obtain⟨t,lT⟩:=H i s b (by simp at hn;exact hn▸aew (ad0 _)) hP abq;induction t using vG.casesOn with
 |mk a b' c d=>exact .next a b' c (.less d (ih (i:=i+1) (by simp at hn;exact(ab9 _ _).trans hn) lT λi s b hi hs hb=>H i s b hi hs (abl _ hb)))
theorem dF.foldM{σ β:Type}{emb:β->V}{P:Nat->σ->Prop}{ok:List Ob->Prop}{ac:Expr}{body:List Stmt}{f:σ->β->σ}{en:σ->aj}{hq:σ->List Ob}{xs:List β}{s:σ}(hP:P 0 s)
  (H:∀ i s b,i<xs.length->P i s->b∈xs->vG W fc ok ac body (en s) (hq s) (emb b) (en (f s b)) (hq (f s b))/\P (i+1) (f s b)) :
  dF W fc ok ac body (en s) (hq s) (xs.map emb) (.next (en (xs.foldl f s)) (hq (xs.foldl f s))):=dF.foldN (ae7 _) hP H
theorem I7{σ β:Type}{P:σ->Prop}{f:σ->β->σ}:∀{xs:List β}{s:σ},P s->(∀ s b,P s->b∈xs->P (f s b))->P (xs.foldl f s):=by intro ah;induction ah with
|nil=>intro _ h _;exact h
|cons b xs ih=>intro s h H;exact ih (H s b h abq) λs c hs hb=>H s c hs (abl _ hb)
end
section
noncomputable def hide(h:Heap)(P:Addr):Heap:={ h with objs:=h.objs.setIfInBounds P { cls:= .none,data:= .freed } }
theorem M9:(hide h P).get? a=if a=P then none else h.get? a:=by
 unfold hide Heap.get?;simp only[Array.getElem?_setIfInBounds]
 by_cases e:a=P
 ·subst e
  by_cases hl:a<h.objs.size
  ·simp[hl]
  ·simp[hl]
 ·have e':¬P=a:=λq=>e q.symm;simp[e,e']
noncomputable def hides(h:Heap)(L:List Addr):Heap:=L.foldl hide h
theorem pO:∀{L:List Addr}{h:Heap}{a:Addr},(hides h L).get? a=if a∈L then none else h.get? a:=by intro ah;induction ah with
|nil=>intro _ _;rfl
|cons P L ih=>
  intro h a;refine(?_:(hides (hide h P) L).get? a=_);(refine aa ih ?_;refine aa M9 ?_)
  by_cases e:a∈L
  ·simp[e]
  ·by_cases e2:a=P
   ·simp[e,e2]
   ·simp[e,e2]
theorem Jb(e:(hides h L).get? a=some o):h.get? a=some o:=by
 rw[pO]at e
 split at e
 ·injection e
 ·exact e
theorem lg(e:h.get? a=some o)(hn:a∉L):(hides h L).get? a=some o:=by(refine aa pO ?_;refine aa (if_neg hn) ?_);exact e
theorem t6(hN:h.Ns N m)(hn:N∉L):(hides h L).Ns N m:=by obtain⟨o,es,ep,ho,r⟩:=hN;exact⟨o,es,ep,lg ho hn,r⟩
theorem items_int:∀{xs:List WData},ank R xs .int=true-> ∃ ns:List Int,xs=ns.map .int:=by intro ah;induction ah with
|nil=>intro _;exact⟨[],rfl⟩
|cons x xs ih=>intro h;simp only[ank,ab1]at h;obtain⟨n,rfl⟩:=hasW_int h.1;obtain⟨ns,rfl⟩:=ih h.2;exact⟨n::ns,rfl⟩
theorem Nt{l:OpenLaw}(fw:l.row.toRowW.claim.pre args=true)(hm:l.most=some 63):∃ ns:List Int,args=[.list (ns.map .int)]/\ns.length<=63:=by
 obtain⟨mI,hc⟩:=pre_splitW fw;(refine au (hasAllW_cons mI) λd r an hx hr=> ?_;obtain rfl:=an);obtain rfl:=hasAllW_nil hr;(refine ak (hasW_list hx) λxs dy fN=> ?_;obtain rfl:=dy);obtain⟨ns,rfl⟩:=items_int fN;refine⟨ns,rfl,?_⟩;have fe:(apf l).holds [] { args:=[.list (ns.map .int)] }=true:=hc;unfold apf at fe;rw[hm]at fe;obtain⟨h1,_⟩:=holds_andW fe;simp[WTm.holds,WTm.value]at h1;have hl:W.less? (WData.int 63) (WData.int (ns.length:Int))=some (decide ((63:Int)<ns.length)):=by rfl
 rw[hl]at h1
 by_cases hM:(63:Int)<ns.length
 ·rw[decide_eq_true hM]at h1;exact absurd h1 (by decide)
 ·exact ac9.mp (afr.mp hM)
theorem JW:∀{ns:List Int}{vs:List Value},WellAll P h vs (ns.map .int)-> ∀{W:Wd}{g:Gh},aQ W g h (iL ns) vs:=by intro ah;induction ah with
|nil=>intro vs x W g;cases x;exact rfl
|cons n ns ih=>intro vs x W g;cases x with
 |cons a b=>cases a with
  |int i t=>exact aJ cA (ih b)
structure Start(K:Frag)(tabs:List Addr)(mg mb:Str->Option Value)(h:Heap):Prop where
 X:K.In h
 g:h.Ns mainGlobals mg
 b:h.Ns builtinsNs mb
 bb:∀ x:Str,x≠ "__name__" ->mb x=bootBuiltins x
 lim:h.NoLimit
 bm:∃ bm ob,mg "__builtins__" =some (.ref bm)/\bm≠builtinsNs/\h.get? bm=some ob/\ob.cls= .type "module" /\ob.dict=some builtinsNs/\ob.data= .plain
 sys:∃ o,h.get? sysModules=some o
 tab:∀ P∈tabs,∃ c,h.TableAt c P #[]
 low:∀ P∈tabs,sysModules<P/\P≠mainGlobals/\P≠builtinsNs/\P≠cStatics
 off:∀ P∈tabs,K.lookup P=none
 nd:tabs.Nodup
end
section
structure J4(W:Wd)(fc:FC)(env:aj)(hp:List Ob)(iX:List Stmt)(o:Out):Prop where
 go:∀(cx:Cx)(g:Gh)(s:Shared)(Q:Flow->Shared->Prop)(E:Value->Shared->Prop),Pre W fc cx g env hp s.heap->
  (∀ g' s' f,After W fc cx g s o f g' s'->Q f s')->cj (model W.prog W.w) cx.A (execs iX cx.menv) Q E s
structure sO(W:Wd)(k:Nat)(q:Bool)(f:Value)(kw:List Str)(args:List V)(hp:List Ob)(v:V)(hp':List Ob):Prop where
 go:∀(cx:Cx)(g:Gh)(s:Shared)(ys:List Value)(ai:List (Str×Value))(Q:Value->Shared->Prop)(E:Value->Shared->Prop),Bl W k q cx g s.heap->Inv W g hp s.heap->aQ W g s.heap args (ys++ai.map (·.2))->ai.map (·.1)=kw->
  (∀ g' s' y,aH W cx g s hp' g' s'->RV W g' s'.heap v y->Q y s')->cj (model W.prog W.w) cx.A (agd f ys ai) Q E s
theorem zJ{i:Int}(h2:wI W fc env hp es vs hp₁)(hl:vs.length<=900)(p:pC fc.nm env x .local (.ref hp₁.length) ag)
  (hr:gJ W fc ag (hp₁++[.list (.int i::vs)]) rest o):J4 W fc env hp (.Assign [.Name x p'] (.List (.Constant (.int i) ck cp::es) lp) spos::rest) o:=by
 refine .mk ?_;intro cx g s Q E P hQ;refine cZ (aM (wpAny_Assign_Name (ai6 ?_) (cI rfl)));refine aa (aY _ _ _ rfl) ?_;refine spliced_cons (wpAny_Constant_int (k:=ck) (pos:=cp) ?_);have r0:Run W fc cx g s env hp g { s with toks:=s.toks+1 }:= .toks P (acg _);refine h2.go lp cx g { s with toks:=s.toks+1 } _ _ P (ad0 _) λYx s₁ ys Yw YL=> ?_;have ar:=YL.length;have YL:aQ W Yx s₁.heap (.int i::vs) (.int i s.toks::ys):=aJ cA YL;refine wpAny_newObj_type ?_ (by refine(?_:(.int i s.toks::ys:List Value).toArray.size<=sizeLine);(refine aa aci ?_;refine aa sizeLine_eq ?_;refine aa acv ?_);exact tl (adc (abj (ab2 ar) hl)) rfl);have ho:=ab4 s₁.heap (o:={ cls:= .type "list",dict:=none,data:= .seq (ag3 i s.toks::ys).toArray }) rfl;obtain⟨P',ev⟩:=Yw.pre.grow (ob:= .list (.int i::vs)) (get?_size_none _) (λb o e=>abr _ e) (λK=>⟨_,⟨0,ho⟩,YL.keep K⟩);have r2:=(r0.trans Yw).trans (⟨ev,P',⟨rfl,id,abm _⟩⟩:Run W fc cx Yx s₁ env (hp₁++[.list (.int i::vs)]) _ { s₁ with heap:=s₁.heap.push { cls:= .type "list",dict:=none,data:= .seq (ag3 i s.toks::ys).toArray } });have t1:0<s₁.toks:=aby (ad0 _) Yw.same.tk;refine dw r2.pre p (v:= .ref hp₁.length) (⟨_,lZ Yx Yw.pre.inv _,rfl⟩) λYv YH=> ?_;refine hr.go cx _ Yv Q E YH.pre (aby t1 YH.same.tk) λZk Zg f a=>hQ Zk Zg f (After.trans (r2.trans YH) a)
theorem HX(hf:FnAt W f fd body)
  (hb:∀(g:Gh)(s:Shared)(ys:List Value)(ai:List (Str×Value)),(∀ b o,W.B.get? b=some o->s.heap.get? b=some o)->aQ W g s.heap args (ys++ai.map (·.2))->ai.map (·.1)=kw-> ∃ bS,aQ W g s.heap args' bS/\BindsTo s fd ⟨ys,ai⟩ (xs.zip bS))
  (aI:Puts fd.scope.names [] xs args' YJ) (aw:J4 W (cH fd k q) YJ hp body o) (ho:o.value v hp₁):sO W (k+1) q (.ref f) kw args hp v hp₁:=by
 refine .mk ?_;intro cx g s ys ai Q E bl I rv eC hQ;refine ak (hb g s ys ai I.base rv eC) λbS df hZ=> ?_;refine ak hf.obj λob gL dP=> ?_;have ch:cx.A.depth<recursionLimit:=by have:=bl.room.1;exact acj (ab0 _ (k+1+1)) this
 have ax:∀ x∈xs.zip bS,fd.scope.names.lookup x.1=some .local\/(fd.scope.names.lookup x.1=some .cell/\((cellsFrom (s.heap.objs.size+1) fd.scope.names []).lookup x.1).isSome=true):=
  λx hx=>fO hf.nodup aI x.1 (af0 hx).1
 refine lO (dC ch (I.base _ _ gL) dP hf.co hf.gen hf.body ?_ (hZ _ _ _ _ ?_))
 ·obtain⟨c,oc,vs,t,e,hc,r⟩:=hf.code;exact⟨c,oc,vs,t,e,I.base _ _ hc,r⟩
 refine aa hf.clo ?_;refine aR hf.kind ax λmenv he s₁ x eB=> ?_;have en:=entered hf bl I df aI he x eB;refine⟨en.lim,nu ?_⟩;refine aw.go (cx.under menv) g s₁ _ _ en.pre λYy Yv fl af=> ?_;induction o using Out.casesOn with
|next e1 YC=>obtain⟨rfl,r⟩:=af;obtain⟨rfl,rfl⟩:=ho;exact hQ Yy Yv .none (en.fin r) rfl
|ret u YC=>obtain⟨y,rfl,r,Y0⟩:=af;obtain⟨rfl,rfl⟩:=ho;exact hQ Yy Yv y (en.fin r) Y0
|brk=>exact ho.elim
|cont=>exact ho.elim
theorem Cg(hf:FnAt W f fd body)(hx:fd.params.args.map (·.arg)=[x1])(hb:∀ y1,bindArgs fd ⟨[y1],[]⟩=pure [(x1,y1)])
  (aI:Puts fd.scope.names [] [x1] [a1] YJ) (aw:J4 W (cH fd k q) YJ hp body o) (ho:o.value v hp₁):sO W (k+1) q (.ref f) [] [a1] hp v hp₁:=
 HX hf (xs:=[x1]) (args':=[a1]) (λg s ys ai _ rv hk=>by
  obtain rfl:ai=[]:=by simpa using hk
  have df:aQ W g s.heap [a1] ys:=by simpa using rv
  (refine au (aX df) λy1 t1 an r1 i9=> ?_;obtain rfl:=an);obtain rfl:=vz i9;exact⟨[y1],df,aez (hb y1)⟩) aI aw ho
theorem enter{K:Frag}{tabs:List Addr}{mg mb:Str->Option Value}{prog:Program}{w:World}{s:Shared}(S:Start K tabs mg mb s.heap)(ef:s.gens= #[]){l:OpenLaw}{cl:Str->Option Addr}{rg:ExcName->Option Value}{ns:List Int}{a fa:Addr}{vs:List Value}
  (ha:s.heap.get? a=some { cls:= .type "list",data:= .seq vs.toArray }) (xc:WellAll w.params s.heap vs (ns.map .int)) (iO:a≠sysModules) {k:Nat} (hk:Kc callerA k) {hp':List Ob}
  (H:∀ W:Wd,W.prog=prog->W.w=w->HJ W K mg mb->(∃ bm ob,BMod W.B mainGlobals mg bm ob)->sO W k true (.ref fa) [] [.lst (iL ns)] (tabs.map λP=> .tab P #[]) (.bool true) hp')
  (aI:∀(i:Nat) P,tabs[i]? =some P->hp'[i]? =some (.tab P #[])) :
  cj (model prog w) callerA (agd (.ref fa) [.ref a]) (λv s'=>GoodWG l.row.toRowW.claim cl rg [.list (ns.map .int)] s (.ok (.ret v)) s') (λe s'=>GoodWG l.row.toRowW.claim cl rg [.list (ns.map .int)] s (.error e) s') s:=by
 refine zG S.bm λbm ob m1 m2 m3 m4 m5 m6=> ?_;have tabObj:∀ P∈tabs,s.heap.get? P=some { cls:= .none,data:= .fields #[] }:=λP hP=>by obtain⟨c,t⟩:=S.tab P hP;exact t.2
 have fp:a∉tabs:=λhm=>by have:=tabObj a hm;rw[ha]at this;cases this
 have hZ:bm∉tabs:=λhm=>by have:=tabObj bm hm;rw[m3]at this;cases this;cases m4
 let W:Wd:=⟨prog,w,hides s.heap tabs⟩;have ng:∀ n,n<=sysModules->n∉tabs:=λn hn hm=>ahj _ (aby (S.low n hm).1 hn);have G:HJ W K mg mb:=by
  refine⟨λb o e=> ?_,t6 S.g λhm=>(S.low _ hm).2.1 rfl,t6 S.b λhm=>(S.low _ hm).2.2.1 rfl,?_,S.bb⟩
  ·refine lg (S.X b o e) λhm=> ?_;rw[S.off b hm]at e;cases e
  ·obtain⟨mc,h1,h2⟩:=S.lim;exact⟨mc,t6 h1 λhm=>(S.low _ hm).2.2.2 rfl,h2⟩
 have M:BMod W.B mainGlobals mg bm ob:=⟨G.g,m1,m2,lg m3 hZ,m4,m5,m6⟩;let YW:Gh:=⟨λb=>b=a,tabs⟩;have I:Inv W YW (tabs.map λP=> .tab P #[]) s.heap:=by
  refine⟨λb o e=>Jb e,by simp[YW],λi o b e1 e2=> ?_,λb hb=>by refine(?_:(hides s.heap tabs).get? b=none);(refine aa pO ?_;exact aa (if_pos hb) rfl),λb hb hF=>fp (hF▸hb),S.nd,λb hF=>⟨_,hF▸ha⟩,?_⟩
  ·rw[ady]at e1;have e2:tabs[i]? =some b:=e2;rw[e2]at e1;cases e1;exact⟨rfl,#[],by simpa using tabObj b (acq e2),by simp[TriplesOk]⟩
  ·obtain⟨o,ho⟩:=S.sys;exact⟨⟨o,lg ho (ng _ (abm _))⟩,λhF=>iO hF.symm⟩
 have rv:aQ W YW s.heap [.lst (iL ns)] ([.ref a]++([]:List (Str×Value)).map (·.2)):=by refine aP ?_;exact⟨a,vs,rfl,rfl,⟨0,ha⟩,JW xc⟩
 have bl:Bl W k true ⟨default,[],[],callerA⟩ YW s.heap:=⟨hk,λ_=>rfl,rfl,trivial,λb hb=>by simp at hb⟩;refine(H W rfl rfl G ⟨bm,ob,M⟩).go ⟨default,[],[],callerA⟩ YW s [.ref a] [] _ _ bl I rv rfl λg' s' y r ry=> ?_;obtain rfl:=Hn ry;have qA:l.row.toRowW.claim.post [ama (ns.map .int)] (.bool true) [ama (ns.map .int)]=true:=by refine(?_:(WShape.has [] (.bool true) .bool&&WTm.holds [] (.eq .res (.lit (.bool true))) { args:=[ama (ns.map .int)],res:=some (.bool true),after:=[ama (ns.map .int)] })=true);rw[ab1];exact⟨rfl,(by kernel_rfl)⟩
 refine⟨.inl ⟨_,.bool true,[],rfl,λcls=>rfl,.bool true,qA,λ_=>⟨ai7,λb hb=>by cases hb⟩⟩,⟨λb o e=> ?_,λb o e=> ?_⟩,r.same.os,r.same.gens (.of_eq ef)⟩
 ·by_cases hb:b∈tabs
  ·obtain⟨i,hi,rfl⟩:=ac5 hb;have e1:tabs[i]? =some tabs[i]:=abu hi;have e2:=iw r.evo.ρ e1;have r1:=r.inv.obs i _ _ (aI i _ e1) e2;dsimp only[RO]at r1;obtain⟨_,eM,e3,_⟩:=r1;obtain⟨c,t⟩:=S.tab _ hb;have e4:=tabObj _ hb;rw[e4]at e;cases e;exact .inr (.inl ⟨t.isCodeTable,rfl,#[],eM,rfl,e3⟩)
  ·exact .inl (r.inv.base b o (lg e hb))
 ·exact r.evo.dom b o e
end
section
theorem Loop.foldX{σ β:Type}{emb:β->V}{P:Nat->σ->Prop}{ok:List Ob->Prop}{ac:Expr}{body:List Stmt}{f:σ->β->σ}{en:σ->aj}{hq:σ->List Ob}{ys:List β}:∀{xs:List β}{i:Nat}{s:σ},ys.drop i=xs->P i s->
  (∀ i s b,P i s->ys[i]? =some b->Turn W fc ok ac body (en s) (hq s) (emb b) (en (f s b)) (hq (f s b))/\P (i+1) (f s b))->
  Loop W fc ok ac body (en s) (hq s) (xs.map emb) (.next (en (xs.foldl f s)) (hq (xs.foldl f s))):=by
 intro ah;induction ah with
|nil=>intro _ _ _ _ _;exact .nil
|cons b xs ih=>
  intro i s hn hP H;have e1:ys[i]? =some b:=by have:=congrArg akc hn;simpa[af2]using this
  have e2:ys.drop (i+1)=xs:=by have:=congrArg ai3 hn;simpa[agj]using this
  obtain⟨t,lT⟩:=H i s b hP e1;induction t using Turn.casesOn with
 |mk a b' c d=>exact .next a b' c (.less d (ih e2 lT H))
noncomputable def along{σ β:Type}(ok:σ->β->Bool)(f:σ->β->σ):σ->List β->Bool
|_,[]=>true
|s,b::bs=>ok s b&&along ok f (f s b) bs
theorem wK{σ β:Type}{ok:σ->β->Bool}{f:σ->β->σ}{s:σ}:along ok f s []=true:=rfl
theorem wJ{σ β:Type}{ok:σ->β->Bool}{f:σ->β->σ}{s:σ}{b:β}{bs:List β}:along ok f s (b::bs)=(ok s b&&along ok f (f s b) bs):=rfl
theorem Km{σ β:Type}{ok:σ->β->Bool}{f:σ->β->σ}:∀{ys:List β}{s:σ},along ok f s ys=true-> ∀{i:Nat}{b:β},ys[i]? =some b->ok ((ys.take i).foldl f s) b=true:=by intro ah;induction ah with
|nil=>intro _ _ i b e;simp at e
|cons y ys ih=>intro s h bi;induction bi using acw with
 |zero=>intro b e;simp only[wK,wJ,ab1]at h;simp at e;subst e;exact h.1|succ i=>intro b e;simp only[wK,wJ,ab1]at h;simp only[aln,acd];exact ih h.2 (by simpa using e)
theorem JR{σ β:Type}{f:σ->β->σ}{ys:List β}{s:σ}{i:Nat}{b:β}(e:ys[i]? =some b):(ys.take (i+1)).foldl f s=f ((ys.take i).foldl f s) b:=by(refine aa List.take_succ ?_;refine aa e ?_);simp
end
section
theorem qi(h:n<2 ^ 60):n.log2<60:=by
 by_cases h0:n=0
 ·subst h0;decide
 ·exact(Nat.log2_lt h0).mpr h
theorem gU{a b:Int}(hb:b.natAbs<2 ^ 60):afd a b=false:=by
 have h1:=qi hb;unfold afd;simp only[gt_iff_lt,Bool.and_eq_false_iff,decide_eq_false_iff_not,aem];left
 split
 ·exact ac4 _
 ·lia
theorem Qx{a b:Int}(hb:b≠0)(ha:a.natAbs<2 ^ 60)(pd:b.natAbs<2 ^ 60):uP W fc env hp .FloorDiv (.int a) (.int b) (.int (a.fdiv b)) hp:=
 pG hb (ag5 (qi ha) (by decide)) (gU pd)
theorem sZ{i:Int}(hi:i.natAbs<2 ^ 60):Call W k q (.type "str") [] [.int i] hp (.str (Mi (toString i))) hp:=wU (ag5 (qi hi) (by decide))
end
section
theorem GP{K:Frag}{C:Addr}(X:K.In W.B)(e:∀ q,peek K q (keeperOf (.ref C))=some .machine):Kp W (.ref C):=λM h hk=>⟨.machine,.inr (.inl rfl),(Looks.of_peek X (e _)).keeps hk⟩
inductive sI(W:Wd)(fc:FC)(ok:List Ob->Prop)(ac elt:Expr)(e:aj)(q:List Ob)(v u:V)(q':List Ob):Prop
|mk {YB:aj} (a:gW W fc e q ac v YB q) (b:Ev W fc YB q elt u q') (c:ok q') (d:bh e YB):sI W fc ok ac elt e q v u q'
noncomputable def iC{σ β α:Type}(f:σ->β->σ)(out:σ->β->α):σ->List β->List α
|_,[]=>[]
|s,b::bs=>out s b::iC f out (f s b) bs
theorem Hp{σ β α:Type}{f:σ->β->σ}{out:σ->β->α}{s:σ}:iC f out s []=[]:=rfl
theorem Ho{σ β α:Type}{f:σ->β->σ}{out:σ->β->α}{s:σ}{b:β}{bs:List β}:iC f out s (b::bs)=out s b::iC f out (f s b) bs:=rfl
theorem bW.scanN{σ β:Type}{emb:β->V}{P:Nat->σ->Prop}{N:Nat}{ok:List Ob->Prop}{ac elt:Expr}{f:σ->β->σ}{out:σ->β->V}{hq:σ->List Ob}:∀{xs:List β}{i:Nat}{s:σ},P i s->i+xs.length<=N->
  (∀ i s b,i<N->P i s->b∈xs->sI W fc ok ac elt env (hq s) (emb b) (out s b) (hq (f s b))/\P (i+1) (f s b))->bW W fc ok ac [] elt env (hq s) (xs.map emb) (iC f out s xs) (hq (xs.foldl f s)):=by
 intro ah;induction ah with
|nil=>intro _ _ _ _ _;exact .nil
|cons x xs ih=>intro i s hP hN H;simp only[acv]at hN;obtain⟨t,lT⟩:=H i s x (ake hN) hP abq;induction t using sI.casesOn with
 |mk a b c d=>exact .take a .nil b c (.less d (ih lT (abj (ab2 (ab9 _ _)) hN) λi s b hi hs hb=>H i s b hi hs (abl _ hb)))
theorem mL{σ β α γ:Type}(f:σ->β->σ)(out:σ->β->α)(g:α->γ):∀(xs:List β)(s:σ),iC f (λs b=>g (out s b)) s xs=(iC f out s xs).map g:=by intro ah;induction ah with
|nil=>intro _;exact rfl
|cons x xs ih=>intro s;simp only[Hp,Ho,ab3,ih]
theorem bW.mapE{β:Type}{emb g:β->V}{ok:List Ob->Prop}{ac elt:Expr}(aT:ok hp):∀{xs:List β},(∀ b∈xs,yu W fc ac elt env hp (emb b) (g b))->bW W fc ok ac [] elt env hp (xs.map emb) (xs.map g) hp:=by intro ah;induction ah with
|nil=>intro _;exact .nil
|cons v vs ih=>intro h;induction h v abq using yu.casesOn with
 |mk a b d=>exact .take a .nil b aT (.less d (ih λv hv=>h v (abl _ hv)))
theorem bW.filtE{β:Type}{emb g:β->V}{p:β->Bool}{ok:List Ob->Prop}{ac elt c:Expr}(aT:ok hp):∀{xs:List β},(∀ b∈xs,sH W fc ac elt c env hp (emb b) (p b) (g b))->bW W fc ok ac [c] elt env hp (xs.map emb) ((xs.filter p).map g) hp:=by intro ah;induction ah with
|nil=>intro _;exact .nil
|cons v vs ih=>intro h;induction h v abq using sH.casesOn with
 |mk a t b d=>induction e:p v using aco with
  |true=>(refine aa (afb (by simpa using e)) ?_;refine aa ab3 ?_);exact .take a (.one (e▸t)) (b e) aT (.less d (ih λv hv=>h v (abl _ hv)))|false=>exact aa (afc (by exact ne_true_of_eq_false e)) (.skip a (.one (e▸t)) aT (.less d (ih λv hv=>h v (abl _ hv))))
theorem Mv(ax:scope.kind= .function)(hnd:(scope.names.map (·.1)).Nodup)(cw:plainNames scope.names=true)(ht:gD tup ac=true)(hs:∀ m x,foldedSetIterable iter m x=pure x)(hq:fc.q=true)(aS:Src W fc env hp iter hp₁ ok tup vs)(aT:ok hp₁)(hc:mQ fc.nm env scope.names cy Y4)(hl:bW W (inner fc scope.names cy) ok ac c9 elt Y4 hp₁ vs us hp')(ar:vs.length<=16777216)(aI:pC fc.nm env x .cell (.lst us) ag)(hw:x∈fc.wr)(sC:JQ fc.nm x p pos scope.names=false) :
  Ex W fc env hp (.Assign [.Name x p] (.ListComp elt [⟨ac,iter,c9,0⟩] scope pos) spos) (.next ag hp'):=by
 refine .mk ?_;intro cx g s Q E P t0 hQ;rw[exec_Assign_arm];refine wpAny_bind (wpAny_standAt ?_);refine(?_:wpAny _ _ (swapsWith (.ListComp elt [⟨ac,iter,c9,0⟩] scope pos) (some (.Name x p)) spos.line cx.menv >>= _) _ _ s);(refine aa (lN (elt:=x) P) ?_;refine aa sC ?_);refine wpAny_bind (wpAny_pure ?_);refine aa (if_neg (by decide)) ?_;refine wpAny_bind ((kW ax hnd cw ht hs hq aS aT hc hl ar).go cx g s _ E P t0 λg' s' y r rv=> ?_);refine(?_:wpAny _ _ (pure none >>= _) _ _ s');refine wpAny_bind (wpAny_pure ?_);refine(?_:wpAny _ _ (assignAll y [assign (.Name x p) cx.menv] >>= _) _ _ s');refine wpAny_bind ?_;refine(?_:wpAny _ _ (assign (.Name x p) cx.menv y) _ _ s');exact wpAny_assign_Name (nO r.pre aI hw rv λYv Yz=>wpAny_pure (hQ g' Yv .next ⟨rfl,r.trans Yz⟩))
end
section
variable{W:Wd}
mutual
noncomputable def V.pl:Nat->V->Bool
|_,.int _=>true
|_,.str s=>acy s
|n+1,.tup xs=>Ef n xs
|n+1,.lst xs=>Ef n xs
|_,_=>false
noncomputable def Ef:Nat->List V->Bool
|_,[]=>true
|n,x::xs=>x.pl n&&Ef n xs
end
theorem jT{i:Int}:(V.int i).pl n=true:=rfl
theorem gK:(V.str s).pl n=acy s:=rfl
theorem jU:(V.tup xs).pl (n+1)=Ef n xs:=rfl
theorem jh:(V.lst xs).pl (n+1)=Ef n xs:=rfl
theorem rW:Ef n []=true:=rfl
theorem oY:Ef n (x::xs)=(x.pl n&&Ef n xs):=rfl
mutual
theorem V.pl_fit:∀{n:Nat}{x:V},x.pl n=true->x.fit n
|_,.int _,_=>trivial
|_,.str s,h=>h
|n+1,.tup xs,h=>rU (n:=n) h
|n+1,.lst xs,h=>rU (n:=n) h
|0,.tup _,h=>absurd h acb
|0,.lst _,h=>absurd h acb
|_,.none,_=>trivial
|_,.bool _,_=>trivial
|_,.dS _ _,h=>absurd h acb
|_,.dI _ _,h=>absurd h acb
|_,.ref _,h=>absurd h acb
|_,.iref _ _,h=>absurd h acb
|_,.gl _,h=>absurd h acb
|_,.ty _,h=>absurd h acb
|_,.exc _ _,h=>absurd h acb
|_,.raw _ _,h=>absurd h acb
theorem rU:∀{n:Nat}{xs:List V},Ef n xs=true->fits n xs
|_,[],_=>trivial
|n,x::xs,h=>by have h:=abo.mp h;exact⟨V.pl_fit h.1,rU h.2⟩
end
@[elab_as_elim] theorem V.pl_cases{P:V->Prop}{x:V}(h:x.pl n=true)(ci:∀ i,P (.int i))(cs:∀ s,P (.str s))(ct:∀ m xs,Ef m xs=true->P (.tup xs))(cl:∀ m xs,Ef m xs=true->P (.lst xs)):P x:=by induction x using V.casesOn with
|int i=>exact ci i
|str s=>exact cs s
|tup xs=>induction n using acw with
 |zero=>exact absurd h acb|succ m=>exact ct m xs h
|lst xs=>induction n using acw with
 |zero=>exact absurd h acb|succ m=>exact cl m xs h
|_=>exact absurd h acb
theorem eU(h:¬p):(false=true↔p):=⟨nofun,λx=>(h x).elim⟩
theorem FN{α:Type}[BEq α][LawfulBEq α]{a b:α}{f:α->V}(hf:f a=f b->a=b):(a==b)=true↔f a=f b:=beq_iff_eq.trans ⟨congrArg f,hf⟩
mutual
theorem V.eq_pl:∀{m:Nat}{x y:V}{n:Nat},x.pl n=true->y.pl m=true->(x.eq y=true↔x=y)
|_,.int a,_,_,_,h=>V.pl_cases h (λ_=>FN (f:=V.int) λe=>V.int.inj e) (λ_=>eU nofun) (λ_ _ _=>eU nofun) λ_ _ _=>eU nofun
|_,.str a,_,_,_,h=>V.pl_cases h (λ_=>eU nofun) (λ_=>FN (f:=V.str) λe=>V.str.inj e) (λ_ _ _=>eU nofun) λ_ _ _=>eU nofun
|_,.tup a,_,n,k,h=>V.pl_cases h (λ_=>eU nofun) (λ_=>eU nofun) (λ_ _ h=>(Dm (n:=n.pred) (by induction n using acw with
 |zero=>exact absurd k acb|succ n=>exact k) h).trans ⟨congrArg V.tup,λe=>V.tup.inj e⟩) λ_ _ _=>eU nofun
|_,.lst a,_,n,k,h=>V.pl_cases h (λ_=>eU nofun) (λ_=>eU nofun) (λ_ _ _=>eU nofun) λ_ _ h=>(Dm (n:=n.pred) (by induction n using acw with
 |zero=>exact absurd k acb|succ n=>exact k) h).trans ⟨congrArg V.lst,λe=>V.lst.inj e⟩
theorem Dm:∀{m:Nat}{xs ys:List V}{n:Nat},Ef n xs=true->Ef m ys=true->(eqs xs ys=true↔xs=ys)
|_,[],[],_,_,_=>⟨λ_=>rfl,λ_=>rfl⟩
|_,[],_::_,_,_,_=>eU nofun
|_,_::_,[],_,_,_=>eU nofun
|m,x::xs,y::ys,n,h,h'=>
  have h:=abo.mp h;have h':=abo.mp h'
  abo.trans ((and_congr (V.eq_pl h.1 h'.1) (Dm h.2 h'.2)).trans (List.cons_eq_cons (a:=x) (b:=y) (l:=xs) (l':=ys)).symm)
end
theorem bO(ha:Now hp a u)(hb:Now hp b w)(fa:u.pl 6=true)(fb:w.pl 6=true)(h:u=w↔r=true):j9 W hp .Eq a b r:=by
 have e:u.eq w=r:=by rw[agp,V.eq_pl fa fb,h]
 exact e▸wV ha hb (V.pl_fit fa) (V.pl_fit fb)
theorem ju(ha:Now hp a u)(hb:Now hp b w)(fa:u.pl 6=true)(fb:w.pl 6=true)(h:u=w↔r=false):j9 W hp .NotEq a b r:=by
 have e:(!u.eq w)=r:=by have:=V.eq_pl fa fb;induction e:u.eq w using aco<;>induction r using aco<;>simp_all
 exact e▸UV ha hb (V.pl_fit fa) (V.pl_fit fb)
theorem RP(fa:x.pl n=true)(fb:Ef m xs=true):isIn x xs=true↔x∈xs:=by induction xs with
|nil=>simp[isIn]
|cons y ys ih=>simp only[rW,oY,ab1]at fb;have e:isIn x (y::ys)=(y.eq x||isIn x ys):=rfl;(refine aa e ?_;rw[aef,V.eq_pl fb.1 fa,ih fb.2,abx,eq_comm])
theorem gM{α:Type}{n:Nat}{f:α->V}{xs:List α}(h:∀ x∈xs,(f x).pl n=true):Ef n (xs.map f)=true:=by induction xs with
|nil=>rfl
|cons y ys ih=>simp only[ab3,rW,oY,ab1];exact⟨h y abq,ih λx hx=>h x (abl _ hx)⟩
end
section
variable{k:Nat}{q:Bool}{W:Wd}{fc:FC}{env ag:aj}{hp hp' hp₁:List Ob}
section
variable{K:Type}[DecidableEq K]{knd:aep W.prog W.w K}{x:V}{ks:List K}{vs:List V}{o:Expr}{cb pos:Pos}
end
inductive sG(W:Wd)(fc:FC)(ac kx vx:Expr)(e:aj)(hp:List Ob)(v:V)(n:Int)(u:V):Prop
|mk {YB:aj} (a:gW W fc e hp ac v YB hp) (b:Ev W fc YB hp kx (.int n) hp) (c:Ev W fc YB hp vx u hp) (d:bh e YB):sG W fc ac kx vx e hp v n u
theorem dB.mapE{α β:Type}{emb:β->V}{kf:β->Int}{vf:β->α}{f:α->V}{ok:List Ob->Prop}{ac kx vx:Expr}(aT:ok hp):∀{xs:List β}{d:List (Int×α)},(∀ b∈xs,sG W fc ac kx vx env hp (emb b) (kf b) (f (vf b)))->
  dB W fc ok ac kx vx env hp (xs.map emb) (dK d) (dV f d) (dK (xs.foldl (λd b=>dX d (kf b) (vf b)) d)) (dV f (xs.foldl (λd b=>dX d (kf b) (vf b)) d)) hp:=by
 intro ah;induction ah with
|nil=>intro _ _;exact .nil
|cons v vs ih=>intro d h;induction h v abq using sG.casesOn with
 |mk a b c l=>have e:=Om f d (kf v) (vf v);refine .take a b c aT (.less l ?_);exact aa e (ih λv hv=>h v (abl _ hv))
theorem LC:∀ bs:List Bool,eqs (bs.map V.bool) (adn bs.length (.bool true))=bs.all id:=by intro ah;induction ah with
|nil=>exact rfl
|cons b bs ih=>have e:eqs (V.bool b::bs.map V.bool) (.bool true::adn bs.length (.bool true))=((V.bool b).eq (.bool true)&&eqs (bs.map V.bool) (adn bs.length (.bool true))):=rfl;dsimp only[ab3,acv,alu,age,id_eq];(refine aa e ?_;refine aa (ih) ?_);induction b using aco<;>rfl
theorem wW{bs:List Bool}(ha:Now hp a (.lst (bs.map V.bool)))(hb:Now hp b (.lst (adn n [V.bool true]).flatten))(hn:n=bs.length):j9 W hp .Eq a b (bs.all id):=by subst hn;have e1:(adn bs.length [V.bool true]).flatten=adn bs.length (.bool true):=List.flatten_replicate_singleton;rw[e1]at hb;have e:(V.lst (bs.map V.bool)).eq (.lst (adn bs.length (.bool true)))=bs.all id:=LC bs;exact aa (ach e) (wV ha hb ((zO (n:=5)).mpr λx hx=>ak (ac0.mp hx) λb _ e=>e▸trivial) ((zO (n:=5)).mpr λx hx=>(List.eq_of_mem_replicate hx).symm▸trivial))
mutual
theorem V.low_mono(h:n<=m):∀{x:V},x.low n=true->x.low m=true
|.none,_=>rfl
|.bool _,_=>rfl
|.int _,_=>rfl
|.str _,_=>rfl
|.tup xs,q=>cM h q
|.lst xs,q=>cM h q
|.dS _ xs,q=>cM h q
|.dI _ xs,q=>cM h q
|.ref i,q=>decide_eq_true (aby (of_decide_eq_true q) h)
|.iref _ i,q=>decide_eq_true (aby (of_decide_eq_true q) h)
|.gl _,_=>rfl
|.ty _,_=>rfl
|.exc _ _,_=>rfl
|.raw _ xs,q=>cM h q
theorem cM(h:n<=m):∀{xs:List V},lows n xs=true->lows m xs=true
|[],_=>rfl
|x::xs,q=>abo.mpr ((abo.mp q).imp (λa=>V.low_mono h a) λa=>cM h a)
end
theorem Ob.low_mono(h:n<=m):∀{o:Ob},o.low n=true->o.low m=true:=by intro ah;induction ah using Ob.casesOn with
|list xs=>intro q;exact cM h q
|dS _ xs=>intro q;exact cM h q
|dI _ xs=>intro q;exact cM h q
|ns _ xs=>intro q;exact cM h q
|tab _ _=>intro _;exact rfl
theorem GR{l:List Ob}(hb:hp.all (Ob.low hp.length)=true)(hl:l.all (Ob.low (hp++l).length)=true):(hp++l).all (Ob.low (hp++l).length)=true:=by(refine aa List.all_append ?_;rw[ab1]);refine⟨?_,hl⟩;rw[ab7]at hb ⊢;intro o ho;exact Ob.low_mono (by simp) (hb o ho)
end
section
variable{W:Wd}{fc:FC}{env:aj}{hp:List Ob}{C:Prop}
inductive aU where
|b (c:Bool)
|v (v:V)
|r (v:V) (h:List Ob)
|o (o:Out)
|l (xs:List V)
|h (h:List Ob)
|c (v:V)
|d (v:V)
|i
noncomputable abbrev Due:=List Prop
noncomputable def All:Due->Prop
|[]=>True
|P::l=>P/\All l
def due(i:Nat)(l:Due):Prop:=match l.drop i with
|P::_=>P
|[]=>True
def eE(i:Nat)(l:Due):Prop:=All (l.drop i)
theorem eE.step(h:due i l)(t:eE (i+1) l):eE i l:=by
 have e:l.drop (i+1)=(l.drop i).drop 1:=by rw[an3]
 unfold eE at t ⊢;rw[e]at t;unfold due at h;generalize l.drop i=r at h t;induction r using abn with
|nil=>exact trivial
|cons P r=>exact⟨h,t⟩
theorem eE.done(h:l.drop i=[]):eE i l:=by unfold eE;rw[h];exact trivial
theorem eE.last(h:due i l)(e:l.drop (i+1)=[]):eE i l:= .step h (.done e)
noncomputable abbrev no:Due:=[False]
theorem aW(h:All no):C:=h.1.elim
noncomputable def br(c:Bool)(A B:Due):Due:=match c with
|true=>A
|false=>B
theorem cV{c:Bool}{A B:Due}(h:All (br c A B))(h1:c=true->All A->C)(h2:c=false->All B->C):C:=by induction c using aco with
|true=>exact h1 rfl h
|false=>exact h2 rfl h
theorem iQ{c:Bool}{A:Due}(h:All (br c A no))(h1:c=true->All A->C):C:=cV h h1 λ_=>aW
noncomputable def ask(c:Bool)(q:List aU)(k:Bool->List aU->Due):Due:=match q with
|.b t::r=>(c=t)::k t r
|q=>br c (k true q) (k false q)
theorem sW{c:Bool}{q:List aU}{k:Bool->List aU->Due}(h:All (ask c q k))(h1:∀ r,All (k c r)->C):C:=by have d:∀{q},All (br c (k true q) (k false q))->C:=λh=>cV h (λz h=>h1 _ (z▸h)) λz h=>h1 _ (z▸h);induction q using abn with
|nil=>exact d h
|cons x r=>induction x using aU.casesOn with
 |b t=>have h:c=t/\All (k t r):=h;exact h1 r (h.1▸h.2)|_=>exact d h
noncomputable def tell(q:List aU)(k:V->List aU->Due)(n:Due):Due:=match q with
|.v v::r=>k v r
|_=>n
theorem mO{q:List aU}{k:V->List aU->Due}{n:Due}(h:All (tell q k n))(h1:∀ v r,All (k v r)->C)(h2:All n->C):C:=by induction q using abn with
|nil=>exact h2 h
|cons x r=>induction x using aU.casesOn with
 |v v=>exact h1 v r h|_=>exact h2 h
noncomputable def wB(hp:List Ob)(q:List aU)(k:V->List Ob->List aU->Due):Due:=match q with
|.v v::r=>k v hp r
|.r v h::r=>k v h r
|_=>no
theorem jG{q:List aU}{k:V->List Ob->List aU->Due}(h:All (wB hp q k))(h1:∀ v h r,All (k v h r)->C):C:=by induction q using abn with
|nil=>exact aW h
|cons x r=>induction x using aU.casesOn with
 |r v g=>exact h1 v g r h|v v=>exact h1 v _ r h|_=>exact aW h
noncomputable def Hv(hp:List Ob)(q:List aU)(k:List Ob->List aU->Due):Due:=match q with
|.h h::r=>k h r
|q=>k hp q
theorem uF{q:List aU}{k:List Ob->List aU->Due}(h:All (Hv hp q k))(h1:∀ h r,All (k h r)->C):C:=by induction q using abn with
|nil=>exact h1 _ _ h
|cons x r=>induction x using aU.casesOn<;>exact h1 _ _ h
noncomputable def Px(q:List aU)(k:Bool->List aU->Due):Due:=match q with
|.b v::r=>k v r
|_=>no
theorem Br{q:List aU}{k:Bool->List aU->Due}(h:All (Px q k))(h1:∀ v r,All (k v r)->C):C:=by induction q using abn with
|nil=>exact aW h
|cons x r=>induction x using aU.casesOn with
 |b v=>exact h1 v r h|_=>exact aW h
noncomputable def K_(v:V)(q:List aU)(k:V->List aU->Due):Due:=match q with
|.c w::r=>(v=w)::k w r
|q=>k v q
theorem zc{v:V}{q:List aU}{k:V->List aU->Due}(h:All (K_ v q k))(h1:∀ r,All (k v r)->C):C:=by induction q using abn with
|nil=>exact h1 _ h
|cons x r=>induction x using aU.casesOn with
 |c w=>have h:v=w/\All (k w r):=h;exact h1 r (h.1▸h.2)|_=>exact h1 _ h
noncomputable def TX(v:V)(q:List aU)(k:V->List aU->Due):Due:=match q with
|.d w::r=>(v=w)::k w r
|q=>k v q
theorem K9{v:V}{q:List aU}{k:V->List aU->Due}(h:All (TX v q k))(h1:∀ r,All (k v r)->C):C:=by induction q using abn with
|nil=>exact h1 _ h
|cons x r=>induction x using aU.casesOn with
 |d w=>have h:v=w/\All (k w r):=h;exact h1 r (h.1▸h.2)|_=>exact h1 _ h
noncomputable def Py(q:List aU)(k n:List aU->Due):Due:=match q with
|.i::r=>k r
|q=>n q
theorem Bs{q:List aU}{k n:List aU->Due}(h:All (Py q k n))(h1:∀ r,All (k r)->C)(h2:∀ r,All (n r)->C):C:=by induction q using abn with
|nil=>exact h2 _ h
|cons x r=>induction x using aU.casesOn with
 |i=>exact h1 r h|_=>exact h2 _ h
noncomputable def opt{α:Type}(o:Option α)(k:α->Due)(n:Due):Due:=match o with
|some a=>k a
|none=>n
theorem bz{α:Type}{o:Option α}{k:α->Due}{n:Due}(h:All (opt o k n))(h1:∀ a,o=some a->All (k a)->C)(h2:o=none->All n->C):C:=by induction o using abt with
|some a=>exact h1 a rfl h
|none=>exact h2 rfl h
theorem jg{α:Type}{o:Option α}{k:α->Due}(h:All (opt o k no))(h1:∀ a,o=some a->All (k a)->C):C:=bz h h1 λ_=>aW
theorem aC{α:Type}{a:α}(h:none=some a):C:=nomatch h
noncomputable def asInt:V->Option Int
|.int i=>some i
|_=>none
noncomputable def jl:V->Option Str
|.str i=>some i
|_=>none
noncomputable def sV:V->Option (List V)
|.tup i=>some i
|_=>none
theorem km{i:Int}(h:asInt v=some i):v= .int i:=by induction v using V.casesOn<;>first|exact congrArg V.int (acn h)|exact aC h
theorem gb(h:jl v=some i):v= .str i:=by induction v using V.casesOn<;>first|exact congrArg V.str (acn h)|exact aC h
theorem nQ(h:sV v=some i):v= .tup i:=by induction v using V.casesOn<;>first|exact congrArg V.tup (acn h)|exact aC h
noncomputable def Wi:Ob->Option (List V)
|.list xs=>some xs
|_=>none
theorem Qo(h:Wi o=some xs):o= .list xs:=by induction o using Ob.casesOn<;>first|exact congrArg Ob.list (acn h)|exact aC h
noncomputable def Ks(hp:List Ob):V->Option (List V)
|.lst xs=>some xs
|.ref i=>hp[i]?.bind Wi
|_=>none
theorem Ku(h:Ks hp v=some xs):Lst hp v xs:=by induction v using V.casesOn with
|lst ys=>exact acn h▸ .lst
|ref i=>exact(adi.mp h).elim λo e=> .ref (Qo e.2▸e.1)
|_=>exact aC h
theorem jN{v:V}{k:Int->Due}(h:All (opt (asInt v) k no))(c:∀ i,v= .int i->All (k i)->C):C:=jg h λi e h=>c i (km e) h
theorem Ey{v:V}{k:Str->Due}(h:All (opt (jl v) k no))(c:∀ i,v= .str i->All (k i)->C):C:=jg h λi e h=>c i (gb e) h
theorem PL{v:V}{k:List V->Due}(h:All (opt (sV v) k no))(c:∀ i,v= .tup i->All (k i)->C):C:=jg h λi e h=>c i (nQ e) h
noncomputable def DY(hp:List Ob)(v:V)(q:List aU)(k:List V->List aU->Due)(n:Due):Due:=match q with
|.l xs::r=>Lst hp v xs::k xs r
|q=>opt (Ks hp v) (λxs=>k xs q) n
theorem mD{v:V}{q:List aU}{k:List V->List aU->Due}{n:Due}(h:All (DY hp v q k n))(c:∀ xs q,Lst hp v xs->All (k xs q)->C)(d:All n->C):C:=by have z:∀{q},All (opt (Ks hp v) (λxs=>k xs q) n)->C:=λh=>bz h (λxs e h=>c xs _ (Ku e) h) λ_=>d;induction q using abn with
|nil=>exact z h
|cons x r=>induction x using aU.casesOn with
 |l xs=>exact c xs r h.1 h.2|_=>exact z h
noncomputable abbrev KV:=V->List aU->Due
noncomputable def Nb(c:Int->Int->Prop)(a b:V)(k:Int->Int->Due):Due:=opt (asInt a) (λx=>opt (asInt b) (λy=>c x y::k x y) no) no
theorem rG{c:Int->Int->Prop}{a b:V}{k:Int->Int->Due}(h:All (Nb c a b k))(g:∀ x y,a= .int x->b= .int y->c x y->All (k x y)->C):C:=
 jN h λx e h=>jN h λy e' h=>g x y e e' h.1 h.2
noncomputable def Vr(a b:V)(k:Int->Int->Due):Due:=opt (asInt a) (λx=>opt (asInt b) (λy=>k x y) no) no
theorem Gy{a b:V}{k:Int->Int->Due}(h:All (Vr a b k))(g:∀ x y,a= .int x->b= .int y->All (k x y)->C):C:=
 jN h λx e h=>jN h λy e' h=>g x y e e' h
noncomputable def Wg(hp:List Ob)(a b:V)(q:List aU)(k:KV):Due:=DY hp a q (λx q=>DY hp b q (λy q=>(x.length+y.length<=16777216)::k (.lst (x++y)) q) no) no
theorem Ql{a b:V}{q:List aU}{k:KV}(h:All (Wg hp a b q k))(c:∀ v q,uP W fc env hp .Add a b v hp->All (k v q)->C):C:=
 mD h (λx q l h=>mD h (λy q l' h=>c _ _ (wN l l' h.1) h.2) aW) aW
noncomputable def Wh(hp:List Ob)(a b:V)(q:List aU)(k:KV):Due:=opt (jl a) (λx=>opt (jl b) (λy=>(x.length+y.length<=16777216)::k (.str (x++y)) q) no)<|
 opt (sV a) (λx=>opt (sV b) (λy=>(x≠[]/\y≠[]/\x.length+y.length<=16777216)::k (.tup (x++y)) q) no)<|
 Wg hp a b q k
theorem Qm{a b:V}{q:List aU}{k:KV}(h:All (Wh hp a b q k))(c:∀ v q,uP W fc env hp .Add a b v hp->All (k v q)->C):C:=
 bz h (λx e h=>Ey h λy e' h=>c _ _ (gb e▸e'▸qw h.1) h.2) λ_ h=>
 bz h (λx e h=>PL h λy e' h=>c _ _ (nQ e▸e'▸yK h.1.1 h.1.2.1 h.1.2.2) h.2) λ_ h=>Ql h c
noncomputable def W7(hp:List Ob)(n:Int)(a:V)(q:List aU)(k:KV):Due:=opt (jl a) (λx=>MulOk x n::k (.str (ajp x n)) q)<|
 DY hp a q (λx q=>(0<=n/\n<=1000000/\x.length * n.toNat<=16777216)::k (.lst (adn n.toNat x).flatten) q) no
theorem R_{a:V}{n:Int}{q:List aU}{k:KV}(h:All (W7 hp n a q k))(c:∀ v q,uP W fc env hp .Mult a (.int n) v hp->All (k v q)->C):C:=
 bz h (λx e h=>c _ _ (gb e▸yN h.1) h.2) λ_ h=>mD h (λx q l h=>c _ _ (wO l h.1.1 h.1.2.1 h.1.2.2) h.2) aW
noncomputable def Qw(W:Wd)(fc:FC)(env:aj)(op:Operator)(a b:V)(hp:List Ob)(q:List aU)(k:KV):Due:=match op with
|.Add=>br (asInt a).isSome (Vr a b λx y=>k (.int (x+y)) q) (Wh hp a b q k)
|.Sub=>Vr a b λx y=>k (.int (x - y)) q
|.Mod=>br (asInt a).isSome (Nb (λ_ y=>y≠0) a b λx y=>k (.int (x.fmod y)) q) (tell q (λv q=>uP W fc env hp .Mod a b v hp::k v q) no)
|.FloorDiv=>Nb (λx y=>y≠0/\x.natAbs<2 ^ 60/\y.natAbs<2 ^ 60) a b λx y=>k (.int (x.fdiv y)) q
|.Pow=>Nb (λx n=>0<=n/\(ahg x:Int) * n<=2 ^ 27) a b λx n=>k (.int (x ^ n.toNat)) q
|.Mult=>br (asInt a).isSome (Nb IntMulOk a b λx y=>k (.int (x * y)) q) (opt (asInt b) (λn=>W7 hp n a q k) no)
|_=>no
theorem FP{op:Operator}{a b:V}{q:List aU}{k:KV}(h:All (Qw W fc env op a b hp q k))(c:∀ v q,uP W fc env hp op a b v hp->All (k v q)->C):C:=by induction op using ail with
|Add=>exact cV h (λ_ h=>Gy h λx y e e' h=>c _ _ (e▸e'▸yJ) h) λ_ h=>Qm h c
|Sub=>exact Gy h λx y e e' h=>c _ _ (e▸e'▸yP) h
|Mod=>exact cV h (λ_ h=>rG h λx y e e' q h=>c _ _ (e▸e'▸yL q) h) λ_ h=>mO h (λv q h=>c v q h.1 h.2) aW
|FloorDiv=>exact rG h λx y e e' q h=>c _ _ (e▸e'▸Qx q.1 q.2.1 q.2.2) h
|Pow=>exact rG h λx y e e' q h=>c _ _ (e▸e'▸yO q.1 q.2) h
|Mult=>exact cV h (λ_ h=>rG h λx y e e' q h=>c _ _ (e▸e'▸yM q) h) λ_ h=>jN h λn e h=>R_ h λv q z=>c v q (e▸z)
|_=>exact aW h
end
section
variable{W:Wd}{fc:FC}{env:aj}{hp:List Ob}{C:Prop}
noncomputable def own(k:NameKind):Bool:=k== .local||k== .cell||k== .free
theorem Vz(h:own k=true):k= .local\/k= .cell\/k= .free:=by induction k using aj3<;>first|exact .inl rfl|exact .inr (.inl rfl)|exact .inr (.inr rfl)|exact absurd h acb
noncomputable def mY(x:Str):Names->aj->Option V
|p::nm,o::e=>bif p.1==x then(bif own p.2 then o else none)else mY x nm e
|_,_=>none
theorem eG{α:Type}{c:Bool}{a b r:α}(h:(bif c then a else b)=r)(h1:c=true->a=r->C)(h2:c=false->b=r->C):C:=by induction c using aco with
|true=>exact h1 rfl h
|false=>exact h2 rfl h
theorem Nz:∀{nm:Names}{e:aj},mY x nm e=some v-> ∃ k,own k=true/\Look nm e x k v:=by intro ah;induction ah with
|nil=>intro bi;induction bi using abn with
 |nil=>intro h;exact aC h|cons _ _=>intro h;exact aC h
|cons p nm ih=>intro nt;induction nt using abn with
 |nil=>intro h;exact aC h|cons o e=>intro h;exact eG h (λq h=>eG h (λr u=>⟨p.2,r,by induction p using ai2;obtain rfl:=beq_iff_eq.mp q;subst u;exact .here⟩) λ_ h=>aC h) λ_ h=>(ih h).imp λk z=>⟨z.1,.there z.2⟩
theorem rm(h:mY x fc.nm env=some v):Ev W fc env hp (.Name x p) v hp:=by
 refine(Nz h).elim λk z=> ?_;rcases Vz z.1 with rfl|rfl|rfl
 ·exact U7 z.2
 ·exact Q6 z.2
 ·exact Q7 z.2
noncomputable def oE(x:Str):Names->Option NameKind
|p::nm=>bif p.1==x then some p.2 else oE x nm
|[]=>none
theorem aL:∀{nm:Names},oE x nm=some k->ni nm x k:=by intro ah;induction ah with
|nil=>intro h;exact aC h
|cons p nm ih=>intro h;exact eG h (λq h=>by induction p using ai2;exact beq_iff_eq.mp q▸acn h▸ .here) λ_ h=> .there (ih h)
theorem my:∀{nm:Names}{e:aj},oE x nm=some k->mY x nm e=some v->Look nm e x k v:=by intro ah;induction ah with
|nil=>intro _ h _;exact aC h
|cons p nm ih=>intro bi;induction bi using abn with
 |nil=>intro _ h;exact aC h|cons o e=>
   intro g h;exact eG h (λq h=>eG g (λ_ w=>eG h (λr u=>by induction p using ai2;obtain rfl:=beq_iff_eq.mp q;subst u;obtain rfl:=acn w;exact .here) λ_ h=>aC h) λq' _=>absurd (q'.symm.trans q) acb) λq h=>
     eG g (λq' _=>absurd (q.symm.trans q') acb) λ_ g=> .there (ih g h)
noncomputable abbrev KE:=V->List Ob->List aU->Due
noncomputable abbrev KB:=Bool->List Ob->List aU->Due
noncomputable def wL(W:Wd)(fc:FC)(env:aj)(hp:List Ob)(e:Expr)(q:List aU)(K:KE):Due:=wB hp q λv h q=>Ev W fc env hp e v h::K v h q
theorem bH{e:Expr}{q:List aU}{K:KE}(h:All (wL W fc env hp e q K))(c:∀ v h q,Ev W fc env hp e v h->All (K v h q)->C):C:=jG h λv h' q h=>c v h' q h.1 h.2
noncomputable abbrev FE:=Expr->List Ob->List aU->KE->Due
noncomputable abbrev FT:=Expr->List Ob->List aU->KB->Due
def Good(W:Wd)(fc:FC)(env:aj)(f:FE):Prop:= ∀{D:Prop}{e:Expr}{hp:List Ob}{q:List aU}{K:KE},All (f e hp q K)->(∀ v h q,Ev W fc env hp e v h->All (K v h q)->D)->D
def J6(W:Wd)(fc:FC)(env:aj)(f:FT):Prop:= ∀{D:Prop}{e:Expr}{hp:List Ob}{q:List aU}{K:KB},All (f e hp q K)->(∀ v h q,g8 W fc env hp e v h->All (K v h q)->D)->D
noncomputable def mapE(f:FE):List Expr->List Ob->List aU->(List V->List Ob->List aU->Due)->Due
|[],hp,q,K=>K [] hp q
|e::r,hp,q,K=>br (isStar e) no (f e hp q λv h q=>mapE f r h q λvs h q=>K (v::vs) h q)
theorem oM{f:FE}(hf:Good W fc env f):∀{es:List Expr}{hp:List Ob}{q:List aU}{K:List V->List Ob->List aU->Due},
  All (mapE f es hp q K)->(∀ vs h q,wI W fc env hp es vs h->All (K vs h q)->C)->C:=by
 intro ah;induction ah with
|nil=>intro _ _ _ h c;exact c _ _ _ rn h
|cons e r ih=>intro _ _ _ h c;exact cV h (λ_=>aW) λhs h=>hf h λv YF q e1 h=>ih h λvs YK q e2 h=>c _ _ _ (kY hs e1 e2) h
noncomputable def R5(f:FE):List Keyword->List Ob->List aU->(List V->List Ob->List aU->Due)->Due
|[],hp,q,K=>K [] hp q
|⟨_,e,_⟩::r,hp,q,K=>f e hp q λv h q=>R5 f r h q λvs h q=>K (v::vs) h q
theorem R6{f:FE}(hf:Good W fc env f):∀{es:List Keyword}{hp:List Ob}{q:List aU}{K:List V->List Ob->List aU->Due},
  All (R5 f es hp q K)->(∀ vs h q,BZ W fc env hp es vs h->vs.length=es.length->All (K vs h q)->C)->C:=by
 intro ah;induction ah with
|nil=>intro _ _ _ h c;exact c _ _ _ zZ rfl h
|cons bi r ih=>obtain⟨a,e,p⟩:=bi;intro _ _ _ h c;exact hf h λv YF q e1 h=>ih h λvs YK q e2 l h=>c _ _ _ (Je e1 e2) (congrArg (· +1) l) h
noncomputable def Wl(op:CmpOp)(x y:Int)(k:Bool->Due):Due:=match op with
|.Eq=>k (x==y)
|.NotEq=>k (x !=y)
|.Lt=>k (decide (x<y))
|.LtE=>k (decide (x<=y))
|.Gt=>k (decide (x>y))
|.GtE=>k (decide (x>=y))
|_=>no
theorem QH{op:CmpOp}{x y:Int}{k:Bool->Due}(h:All (Wl op x y k))(c:∀ t,j9 W hp op (.int x) (.int y) t->All (k t)->C):C:=by induction op using aog with
|Eq=>exact c _ CG h
|NotEq=>exact c _ CV h
|Lt=>exact c _ CT h
|LtE=>exact c _ CQ h
|Gt=>exact c _ CN h
|GtE=>exact c _ CK h
|_=>exact aW h
noncomputable def Wm(op:CmpOp)(x y:Str)(k:Bool->Due)(n:Due):Due:=match op with
|.Eq=>k (x==y)
|.NotEq=>k (x !=y)
|_=>n
theorem QJ{op:CmpOp}{x y:Str}{k:Bool->Due}{n:Due}(h:All (Wm op x y k n))(c:∀ t,j9 W hp op (.str x) (.str y) t->All (k t)->C)(d:All n->C):C:=by induction op using aog with
|Eq=>exact c _ CJ h
|NotEq=>exact c _ CW h
|_=>exact d h
noncomputable def Le(W:Wd)(op:CmpOp)(a b:V)(hp:List Ob)(q:List aU)(k:Bool->List aU->Due):Due:=Px q λt r=>j9 W hp op a b t::k t r
theorem q_{op:CmpOp}{a b:V}{q:List aU}{k:Bool->List aU->Due}(c:∀ t q,j9 W hp op a b t->All (k t q)->C)(h:All (Le W op a b hp q k)):C:=Br h λt r h=>c t r h.1 h.2
noncomputable def UT(W:Wd)(op:CmpOp)(a b:V)(hp:List Ob)(q:List aU)(k:Bool->List aU->Due):Due:=
 opt (asInt a) (λx=>opt (asInt b) (λy=>Wl op x y λt=>k t q) (Le W op a b hp q k)) (opt (jl a) (λx=>opt (jl b) (λy=>Wm op x y (λt=>k t q) (Le W op a b hp q k)) (Le W op a b hp q k)) (Le W op a b hp q k))
theorem Ga{op:CmpOp}{a b:V}{q:List aU}{k:Bool->List aU->Due}(h:All (UT W op a b hp q k))(c:∀ t q,j9 W hp op a b t->All (k t q)->C):C:=
 bz h (λx e h=>bz h (λy e' h=>QH h λt d h=>c t q (km e▸km e'▸d) h) λ_=>q_ c) λ_ h=>
  bz h (λx e h=>bz h (λy e' h=>QJ h (λt d h=>c t q (gb e▸gb e'▸d) h) (q_ c)) λ_=>q_ c) λ_=>q_ c
noncomputable def PB(W:Wd)(hp:List Ob)(a:V)(q:List aU)(k:Bool->List aU->Due):Due:=match a with
|.bool b=>k b q
|.none=>k false q
|.int i=>k (i !=0) q
|a=>Px q λt r=>Kd W hp a t::k t r
theorem yh{a:V}{q:List aU}{k:Bool->List aU->Due}(h:All (PB W hp a q k))(c:∀ t q,Kd W hp a t->All (k t q)->C):C:=by induction a using V.casesOn with
|bool b=>exact c _ _ PJ h
|none=>exact c _ _ PK h
|int i=>exact c _ _ Te h
|_=>exact Br h λt r h=>c t r h.1 h.2
noncomputable def Qq(W:Wd)(fc:FC)(env:aj)(hp:List Ob)(e:Expr)(q:List aU)(K:KB):Due:=match q with
|.r (.bool t) h::r=>g8 W fc env hp e t h::K t h r
|_=>no
theorem Fy{e:Expr}{q:List aU}{K:KB}(h:All (Qq W fc env hp e q K))(c:∀ v h q,g8 W fc env hp e v h->All (K v h q)->C):C:=by induction q using abn with
|nil=>exact aW h
|cons x r=>induction x using aU.casesOn with
 |r v g=>induction v using V.casesOn with
  |bool t=>exact c t g r h.1 h.2|_=>exact aW h
 |_=>exact aW h
noncomputable def Ut(t:FT):List Expr->List Ob->List aU->KB->Due
|[],hp,q,K=>K true hp q
|e::r,hp,q,K=>t e hp q λb h q=>ask b q λb q=>br b (Ut t r h q K) (K false h q)
theorem Qn{t:FT}{p:Pos}(ht:J6 W fc env t):∀{es:List Expr}{hp:List Ob}{q:List aU}{K:KB},All (Ut t es hp q K)->(∀ b h q,g8 W fc env hp (.BoolOp .And es p) b h->All (K b h q)->C)->C:=by intro ah;induction ah with
|nil=>intro _ _ _ h c;exact c _ _ _ Bt h
|cons e r ih=>intro _ _ _ h c;exact ht h λb YF q e1 h=>sW h λq h=>cV h (λz h=>ih h λb' YK q e2 h=>c _ _ _ (yj (z▸e1) e2) h) λz h=>c _ _ _ (vD (z▸e1)) h
noncomputable def X3(t:FT):List Expr->List Ob->List aU->KB->Due
|[],hp,q,K=>K false hp q
|e::r,hp,q,K=>t e hp q λb h q=>ask b q λb q=>br b (K true h q) (X3 t r h q K)
theorem Vy{t:FT}{p:Pos}(ht:J6 W fc env t):∀{es:List Expr}{hp:List Ob}{q:List aU}{K:KB},All (X3 t es hp q K)->(∀ b h q,g8 W fc env hp (.BoolOp .Or es p) b h->All (K b h q)->C)->C:=by intro ah;induction ah with
|nil=>intro _ _ _ h c;exact c _ _ _ EY h
|cons e r ih=>intro _ _ _ h c;exact ht h λb YF q e1 h=>sW h λq h=>cV h (λz h=>c _ _ _ (Bu (z▸e1)) h) λz h=>ih h λb' YK q e2 h=>c _ _ _ (yl (z▸e1) e2) h
noncomputable def FQ(W:Wd)(f:FE)(op:BoolOp):List Expr->List Ob->List aU->KE->Due
|[],_,_,_=>no
|[e],hp,q,K=>f e hp q K
|e::r,hp,q,K=>f e hp q λv h q=>PB W h v q λt q=>ask t q λt q=>match op,t with
 |.And,true=>FQ W f op r h q K|.Or,false=>FQ W f op r h q K|_,_=>K v h q
theorem KN{f:FE}{op:BoolOp}{p:Pos}(hf:Good W fc env f):∀{es:List Expr}{hp:List Ob}{q:List aU}{K:KE},All (FQ W f op es hp q K)->(∀ v h q,Ev W fc env hp (.BoolOp op es p) v h->All (K v h q)->C)->C:=by intro ah;induction ah with
|nil=>intro _ _ _ h c;exact aW h
|cons e bi ih=>induction bi using abn with
 |nil=>intro _ _ _ h c;exact hf h λv YF q e1 h=>c _ _ _ (U_ e1) h|cons e2 r=>
   intro _ _ _ h c;exact hf h λv YF q e1 h=>yh h λt q tr h=>sW h λq h=>by induction op using an5 with
   |And=>induction t using aco with
    |true=>exact ih h λw YK q x h=>c _ _ _ (zE e1 tr x) h|false=>exact c _ _ _ (w7 e1 tr) h
   |Or=>induction t using aco with
    |true=>exact c _ _ _ (Do e1 tr) h|false=>exact ih h λw YK q x h=>c _ _ _ (zF e1 tr x) h
noncomputable def p7(e:Expr):Bool:=([0,3,5,15]:List Nat).all λi=> !ajr e.ctorIdx i
theorem xU(h:p7 e=true)(m:Env)(w:Sem Value):isTrue e m w=(do let v ←w;standAt e.pos;holding [v] (truthy v)):=by induction e using ac6<;>first|(with_unfolding_all rfl)|exact absurd h acb
noncomputable def vT(W:Wd)(fc:FC)(env:aj)(f:FE):Nat->FT
|0,e,hp,q,K=>Qq W fc env hp e q K
|n+1,e,hp,q,K=>match e with
 |.UnaryOp .Not e _=>vT W fc env f n e hp q λb h q=>K (!b) h q|.BoolOp .And es _=>Ut (vT W fc env f n) es hp q K|.BoolOp .Or es _=>X3 (vT W fc env f n) es hp q K|.Compare l [op] [r] _=>br (behindInMarks op r) no (f l hp q λa h q=>f r h q λb h q=>UT W op a b h q λt q=>K t h q)|e=>br (p7 e) (f e hp q λv h q=>PB W h v q λt q=>K t h q) (Qq W fc env hp e q K)
theorem qN(hf:Good W fc env f):J6 W fc env (vT W fc env f n):=by induction n with
|zero=>intro _ _ _ _ _ h c;exact Fy h c
|succ n ih=>
  intro D e hp q K h c;have d:All (br (p7 e) (f e hp q λv h q=>PB W h v q λt q=>K t h q) (Qq W fc env hp e q K))->D:=
   λh=>cV h (λz h=>hf h λv YF q e1 h=>yh h λt q tr h=>c _ _ _ (Th (xU z) e1 tr) h) λ_ h=>Fy h c
  induction e using ac6 with
 |UnaryOp op e p=>induction op using anl with
  |Not=>exact ih h λb YF q e1 h=>c _ _ _ (Tg e1) h|_=>exact d h
 |BoolOp op es p=>induction op using an5 with
  |And=>exact Qn ih h c|Or=>exact Vy ih h c
 |Compare l ops cs p=>induction ops using abn with
  |nil=>exact d h|cons op ops=>induction ops using abn with
   |cons _ _=>exact d h|nil=>induction cs using abn with
    |nil=>exact d h|cons r cs=>induction cs using abn with
     |cons _ _=>exact d h|nil=>exact cV h (λ_=>aW) λhm h=>hf h λa YF q e1 h=>hf h λb YK q e2 h=>Ga h λt q e3 h=>c _ _ _ (Tf hm e1 e2 e3) h
 |_=>exact d h
end
section
variable{W:Wd}{fc:FC}{env:aj}{hp:List Ob}{C:Prop}
noncomputable def Vs(W:Wd)(hp:List Ob)(a i:V)(q:List aU)(k:KV):Due:=tell q (λv q=>Itm W hp a i v::k v q)<|
 opt (asInt i) (λn=>opt (sV a) (λxs=>opt (cN xs n) (λv=>br (decide (xs.length<=1000)) (k v q) no) no) (DY hp a q (λxs q=>opt (cN xs n) (λv=>br (decide (xs.length<=1000)) (k v q) no) no) no)) no
theorem RT{a i:V}{q:List aU}{k:KV}(h:All (Vs W hp a i q k))(c:∀ v q,Itm W hp a i v->All (k v q)->C):C:=
 mO h (λv q h=>c v q h.1 h.2) λh=>jN h λn e h=>bz h (λxs e1 h=>jg h λv e2 h=>iQ h λl h=>c _ _ (nQ e1▸e▸dN e2 (abj (of_decide_eq_true l) (by decide))) h) λ_ h=>
  mD h (λxs q l h=>jg h λv e2 h=>iQ h λd h=>c _ _ (e▸aF l e2 (abj (of_decide_eq_true d) (by decide))) h) aW
noncomputable def lenV:V->Nat
|.str s=>s.length
|_=>0
noncomputable def XC(W:Wd)(fc:FC)(env:aj)(a b:V)(hp:List Ob)(q:List aU)(k:KV):Due:=opt (jl a) (λx=>opt (jl b) (λy=>k (.str (x++y)) q) no) (Qw W fc env .Add a b hp q k)
noncomputable def TP(e:Expr):Option (Expr×Expr):=PyProof.Rows.calc1?.match_4 (λ_=>Option (Expr×Expr)) e (λl op r _=>bif ajr op.ctorIdx 0 then some (l,r)else none) λ_=>none
theorem Kr{e:Expr}{z:Expr×Expr}(h:TP e=some z)(G:∀ p,e= .BinOp z.1 .Add z.2 p->C):C:=by induction e using ac6 with
|BinOp l op r p=>induction op using ail with
 |Add=>cases h;exact G _ rfl|_=>exact aC h
|_=>exact aC h
noncomputable def UL(W:Wd)(fc:FC)(env:aj)(f:FE):Nat->Expr->List Ob->List aU->KE->Due
|0,e,hp,q,K=>f e hp q K
|n+1,e,hp,q,K=>opt (TP e) (λz=>UL W fc env f n z.1 hp q λa h q=>f z.2 h q λb h q=>XC W fc env a b h q λv q=>K v h q) (f e hp q K)
theorem Jr(e:none=jl v):lenV v<=16777216:=by induction v using V.casesOn<;>first|exact ac4 _|exact aC e
theorem str_len(a b:Str):(a++b).length=a.length+b.length:=(congrArg Array.size (ag2 ..)).trans aml
theorem QD{f:FE}(hf:Good W fc env f):∀{n:Nat}{e:Expr}{hp:List Ob}{q:List aU}{K:KE},All (UL W fc env f n e hp q K)->(∀ v h q,(lenV v<=16777216->Ev W fc env hp e v h)->All (K v h q)->C)->C:=by intro ah;induction ah with
|zero=>intro _ _ _ _ h c;exact hf h λv h' q e h=>c v h' q (λ_=>e) h
|succ n ih=>intro e hp q K h c;exact bz h (λz w h=>ih h λa YF q e1 h=>hf h λb YK q e2 h=>Kr w λp w=>bz h (λx ea h=>Ey h λy eb h=>c _ _ _ (λhl=>by obtain rfl:=gb ea;subst eb;have hl:x.length+y.length<=16777216:=str_len x y▸hl;rw[w];exact Dn (e1 (abj (ab0 _ _) hl)) e2 (qw hl)) h) λna h=>FP h λv q e3 h=>c _ _ _ (λ_=>w▸Dn (e1 (Jr na.symm)) e2 e3) h) λ_ h=>hf h λv h' q e h=>c v h' q (λ_=>e) h
noncomputable def vP(f:FE)(o:Option Expr)(hp:List Ob)(q:List aU)(K:Option Int->List Ob->List aU->Due):Due:=match o with
|none=>K none hp q
|some e=>f e hp q λv h q=>opt (asInt v) (λi=>K (some i) h q) no
theorem Un{f:FE}(hf:Good W fc env f){o:Option Expr}{q:List aU}{K:Option Int->List Ob->List aU->Due}(h:All (vP f o hp q K))(c:∀ i h q,Ur W fc env hp o i h->All (K i h q)->C):C:=by induction o using abt with
|none=>exact c _ _ _ .none h
|some e=>exact hf h λv YF q e1 h=>jN h λi z h=>c _ _ _ (.some (z▸e1)) h
noncomputable def Xe(W:Wd)(hp:List Ob)(a:V)(lo hi:Option Int)(q:List aU)(k:KV):Due:=tell q (λv q=>Qk W hp a lo hi v::k v q) (opt (jl a) (λx=>(x.length<=16777216)::k (.str (adf x lo hi)) q) (DY hp a q (λxs q=>(xs.length<=16777216)::k (.lst (pick xs lo hi)) q) no))
theorem SX{a:V}{lo hi:Option Int}{q:List aU}{k:KV}(h:All (Xe W hp a lo hi q k))(c:∀ v q,Qk W hp a lo hi v->All (k v q)->C):C:=
 mO h (λv q h=>c v q h.1 h.2) λh=>bz h (λx e h=>c _ _ (gb e▸o5 h.1) h.2) λ_ h=>mD h (λxs q l h=>c _ _ (jX l h.1) h.2) aW
def GV(W:Wd)(x:Str)(v:V):Prop:= ∀(fc:FC)(env:aj)(hp:List Ob)(p:Pos),ni fc.nm x .globalImplicit->Ev W fc env hp (.Name x p) v hp
def GC(W:Wd)(k:Nat)(q:Bool)(x:Str)(vs:List V)(hp:List Ob)(v:V)(hp':List Ob):Prop:= ∃ fv,Kp W fv/\Call W k q fv [] vs hp v hp'/\ ∀(fc:FC)(p:Pos),ni fc.nm x .globalImplicit->Gn W fc (.Name x p) fv
inductive At(W:Wd)(hp:List Ob):V->Str->V->Prop
|mk {K:Frag} {C:Addr} {i:Nat} {ks:List Str} {vs:List V} {name:Str} {v:V} (X:K.In W.B) (hg:Gs K C name=true) (hi:hp[i]? =some (.ns ks vs)) (hv:valOf ks vs name=some v):At W hp (.iref C i) name v
inductive Mt(W:Wd)(k:Nat)(q:Bool)(hp₁:List Ob):V->Str->List Str->List V->List V->List Ob->V->List Ob->Prop
|blt {T id:String} {ov v:V} {name:Str} {xs:List V} {YQ Y5:List Ob} (hT:∀(g:Gh)(s:Shared)(y:Value),Inv W g hp₁ s.heap->RV W g s.heap ov y->s.TypeIs y T/\ ∀ a,y= .ref a-> ∃ ob,s.heap.get? a=some ob/\ob.dict=none)
  (pa:PlainAttrs T) (slot:Slot T name id) (i8:typeOf (.builtin id)=pure (.type "method_descriptor")) (hc:Call W k q (.builtin id) [] (ov::xs) YQ v Y5):Mt W k q hp₁ ov name [] xs [] YQ v Y5
|own {K:Frag} {C f:Addr} {i:Nat} {ks kn:List Str} {ws xs us:List V} {v:V} {name:Str} {YQ Y5:List Ob} (X:K.In W.B) (hm:fX K C name f=true) (nS:Kp W (.ref f)) (hi:hp₁[i]? =some (.ns ks ws)) (hn:name∉ks)
  (hc:Call W k q (.ref f) kn ((.iref C i::xs)++us) YQ v Y5):Mt W k q hp₁ (.iref C i) name kn xs us YQ v Y5
noncomputable def jC(e:Expr):Bool:=attributeBase.match_7 (λ_=>Bool) e (λ_ _ _=>false) λ_=>true
theorem jV(h:jC o=true)(name:Str)(m:Env):attributeBase o name m (eval o m)=eval o m:=by induction o using ac6<;>first|rfl|(rename_i f a k _;induction f using ac6<;>first|rfl|(induction a using abn<;>first|rfl|(induction k using abn<;>first|rfl|exact absurd h acb)))
theorem kws_nil(h:j4 ai=true)(e:dq ai=[]):ai=[]:=adp.mp ((Nq h).symm.trans (congrArg apd e))
theorem Mt.ev(m:Mt W k q hp₁ ov name kn xs us YQ v Y5)(ek:k=fc.k)(eq:q=fc.q)(en:kn=dq ai)(da:jC o=true)(b9:(cb.endLine==pos.line)=true)(hs:es.all (λe=> !isStar e)=true)
  (hk:j4 ai=true) (ar:decide (es.length+ai.length+(if ai.isEmpty then 0 else 1)<30)=true) (ho:Ev W fc env hp o ov hp₁) (ha:wI W fc env hp₁ es xs YC) (hw:BZ W fc env YC ai us YQ) (rc:us.length=ai.length) (BQ:ai=[]->YQ=YC):Ev W fc env hp (.Call (.Attribute o name cb) es ai pos) v Y5:=by
 cases m with
|blt hT pa slot i8 hc=>obtain rfl:=kws_nil hk en.symm;obtain rfl:=BQ rfl;exact Mg b9 hs (decide_eq_true (of_decide_eq_true ar)) ho ha hT pa slot i8 (ek▸eq▸hc) (jV da name)
|own X hm nS hi hn hc=>exact Ma (jV da name) b9 hs hk ar X hm nS ho hi hn ha hw rc (en▸ek▸eq▸hc)
inductive Cm(W:Wd)(fc:FC)(env:aj)(hp:List Ob):Expr->V->List Ob->Prop
|l {elt ac iter:Expr} {c9:List Expr} {scope:Scope} {pos:Pos} {ok:List Ob->Prop} {tup:Bool} {vs us:List V} {cy:Names} {Y4:aj} {hp₁ hp':List Ob} (ax:scope.kind= .function) (hnd:(scope.names.map (·.1)).Nodup) (cw:plainNames scope.names=true) (ht:gD tup ac=true) (hs:∀ m x,foldedSetIterable iter m x=pure x) (hq:fc.q=true) (aS:Src W fc env hp iter hp₁ ok tup vs) (aT:ok hp₁)
  (hc:mQ fc.nm env scope.names cy Y4) (hl:bW W (inner fc scope.names cy) ok ac c9 elt Y4 hp₁ vs us hp') (ar:vs.length<=16777216):Cm W fc env hp (.ListComp elt [⟨ac,iter,c9,0⟩] scope pos) (.lst us) hp'
|d {kx vx iter:Expr} {xn:Str} {px:Pos} {scope:Scope} {pos:Pos} {ok:List Ob->Prop} {tup:Bool} {vs:List V} {kf:List Int} {uf:List V} {cy:Names} {Y4:aj} {hp₁ hp':List Ob} (ax:scope.kind= .function) (hnd:(scope.names.map (·.1)).Nodup) (cw:plainNames scope.names=true) (ht:gD tup (.Name xn px)=true) (hs:∀ m x,foldedSetIterable iter m x=pure x) (hq:fc.q=true) (aS:Src W fc env hp iter hp₁ ok tup vs) (aT:ok hp₁)
  (hc:mQ fc.nm env scope.names cy Y4) (hl:dB W (inner fc scope.names cy) ok (.Name xn px) kx vx Y4 hp₁ vs [] [] kf uf hp') (ar:vs.length<=16777216):Cm W fc env hp (.DictComp kx vx [⟨.Name xn px,iter,[],0⟩] scope pos) (.dI kf uf) hp'
theorem Cm.ev(m:Cm W fc env hp e v hp'):Ev W fc env hp e v hp':=by cases m with
|l a b c d e f g h i j k=>exact kW a b c d e f g h i j k
|d a b c d e f g h i j k=>exact n7 a b c d e f g h i j k
theorem Cm.asg(m:Cm W fc env hp e v hp')(aI:pC fc.nm env x .local v ag):Ex W fc env hp (.Assign [.Name x p] e pos) (.next ag hp'):=by cases m with
|l a b c d e f g h i j k=>exact Rb a b c d e f g h i j k aI
|d a b c d e f g h i j k=>exact Mu a b c d e f g h i j k aI
noncomputable def Xi(nm:Names)(x:Str)(p:Pos)(e:Expr):Bool:=swapsWith.match_1 (λ_=>Bool) e (λ_ _ scope pos=> !JQ nm x p pos scope.names) (λ_ _ _ _=>false) (λ_ _ _ _ _=>false) λ_=>false
theorem Cm.asgC(m:Cm W fc env hp e v hp')(aI:pC fc.nm env x .cell v ag)(hw:x∈fc.wr)(sC:Xi fc.nm x p e=true):Ex W fc env hp (.Assign [.Name x p] e pos) (.next ag hp'):=by cases m with
|l a b c d e f g h i j k=>exact Mv a b c d e f g h i j k aI hw (ac7 _▸sC)
|d a b c d e f g h i j k=>exact absurd sC acb
noncomputable def VR(e:Expr):Option Str:=foldedSetIterable.match_1 (λ_=>Option Str) e (λc _ _=>match c with|.str y=>some y|_=>none) λ_=>none
theorem Hu{e:Expr}{y:Str}(h:VR e=some y)(G:∀ k p,e= .Constant (.str y) k p->C):C:=by induction e using ac6 with
|Constant c k p=>induction c using aoh with
 |str z=>cases h;exact G _ _ rfl|_=>exact aC h
|_=>exact aC h
noncomputable def Uj(name:Str):List Expr->List Keyword->Option (Str×Str)
|[a,b],[]=>(VR a).bind λy=>(VR b).bind λz=>bif (name==("replace" : Str))&& !(y==z)then some (y,z)else none
|_,_=>none
theorem Ox{name:Str}{yz:Str×Str}{es:List Expr}{ai:List Keyword}(h:Uj name es ai=some yz)(G:∀(k1 k2:Nat)(p1 p2:Pos),name=("replace" : Str)->(yz.1==yz.2)=false->es=[.Constant (.str yz.1) k1 p1,.Constant (.str yz.2) k2 p2]->ai=[]->C):C:=by induction es using abn with
|nil=>exact aC h
|cons a es=>induction es using abn with
 |nil=>exact aC h|cons b es=>induction es using abn with
  |cons _ _=>exact aC h|nil=>induction ai using abn with
   |cons _ _=>exact aC h|nil=>
     exact(adi.mp h).elim λy w=>(adi.mp w.2).elim λz w'=>Hu w.1 λk1 p1 e1=>Hu w'.1 λk2 p2 e2=>
      eG w'.2 (λq e=>by obtain rfl:=acn e;exact G _ _ _ _ (beq_iff_eq.mp (abo.mp q).1) (ac7 _▸(abo.mp q).2) (by rw[e1,e2]) rfl) λ_=>aC
noncomputable def Kv(W:Wd)(fc:FC)(env:aj)(hp:List Ob)(e:Expr)(q:List aU)(K:KE):Due:=wB hp q λv h q=>Cm W fc env hp e v h::K v h q
theorem Fw{e:Expr}{q:List aU}{K:KE}(h:All (Kv W fc env hp e q K))(c:∀ v h q,Ev W fc env hp e v h->All (K v h q)->C):C:=jG h λv h' q h=>c v h' q h.1.ev h.2
noncomputable def Ux(W:Wd)(k:Nat)(b:Bool)(hp₁:List Ob)(ov:V)(name:Str)(kn:List Str)(xs us:List V)(hp:List Ob)(q:List aU)(K:KE):Due:=wB hp q λv h q=>Mt W k b hp₁ ov name kn xs us hp v h::K v h q
theorem Fx{k:Nat}{b:Bool}{hp₁:List Ob}{ov:V}{name:Str}{kn:List Str}{xs us:List V}{q:List aU}{K:KE}(h:All (Ux W k b hp₁ ov name kn xs us hp q K))(c:∀ v h q,Mt W k b hp₁ ov name kn xs us hp v h->All (K v h q)->C):C:=jG h λv h' q h=>c v h' q h.1 h.2
noncomputable def T_:Operator->Bool
|.Add=>true
|_=>false
noncomputable def WY(e:Expr):Bool:=ajr e.ctorIdx 11
noncomputable def vE(W:Wd)(fc:FC)(env:aj):Nat->FE
|0,e,hp,q,K=>wL W fc env hp e q K
|n+1,e,hp,q,K=>match e with
 |.Constant c _ _=>(match c with
  |.none=>K .none hp q|.bool b=>K (.bool b) hp q|.int i=>K (.int i) hp q|.str s=>K (.str s) hp q|_=>no)
 |.Name x p=>opt (mY x fc.nm env) (λv=>K v hp q) (br (oE x fc.nm==some .globalImplicit) (tell q (λv q=>GV W x v::K v hp q) no) (wL W fc env hp (.Name x p) q K))|.BinOp l .Add r p=>UL W fc env (vE W fc env n) n (.BinOp l .Add r p) hp q λv h q=>opt (jl v) (λx=>(x.length<=16777216)::K v h q) (K v h q)|.BinOp l op r _=>vE W fc env n l hp q λa h q=>vE W fc env n r h q λb h q=>Qw W fc env op a b h q λv q=>K v h q|.BoolOp op es _=>FQ W (vE W fc env n) op es hp q K|.Compare l [op] [r] _=>br (behindInMarks op r) no (vE W fc env n l hp q λa h q=>vE W fc env n r h q λb h q=>UT W op a b h q λt q=>K (.bool t) h q)|.IfExp t a b _=>vT W fc env (vE W fc env n) n t hp q λz h q=>Py q (λq=>vE W fc env n a h q λv ha q=>vE W fc env n b h q λw hb q=>(ha=h/\hb=h)::TX (if z then v else w) q λv q=>K v h q) λq=>ask z q λz q=>br z (vE W fc env n a h q K) (vE W fc env n b h q K)|.Subscript a (.Slice l u none _) _=>vE W fc env n a hp q λx h q=>vP (vE W fc env n) l h q λlo h q=>vP (vE W fc env n) u h q λhi h q=>Xe W h x lo hi q λv q=>K v h q|.Subscript a i p=>br (isSlice i) (wL W fc env hp (.Subscript a i p) q K) (vE W fc env n a hp q λx h q=>vE W fc env n i h q λy h q=>Vs W h x y q λv q=>K v h q)|.Tuple es _ _=>mapE (vE W fc env n) es hp q λvs h q=>br (decide (vs.length<=1000)) (K (.tup vs) h q) no|.List es _=>mapE (vE W fc env n) es hp q λvs h q=>br (decide (vs.length<=1000)) (Py q (λq=>K (.ref h.length) (h++[.list vs]) q) (λq=>K (.lst vs) h q)) no|.Dict [some ke] [ve] _=>vE W fc env n ke hp q λa h q=>opt (asInt a) (λi=>vE W fc env n ve h q λv h q=>K (.dI [i] [v]) h q) no|.UnaryOp .USub e _=>vE W fc env n e hp q λv h q=>opt (asInt v) (λi=>K (.int (-i)) h q) no|.UnaryOp .Not e _=>vE W fc env n e hp q λv h q=>PB W h v q λt q=>K (.bool (!t)) h q|.Attribute (.Name x p) name _=>vE W fc env n (.Name x p) hp q λov h q=>tell q (λv q=>At W h ov name v::K v h q) no|.Call (.Name x px) es [] p=>br ((es.all λe=> !isStar e)&&oE x fc.nm==some .globalImplicit&& !es.any WY) (mapE (vE W fc env n) es hp q λvs h q=>wB h q λv h' q=>GC W fc.k fc.q x vs h v h'::K v h' q) (wL W fc env hp (.Call (.Name x px) es [] p) q K)|.Call (.Attribute o name ap) es ai p=>opt (Uj name es ai) (λyz=>br (jC o&&(ap.endLine==p.line)) (vE W fc env n o hp q λov h q=>opt (jl ov) (λx=>(x.length+(x.length+1) * yz.2.length<=16777216)::K (.str (ad4 x yz.1 yz.2)) h q) no) no)<|br (jC o&&(ap.endLine==p.line)&&(es.all λe=> !isStar e)&&j4 ai&&decide (es.length+ai.length+(if ai.isEmpty then 0 else 1)<30)) (vE W fc env n o hp q λov YF q=>mapE (vE W fc env n) es YF q λxs YK q=>R5 (vE W fc env n) ai YK q λus h q=>
    Ux W fc.k fc.q YF ov name (dq ai) xs us h q K) (wL W fc env hp (.Call (.Attribute o name ap) es ai p) q K)
 |.ListComp a b c d=>Kv W fc env hp (.ListComp a b c d) q K|.DictComp a b c d e=>Kv W fc env hp (.DictComp a b c d e) q K|e=>wL W fc env hp e q K
theorem cg:Good W fc env (vE W fc env n):=by induction n with
|zero=>intro _ _ _ _ _ h c;exact bH h c
|succ n ih=>intro D e hp q K h c;induction e using ac6 with
 |Constant k _ _=>induction k using aoh with
  |none=>exact c _ _ _ Q_ h|bool b=>exact c _ _ _ Q4 h|int i=>exact c _ _ _ U6 h|str s=>exact c _ _ _ Va h|_=>exact aW h
 |Name x p=>exact bz h (λv e h=>c _ _ _ (rm e) h) λ_ h=>cV h (λz h=>mO h (λv q h=>c _ _ _ (h.1 fc env hp p (aL (beq_iff_eq.mp z))) h.2) aW) λ_ h=>bH h c|BinOp l op r p=>have d:All (vE W fc env n l hp q λa h q=>vE W fc env n r h q λb h q=>Qw W fc env op a b h q λv q=>K v h q)->D:=λh=>ih h λa YF q e1 h=>ih h λb YK q e2 h=>FP h λv q e3 h=>c _ _ _ (Dn e1 e2 e3) h;induction op using ail with
  |Add=>
    refine QD ih h λv YF q e1 h=>bz h (λx e h=> ?_) λe h=>c _ _ _ (e1 ?_) h
    ·obtain rfl:=gb e;exact c _ _ _ (e1 h.1) h.2
    ·induction v using V.casesOn<;>first|exact ac4 _|exact aC e.symm
  |_=>exact d h
 |BoolOp op es p=>exact KN ih h c|Compare l ops cs p=>induction ops using abn with
  |nil=>exact bH h c|cons op ops=>induction ops using abn with
   |cons _ _=>exact bH h c|nil=>induction cs using abn with
    |nil=>exact bH h c|cons r cs=>induction cs using abn with
     |cons _ _=>exact bH h c|nil=>exact cV h (λ_=>aW) λhm h=>ih h λa YF q e1 h=>ih h λb YK q e2 h=>Ga h λt q e3 h=>c _ _ _ (U4 hm e1 e2 e3) h
 |IfExp t a b p=>exact qN ih h λz YF q e1 h=>Bs h (λq h=>ih h λv ha q e2 h=>ih h λw hb q e3 h=>K9 h.2 λq g=>c _ _ _ (U5 e1 (h.1.1▸e2) (h.1.2▸e3)) g) λq h=>sW h λq h=>cV h (λw h=>ih h λv YK q e2 h=>c _ _ _ (L_ (w▸e1) e2) h) λw h=>ih h λv YK q e2 h=>c _ _ _ (LR (w▸e1) e2) h|Subscript a i p=>
   have one:All (br (isSlice i) (wL W fc env hp (.Subscript a i p) q K) (vE W fc env n a hp q λx h q=>vE W fc env n i h q λy h q=>Vs W h x y q λv q=>K v h q))->D:=
    λh=>cV h (λ_ h=>bH h c) λhs h=>ih h λx YF q e1 h=>ih h λy YK q e2 h=>RT h λv q e3 h=>c _ _ _ (Vb hs e1 e2 e3) h
   induction i using ac6 with
  |Slice l u s sp=>induction s using abt with
   |some _=>exact one h|none=>exact ih h λx YF q e1 h=>Un ih h λlo YK q e2 h=>Un ih h λhi YT q e3 h=>SX h λv q e4 h=>c _ _ _ (Mh e1 e2 e3 e4) h
  |_=>exact one h
 |List es p=>exact oM ih h λvs YF q e1 h=>iQ h λz h=>Bs h (λq h=>c _ _ _ (Mf e1 (of_decide_eq_true z)) h) λq h=>c _ _ _ (Q9 e1 (of_decide_eq_true z)) h|Dict ks vs p=>induction ks using abn with
  |nil=>exact bH h c|cons k ks=>induction k using abt with
   |none=>exact bH h c|some ke=>induction ks using abn with
    |cons _ _=>exact bH h c|nil=>induction vs using abn with
     |nil=>exact bH h c|cons ve vs=>induction vs using abn with
      |cons _ _=>exact bH h c|nil=>exact ih h λa YF q e1 h=>jN h λi z h=>ih h λv YK q e2 h=>c _ _ _ (Iz (z▸e1) e2) h
 |UnaryOp op e p=>induction op using anl with
  |USub=>exact ih h λv YF q e1 h=>jN h λi z h=>c _ _ _ (U8 (z▸e1)) h|Not=>exact ih h λv YF q e1 h=>yh h λt q tr h=>c _ _ _ (U9 e1 tr) h|_=>exact bH h c
 |Attribute o name p=>induction o using ac6 with
  |Name x px=>refine ih h λov YF q e1 h=>mO h (λv q h=> ?_) aW;cases h.1 with
          |mk X hg hi hv=>exact c _ _ _ (Ge (by intro m;with_unfolding_all rfl) X e1 hi hv hg) h.2
  |_=>exact bH h c
 |Call f es ai p=>induction f using ac6 with
  |Name x px=>induction ai using abn with
   |cons _ _=>exact bH h c|nil=>refine cV h (λhs h=>oM ih h λvs YF q e1 h=>jG h λv h' q h=>h.1.elim λfv z=> ?_) λ_ h=>bH h c;have y:=abo.mp (abo.mp hs).1;exact c _ _ _ (Q5 z.1 y.1 (z.2.2 fc px (aL (beq_iff_eq.mp y.2))) e1 z.2.1) h.2
  |Attribute o name ap=>
    have EQ:All (br (jC o&&(ap.endLine==p.line)&&(es.all λe=> !isStar e)&&j4 ai&&decide (es.length+ai.length+(if ai.isEmpty then 0 else 1)<30)) (vE W fc env n o hp q λov YF q=>mapE (vE W fc env n) es YF q λxs YK q=>R5 (vE W fc env n) ai YK q λus h q=>
      Ux W fc.k fc.q YF ov name (dq ai) xs us h q K) (wL W fc env hp (.Call (.Attribute o name ap) es ai p) q K))->D:=λh=>by
     refine cV h (λz h=>ih h λov YF q e1 h=>oM ih h λvs YK q e2 h=> ?_) λ_ h=>bH h c;have z:=abo.mp z;have y:=abo.mp z.1;have x:=abo.mp y.1;have w:=abo.mp x.1;induction ai using abn with
    |nil=>exact Fx h λv h' q m h=>c _ _ _ (m.ev rfl rfl rfl w.1 w.2 x.2 y.2 z.2 e1 e2 zZ rfl λ_=>rfl) h|cons k ks=>exact R6 ih h λus YT q e3 l h=>Fx h λv h' q m h=>c _ _ _ (m.ev rfl rfl rfl w.1 w.2 x.2 y.2 z.2 e1 e2 e3 l (λe=>nomatch e)) h
    exact bz h (λyz e h=>iQ h λz h=>ih h λov YF q e1 h=>Ey h λx e2 g=>Ox e λk1 k2 p1 p2 en eq ee ek=>by have z:=abo.mp z;subst ee;subst ek;subst en;exact c _ _ _ (Dp eq (jV z.1 _) z.2 (e2▸e1) g.1) g.2) λ_ h=>EQ h
  |_=>exact bH h c
 |Tuple es k p=>exact oM ih h λvs YF q e1 h=>iQ h λz h=>c _ _ _ (Vc e1 (of_decide_eq_true z)) h|ListComp a b d e=>exact Fw h c|DictComp a b d e f=>exact Fw h c|_=>exact bH h c
end
section
variable{W:Wd}{fc:FC}{env:aj}{hp:List Ob}{C:Prop}
noncomputable def mU(k:NameKind)(x:Str)(v:V):Names->aj->Option aj
|p::nm,[]=>bif p.1==x then(bif p.2==k then some [some v]else none)else(mU k x v nm []).map (none:: ·)
|p::nm,o::e=>bif p.1==x then(bif p.2==k then some (some v::e)else none)else(mU k x v nm e).map (o:: ·)
|[],_=>none
theorem cT:∀{nm:Names}{e e':aj},mU k x v nm e=some e'->pC nm e x k v e':=by intro ah;induction ah with
|nil=>intro _ _ h;exact aC h
|cons p nm ih=>intro bi;induction bi using abn with
 |nil=>
   intro e' h;exact eG h (λq h=>eG h (λr u=>by induction p using ai2;obtain rfl:=beq_iff_eq.mp q;obtain rfl:=beq_iff_eq.mp r;obtain rfl:=acn u;exact .new) λ_=>aC) λ_ h=>
     (adl.mp h).elim λe z=>z.2▸ .far (ih z.1)
 |cons o e=>
   intro e' h;exact eG h (λq h=>eG h (λr u=>by induction p using ai2;obtain rfl:=beq_iff_eq.mp q;obtain rfl:=beq_iff_eq.mp r;obtain rfl:=acn u;exact .here) λ_=>aC) λ_ h=>
     (adl.mp h).elim λe z=>z.2▸ .there (ih z.1)
inductive St(W:Wd)(k:Nat)(q:Bool)(hp:List Ob):V->V->V->List Ob->Prop
|it {a n v:V} {hp':List Ob} (h:Us W hp a n v hp'):St W k q hp a n v hp'
|own {K:Frag} {C f:Addr} {j:Nat} {ks:List Str} {vs:List V} {n v u:V} {hp':List Ob} (X:K.In W.B) (hm:fX K C "__setitem__" f=true) (hq:noSeq K C=true) (hi:hp[j]? =some (.ns ks vs)) (hc:Call W k q (.ref f) [] [.iref C j,n,v] hp u hp'):St W k q hp (.iref C j) n v hp'
inductive Xp(W:Wd)(hp:List Ob):V->Str->V->List Ob->Prop
|mk {K:Frag} {C:Addr} {i:Nat} {name:Str} {v:V} (X:K.In W.B) (hs:Hs K C name=true) (hi:hp[i]? =some (.ns [] [])):Xp W hp (.iref C i) name v (hp.set i (.ns [name] [v]))
noncomputable abbrev KA:=aj->List Ob->List aU->Due
noncomputable abbrev FA:=Expr->V->aj->List Ob->List aU->KA->Due
def TG(W:Wd)(fc:FC)(f:FA):Prop:= ∀{D:Prop}{t:Expr}{v:V}{env:aj}{hp:List Ob}{q:List aU}{K:KA},All (f t v env hp q K)->(∀ e h q,gW W fc env hp t v e h->All (K e h q)->D)->D
noncomputable def putL(fc:FC)(env:aj)(x:Str)(v:V)(k:aj->Due):Due:=opt (mU .local x v fc.nm env) k (opt (mU .cell x v fc.nm env) (λe=>br (fc.wr.contains x) (k e) no) no)
theorem Su{x:Str}{v:V}{k:aj->Due}(h:All (putL fc env x v k))(c:∀ e kd,kd= .local\/kd= .cell/\x∈fc.wr->pC fc.nm env x kd v e->All (k e)->C):C:=
 bz h (λe z h=>c e _ (.inl rfl) (cT z) h) λ_ h=>jg h λe z h=>iQ h λw h=>c e _ (.inr ⟨rfl,agt.mp w⟩) (cT z) h
noncomputable def q8(f:FA):List Expr->List V->aj->List Ob->List aU->KA->Due
|[],[],env,hp,q,K=>K env hp q
|t::ts,v::vs,env,hp,q,K=>br (isStar t) no (f t v env hp q λe h q=>q8 f ts vs e h q K)
|_,_,_,_,_,_=>no
theorem nj{f:FA}(hf:TG W fc f):∀{ts:List Expr}{vs:List V}{env:aj}{hp:List Ob}{q:List aU}{K:KA},All (q8 f ts vs env hp q K)->(∀ e h q,uT W fc env hp ts vs e h->All (K e h q)->C)->C
|[],[],_,_,_,_,h,c=>c _ _ _ .nil h
|t::ts,v::vs,_,_,_,_,h,c=>cV h (λ_=>aW) λhs h=>hf h λe YF q a h=>nj hf h λe h q as g=>c e h q (.cons hs a as) g
|[],_::_,_,_,_,_,h,_=>aW h
|_::_,[],_,_,_,_,h,_=>aW h
noncomputable def nR(W:Wd)(fc:FC):Nat->FA
|0,_,_,_,_,_,_=>no
|n+1,t,v,env,hp,q,K=>chainOk.match_1 (λ_=>Due) t (λx _=>putL fc env x v λe=>K e hp q)
  (λo x _=>vE W fc env n o hp q λa h q=>Hv h q λh' q=>Xp W h a x v h'::K env h' q)
  (λo i _=>br (isSlice i) no (vE W fc env n o hp q λa h q=>vE W fc env n i h q λm h q=>Hv h q λh' q=>St W fc.k fc.q h a m v h'::K env h' q))
  λt=>isTupleDisplay.match_1 (λ_=>Due) t (λts _ _=>br fc.q (opt (sV v) (λvs=>q8 (nR W fc n) ts vs env hp q K) (DY hp v q (λvs q=>q8 (nR W fc n) ts vs env hp q K) no)) no) λ_=>no
theorem fV:TG W fc (nR W fc n):=by induction n with
|zero=>intro _ _ _ _ _ _ _ h _;exact aW h
|succ n ih=>intro D t v env hp q K h c;induction t using ac6 with
 |Name x p=>
   refine Su h λe kd z p h=> ?_;rcases z with rfl|⟨rfl,w⟩
   ·exact c _ _ _ (Fz p) h
   ·exact c _ _ _ (Kz p w) h
 |Tuple ts k p=>exact iQ h λhq h=>bz h (λvs e h=>nj ih h λ_ _ _ a h=>c _ _ _ (nQ e▸Qu hq a) h) λ_ h=>mD h (λvs q l h=>nj ih h λ_ _ _ a h=>c _ _ _ (Qs hq l a) h) aW|Subscript o i p=>refine cV h (λ_=>aW) λhs h=>cg h λa YF q e1 h=>cg h λm YK q e2 h=>uF h λh' q g=> ?_;cases g.1 with
  |it s=>exact c _ _ _ (Qt hs e1 e2 s) g.2|own X hm hq hi hc=>exact c _ _ _ (KC hs X hm hq e1 e2 hi hc) g.2
 |Attribute o x p=>refine cg h λa YF q e1 h=>uF h λh' q g=> ?_;cases g.1 with
  |mk X hs hi=>exact c _ _ _ (Ky X hs e1 hi) g.2
 |_=>exact aW h
noncomputable abbrev KO:=Out->List aU->Due
noncomputable def Kw(W:Wd)(fc:FC)(env:aj)(hp:List Ob)(st:Stmt)(q:List aU)(K:KO):Due:=match q with
|.o o::r=>Ex W fc env hp st o::K o r
|_=>no
theorem iK{st:Stmt}{q:List aU}{K:KO}(h:All (Kw W fc env hp st q K))(c:∀ o q,Ex W fc env hp st o->All (K o q)->C):C:=by induction q using abn with
|nil=>exact aW h
|cons x r=>induction x using aU.casesOn with
 |o o=>exact c o r h.1 h.2|_=>exact aW h
noncomputable abbrev FS:=aj->List Ob->List aU->Stmt->KO->Due
def J5(W:Wd)(fc:FC)(f:FS):Prop:= ∀{D:Prop}{env:aj}{hp:List Ob}{q:List aU}{st:Stmt}{K:KO},All (f env hp q st K)->(∀ o q,Ex W fc env hp st o->All (K o q)->D)->D
noncomputable def goOn(o:Out)(k:aj->List Ob->Due)(n:Due):Due:=match o with
|.next e h=>k e h
|_=>n
noncomputable def xZ(f:FS):List Stmt->aj->List Ob->List aU->KO->Due
|[],env,hp,q,K=>K (.next env hp) q
|s::r,env,hp,q,K=>f env hp q s λo q=>goOn o (λe h=>xZ f r e h q K) (K o q)
theorem jW{f:FS}(hf:J5 W fc f):∀{l:List Stmt}{env:aj}{hp:List Ob}{q:List aU}{K:KO},All (xZ f l env hp q K)->(∀ o q,cU W fc env hp l o->All (K o q)->C)->C:=by intro ah;induction ah with
|nil=>intro _ _ _ _ h c;exact c _ _ xm h
|cons s r ih=>
  intro _ _ _ _ h c;exact hf h λo q x h=>by induction o using Out.casesOn with
  |next e YF=>exact ih h λo q y h=>c o q (gq x y) h|_=>exact c _ _ (fM (by exact trivial) x) h
noncomputable def RK(W:Wd)(hp:List Ob)(op:Operator)(a b:V)(q:List aU)(K:KE):Due:=wB hp q λv h q=>Qe W hp op a b v h::K v h q
theorem xH{op:Operator}{a b:V}{q:List aU}{K:KE}(c:∀ v h q,Qe W hp op a b v h->All (K v h q)->C)(h:All (RK W hp op a b q K)):C:=jG h λv h' q h=>c _ _ _ h.1 h.2
theorem Ng(h:T_ op=true):op= .Add:=by induction op using ail<;>first|rfl|exact absurd h acb
noncomputable def Vq(W:Wd)(hp:List Ob)(op:Operator)(a b:V)(q:List aU)(K:KE):Due:=br (T_ op) (opt (asInt a) (λx=>opt (asInt b) (λy=>K (.int (x+y)) hp q) (RK W hp op a b q K)) (RK W hp op a b q K)) (RK W hp op a b q K)
theorem Gx{op:Operator}{a b:V}{q:List aU}{K:KE}(h:All (Vq W hp op a b q K))(c:∀ v h q,Qe W hp op a b v h->All (K v h q)->C):C:=
 cV h (λw h=>bz h (λx e h=>bz h (λy e' h=>c _ _ q (Ng w▸km e▸km e'▸zW) h) λ_=>xH c) λ_=>xH c) λ_=>xH c
noncomputable def Ag(e:Expr):Bool:= !(ajr e.ctorIdx 24||ajr e.ctorIdx 25)
theorem G8(h:Ag t=true):swappedStores [t] v=λ_=>pure none:=by induction t using ac6<;>first|rfl|exact absurd h acb
theorem Sq(h:Ag v=true):swappedStores [t] v=λ_=>pure none:=by
 by_cases g:Ag t=true
 ·exact G8 g
 ·induction t using ac6<;>first|exact absurd rfl g|(induction v using ac6<;>first|rfl|exact absurd h acb)
noncomputable def Uu(e:Expr):Option (Str×Pos):=swappedStores.match_8 (λ_=>Option (Str×Pos)) e (λx p=>some (x,p)) λ_=>none
theorem Fq{e:Expr}{z:Str×Pos}(h:Uu e=some z)(G:e= .Name z.1 z.2->C):C:=by induction e using ac6<;>first|exact aC h|(cases h;exact G rfl)
noncomputable def isName(e:Expr):Bool:=(Uu e).isSome
theorem pQ{P:Expr->Prop}(h:isName t=true)(c:∀ x p,P (.Name x p)):P t:=(acz.mp h).elim λz w=>Fq w λe=>e▸c _ _
theorem Af(h:isName t=true)(g:isName u=true):swappedStores [t,u] v=λ_=>pure none:=pQ (P:=λt=>swappedStores [t,u] v=λ_=>pure none) h λ_ _=>pQ (P:=λu=>swappedStores [_,u] v=λ_=>pure none) g λ_ _=>rfl
theorem wi(h:isName t=true):isStar t=false:=pQ (P:=λt=>isStar t=false) h λ_ _=>rfl
noncomputable def Oo(fc:FC):List Str->List V->aj->(aj->Due)->Due
|[],[],env,K=>K env
|x::xs,v::vs,env,K=>opt (mU .local x v fc.nm env) (λe=>Oo fc xs vs e K) no
|_,_,_,_=>no
theorem Ay:∀{xs:List Str}{vs:List V}{env:aj}{K:aj->Due},All (Oo fc xs vs env K)->(∀ e,Puts fc.nm env xs vs e->All (K e)->C)->C
|[],[],_,_,h,c=>c _ .nil h
|x::xs,v::vs,_,_,h,c=>jg h λe z h=>Ay h λe' p g=>c e' (.cons (cT z) (.inl rfl) p) g
|[],_::_,_,_,h,_=>aW h
|_::_,[],_,_,h,_=>aW h
noncomputable def Xj(W:Wd)(fc:FC)(n:Nat)(env:aj)(ts vs:List Expr)(t e:Expr)(hp:List Ob)(q:List aU)(K:KO):Due:=vE W fc env n e hp q λv h q=>K_ v q λv q=>opt (Ez (λx=>fc.nm.lookup x) ts vs)
 (λxs=>br (fc.q&& !vs.all (constantsAlone 8)) (opt (sV v) (λus=>br (us.length==ts.length) (Oo fc xs.reverse us.reverse env λe'=>K (.next e' h) q) no) no) no) (nR W fc n t v env h q λe' h q=>K (.next e' h) q)
theorem S9{n:Nat}{ts vs:List Expr}{k1 k2:Nat}{p1 p2 z:Pos}{q:List aU}{K:KO}(h:All (Xj W fc n env ts vs (.Tuple ts k1 p1) (.Tuple vs k2 p2) hp q K))(c:∀ o q,Ex W fc env hp (.Assign [.Tuple ts k1 p1] (.Tuple vs k2 p2) z) o->All (K o q)->C):C:=
 cg h λv YF q e1 h=>zc h λq h=>bz h (λxs z h=>iQ h λb h=>PL h λus w h=>iQ h λl h=>Ay h λe p h=>
  c _ _ (Ro (ac7 _▸(abo.mp b).2) (abo.mp b).1 (w▸e1) z (beq_iff_eq.mp l) p) h) λz h=>fV h λe YK q a h=>c _ _ (Rd e1 a z) h
noncomputable def Uv(e:Expr):Option (List Expr×Nat×Pos):=isTupleDisplay.match_1 (λ_=>Option (List Expr×Nat×Pos)) e (λts k p=>some (ts,k,p)) λ_=>none
theorem Ft{e:Expr}{z:List Expr×Nat×Pos}(h:Uv e=some z)(G:e= .Tuple z.1 z.2.1 z.2.2->C):C:=by induction e using ac6<;>first|exact aC h|(cases h;exact G rfl)
noncomputable def Uw(W:Wd)(fc:FC)(n:Nat)(env:aj)(t e:Expr)(hp:List Ob)(q:List aU)(K:KO):Due:=br (!isStar t&&(Ag t||Ag e)) (vE W fc env n e hp q λv h q=>K_ v q λv q=>nR W fc n t v env h q λe' h q=>K (.next e' h) q) no
theorem Fv{n:Nat}{t e:Expr}{z:Pos}{q:List aU}{K:KO}(hc:lq e=false)(h:All (Uw W fc n env t e hp q K))(c:∀ o q,Ex W fc env hp (.Assign [t] e z) o->All (K o q)->C):C:=iQ h λw h=>cg h λv YF q e1 h=>zc h λq h=>fV h λe' YK q a h=>
 have w:=abo.mp w
 c _ _ (Vf (ac7 _▸w.1) hc ((Bool.or_eq_true_iff.mp w.2).elim G8 Sq) e1 a) h
noncomputable def vS(W:Wd)(fc:FC):Nat->FS
|0,env,hp,q,st,K=>Kw W fc env hp st q K
|n+1,env,hp,q,st,K=>match st with
 |.Pass _=>K (.next env hp) q|.Break _=>K (.brk env hp) q|.Return (some e) _=>vE W fc env n e hp q λv h q=>K (.ret v h) q|.Expr e p=>br (lq e) (Kw W fc env hp (.Expr e p) q K) (vE W fc env n e hp q λ_ h q=>K (.next env h) q)|.If t a b _=>vT W fc env (vE W fc env n) n t hp q λz h q=>ask z q λz q=>br z (xZ (vS W fc n) a env h q K) (xZ (vS W fc n) b env h q K)|.Assign [t] e z=>br (lq e) (opt (Uu t) (λx=>Kv W fc env hp e q λv h q=>opt (mU .local x.1 v fc.nm env) (λe'=>K (.next e' h) q) (opt (mU .cell x.1 v fc.nm env) (λe'=>br (fc.wr.contains x.1&&Xi fc.nm x.1 x.2 e) (K (.next e' h) q) no) no)) (Kw W fc env hp (.Assign [t] e z) q K))
    (opt (Uv t) (λa=>opt (Uv e) (λb=>Xj W fc n env a.1 b.1 t e hp q K) (Uw W fc n env t e hp q K)) (Uw W fc n env t e hp q K))
 |.Assign [t,u] e z=>br (isName t&&isName u) (vE W fc env n e hp q λv h q=>nR W fc n t v env h q λe1 h q=>nR W fc n u v e1 h q λe2 h q=>K (.next e2 h) q) no|.AugAssign (.Name x p) op e z=>opt (mY x fc.nm env) (λa=>vE W fc env n e hp q λb h q=>Vq W h op a b q λv h' q=>opt (mU .local x v fc.nm env) (λag=>br (oE x fc.nm==some .local) (K (.next ag h') q) no) (opt (mU .cell x v fc.nm env) (λag=>br (fc.wr.contains x&&oE x fc.nm==some .cell) (K (.next ag h') q) no) no)) no|.AugAssign (.Subscript o i p) op e z=>br (isSlice i) no (vE W fc env n o hp q λa h q=>vE W fc env n i h q λm h q=>tell q (λb q=>Itm W h a m b::vE W fc env n e h q λc h q=>Vq W h op b c q λv h q=>Hv h q λh' q=>Us W h a m v h'::K (.next env h') q) no)|st=>Kw W fc env hp st q K
theorem Qp{e:Expr}{q:List aU}{K:KE}(h:All (Kv W fc env hp e q K))(c:∀ v h q,Cm W fc env hp e v h->All (K v h q)->C):C:=jG h λv h' q h=>c v h' q h.1 h.2
theorem m8:J5 W fc (vS W fc n):=by induction n with
|zero=>intro _ _ _ _ _ _ h c;exact iK h c
|succ n ih=>intro D env hp q st K h c;induction st using Stmt.casesOn with
 |Pass p=>exact c _ _ Rm h|Break p=>exact c _ _ Vh h|Return e p=>induction e using abt with
  |none=>exact iK h c|some e=>exact cg h λv YF q e1 h=>c _ _ (Vi e1) h
 |Expr e p=>exact cV h (λ_ h=>iK h c) λz h=>cg h λv YF q e1 h=>c _ _ (Rk z e1) h|If t a b p=>exact qN cg h λz YF q e1 h=>sW h λq h=>cV h (λw h=>jW ih h λo q x h=>c _ _ (WD (w▸e1) x) h) λw h=>jW ih h λo q x h=>c _ _ (Rj (w▸e1) x) h|Assign ts e z=>induction ts using abn with
  |nil=>exact iK h c|cons t ts=>induction ts using abn with
   |cons t2 ts=>induction ts using abn with
    |cons _ _=>exact iK h c|nil=>refine iQ h λw h=>cg h λv YF q e1 h=>fV h λe2 YK q a1 h=>fV h λe3 YT q a2 h=> ?_;have w:=abo.mp w;exact c _ _ (Rc (wi w.1) (wi w.2) (Af w.1 w.2) e1 a1 λ{u} q=>q▸a2) h
   |nil=>
     refine cV h (λhc h=>bz h (λx xe h=> ?_) λ_ h=>iK h c) λhc h=>bz h (λa ae h=>bz h (λb be h=> ?_) λ_ h=>Fv hc h c) λ_ h=>Fv hc h c
     ·refine Qp h λv YF q m h=>Fq xe λxe=>bz h (λe' z h=>c _ _ (xe▸m.asg (cT z)) h) λ_ h=>jg h λe' z h=>iQ h λw h=> ?_;have w:=abo.mp w;exact c _ _ (xe▸m.asgC (cT z) (agt.mp w.1) w.2) h
     ·refine Ft ae λae=>Ft be λbe=>S9 (z:=z) (ae▸be▸h) λo q x g=>c o q (by rw[ae,be];exact x) g
 |AugAssign t op e z=>induction t using ac6 with
  |Name x p=>exact jg h λa l h=>cg h λb YF q e1 h=>Gx h λv h' q i h=>bz h (λag z h=>iQ h λw g=>c _ _ (Vg (my (beq_iff_eq.mp w) l) e1 i (cT z)) g) λ_ h=>jg h λag z h=>iQ h λw g=>c _ _ (Rg (agt.mp (abo.mp w).1) (my (beq_iff_eq.mp (abo.mp w).2) l) e1 i (cT z)) g|Subscript o i p=>exact cV h (λ_=>aW) λhs h=>cg h λa YF q e1 h=>cg h λm YK q e2 h=>mO h (λb q h=>cg h.2 λc' YT q e3 g=>Gx g λv xI q i g=>uF g λh' q g=>c _ _ (Rh hs e1 e2 h.1 e3 i g.1) g.2) aW|_=>exact iK h c
 |_=>exact iK h c
end
section
noncomputable def fin(o:Out):KO:=λo' _=>[o'=o]
noncomputable def XJ(v:V)(h:List Ob):KE:=λv' h' _=>[v'=v/\h'=h]
theorem bB(n:Nat)(h:eE 0 (xZ (vS W fc n) l env hp q (fin o))):cU W fc env hp l o:=jW m8 h λo' _ x e=>e.1▸x
theorem Xc{st:Stmt}{o:Out}(n:Nat)(h:eE 0 (vS W fc n env hp q st (fin o))):Ex W fc env hp st o:=m8 h λo' _ x e=>e.1▸x
theorem iz(n:Nat)(h:eE 0 (vE W fc env n e hp q (XJ v hp'))):Ev W fc env hp e v hp':=cg h λv' h' _ x e=>e.1.1▸e.1.2▸x
noncomputable def mask:aj->aj->aj
|none::r,_::s=>none::mask r s
|some _::r,o::s=>o::mask r s
|none::r,[]=>none::mask r []
|some _::_,[]=>[]
|[],_=>[]
theorem aZ:∀{e e':aj},mask e e'=e->bh e e'
|[],_,_=> .nil
|none::r,_::s,h=> .drop (aZ (ajz h).2)
|none::r,[],h=> .dropN (aZ (ajz h).2)
|some x::r,o::s,h=>(ajz h).1▸ .same (aZ (ajz h).2)
|some x::r,[],h=>nomatch h
noncomputable def WW(e:aj)(h:List Ob):KO:=λo _=>match o with
|.next e' h'=>[mask e e'=e/\h'=h]
|_=>no
theorem cC(n:Nat)(k:ok p')(h:eE 0 (nR W fc n ac v e p q λYB h q=>xZ (vS W fc n) body YB h q (WW e' p'))):Turn W fc ok ac body e p v e' p':=
 fV h λYB YF q a h=>jW m8 h λo _ x g=>by induction o using Out.casesOn with
 |next e₂ YK=>exact .mk a (g.1.2▸x) k (aZ g.1.1)|_=>exact aW g
theorem E_(n:Nat)(h:eE 0 (nR W fc n ac v e p q λYB h q=>xZ (vS W fc n) body YB h q (fin (.ret u p')))):vH W fc ac body e p v u p':=
 fV h λYB YF q a h=>jW m8 h λo _ x g=> .mk a (g.1▸x)
theorem Gd(n:Nat)(k:ok p')(h:eE 0 (nR W fc n ac v e p q λYB h q=>vE W fc YB n elt h q λv' h' _=>[h=p/\mask e YB=e/\v'=u/\h'=p'])):sI W fc ok ac elt e p v u p':=
 fV h λYB YF q a h=>cg h λv' h' q x g=>by obtain⟨rfl,m,rfl,rfl⟩:=g.1;exact .mk a x k (aZ m)
theorem jy(n:Nat)(h:eE 0 (nR W fc n ac v e hp q λYB h q=>vE W fc YB n elt h q λv' h' _=>[h=hp/\mask e YB=e/\v'=u/\h'=hp])):yu W fc ac elt e hp v u:=
 match Gd (ok:=λ_=>True) n trivial h with
|.mk a b _ d=> .mk a b d
theorem dU(n:Nat)(h:eE 0 (nR W fc n ac v e hp q λYB h q=>vT W fc YB (vE W fc YB n) n c h q λt' YK q=>vE W fc YB n elt YK q λv' h' _=>[h=hp/\mask e YB=e/\YK=hp/\t'=t/\v'=u/\h'=hp])):sH W fc ac elt c e hp v t u:=
 fV h λYB YF q a h=>qN cg h λt' YK q b h=>cg h λv' h' q x g=>by obtain⟨rfl,m,rfl,rfl,rfl,h3⟩:=g.1;exact .mk a b (λ_=>h3▸x) (aZ m)
theorem Li{i:Int}(n:Nat)(h:eE 0 (nR W fc n ac v e hp q λYB h q=>vE W fc YB n kx h q λk YK q=>vE W fc YB n vx YK q λv' h' _=>[h=hp/\mask e YB=e/\YK=hp/\k= .int i/\v'=u/\h'=hp])):sG W fc ac kx vx e hp v i u:=
 fV h λYB YF q a h=>cg h λk YK q b h=>cg h λv' h' q x g=>by obtain⟨rfl,m,rfl,rfl,rfl,h3⟩:=g.1;exact .mk a b (h3▸x) (aZ m)
theorem Walk.mono(w:Walk W A it wr ok tup vs S)(m:∀ h,rl h->ok h):Walk W A it wr rl tup vs S:=
 ⟨w.mem,w.flds,w.stay,λa b c d=>w.item a b c (m _ d),λa b=>w.done a (m _ b),w.self⟩
theorem J_.mono(i:J_ W hp x ok tup vs)(m:∀ h,rl h->ok h):J_ W hp x rl tup vs:=
 .mk λA g s y Q E a b c d=>i.go A g s y Q E a b c λit wr S s' w=>d it wr S s' (w.mono m)
theorem gr:J_ W hp (.lst xs) (λ_=>True) false xs:=(jO .lst).mono λ_ _=> .lst
theorem xJ(e:xs=ys):J_ W hp (.lst xs) (λ_=>True) false ys:=e▸gr
theorem zY(h:hp[i]? =some (.list xs)):J_ W hp (.ref i) (λh=>h[i]? =some (.list xs)) false xs:=(jO (.ref h)).mono λ_=> .ref
theorem bj(n:Nat)(h:eE 0 (vE W fc env n iter hp q λv h _=>[J_ W h v ok tup vs/\h=hp'])):Src W fc env hp iter hp' ok tup vs:=
 cg h λv YF q x g=>by obtain⟨i,rfl⟩:=g.1;exact O8 x i
noncomputable def N8(e:Expr):Bool:= !ajr e.ctorIdx 7
theorem d7(h:N8 e=true)(m:Env)(x:Value):foldedSetIterable e m x=pure x:=by induction e using ac6<;>first|rfl|exact absurd h acb
noncomputable def zR(fc:FC)(tup:Bool)(ac iter:Expr):Bool:=gD tup ac&&N8 iter&&fc.q
theorem b7{σ β:Type}{emb:β->V}{P:Nat->σ->Prop}{f:σ->β->σ}{en:σ->aj}{hq:σ->List Ob}{xs:List β}{s:σ}{tup:Bool}{ac iter:Expr}{body:List Stmt}{pos:Pos}(st:zR fc tup ac iter=true)(aS:Src W fc (en s) hp iter (hq s) ok tup (xs.map emb))(aT:ok (hq s))(hP:P 0 s)
  (H:∀ i s b,i<xs.length->P i s->b∈xs->Turn W fc ok ac body (en s) (hq s) (emb b) (en (f s b)) (hq (f s b))/\P (i+1) (f s b)):Ex W fc (en s) hp (.For ac iter body [] pos) (.next (en (xs.foldl f s)) (hq (xs.foldl f s))):=by
 have w:=abo.mp st;have z:=abo.mp w.1;exact pK z.1 (d7 z.2) w.2 aS aT (Loop.foldM hP H)
theorem I9{σ β:Type}{emb:β->V}{P:Nat->σ->Prop}{f:σ->β->σ}{en:σ->aj}{hq:σ->List Ob}{xs:List β}{s:σ}{tup:Bool}{ac iter:Expr}{body:List Stmt}{pos:Pos}(st:zR fc tup ac iter=true)(aS:Src W fc (en s) hp iter (hq s) ok tup (xs.map emb))(aT:ok (hq s))(hP:P 0 s)
  (H:∀ i s b,P i s->xs[i]? =some b->Turn W fc ok ac body (en s) (hq s) (emb b) (en (f s b)) (hq (f s b))/\P (i+1) (f s b)):Ex W fc (en s) hp (.For ac iter body [] pos) (.next (en (xs.foldl f s)) (hq (xs.foldl f s))):=by
 have w:=abo.mp st;have z:=abo.mp w.1;exact pK z.1 (d7 z.2) w.2 aS aT (Loop.foldX rfl hP H)
noncomputable def u5(nm:Names)(env:aj):Names->Option (Names×aj)
|[]=>some ([],[])
|(n,.local)::r=>(u5 nm env r).map λp=>((n,.local)::p.1,none::p.2)
|(n,.cell)::r=>(u5 nm env r).map λp=>((n,.cell)::p.1,none::p.2)
|(n,.globalImplicit)::r=>(u5 nm env r).map λp=>((n,.globalImplicit)::p.1,none::p.2)
|(n,.free)::r=>(u5 nm env r).bind λp=>(mY n nm env).bind λv=>(oE n nm).bind λk=>bif k== .cell then some ((n,.cell)::p.1,some v::p.2)else bif k== .free then some ((n,.free)::p.1,some v::p.2)else none
|_=>none
theorem FZ:∀{r:Names}{p:Names×aj},u5 nm env r=some p->mQ nm env r p.1 p.2:=by intro ah;induction ah with
|nil=>intro p h;obtain rfl:=acn h;exact .nil
|cons bi r ih=>obtain⟨n,k⟩:=bi;intro p h;induction k using aj3 with
 |«local» =>exact(adl.mp h).elim λa z=>z.2▸ .loc (ih z.1)|cell=>exact(adl.mp h).elim λa z=>z.2▸ .own (ih z.1)|globalImplicit=>exact(adl.mp h).elim λa z=>z.2▸ .glob (ih z.1)|free=>refine(adi.mp h).elim λa z=>(adi.mp z.2).elim λv y=>(adi.mp y.2).elim λk x=> ?_;exact eG x.2 (λq e=>by obtain rfl:=beq_iff_eq.mp q;obtain rfl:=acn e;exact .cell (my x.1 y.1) (ih z.1)) λ_ e=>eG e (λq e=>by obtain rfl:=beq_iff_eq.mp q;obtain rfl:=acn e;exact .free (my x.1 y.1) (ih z.1)) λ_=>aC|_=>exact aC h
noncomputable def Lb(fc:FC)(scope:Scope)(tup:Bool)(ac iter:Expr):Bool:=zR fc tup ac iter&&plainNames scope.names&&decide ((scope.names.map (·.1)).Nodup)&&(scope.kind== .function)
section
variable{elt ac iter c:Expr}{scope:Scope}{pos:Pos}{tup:Bool}{β:Type}{emb g:β->V}{xs:List β}{us:List V}{ce:Names×aj}
theorem Ld(st:Lb fc scope tup ac iter=true)(hc:u5 fc.nm env scope.names=some ce)(aS:Src W fc env hp iter hp₁ ok tup vs)(aT:ok hp₁)(hl:vs.length<=16777216)(t:bW W (inner fc scope.names ce.1) ok ac c9 elt ce.2 hp₁ vs us hp') :
  Cm W fc env hp (.ListComp elt [⟨ac,iter,c9,0⟩] scope pos) (.lst us) hp':=by
 have w:=abo.mp st;have z:=abo.mp w.1;have y:=abo.mp z.1;have x:=abo.mp y.1;have u:=abo.mp x.1;exact .l (eq_of_beq w.2) (of_decide_eq_true z.2) y.2 u.1 (d7 u.2) x.2 aS aT (FZ hc) t hl
theorem rK(hl:xs.length<=n):(xs.map emb).length<=n:=(acx (f:=emb) (as:=xs)).symm▸hl
theorem fG(st:Lb fc scope tup ac iter=true)(hc:u5 fc.nm env scope.names=some ce)(aS:Src W fc env hp iter hp₁ ok tup (xs.map emb))(aT:ok hp₁)(hl:xs.length<=16777216)(e:us=xs.map g)(t:∀ b∈xs,yu W (inner fc scope.names ce.1) ac elt ce.2 hp₁ (emb b) (g b)) :
  Cm W fc env hp (.ListComp elt [⟨ac,iter,[],0⟩] scope pos) (.lst us) hp₁:=Ld st hc aS aT (rK hl) (e▸bW.mapE aT t)
theorem dj{p:β->Bool}(st:Lb fc scope tup ac iter=true)(hc:u5 fc.nm env scope.names=some ce)(aS:Src W fc env hp iter hp₁ ok tup (xs.map emb))(aT:ok hp₁)(hl:xs.length<=16777216)(e:us=(xs.filter p).map g)(t:∀ b∈xs,sH W (inner fc scope.names ce.1) ac elt c ce.2 hp₁ (emb b) (p b) (g b)) :
  Cm W fc env hp (.ListComp elt [⟨ac,iter,[c],0⟩] scope pos) (.lst us) hp₁:=Ld st hc aS aT (rK hl) (e▸bW.filtE aT t)
theorem QF{σ:Type}{P:Nat->σ->Prop}{N:Nat}{f:σ->β->σ}{out:σ->β->V}{hq:σ->List Ob}{s:σ}(st:Lb fc scope tup ac iter=true)(hc:u5 fc.nm env scope.names=some ce)(aS:Src W fc env hp iter (hq s) ok tup (xs.map emb))(aT:ok (hq s))(hl:xs.length<=16777216)(e:us=iC f out s xs)(hP:P 0 s)(hN:xs.length<=N)
  (t:∀ i s b,i<N->P i s->b∈xs->sI W (inner fc scope.names ce.1) ok ac elt ce.2 (hq s) (emb b) (out s b) (hq (f s b))/\P (i+1) (f s b)) :
  Cm W fc env hp (.ListComp elt [⟨ac,iter,[],0⟩] scope pos) (.lst us) (hq (xs.foldl f s)):=Ld st hc aS aT (rK hl) (e▸bW.scanN hP (by rw[ae7];exact hN) t)
theorem F_{α:Type}{kx vx:Expr}{xn:Str}{px:Pos}{kf:β->Int}{vf:β->α}{f:α->V}{d:List (Int×α)}(st:Lb fc scope tup (.Name xn px) iter=true)(hc:u5 fc.nm env scope.names=some ce)(aS:Src W fc env hp iter hp₁ ok tup (xs.map emb))(aT:ok hp₁)(hl:xs.length<=16777216)(e:d=xs.foldl (λd b=>dX d (kf b) (vf b)) [])
  (t:∀ b∈xs,sG W (inner fc scope.names ce.1) (.Name xn px) kx vx ce.2 hp₁ (emb b) (kf b) (f (vf b))) :
  Cm W fc env hp (.DictComp kx vx [⟨.Name xn px,iter,[],0⟩] scope pos) (.dI (dK d) (dV f d)) hp₁:=by
 have w:=abo.mp st;have z:=abo.mp w.1;have y:=abo.mp z.1;have x:=abo.mp y.1;have u:=abo.mp x.1;exact .d (eq_of_beq w.2) (of_decide_eq_true z.2) y.2 u.1 (d7 u.2) x.2 aS aT (FZ hc) (e▸dB.mapE (d:=[]) aT t) (rK hl)
end
end
section
variable{W:Wd}{fc:FC}{env:aj}{hp hp' hp₁:List Ob}{q:List aU}{ok:List Ob->Prop}{K:Frag}{mg mb:Str->Option Value}
noncomputable def iT(K:Frag)(a:Addr):Option (FuncData×List Stmt):=(K.lookup a).bind λo=>match o.data with
|.func fd=>(match fd.body with
 |.stmts b=>some (fd,b)|_=>none)
|_=>none
noncomputable def zQ(K:Frag)(fd:FuncData):Bool:=fd.closure.isEmpty&&(fd.globals==mainGlobals&&(fd.builtins==builtinsNs&&(codeIn K fd.code fd.qualname&&(!fd.scope.isCoroutine&&(!fd.scope.isGenerator&&((fd.scope.kind== .function)&&(decide ((fd.scope.names.map (·.1)).Nodup)&&qH fd.scope.names)))))))
theorem fnAt(G:HJ W K mg mb){a:Addr}{r:FuncData×List Stmt}(h:iT K a=some r)(c:zQ K r.1=true):FnAt W a r.1 r.2:=by
 refine(adi.mp h).elim λo z=> ?_;have g:∀{fd:FuncData}{b:List Stmt},o.data= .func fd->fd.body= .stmts b->some (fd,b)=some r->o.data= .func r.1/\r.1.body= .stmts r.2:=λe f i=>by cases i;exact⟨e,f⟩
 have w:o.data= .func r.1/\r.1.body= .stmts r.2:=by
  have e:=z.2;induction e1:o.data using aop<;>(rw[e1]at e)<;>first|exact aC e|skip
  rename_i fd;dsimp only at e;induction e2:fd.body using FuncBody.casesOn<;>(rw[e2]at e)<;>first|exact aC e|exact e1▸g e1 e2 e|exact g rfl e2 (by first|exact e|exact(acn e)▸rfl)
 have c1:=abo.mp c;have c2:=abo.mp c1.2;have c3:=abo.mp c2.2;have c4:=abo.mp c3.2;have c5:=abo.mp c4.2;have c6:=abo.mp c5.2;have c7:=abo.mp c6.2;have c8:=abo.mp c7.2;exact⟨⟨o,G.X a o z.1,w.1⟩,w.2,ag7.mp c1.1,eq_of_beq c2.1,eq_of_beq c3.1,codeRec_of G.X c4.1,G.lim,ac7 _▸c5.1,ac7 _▸c6.1,eq_of_beq c7.1,of_decide_eq_true c8.1,λ_ _ hx=>uw c8.2 hx⟩
theorem lr(G:HJ W K mg mb){a:Addr}{r:FuncData×List Stmt}(h:iT K a=some r)(c:zQ K r.1=true):Kp W (.ref a):=(fnAt G h c).obj.elim λo e=>W0 e.1 e.2
noncomputable def uy(nm:Names):List Str->List V->aj->Option aj
|[],[],e=>some e
|x::xs,v::vs,e=>match mU .local x v nm e with
 |some e=>uy nm xs vs e|none=>(mU .cell x v nm e).bind λe=>uy nm xs vs e
|_,_,_=>none
theorem Oq:∀{xs:List Str}{vs:List V}{e e':aj},uy nm xs vs e=some e'->Puts nm e xs vs e':=by intro ah;induction ah with
|nil=>intro bi;induction bi using abn with
 |nil=>intro _ _ h;obtain rfl:=acn h;exact .nil
 |cons _ _=>intro _ _ h;exact aC h
|cons x xs ih=>intro nt;induction nt using abn with
 |nil=>intro _ _ h;exact aC h|cons v vs=>intro e e' h;induction z:mU .local x v nm e using abt with
  |some e1=>have h:(match mU .local x v nm e with|some e=>uy nm xs vs e|none=>_)=some e':=h;rw[z]at h;exact .cons (cT z) (.inl rfl) (ih h)|none=>have h:(match mU .local x v nm e with|some e=>uy nm xs vs e|none=>(mU .cell x v nm e).bind λe=>uy nm xs vs e)=some e':=h;rw[z]at h;exact(adi.mp h).elim λe1 y=> .cons (cT y.1) (.inr rfl) (ih y.2)
theorem az(h:uy nm xs vs []=some e):Puts nm [] xs vs e:=Oq h
theorem Mz{ac iter:Expr}{body rest:List Stmt}{pos:Pos}{tup:Bool}{β:Type}{emb:β->V}{vs:List β}{o:Out}{f:β->Option V}(st:zR fc tup ac iter=true)(aS:Src W fc env hp iter hp₁ ok tup (vs.map emb))(aT:ok hp₁)(h1:∀ v∈vs,f v=none->Turn W fc ok ac body env hp₁ (emb v) env hp₁)
  (h2:∀ v∈vs,∀ u,f v=some u->vH W fc ac body env hp₁ (emb v) u hp₁) (hn:vs.findSome? f=none->cU W fc env hp₁ rest o) (hs:∀ u,vs.findSome? f=some u->o= .ret u hp₁):cU W fc env hp (.For ac iter body [] pos::rest) o:=by
 have w:=abo.mp st;have z:=abo.mp w.1;exact Mx z.1 (d7 z.2) w.2 aS aT h1 h2 hn hs
end
section
variable{W:Wd}
theorem oK{x:Str}{name:Str}{id:String}{xs:List V}{v:V}{YQ Y5:List Ob}(slot:Slot "str" name id)(i8:typeOf (.builtin id)=pure (.type "method_descriptor"))(hc:Call W k b (.builtin id) [] (.str x::xs) YQ v Y5):Mt W k b hp₁ (.str x) name [] xs [] YQ v Y5:=
 .blt (λg s y I r=>Eu g hp₁ s y I r) alk slot i8 hc
theorem G3{x:V}{ys:List V}{name:Str}{id:String}{xs:List V}{v:V}{YQ Y5:List Ob}(l:Lst hp₁ x ys)(slot:Slot "list" name id)(i8:typeOf (.builtin id)=pure (.type "method_descriptor"))(hc:Call W k b (.builtin id) [] (x::xs) YQ v Y5):Mt W k b hp₁ x name [] xs [] YQ v Y5:=
 .blt (Vv l) PySem.F.plainAttrs_list slot i8 hc
section
theorem m_find:Mt W k b hp₁ (.str x) (Mi "find") [] [.str y] [] hp (.int (ad3 x y)) hp:=oK akv (by kernel_rfl) H4
theorem oJ{i:Int}:Mt W k b hp₁ (.str x) (Mi "find") [] [.str y,.int i] [] hp (.int (afa x y i)) hp:=oK akv (by kernel_rfl) Cp
theorem m_startswith:Mt W k b hp₁ (.str x) (Mi "startswith") [] [.str y] [] hp (.bool (agz x y)) hp:=oK PySem.F.slot_str_startswith (by kernel_rfl) qT
theorem m_endswith:Mt W k b hp₁ (.str x) (Mi "endswith") [] [.str y] [] hp (.bool (ah1 x y)) hp:=oK PySem.F.slot_str_endswith (by kernel_rfl) uW
theorem m_lower(h:aec (ada x).length=false):Mt W k b hp₁ (.str x) (Mi "lower") [] [] [] hp (.str (ada x)) hp:=oK PySem.F.slot_str_lower (by kernel_rfl) (Cr h)
theorem m_upper(h:aec (aed x).length=false):Mt W k b hp₁ (.str x) (Mi "upper") [] [] [] hp (.str (aed x)) hp:=oK PySem.F.slot_str_upper (by kernel_rfl) (Cv h)
theorem m_split(hy:(y.length==0)=false)(hl:x.length+2<=16777216):Mt W k b hp₁ (.str x) (Mi "split") [] [.str y] [] hp (.lst (sL (adx x y))) hp:=oK aex (by kernel_rfl) (Cu hy hl)
theorem NT{n:Int}(hy:(y.length==0)=false)(hk:(decide (n< -(2 ^ 63:Int))||decide (n>=2 ^ 63))=false)(hl:x.length+2<=16777216):Mt W k b hp₁ (.str x) (Mi "split") [] [.str y,.int n] [] hp (.lst (sL (ah2 x y n))) hp:=oK aex (by kernel_rfl) (yX hy hk hl)
theorem NP(la:Lst hp a xs)(st:Strs xs l)(aT:JoinOk x l=true):Mt W k b hp₁ (.str x) (Mi "join") [] [a] [] hp (.str (ak3 x l)) hp:=oK ajt (by kernel_rfl) (H8 la st aT)
end
section
variable{i:Nat}{xs ys:List V}{v u:V}
theorem dJ(h1:hp₁[i]? =some (.list ys))(hi:hp[i]? =some (.list xs))(hl:xs.length<=16777216):Mt W k b hp₁ (.ref i) (Mi "append") [] [v] [] hp .none (hp.set i (.list (xs++[v]))):=G3 (.ref h1) PySem.F.slot_list_append (by kernel_rfl) (yR hi hl)
theorem Aa(h1:hp₁[i]? =some (.list zs))(hi:hp[i]? =some (.list xs))(lb:Lst hp u ys)(hl:xs.length+ys.length<=16777216):Mt W k b hp₁ (.ref i) (Mi "extend") [] [u] [] hp .none (hp.set i (.list (xs++ys))):=G3 (.ref h1) ajy (by kernel_rfl) (yS hi lb hl)
theorem uh(hi:hp[i]? =some (.list xs))(hl:xs.length<=16777216):Mt W k b hp (.ref i) (Mi "extend") [] [.lst []] [] hp .none hp:=by
 have h:=Aa (W:=W) (k:=k) (b:=b) hi hi (.lst (xs:=[])) (show xs.length+0<=_ from hl);rw[adv]at h;obtain⟨h1,h2⟩:=abw.mp hi;have e:hp.set i (.list xs)=hp:=by rw[←h2,aif]
 rw[e]at h;exact h
theorem pY(h1:hp₁[i]? =some (.list ys))(hi:hp[i]? =some (.list (v::xs)))(hl:xs.length+1<=16777216):Mt W k b hp₁ (.ref i) (Mi "pop") [] [.int 0] [] hp v (hp.set i (.list xs)):=G3 (.ref h1) akr (by kernel_rfl) (H9 hi hl)
theorem GX{n:Int}(l1:Lst hp₁ u ys)(lx:Lst hp u xs)(t:pD xs l):Mt W k b hp₁ u (Mi "count") [] [.int n] [] hp (.int (l.count n:Nat)) hp:=G3 l1 PySem.F.slot_list_count (by kernel_rfl) (sY lx t)
end
section
variable{K:Type}[DecidableEq K]{knd:aep W.prog W.w K}{ks:List K}
theorem GZ(d:Tv W knd hp x ks vs):Mt W k b hp x (Mi "items") [] [] [] hp (.view "dict_items" x) hp:= .blt (Lj d) ah5 ah6 amm (Cq d)
theorem m_values(d:Tv W knd hp x ks vs):Mt W k b hp x (Mi "values") [] [] [] hp (.view "dict_values" x) hp:= .blt (Lj d) ah5 aht al5 (za d)
end
theorem VP(e:vs=us)(s:Src W fc env hp iter hp' ok tup vs):Src W fc env hp iter hp' ok tup us:=e▸s
theorem VN{K:Type}[DecidableEq K]{knd:aep W.prog W.w K}{y:Str}{np cb pos:Pos}{v:V}{ks:List K}{vs:List V}(hd:DV W knd v ks vs)(hn:mY y fc.nm env=some v)(b9:(cb.endLine==pos.line)=true):Src W fc env hp (.Call (.Attribute (.Name y np) (Mi "values") cb) [] [] pos) hp (λ_=>True) false vs:=
 Et (λ_=>rfl) b9 (rm hn) hd
theorem uD{K:Type}[DecidableEq K]{knd:aep W.prog W.w K}{y:Str}{np cb pos:Pos}{v:V}{ks:List K}{vs us:List V}{tv:K->V}(q6:∀ key u,knd.is key u=true-> ∀ g h,RV W g h (tv key) u)(hd:DV W knd v ks vs)(hn:mY y fc.nm env=some v)(b9:(cb.endLine==pos.line)=true)(e:us=ae8 (λa b=> .tup [tv a,b]) ks vs):Src W fc env hp (.Call (.Attribute (.Name y np) (Mi "items") cb) [] [] pos) hp (λ_=>True) true us:=
 e▸JL (λ_=>rfl) b9 q6 (rm hn) hd
noncomputable def Jw(f:FS):Nat->List Stmt->aj->List Ob->List aU->(aj->List Ob->List Stmt->Due)->Due
|0,l,env,hp,_,K=>K env hp l
|m+1,s::r,env,hp,q,K=>f env hp q s λo q=>goOn o (λe h=>Jw f m r e h q K) no
|_+1,[],_,_,_,_=>no
theorem rY{f:FS}{C:Prop}(hf:J5 W fc f){P:aj->List Ob->List Stmt->Prop}(st:∀{env hp s e h r},Ex W fc env hp s (.next e h)->P e h r->P env hp (s::r)):∀{m:Nat}{l:List Stmt}{env:aj}{hp:List Ob}{q:List aU},All (Jw f m l env hp q λe h r=>[P e h r])->P env hp l:=by intro ah;induction ah with
|zero=>intro _ _ _ _ h;exact h.1
|succ m ih=>intro bi;induction bi using abn with
 |nil=>intro _ _ _ h;exact aW h|cons s r=>
   intro _ _ _ h;exact hf h λo q x h=>by induction o using Out.casesOn with
   |next e YF=>exact st x (ih h)|_=>exact aW h
theorem Hh{P:aj->List Ob->List Stmt->Prop}(m n:Nat)(st:∀{env hp s e h r},Ex W fc env hp s (.next e h)->P e h r->P env hp (s::r))(h:eE 0 (Jw (vS W fc n) m l env hp q λe h r=>[P e h r])):P env hp l:=rY (C:=True) m8 st h
theorem j6(m n:Nat)(h:eE 0 (Jw (vS W fc n) m l env hp q λe h r=>[cU W fc e h r o])):cU W fc env hp l o:=rY (C:=True) m8 gq h
theorem W4{x:Str}(h:x.length<=m)(g:m<=16777216):x.length<=16777216:=abj h g
theorem W2{a b:Str}{m n:Nat}(h:a.length<=m)(g:b.length<=n):(a++b).length<=m+n:=str_len a b▸adt h g
theorem W3{x:Str}(h:x.length<=m):x.length<=m:=h
theorem Nu{x:Str}(h:x.length<=60):x.length<=60:=h
theorem Gb{α β γ:Type}(f:α->β->γ){a a':α}{b b':β}(h:a=a')(g:b=b'):f a b=f a' b':=h▸g▸rfl
section
theorem Hi(m n:Nat)(h:eE 0 (Jw (vS W fc n) m l env hp q λe h r=>[sS W fc e h r ag cls msg hp'])):sS W fc env hp l ag cls msg hp':=rY (C:=True) m8 IW h
theorem VD(m n:Nat)(h:eE 0 (Jw (vS W fc n) m l env hp q λe h r=>[qu W fc e h r ag cls msg hp'])):qu W fc env hp l ag cls msg hp':=rY (C:=True) m8 Dr h
end
inductive XR(W:Wd)(x:Str)(C:Addr):Prop
|mk {tl:List Value} (O:yC W C tl) (g:∀(fc:FC)(p:Pos),ni fc.nm x .globalImplicit->Gn W fc (.Name x p) (.ref C)):XR W x C
theorem jD(X:XR W x C)(n:Nat)(st:(fc.q&& !isStar e0&&oE x fc.nm==some .globalImplicit)=true)
  (h:eE 0 (vT W fc env (vE W fc env n) n t hp q λb h q=>vE W fc env n e0 h q λv h' _=>[b=true/\v= .str y/\h'=hp'])):sS W fc env hp (.If t [.Raise (some (.Call (.Name x np) [e0] [] ly)) none pos] orelse ip::r) env (.ref C) (some y) hp':=by
 have w:=abo.mp st;have z:=abo.mp w.1;induction X using XR.casesOn with
|mk O g=>refine qN cg h λb YF q e1 h=>cg h λv YK q e2 d=> ?_;obtain⟨rfl,rfl,rfl⟩:=d.1;exact jz (Ve e1 (jz (IV (ac7 _▸z.2) z.1 O (g fc np (aL (beq_iff_eq.mp w.2))) e2)))
theorem lJ(n:Nat)(h:eE 0 (mapE (vE W fc env n) es hp q λAI h' _=>[AI=vs/\h'=hp'])):wI W fc env hp es vs hp':=oM cg h λAI h' _ x e=>e.1.1▸e.1.2▸x
section
variable{σ:Type}{P:σ->Prop}{en res:σ->aj}{μ:σ->Nat}{s:σ}
theorem Hm(n:Nat)(h:eE 0 (vT W fc env (vE W fc env n) n e hp q λt' h _=>[t'=t/\h=hp'])):g8 W fc env hp e t hp':=qN cg h λt' YF q x d=>by obtain⟨rfl,rfl⟩:=d.1;exact x
theorem w_next(s':σ)(n:Nat)(d:P s')(e:μ s'<μ s)(f:res s'=res s)(h:eE 0 (vT W fc (en s) (vE W fc (en s) n) n aE hp q λt h q=>(t=true/\h=hp)::xZ (vS W fc n) body (en s) h q (WW (en s') hp))):vI W fc hp aE body P en res μ s:=
 qN cg h λt YF q x g=>by
  obtain⟨rfl,rfl⟩:=g.1;exact jW m8 g.2 λo _ y g=>by induction o using Out.casesOn with
  |next e₂ YK=>exact .next s' x (g.1.2▸y) (aZ g.1.1) d e f|_=>exact aW g
theorem V9(n:Nat)(h:eE 0 (vT W fc (en s) (vE W fc (en s) n) n aE hp q λt h _=>[t=false/\h=hp/\mask (res s) (en s)=res s])):vI W fc hp aE body P en res μ s:=
 qN cg h λt YF q x g=>by obtain⟨rfl,rfl,l⟩:=g.1;exact .stop x (aZ l)
theorem Uo(n:Nat)(h:eE 0 (vT W fc (en s) (vE W fc (en s) n) n aE hp q λt h q=>(t=true/\h=hp)::xZ (vS W fc n) body (en s) h q λo _=>match o with
 |.brk e' h'=>[mask (res s) e'=res s/\h'=hp]|_=>no)):vI W fc hp aE body P en res μ s:=
 qN cg h λt YF q x g=>by
  obtain⟨rfl,rfl⟩:=g.1;exact jW m8 g.2 λo _ y g=>by induction o using Out.casesOn with
  |brk e₂ YK=>exact .brk x (g.1.2▸y) (aZ g.1.1)|_=>exact aW g
end
end
section
section
noncomputable abbrev Wr(W:Wd)(p:Params)(mg mb:Str->Option Value):Prop:=HJ W (hd.heap_39 p) mg mb
theorem xT(G:Wr W p mg mb):Fo W 143 Rx.dotCode:=⟨_,_,G.X 143 _ rfl,rfl,rfl,rfl,rfl,rfl,142,_,_,_,rfl,G.X 142 _ rfl,rfl,by kernel_rfl⟩
theorem Ed(G:Wr W p mg mb):Fo W 148 Rx.nlCode:=⟨_,_,G.X 148 _ rfl,rfl,rfl,rfl,rfl,rfl,147,_,_,_,rfl,G.X 147 _ rfl,rfl,by kernel_rfl⟩
theorem Ao(G:Wr W p mg mb):Fo W 165 Rx.nameCode:=⟨_,_,G.X 165 _ rfl,rfl,rfl,rfl,rfl,rfl,164,_,_,_,rfl,G.X 164 _ rfl,rfl,by kernel_rfl⟩
theorem Hd(G:Wr W p mg mb):Fo W 170 Rx.valCode:=⟨_,_,G.X 170 _ rfl,rfl,rfl,rfl,rfl,rfl,169,_,_,_,rfl,G.X 169 _ rfl,rfl,by kernel_rfl⟩
theorem Vl(G:Wr W p mg mb)(h:ni fc.nm (Mi "len") .globalImplicit):Gn W fc (.Name (Mi "len") pos) (.builtin "len"):=G.blt (by kernel_rfl) boot_len (by decide) h
theorem MP(G:Wr W p mg mb)(h:ni fc.nm (Mi "int") .globalImplicit):Gn W fc (.Name (Mi "int") pos) (.type "int"):=G.blt (by kernel_rfl) boot_int (by decide) h
theorem Dv(G:Wr W p mg mb)(h:ni fc.nm (Mi "str") .globalImplicit):Gn W fc (.Name (Mi "str") pos) (.type "str"):=G.blt (by kernel_rfl) ao3 (by decide) h
theorem Gu(G:Wr W p mg mb)(h:ni fc.nm (Mi "list") .globalImplicit):Gn W fc (.Name (Mi "list") pos) (.type "list"):=G.blt (by kernel_rfl) aow (by decide) h
theorem zU(G:Wr W p mg mb)(h:ni fc.nm (Mi "tuple") .globalImplicit):Gn W fc (.Name (Mi "tuple") pos) (.type "tuple"):=G.blt (by kernel_rfl) aol (by decide) h
theorem Vo(G:Wr W p mg mb)(h:ni fc.nm (Mi "zip") .globalImplicit):Gn W fc (.Name (Mi "zip") pos) (.type "zip"):=G.blt (by kernel_rfl) ao4 (by decide) h
theorem MT(G:Wr W p mg mb)(h:ni fc.nm (Mi "range") .globalImplicit):Gn W fc (.Name (Mi "range") pos) (.type "range"):=G.blt (by kernel_rfl) boot_range (by decide) h
theorem Rz(G:Wr W p mg mb)(h:ni fc.nm (Mi "enumerate") .globalImplicit):Gn W fc (.Name (Mi "enumerate") pos) (.type "enumerate"):=G.blt (by kernel_rfl) boot_enumerate (by decide) h
theorem Vm(G:Wr W p mg mb)(h:ni fc.nm (Mi "sum") .globalImplicit):Gn W fc (.Name (Mi "sum") pos) (.builtin "sum"):=G.blt (by kernel_rfl) boot_sum (by decide) h
theorem boot_type:bootBuiltins "type" =some (.type "type"):=by decide +kernel
theorem boot_isinstance:bootBuiltins "isinstance" =some (.builtin "isinstance"):=by decide +kernel
theorem Gv(G:Wr W p mg mb)(h:ni fc.nm (Mi "type") .globalImplicit):Gn W fc (.Name (Mi "type") pos) (.type "type"):=G.blt (by kernel_rfl) boot_type (by decide) h
theorem vo(G:Wr W p mg mb)(h:ni fc.nm (Mi "isinstance") .globalImplicit):Gn W fc (.Name (Mi "isinstance") pos) (.builtin "isinstance"):=G.blt (by kernel_rfl) boot_isinstance (by decide) h
theorem jn(G:Wr W p mg mb){i:Int}(h:Call W k q (.builtin "len") [] [x] hp (.int i) hp):GC W k q (Mi "len") [x] hp (.int i) hp:=⟨_,ik,h,λ_ _=>Vl G⟩
theorem jo(G:Wr W p mg mb){i:Int}(h:i.natAbs<2 ^ 60):GC W k q (Mi "str") [.int i] hp (.str (Mi (toString i))) hp:=⟨_,eQ,sZ h,λ_ _=>Dv G⟩
theorem XF(G:Wr W p mg mb)(e:(bif x==("__debug__" : Str)then none else nsIn (hd.heap_39 p) mainGlobals x)=some (some (.ref a)))(h:iT (hd.heap_39 p) a=some r)(f:zQ (hd.heap_39 p) r.1=true)(c:Call W k q (.ref a) [] vs hp v hp'):GC W k q x vs hp v hp':=⟨_,lr G h f,c,λ_ _=>G.top e⟩
theorem Wf(G:Wr W p mg mb)(hi:hp[i]? =some (.ns [Mi "comp_select_list"] [v])):At W hp (.iref 62 i) (Mi "comp_select_list") v:= .mk G.X (by kernel_rfl) hi rfl
theorem yD(G:Wr W p mg mb)(hi:hp[i]? =some (.ns [Mi "_headers"] [v])):At W hp (.iref 301 i) (Mi "_headers") v:= .mk G.X (by kernel_rfl) hi rfl
theorem TV(G:Wr W p mg mb){i:Int}(h:cD y i):GC W k q (Mi "int") [.str y] hp (.int i) hp:=⟨_,eQ,yV h,λ_ _=>MP G⟩
end
section
theorem big(h:n<=100000):n<=16777216:=abj h (by decide)
noncomputable abbrev Yq:List Value:=[.ref 97,.type "Exception",.type "BaseException",.type "object"]
theorem jQ(G:Wr W p mg mb):yC W 110 Yq:=by have e:=G.X 110 _ rfl;have e1:=G.X 97 _ rfl;exact⟨109,_,_,_,_,_,_,_,_,_,_,_,_,_,_,_,e,G.ns (by kernel_rfl),G.nsNone (by kernel_rfl) (by kernel_rfl),.own e1 (G.ns (N:=96) (by kernel_rfl)) (G.nsNone (by kernel_rfl) (by kernel_rfl)) .base⟩
theorem oR(G:Wr W p mg mb):yC W 122 Yq:=by have e:=G.X 122 _ rfl;have e1:=G.X 97 _ rfl;exact⟨121,_,_,_,_,_,_,_,_,_,_,_,_,_,_,_,e,G.ns (by kernel_rfl),G.nsNone (by kernel_rfl) (by kernel_rfl),.own e1 (G.ns (N:=96) (by kernel_rfl)) (G.nsNone (by kernel_rfl) (by kernel_rfl)) .base⟩
theorem HH(G:Wr W p mg mb):XR W (Mi "error_reply") 110:= .mk (jQ G) λ_ _=>G.top (by kernel_rfl)
theorem sE(G:Wr W p mg mb):XR W (Mi "error_proto") 122:= .mk (oR G) λ_ _=>G.top (by kernel_rfl)
section
variable{x:Str}(hx:x.length<=100000)(G:Wr W p mg mb)
include G hx
theorem ut(h3:(adf x none (some 3) !=(Mi "229"))=true):iJ W (k+1) true (.ref 131) [] [.str x,pv] hp (.ref 110) (some x) hp:=
 jr (fnAt G rfl (by kernel_rfl)) rfl (λ_ _=>by kernel_rfl) (az rfl) (jD (q:=[]) (HH G) 9 rfl (.step (big hx)<| .last ⟨h3,rfl,rfl⟩ rfl))
variable(h3:(adf x none (some 3) !=(Mi "229"))=false)
include h3
theorem Ai(l0:ad3 x "(" <0):iJ W (k+1) true (.ref 131) [] [.str x,pv] hp (.ref 122) (some x) hp:=
 jr (fnAt G rfl (by kernel_rfl)) rfl (λ_ _=>by kernel_rfl) (az rfl) (Hi (q:=[.b _,.v _]) 2 9 (.step (big hx)<| .step h3<| .step m_find<| .last (jD (q:=[]) (sE G) 9 rfl (.last ⟨decide_eq_true l0,rfl,rfl⟩ rfl)) rfl))
variable(l0:0<=ad3 x "(")(l1:ad3 x "(" +1<x.length)
include l0 l1
theorem Aj(r0:afa x ")" (ad3 x "(" +1)<0):iJ W (k+1) true (.ref 131) [] [.str x,pv] hp (.ref 122) (some x) hp:=
 jr (fnAt G rfl (by kernel_rfl)) rfl (λ_ _=>by kernel_rfl) (az rfl) (Hi (q:=[.b _,.v _,.b _,.v _]) 4 9 (.step (big hx)<| .step h3<| .step m_find<| .step (decide_eq_false (afr.mpr l0))<| .step oJ<|
  .last (jD (q:=[]) (sE G) 9 rfl (.last ⟨decide_eq_true r0,rfl,rfl⟩ rfl)) rfl))
variable(r0:0<afa x ")" (ad3 x "(" +1))(r1:afa x ")" (ad3 x "(" +1) - 1<x.length)
include r0 r1
theorem Dz:Itm W hp (.str x) (.int (ad3 x "(" +1)) (.str (ad2 x (ad3 x "(" +1))):=oA (acr (aj0 (adg _)) (acr l0 (afl (agc (am9 _))))) l1 (big hx)
theorem RQ:Itm W hp (.str x) (.int (afa x ")" (ad3 x "(" +1) - 1)) (.str (ad2 x (afa x ")" (ad3 x "(" +1) - 1))):=oA (acr (aj0 (adg _)) (aiq r0)) r1 (big hx)
theorem Ak(hb:(ad2 x (ad3 x "(" +1) !=ad2 x (afa x ")" (ad3 x "(" +1) - 1))=true):iJ W (k+1) true (.ref 131) [] [.str x,pv] hp (.ref 122) (some x) hp:=
 jr (fnAt G rfl (by kernel_rfl)) rfl (λ_ _=>by kernel_rfl) (az rfl) (Hi (q:=[.b _,.v _,.b _,.v _,.b _]) 5 9 (.step (big hx)<| .step h3<| .step m_find<| .step (decide_eq_false (afr.mpr l0))<| .step oJ<| .step (decide_eq_false (afr.mpr (afl r0)))<|
  .last (jD (q:=[.v _,.v _]) (sE G) 9 rfl (.step (Dz hx G h3 l0 l1 r0 r1)<| .step (RQ hx G h3 l0 l1 r0 r1)<| .last ⟨hb,rfl,rfl⟩ rfl)) rfl))
variable(hb:(ad2 x (ad3 x "(" +1) !=ad2 x (afa x ")" (ad3 x "(" +1) - 1))=false)(hy:((ad2 x (ad3 x "(" +1)).length==0)=false)(hs:(adf x (some (ad3 x "(" +1)) (some (afa x ")" (ad3 x "(" +1)))).length<=100000)
 (iF:adx (adf x (some (ad3 x "(" +1)) (some (afa x ")" (ad3 x "(" +1)))) (ad2 x (ad3 x "(" +1))=parts)
include hb hy hs iF
theorem Al(h5:parts.length≠5)(h6:parts.length<=100000):iJ W (k+1) true (.ref 131) [] [.str x,pv] hp (.ref 122) (some x) hp:=by
 have kD:(adf x (some (ad3 x "(" +1)) (some (afa x ")" (ad3 x "(" +1)))).length+2<=16777216:=abj (ab8 hs 2) (by decide);have em:(sL parts).length<=16777216:=by simp[sL];exact big h6
 have oI:(((sL parts).length:Int) !=5)=true:=by simp[sL];exact Nat.ToInt.of_diseq rfl rfl h5
 subst iF;exact jr (fnAt G rfl (by kernel_rfl)) rfl (λ_ _=>by kernel_rfl) (az rfl) (Hi (q:=[.b _,.v _,.b _,.v _,.b _,.v _,.v _,.b _,.v _,.v _,.v _]) 7 9 (.step (big hx)<| .step h3<| .step m_find<| .step (decide_eq_false (afr.mpr l0))<| .step oJ<| .step (decide_eq_false (afr.mpr (afl r0)))<|
  .step (Dz hx G h3 l0 l1 r0 r1)<| .step (RQ hx G h3 l0 l1 r0 r1)<| .step hb<| .step (o5 (big hx))<| .step (Dz hx G h3 l0 l1 r0 r1)<| .step (m_split hy kD)<|
  .last (jD (q:=[.v _]) (sE G) 9 rfl (.step (jn G (dh .lst em))<| .last ⟨oI,rfl,rfl⟩ rfl)) rfl))
variable(h5:parts.length=5)(xl:cN (sL parts) 3=some (.str y))
include h5 xl
theorem Ec(hi:gZ y)(ml:(reprText y).length<=1000):m_ W (k+1) true (.ref 131) [] [.str x,.tup [h,u]] hp (.type "ValueError") none hp:=by
 have kD:(adf x (some (ad3 x "(" +1)) (some (afa x ")" (ad3 x "(" +1)))).length+2<=16777216:=abj (ab8 hs 2) (by decide);have em:(sL parts).length<=16777216:=by simp[sL,h5]
 have oI:(((sL parts).length:Int) !=5)=false:=by simp[sL,h5]
 subst iF;exact Cj (fnAt G rfl (by kernel_rfl)) rfl (λ_ _=>by kernel_rfl) (az rfl) (VD (q:=[.b _,.v _,.b _,.v _,.b _,.v _,.v _,.b _,.v _,.v _,.v _,.v _,.b _]) 9 9 (.step (big hx)<| .step h3<| .step m_find<| .step (decide_eq_false (afr.mpr l0))<| .step oJ<| .step (decide_eq_false (afr.mpr (afl r0)))<|
  .step (Dz hx G h3 l0 l1 r0 r1)<| .step (RQ hx G h3 l0 l1 r0 r1)<| .step hb<| .step (o5 (big hx))<| .step (Dz hx G h3 l0 l1 r0 r1)<| .step (m_split hy kD)<| .step (jn G (dh .lst em))<| .step oI<|
  .last (tR (Mr (hc:=rfl) (vU eQ rfl (MP G (aL rfl)) (kY (hs:=rfl) (iz (q:=[.v _]) 9 (.step (aF .lst xl em)<| .last ⟨rfl,rfl⟩ rfl)) rn) (Ck hi ml)))) rfl))
theorem lD{i:Int}(hi:cD y i):Call W (k+1) q (.ref 131) [] [.str x,.tup [h,u]] hp (.tup [h,.int i]) hp:=by
 have kD:(adf x (some (ad3 x "(" +1)) (some (afa x ")" (ad3 x "(" +1)))).length+2<=16777216:=abj (ab8 hs 2) (by decide);have em:(sL parts).length<=16777216:=by simp[sL,h5]
 have oI:(((sL parts).length:Int) !=5)=false:=by simp[sL,h5]
 subst iF;exact dH (fnAt G rfl (by kernel_rfl)) rfl (λ_ _=>by kernel_rfl) (az rfl) (bB (o:= .ret _ _) (q:=[.b _,.v _,.b _,.v _,.b _,.v _,.v _,.b _,.v _,.v _,.v _,.v _,.b _,.v _,.v _,.v _]) 9 (.step (big hx)<| .step h3<| .step m_find<| .step (decide_eq_false (afr.mpr l0))<| .step oJ<| .step (decide_eq_false (afr.mpr (afl r0)))<|
  .step (Dz hx G h3 l0 l1 r0 r1)<| .step (RQ hx G h3 l0 l1 r0 r1)<| .step hb<| .step (o5 (big hx))<| .step (Dz hx G h3 l0 l1 r0 r1)<| .step (m_split hy kD)<| .step (jn G (dh .lst em))<| .step oI<|
  .step (dN rfl (by simp))<| .step (aF .lst xl em)<| .step (TV G hi)<| .last rfl rfl)) ⟨rfl,rfl⟩
end
theorem vg(G:Wr W p mg mb):Call W (k+1) true (.ref 87) [] [.dI ks (iL l)] hp (.int l.sum) hp:=by
 have e:∀(l:List Int)(a:Int),l.foldl (λa x=>a+x) a=a+l.sum:=by intro l;induction l with
 |nil=>intro a;exact foldl_plus [] a|cons x l ih=>intro a;rw[acd,aly,ih];exact aoc a x l.sum
 have e2:l.foldl (λa x=>a+x) 0=l.sum:=(e l 0).trans (aox _);exact dG (o:= .ret (.int l.sum) hp) (fnAt G rfl (by kernel_rfl)) rfl (λ_=>by kernel_rfl) (az rfl) (bB (q:=[.o _]) 9 (.step (b7 (en:=λa=>[some (.dI ks (iL l)),some (.int a)]) (hq:=λ_=>hp) (emb:=V.int) (xs:=l) (P:=λ_ _=>True) (f:=λa x=>a+x) (s:=(0:Int)) rfl
  (VN zy rfl rfl) trivial trivial λ_ a x _ _ _=>⟨cC (q:=[]) 9 trivial (.last ⟨rfl,rfl⟩ rfl),trivial⟩)<| .last (congrArg (λz=>Out.ret (.int z) hp) e2) rfl)) ⟨rfl,rfl⟩
end
section
open PySem.Builtin.Str PySem.StrLaws
noncomputable def ur(l:List Nat):Str:=⟨l.toArray⟩
noncomputable def toL(x:Str):List Nat:=x.cps.toList
theorem jR(x:Str):ur (toL x)=x:=by induction x using agy;simp[ur,toL]
theorem dR(l:List Nat):toL (ur l)=l:=by simp[ur,toL]
theorem pg(h:toL x=toL y):x=y:=by(refine aa (ach (jR x)) ?_;refine aa (ach (jR y)) ?_;exact aa h rfl)
theorem jY(x y:Str):toL (x++y)=toL x++toL y:=by simp[toL,ag2]
theorem aB(x:Str):x.length=(toL x).length:=by simp[toL,akk]
noncomputable def j8(y:List Nat):Nat->Nat->Nat->List Nat->List Nat
|_,_,_,[]=>[]
|lim,pos,s+1,_::r=>j8 y lim (pos+1) s r
|lim,pos,0,c::r=>if lim≠0/\y.isPrefixOf (c::r)=true then pos::j8 y (lim - 1) (pos+1) (y.length - 1) r else j8 y lim (pos+1) 0 r
noncomputable def uQ(y:List Nat):Nat->Nat->List Nat->List Nat->List (List Nat)
|_,_,ay,[]=>[ay.reverse]
|lim,s+1,ay,_::r=>uQ y lim s ay r
|lim,0,ay,c::r=>if lim≠0/\y.isPrefixOf (c::r)=true then ay.reverse::uQ y (lim - 1) (y.length - 1) [] r else uQ y lim 0 (c::ay) r
theorem Ha:ahx x w a []=[strSub x a x.length]:=rfl
theorem G_:ahx x w a (c::r)=strSub x a c::ahx x w (c+w) r:=rfl
section
theorem ir:j8 y lim pos s []=[]:=rfl
theorem iu:j8 y lim pos (s+1) (c::r)=j8 y lim (pos+1) s r:=rfl
theorem il:j8 y lim pos 0 (c::r)=if lim≠0/\y.isPrefixOf (c::r)=true then pos::j8 y (lim - 1) (pos+1) (y.length - 1) r else j8 y lim (pos+1) 0 r:=rfl
theorem iZ:uQ y lim s ay []=[ay.reverse]:=rfl
theorem i_:uQ y lim (s+1) ay (c::r)=uQ y lim s ay r:=rfl
theorem iY:uQ y lim 0 ay (c::r)=if lim≠0/\y.isPrefixOf (c::r)=true then ay.reverse::uQ y (lim - 1) (y.length - 1) [] r else uQ y lim 0 (c::ay) r:=rfl
end
theorem wA(x y:Str)(i:Nat)(h:i+y.length<=x.length):subAt x y i=(toL y).isPrefixOf ((toL x).drop i):=by
 unfold subAt;have hx:(x.cps.extract i (i+y.length)).toList=((toL x).drop i).take (toL y).length:=by(refine aa ak9 ?_;refine aa (aB y) ?_);simp[toL,aoy]
 rw[agp,beq_iff_eq,aji,List.prefix_iff_eq_take];(rewrite[←aj5];refine aa hx ?_);exact⟨λe=>e.symm,λe=>e.symm⟩
theorem xV{y x:List Nat}(h:y.isPrefixOf x=true):y.length<=x.length:=(aji.mp h).length_le
theorem Oc(x y:Str)(dc:Nat)(hy:toL y≠[]):∀(n i free:Nat)(acc:Array Nat),i+n=x.length+1->acc.size<=dc->i<=x.length+1->
  (forIn (apg i n) (acc,free) (occBody x y x.length dc)).run.fst.toList=acc.toList++j8 (toL y) (dc - acc.size) i (free - i) ((toL x).drop i):=by
 intro ah;induction ah with
|zero=>
  intro i free acc hn ha hi;have:(toL x).drop i=[]:=by rw[ad5,←aB];exact aoz (id (ach hn))
  simp[this,ir,iu,il]
|succ n ih=>
  intro i free acc hn ha hi;(refine aa List.range'_succ ?_;rw[agl]);unfold occBody;have xk:1<=y.length:=by rw[aB];induction h:toL y using abn with|nil=>exact absurd h hy|cons a b=>simp
  by_cases ml:i=x.length
  ·have hd:(toL x).drop i=[]:=by rw[ad5,←aB];exact ab2 (id (ach ml))
   rw[if_neg (by rintro⟨⟨_,h⟩,_⟩;exact absurd h (aeu (aby (aew xk) (ab2 (by rw[ml])))))];have po:(toL x).drop (i+1)=[]:=by rw[ad5,←aB];exact aoz (congrFun (congrArg HAdd.hAdd (id (ach ml))) 1)
   have:=ih (i+1) free acc ((ab9 i n).trans hn) ha (ab2 (congrFun (congrArg HAdd.hAdd ml) 1));rw[po]at this;refine aa hd ?_;dsimp only[ir,iu,il]at this ⊢;exact this
  ·have bq:i<(toL x).length:=by rw[←aB];exact aft (agu (ajj (aew (ad0 n)) hn)) ml
   obtain⟨c,r,i4⟩:∃ c r,(toL x).drop i=c::r:=by induction h:(toL x).drop i using abn with
   |nil=>rw[ad5]at h;exact absurd bq (ae5 h)|cons c r=>exact⟨c,r,rfl⟩
   have hr:(toL x).drop (i+1)=r:=by have:=congrArg ai3 i4;simpa[agj]using this
   refine aa i4 ?_
   by_cases hf:free<=i
   ·have e0:free - i=0:=ags hf;refine aa e0 ?_
    by_cases hm:acc.size<dc/\(toL y).isPrefixOf (c::r)=true
    ·have hl:i+y.length<=x.length:=by have:=xV hm.2;rw[←i4,ae6,←aB,←aB]at this;exact Nat.add_le_of_le_sub' (by rw[aB];exact ac1 bq) this
     rw[if_pos ⟨⟨⟨hm.1,hf⟩,hl⟩,by(refine aa (wA x y i hl) ?_;refine aa i4 ?_);exact hm.2⟩];have:=ih (i+1) (i+y.length) (acc.push i) ((ab9 i n).trans hn) (by simp;exact Nat.succ_le_of_lt hm.1) (aek bq);dsimp only[ir,iu,il];refine aa (if_pos ⟨by exact aie hm.1,hm.2⟩) ?_;refine(?_:(forIn (apg (i+1) n) (acc.push i,i+y.length) (occBody x y x.length dc)).run.fst.toList=_);(refine aa this ?_;refine aa hr ?_;rw[aiu]);have e1:dc - (acc.size+1)=dc - acc.size - 1:=akg _;have e2:i+y.length - (i+1)=(toL y).length - 1:=by rw[←aB];exact Nat.add_sub_add_left i y.length 1
     (refine aa e1 ?_;refine aa e2 ?_);simp
    ·rw[if_neg (by rintro⟨⟨⟨h1,_⟩,h2⟩,h3⟩;exact hm ⟨h1,by rw[wA x y i h2,i4]at h3;exact h3⟩)];have:=ih (i+1) free acc ((ab9 i n).trans hn) ha (aek bq);dsimp only[ir,iu,il];rw[if_neg (by rintro⟨h1,h2⟩;exact hm ⟨Nat.lt_of_sub_ne_zero h1,h2⟩)];have e1:free - (i+1)=0:=ags (adk hf);rw[hr,e1]at this;exact this
   ·obtain⟨m,hm⟩:∃ m,free - i=m+1:=⟨free - i - 1,(Nat.succ_pred_eq_of_pos (ajv (aik hf))).symm⟩;(refine aa hm ?_;rw[if_neg (by rintro⟨⟨⟨_,h⟩,_⟩,_⟩;exact hf h)]);have:=ih (i+1) free acc ((ab9 i n).trans hn) ha (aek bq);have e1:free - (i+1)=m:=by rw[aot,hm];rfl
    rw[hr,e1]at this;dsimp only[ir,iu,il];exact this
theorem xP(x y:Str)(dc:Nat)(hy:toL y≠[]):occurrences x y 0 x.length dc=j8 (toL y) dc 0 0 (toL x):=by rw[occ_eq];have:=Oc x y dc hy (x.length+1) 0 0 #[] (ae7 _) (ac4 _) (ac4 _);simpa using this
theorem Hw(x:Str)(a b:Nat):toL (strSub x a b)=((toL x).drop a).take (b - a):=by simp[toL,strSub,aoy]
theorem Jt(x:Str)(y:List Nat)(xk:y≠[]):∀(r:List Nat)(lim i s a:Nat),(toL x).drop i=r->a<=i+s->(s=0\/a=i+s)->
  (partsFrom x y.length a (j8 y lim i s r)).map toL=uQ y lim s (((toL x).take i).drop a).reverse r:=by
 intro ah;induction ah with
|nil=>intro lim i s a hd ha hs;simp only[ir,iu,il,Ha,G_,ab3,aha,iZ,i_,iY,ald];rw[Hw];have hl:(toL x).length<=i:=ad5.mp hd;refine aa (adm hl) ?_;rw[adm (by(refine aa ae6 ?_;rw[←aB]);exact abm _)]
|cons c r ih=>intro lim i bi;induction bi using acw with
 |zero=>
   intro a hd ha hs;have hr:(toL x).drop (i+1)=r:=by have:=congrArg ai3 hd;simpa[agj]using this
   have hi:i<(toL x).length:=by
    rcases Nat.lt_or_ge i (toL x).length with h|h
    ·exact h
    ·rw[ad5.mpr h]at hd;injection hd
   have hc:(toL x)[i]? =some c:=by have:=congrArg akc hd;simpa[af2]using this
   dsimp only[ir,iu,il,iZ,i_,iY]
   split
   ·rename_i hm;simp only[Ha,G_,ab3,ald];have ar:=xV hm.2;rw[Hw];have e0:((toL x).drop a).take (i - a)=((toL x).take i).drop a:=by(exact aa List.drop_take rfl)
    refine aa e0 ?_;congr 1;have AB:1<=y.length:=by induction y using abn with|nil=>exact absurd rfl xk|cons _ _=>simp
    have AA:i+y.length=i+1+(y.length - 1):=by rw[ain,aiz AB]
    refine aa (ih (lim - 1) (i+1) (y.length - 1) (i+y.length) hr (ab2 AA) (.inr AA)) ?_;have e1:((toL x).take (i+1)).drop (i+y.length)=[]:=by(rewrite[ad5];refine aa aeh ?_);exact abj (af1 _ _) (acs AB i)
    exact aa e1 rfl
   ·refine aa (ih lim (i+1) 0 a hr (adk ha) (.inl rfl)) ?_;have e1:((toL x).take (i+1)).drop a=((toL x).take i).drop a++[c]:=by rw[List.take_add_one,hc,List.drop_append_of_le_length (by exact aa aeh (Nat.le_min.mpr ⟨ha,abj ha (ac1 hi)⟩))];rfl
    (refine aa e1 ?_;refine aa List.reverse_append ?_);rfl
 |succ s=>
   intro a hd ha hs;have hr:(toL x).drop (i+1)=r:=by have:=congrArg ai3 hd;simpa[agj]using this
   dsimp only[ir,iu,il,iZ,i_,iY];refine aa (ih lim (i+1) s a hr (abj ha (ab2 (ab9 i s).symm)) (.inr ((hs.resolve_left (ag4 s)).trans (ab9 i s).symm))) ?_;have e1:((toL x).take (i+1)).drop a=[]:=by(rewrite[ad5];refine aa aeh ?_);exact abj (af1 _ _) (by rw[hs.resolve_left (ag4 s)];exact acs (ad0 s) i)
   have e2:((toL x).take i).drop a=[]:=by(rewrite[ad5];refine aa aeh ?_);exact abj (af1 _ _) (by rw[hs.resolve_left (ag4 s)];exact ab0 _ _)
   (refine aa e1 ?_;exact aa e2 rfl)
theorem oU(y:List Nat):∀(r:List Nat)(lim i s:Nat),j8 y lim i s r=[]->uQ y lim s [] r=[r.drop s]
|[],_,_,s,_=>by simp[iZ,i_,iY]
|c::r,lim,i,s+1,h=>by dsimp only[ir,iu,il]at h;dsimp only[iZ,i_,iY,alv];exact oU y r lim (i+1) s h
|c::r,lim,i,0,h=>by
  have H:∀(r:List Nat)(lim i:Nat)(ay:List Nat),j8 y lim i 0 r=[]->uQ y lim 0 ay r=[ay.reverse++r]:=by intro r;induction r with
  |nil=>intro lim i ay _;simp[iZ,i_,iY]|cons d r ih=>
    intro lim i ay h;dsimp only[ir,iu,il]at h;dsimp only[iZ,i_,iY]
    split at h
    ·injection h
    ·rename_i hn;(refine aa (if_neg hn) ?_;refine aa (ih lim (i+1) (d::ay) h) ?_);simp
  have:=H (c::r) lim i [] h;assumption
noncomputable def lat(l:List Nat):Bool:=l.all λc=>decide (c<256)
theorem z7(h:lat (toL x)=true):ade x=1:=by unfold ade;rw[if_pos];exact aa (ach Array.all_toList) h
theorem GK(x:Str):1<=ade x:=by unfold ade;(split;· exact abm _);split<;>exact(abk rfl)
theorem wj:∀{r:List Nat}{lim i:Nat},r.length<y.length->j8 y lim i 0 r=[]:=by intro ah;induction ah with
|nil=>intro _ _ _;exact rfl
|cons c r ih=>intro lim i h;dsimp only[ir,iu,il];rw[if_neg (by rintro⟨_,q⟩;have:=xV q;exact ahj _ (aby h this))];exact ih (by simp at h;exact ajq h)
theorem nF(x y:Str)(lim:Nat)(hy:toL y≠[]):(partsBetween x (occurrences x y 0 x.length lim) y.length).map toL=uQ (toL y) lim 0 [] (toL x):=by(refine aa (xP x y lim hy) ?_;rewrite[partsBetween_eq];refine aa (aB y) ?_);have:=Jt x (toL y) hy (toL x) lim 0 0 0 rfl (abm _) (.inr rfl);assumption
theorem qG{a b:List Str}(h:a.map toL=b.map toL):a=b:=by have:=congrArg (amq ur) h;simpa[aei,ae3,jR]using this
theorem G4(l:List (List Nat)):(l.map ur).map toL=l:=by simp[aei,ae3,dR]
theorem Bk(x y:Str)(hy:toL y≠[])(hk:lat (toL y)=true):adx x y=(uQ (toL y) (x.length+1) 0 [] (toL x)).map ur:=by
 apply qG;rw[G4];unfold adx;have ij:¬ade x<ade y:=by refine aa (z7 hk) ?_;have:=GK x;exact(λ{a b}=>aem.mpr) this
 have hn:∀ lim,j8 (toL y) lim 0 0 (toL x)=[]->uQ (toL y) lim 0 [] (toL x)=[toL x]:=λlim h=>by have:=oU (toL y) (toL x) lim 0 0 h;assumption
 by_cases hl:x.length<y.length
 ·refine aa (if_pos (by simp[hl])) ?_;exact aa (hn _ (wj (by rw[←aB,←aB];exact hl))) rfl
 ·refine aa (if_neg (by simp[hl,ij])) ?_
  split
  ·rename_i he;rw[xP x y _ hy,ag7]at he;exact aa (hn _ he) rfl
  ·exact nF x y _ hy
theorem Bj(x y:Str)(k:Int)(hy:toL y≠[])(hk:lat (toL y)=true):ah2 x y k=(uQ (toL y) (limitOf x k) 0 [] (toL x)).map ur:=by
 apply qG;rw[G4];unfold ah2;have ij:¬ade x<ade y:=by refine aa (z7 hk) ?_;have:=GK x;exact(λ{a b}=>aem.mpr) this
 have hn:∀ lim,j8 (toL y) lim 0 0 (toL x)=[]->uQ (toL y) lim 0 [] (toL x)=[toL x]:=λlim h=>by have:=oU (toL y) (toL x) lim 0 0 h;assumption
 by_cases hl:x.length<y.length
 ·refine aa (if_pos (by simp[hl])) ?_;exact aa (hn _ (wj (by rw[←aB,←aB];exact hl))) rfl
 ·refine aa (if_neg (by simp[hl,ij])) ?_
  split
  ·rename_i he;rw[xP x y _ hy,ag7]at he;exact aa (hn _ he) rfl
  ·exact nF x y _ hy
noncomputable def iU(y:List Nat):List (List Nat)->List Nat
|[]=>[]
|[a]=>a
|a::b::r=>a++y++iU y (b::r)
theorem rJ:iU y []=[]:=rfl
theorem rH:iU y [a]=a:=rfl
theorem rI:iU y (a::b::r)=a++y++iU y (b::r):=rfl
theorem GJ(y:Str):∀ l:List Str,toL (ak3 y l)=iU (toL y) (l.map toL):=by intro l;refine(?_:toL (glued y l)=_);rw[glued_eq_join];induction l with
|nil=>rfl
|cons a r ih=>induction r using abn with
 |nil=>rfl|cons b r=>refine(?_:toL (a++y++ala y (b::r))=_);(rewrite[jY,jY];refine aa ih ?_);rfl
theorem uz(x y z:Str)(hy:toL y≠[]):toL (ad4 x y z)=iU (toL z) (uQ (toL y) (x.length+1) 0 [] (toL x)):=by
 unfold ad4;have hn:∀ lim,j8 (toL y) lim 0 0 (toL x)=[]->uQ (toL y) lim 0 [] (toL x)=[toL x]:=λlim h=>by have:=oU (toL y) (toL x) lim 0 0 h;assumption
 have Ee:(y.length==0)=false:=by rw[aB];induction h:toL y using abn with|nil=>exact absurd h hy|cons a b=>rfl
 (refine aa Ee ?_;rw[ah4,afm])
 split
 ·rename_i he;rw[xP x y _ hy,ag7]at he;exact aa (hn _ he) rfl
 ·refine(?_:toL (ak3 z _)=_);(rewrite[GJ];exact aa (nF x y _ hy) rfl)
end
section
noncomputable def dD(y:List Nat):Nat->List Nat->List Nat->List (List Nat)
|_,ay,[]=>[ay.reverse]
|s+1,ay,_::r=>dD y s ay r
|0,ay,c::r=>if y.isPrefixOf (c::r)=true then ay.reverse::dD y (y.length - 1) [] r else dD y 0 (c::ay) r
section
theorem iD:dD y s ay []=[ay.reverse]:=rfl
theorem fQ:dD y (s+1) ay (c::r)=dD y s ay r:=rfl
theorem cO:dD y 0 ay (c::r)=if y.isPrefixOf (c::r)=true then ay.reverse::dD y (y.length - 1) [] r else dD y 0 (c::ay) r:=rfl
end
theorem Ht(y:List Nat):∀(x:List Nat)(lim s:Nat)(ay:List Nat),x.length<=lim->uQ y lim s ay x=dD y s ay x:=by intro ah;induction ah with
|nil=>intro _ _ _ _;exact rfl
|cons c r ih=>intro lim bi;induction bi using acw with
 |zero=>
   intro ay h;dsimp only[acv]at h;dsimp only[iZ,i_,iY,iD,fQ,cO];have h0:lim≠0:=amh h
   by_cases hp:y.isPrefixOf (c::r)=true
   ·(refine aa (if_pos ⟨h0,hp⟩) ?_;refine aa (if_pos hp) ?_;exact aa (ih (lim - 1) _ [] (by exact Nat.le_sub_one_of_lt h)) rfl)
   ·(rewrite[if_neg (λq=>hp q.2)];refine aa (if_neg hp) ?_;exact aa (ih lim 0 _ (by exact adz h)) rfl)
 |succ s=>intro ay h;dsimp only[iZ,i_,iY,iD,fQ,cO];exact ih lim s ay (by simp at h;exact adz h)
def oO(r:List Nat):Prop:= ∀ c∈r,c≠13/\c≠10
class inductive Rw:List Nat->Prop
|last {r:List Nat} (h:oO r):Rw r
|row {r w:List Nat} (h:oO r) (x:Rw w):Rw (r++13::10::w)
theorem Rw.cons(h1:c≠13)(h2:c≠10)(x:Rw w):Rw (c::w):=by cases x with
|last h=>exact .last λd hd=>by exact(abx.mp hd).elim (λq=>q▸⟨h1,h2⟩) (h d)
|@row r v h x=>exact aa (ach adu) (.row (λd hd=>by exact(abx.mp hd).elim (λq=>q▸⟨h1,h2⟩) (h d)) x)
theorem Rw.nl(x:Rw w):Rw (13::10::w):= .row (r:=[]) (λ_ h=>by cases h) x
theorem QR:∀(n:Nat)(x:List Nat),x.length<=n->Rw (crlf x):=by intro ah;induction ah with
|zero=>intro x h;have:x=[]:=adp.mp (ah8 h);subst this;exact .last λ_ h=>by cases h
|succ n ih=>intro x h;induction x using abn with
 |nil=>exact .last λ_ h=>by cases h
 |cons c r=>
   dsimp only[acv]at h
   by_cases hb:c=13/\r.head? =some 10
   ·obtain⟨rfl,h2⟩:=hb;induction r using abn with
   |nil=>cases h2|cons d r=>simp at h2;subst h2;rw[fH];exact(ih r (by simp at h;exact adz h)).nl
   ·rw[gn c r λe1 e2=>hb ⟨e1,e2⟩];have ih:=ih r (agu h)
    split
    ·exact ih.nl
    ·rename_i hn;exact ih.cons (λe=>hn (.inl e)) (λe=>hn (.inr e))
noncomputable def mq(x:List Nat):List Nat:=(crlf x).filter λc=>decide (c≠13)
noncomputable def qM(r:List Nat):List Nat:=if r.head? =some 46 then r.tail else r
theorem Lr:∀(r w:List Nat),oO r->dots false (r++13::10::w)=r++13::10::dots true w:=by intro ah;induction ah with
|nil=>intro w _;rfl
|cons c r ih=>
  intro w h;have hc:=h c abq;have ih:=ih w λd hd=>h d (abl _ hd);dsimp only[adu,dots,acp,false_and,if_false];have e:decide (c=10)=false:=by simpa using hc.2
  (refine aa e ?_;exact aa ih rfl)
theorem Io:∀(r:List Nat),oO r->dots false r=r:=by intro ah;induction ah with
|nil=>intro _;exact rfl
|cons c r ih=>
  intro h;have hc:=h c abq;have ih:=ih λd hd=>h d (abl _ hd);dsimp only[dots,acp,false_and,if_false];have e:decide (c=10)=false:=by simpa using hc.2
  (refine aa e ?_;exact aa ih rfl)
noncomputable def qK(r:List Nat):List Nat:=if r.head? =some 46 then 46::r else r
theorem Im(w:List Nat)(h:oO r):dots true (r++13::10::w)=qK r++13::10::dots true w:=by induction r using abn with
|nil=>rfl
|cons c r=>
  have hc:=h c abq;have ih:=Lr r w λd hd=>h d (abl _ hd);have e:decide (c=10)=false:=by simpa using hc.2
  dsimp only[adu,dots,qK,anm,ae1]
  by_cases oC:c=46
  ·subst oC;simp[ih]
  ·simp[oC,ih,hc.2]
theorem Dh(h:oO r):dots true r=qK r:=by induction r using abn with
|nil=>rfl
|cons c r=>
  have hc:=h c abq;have ih:=Io r λd hd=>h d (abl _ hd);have e:decide (c=10)=false:=by simpa using hc.2
  dsimp only[dots,qK,anm,ae1]
  by_cases oC:c=46
  ·subst oC;simp[ih]
  ·simp[oC,ih,hc.2]
theorem uK(r:List Nat):qM (qK r)=r:=by
 unfold qK qM
 by_cases h:r.head? =some 46
 ·simp[h]
 ·simp[h]
theorem uq(h:oO r):oO (qK r):=by
 unfold qK
 split
 ·intro c hc;rcases abx.mp hc with rfl|hc
  ·decide
  ·exact h c hc
 ·exact h
theorem O6:∀(a z ay:List Nat),oO a->dD [13,10] 0 ay (a++13::10::z)=(ay.reverse++a)::dD [13,10] 0 [] z:=by intro ah;induction ah with
|nil=>intro z ay _;simp[iD,fQ,cO,adq]
|cons c a ih=>intro z ay h;have hc:=(h c abq).1;have ih:=ih z (c::ay) λd hd=>h d (abl _ hd);(refine aa adu ?_;rewrite[cO];refine aa (if_neg (by simp[adq,afv hc])) ?_;refine aa ih ?_);simp
theorem JK:∀(a ay:List Nat),oO a->dD [13,10] 0 ay a=[ay.reverse++a]:=by intro ah;induction ah with
|nil=>intro ay _;simp[iD,fQ,cO]
|cons c a ih=>intro ay h;have hc:=(h c abq).1;have ih:=ih (c::ay) λd hd=>h d (abl _ hd);(rewrite[cO];refine aa (if_neg (by simp[adq,afv hc])) ?_;refine aa ih ?_);simp
theorem ye(y:List Nat):∀(x:List Nat)(s:Nat)(ay:List Nat),dD y s ay x≠[]:=by intro ah;induction ah with
|nil=>intro _ _;simp[iD,fQ,cO]
|cons c r ih=>intro bi;induction bi using acw with
 |zero=>
   intro ay;rw[cO];split
   ·simp
   ·exact ih 0 _
 |succ s=>intro ay;rw[fQ];exact ih s ay
theorem nD(y a:List Nat)(h:l≠[]):iU y (a::l)=a++y++iU y l:=by induction l using abn with
|nil=>exact absurd rfl h
|cons b l=>rfl
theorem xq(h:oO r):(r.filter λc=>decide (c≠13))=r:=by rw[ai0];intro c hc;simpa using(h c hc).1
theorem unquote(x:Rw w):iU [10] ((dD [13,10] 0 [] (dots true w)).map qM)=w.filter λc=>decide (c≠13):=by induction x with
|last h=>(refine aa (Dh h) ?_;refine aa (JK _ _ (uq h)) ?_;refine aa (xq h) ?_);simp[rJ,rH,rI,uK]
|@row r w h x ih=>(refine aa (Im w h) ?_;refine aa (O6 _ _ _ (uq h)) ?_;refine aa ab3 ?_;refine aa (nD _ _ (by simp[ye])) ?_;refine aa ih ?_;refine aa aj6 ?_;rewrite[aeg,uK,amb];refine aa (xq h) ?_);simp
theorem QQ(x:List Nat):iU [10] ((dD [13,10] 0 [] (dots true (crlf x))).map qM)=mq x:=unquote (QR x.length x (abm _))
theorem I4:∀(Y:List Nat)(b:Bool)(ay rest:List Nat),uQ [13,10,46,13,10] 1 0 ay (dots b Y++[13,10,46,13,10]++rest)=[ay.reverse++dots b Y,rest]:=by intro ah;induction ah with
|nil=>
  intro b ay rest;have H:∀(r ay:List Nat),uQ [13,10,46,13,10] 0 0 ay r=[ay.reverse++r]:=by intro r;induction r with
  |nil=>intro ay;simp[iZ,i_,iY]|cons c r ih=>intro ay;dsimp only[iZ,i_,iY,ne_eq,not_true,false_and,if_false];rw[ih];simp
  simp[dots,iZ,i_,iY,adq,H]
|cons c r ih=>
  intro b ay rest
  by_cases h:b=true/\c=46
  ·obtain⟨rfl,rfl⟩:=h;have ih:=ih false (46::46::ay) rest;dsimp only[dots,and_self,if_true,adu,iZ,i_,iY,adq]at ih ⊢;simp at ih ⊢;exact ih
  ·have ih:=ih (decide (c=10)) (c::ay) rest;have e:dots b (c::r)=c::dots (decide (c=10)) r:=by dsimp only[dots];(exact aa (if_neg h) rfl)
   refine aa e ?_;have hp:([13,10,46,13,10]:List Nat).isPrefixOf (c::(dots (decide (c=10)) r++[13,10,46,13,10]++rest))=false:=by
    by_cases lI:c=13
    ·subst lI;induction r using abn with
    |nil=>rfl|cons d r=>
      by_cases hd:d=10
      ·subst hd;induction r using abn with
      |nil=>rfl|cons f r=>
        by_cases he:f=46
        ·subst he;rfl
        ·simp[dots,adq,he,afv he]
      ·simp[dots,adq,afv hd]
    ·simp[adq,afv lI]
   dsimp only[adu,iZ,i_,iY];rw[if_neg (by exact aa hp (of_decide_eq_false rfl))];have:(c::ay).reverse++dots (decide (c=10)) r=ay.reverse++c::dots (decide (c=10)) r:=by simp
   (refine aa (ach this) ?_;exact aa (ach ih) rfl)
theorem Xl:∀(A S ay:List Nat),126∉A->10∉S->dD [10,126,10] 0 ay (A++[10,126,10]++S)=[ay.reverse++A,S]:=by intro ah;induction ah with
|nil=>
  intro S ay _ hS;have H:∀(r ay:List Nat),10∉r->dD [10,126,10] 0 ay r=[ay.reverse++r]:=by intro r;induction r with
  |nil=>intro ay _;simp[iD,fQ,cO]|cons c r ih=>intro ay h;simp only[abx,not_or]at h;(rewrite[cO];refine aa (if_neg (by simp[adq,h.1])) ?_;refine aa (ih _ h.2) ?_);simp
  simp[iD,fQ,cO,adq,H S [] hS]
|cons c A ih=>
  intro S ay hA hS;simp only[abx,not_or]at hA;have ih:=ih S (c::ay) hA.2 hS;have hp:([10,126,10]:List Nat).isPrefixOf (c::(A++[10,126,10]++S))=false:=by induction A using abn with
  |nil=>simp[adq]|cons d A=>simp only[abx,not_or]at hA;simp[adq,hA.2.1]
  rw[adu,adu,cO,if_neg (by exact aa hp acb),ih];simp
end
section
open PySem.Builtin.Str PySem.StrLaws
theorem qg{x:Str}{l u:Option Int}{a b:Nat}(e:strSliceIndices l u 1 x.length=sliceRange (a:Int) (b:Int) 1)(hb:b<=x.length)(nE:a<=b):toL (adf x l u)=((toL x).drop a).take (b - a):=by
 have hl:x.length=(toL x).length:=aB x;unfold adf;(refine aa e ?_;rw[sliceRange_one]);simp only[acx,amv]
 split
 ·rename_i h;simp only[beq_self_eq_true,aim,beq_iff_eq]at h;have ha:a=0:=Nat.eq_zero_of_not_pos λp=>ae5 (abj hb (ab2 h.symm)) (Nat.sub_lt (aby p nE) p);have kM:b=x.length:=by(rw[ha]at h;exact h)
  subst ha;(refine aa kM ?_;refine aa ajf ?_;rewrite[akg];refine aa hl ?_;exact aa List.take_length rfl)
 ·refine(?_:toL ⟨_⟩=_);rw[pick_run];simp[toL]
theorem Bh(x:Str):toL (adf x none (some 1))=(toL x).take 1:=by
 by_cases h:x.length=0
 ·have h0:toL x=[]:=adp.mp (by rw[←aB];exact h);have:=qg (x:=x) (l:=none) (u:=some 1) (a:=0) (b:=0) (by exact aa h rfl) (ac4 _) (abm _);(refine aa this ?_;refine aa h0 ?_);rfl
 ·have:=qg (x:=x) (l:=none) (u:=some 1) (a:=0) (b:=1) (by
   have hm:max 0 (min (1:Int) x.length)=1:=by lia
   refine(?_:sliceRange 0 (max 0 (min (if(1:Int)<0 then 1+x.length else 1) x.length)) 1=_);(refine aa (if_neg (by decide)) ?_;refine aa hm ?_);rfl) ((λ{n}=>akl.mpr) h) (ac4 _)
  assumption
theorem Es(x:Str)(h:x.length≠0):toL (adf x (some 1) none)=(toL x).tail:=by
 have:=qg (x:=x) (l:=some 1) (u:=none) (a:=1) (b:=x.length) (by
  have hm:max 0 (min (1:Int) x.length)=1:=by lia
  refine(?_:sliceRange (max 0 (min (if(1:Int)<0 then 1+x.length else 1) x.length)) x.length 1=_);(refine aa (if_neg (by decide)) ?_;refine aa hm ?_);rfl) (abm _) ((λ{n}=>akl.mpr) h)
 (refine aa this ?_;rewrite[aB];refine aa (adm (by simp)) ?_;exact aa List.drop_one rfl)
noncomputable def uJ(r:Str):Str:=if(adf r none (some 1)==Mi ".")then adf r (some 1) none else r
theorem Hy(r:Str):toL (uJ r)=qM (toL r):=by
 have e:(adf r none (some 1)==Mi ".")=decide ((toL r).take 1=[46]):=by
  (rewrite[agp,beq_iff_eq];refine aa decide_eq_true_eq ?_;rw[←Bh]);have hd:toL (Mi ".")=[46]:=by decide +kernel
  constructor
  ·intro q;(refine aa q ?_;exact aa hd rfl)
  ·intro q;exact pg (by(refine aa q ?_;exact aa hd rfl))
 unfold uJ qM;refine aa e ?_
 by_cases h:(toL r).take 1=[46]
 ·have hh:(toL r).head? =some 46:=by induction hr:toL r using abn with
  |nil=>rw[hr]at h;simp at h|cons c t=>rw[hr]at h;simp at h;simp[h]
  have hn:r.length≠0:=by rw[aB];intro q;rw[adp.mp q]at hh;injection hh
  simp only[h,decide_true,if_true,hh];exact Es r hn
 ·have hh:¬(toL r).head? =some 46:=by intro q;induction hr:toL r using abn with
  |nil=>rw[hr]at q;injection q|cons c t=>rw[hr]at q;simp at q;rw[hr]at h;simp[q]at h
  simp only[h,decide_false,hh,if_false,acp]
theorem Lh:∀(n:Nat)(A B:List Nat),A.length<=n->(A.getLast? =some 13->B.head? ≠some 10)->crlf (A++B)=crlf A++crlf B:=by intro ah;induction ah with
|zero=>intro A B h _;have:A=[]:=adp.mp (ah8 h);subst this;rfl
|succ n ih=>intro A B h hj;induction A using abn with
 |nil=>rfl|cons c A=>
   simp only[acv]at h
   by_cases hb:c=13/\A.head? =some 10
   ·obtain⟨rfl,h2⟩:=hb;induction A using abn with
   |nil=>injection h2|cons d A=>
     simp at h2;subst h2;simp only[adu];rewrite[fH,fH,ih A B (by simp at h;exact adz h) (λq=>hj (by induction A using abn with
     |nil=>injection q|cons e A=>assumption))]
     rfl
   ·have pd:c=13->(A++B).head? ≠some 10:=λe q=>by induction A using abn with
    |nil=>exact hj (by simp[e]) (by simpa using q)|cons d A=>exact hb ⟨e,by assumption⟩
    simp only[adu];rewrite[gn c _ pd,gn c _ (λe q=>hb ⟨e,q⟩),ih A B (agu h) (λq=>hj (by induction A using abn with
    |nil=>injection q|cons e A=>assumption))]
    split<;>rfl
theorem Nv(hj:A.getLast? =some 13->B.head? ≠some 10):mq (A++B)=mq A++mq B:=by unfold mq;(refine aa (Lh A.length A B (abm _) hj) ?_;rw[amb])
theorem W5(h:oO S):mq S=S:=by
 have:=tE S [] λc hc=>by have:=h c hc;simp[Rx.isNl,this.1,this.2]
 rw[adv]at this;unfold mq;(refine aa this ?_;refine aa (show crlf []=[]from rfl) ?_;rewrite[adv];exact aa (xq h) rfl)
noncomputable def ends:List (List Nat):=[[10],[13],[13,10]]
theorem Nx(he:e∈ends)(hB:B.head? ≠some 10):mq (e++B)=10::mq B:=by
 have:e=[10]\/e=[13]\/e=[13,10]:=by simpa[ends]using he
 rcases this with rfl|rfl|rfl
 ·refine(?_:mq (10::B)=_);unfold mq;rw[vO];rfl
 ·refine(?_:mq (13::B)=_);unfold mq;exact aa (zr B hB) rfl
 ·refine(?_:mq (13::10::B)=_);unfold mq;rw[fH];rfl
theorem R0(he:e∈ends)(hT:T.getLast? ≠some 13)(hS:oO S):mq (T++e++[126]++e++S)=mq T++[10,126,10]++S:=by
 have Cf:S.head? ≠some 10:=λq=>by induction S using abn with
 |nil=>injection q|cons c S=>simp at q;exact(h_absurd (hS c abq).2 q)
 refine aa (show T++e++[126]++e++S=T++(e++([126]++(e++S))) by simp) ?_;(refine aa (Nv (λq=>absurd q hT)) ?_;refine aa (Nx he (by simp)) ?_;refine aa (Nv (by simp)) ?_;refine aa (Nx he Cf) ?_;refine aa (W5 hS) ?_;refine aa (show mq [126]=[126] by decide) ?_);simp
where h_absurd {p:Prop} {c:Nat} (h:c≠10) (q:c=10):p:=absurd q h
theorem JS:∀(n:Nat)(x ay:List Nat),x.length<=n->(iU [10] (dD [13,10] 0 ay x)).map (λc=>if c=13 then 10 else c)=(ay.reverse.map λc=>if c=13 then 10 else c)++mq x:=by intro ah;induction ah with
|zero=>intro x ay h;have:x=[]:=adp.mp (ah8 h);subst this;simp[iD,fQ,cO,rJ,rH,rI,mq,Dd]
|succ n ih=>intro x ay h;induction x using abn with
 |nil=>simp[iD,fQ,cO,rJ,rH,rI,mq,Dd]|cons c r=>
   simp only[acv]at h
   by_cases hb:c=13/\r.head? =some 10
   ·obtain⟨rfl,h2⟩:=hb;induction r using abn with
   |nil=>injection h2|cons d r=>
     simp at h2;subst h2;have ih:=ih r [] (by simp at h;exact adz h);have e1:dD [13,10] 0 ay (13::10::r)=ay.reverse::dD [13,10] 0 [] r:=by rfl
     (refine aa e1 ?_;refine aa (nD _ _ (ye _ _ _ _)) ?_;refine aa af4 ?_;refine aa af4 ?_;refine aa ih ?_);unfold mq;rw[fH];simp
   ·have e1:dD [13,10] 0 ay (c::r)=dD [13,10] 0 (c::ay) r:=by rw[cO,if_neg];intro q;simp only[adq,ab1,beq_iff_eq]at q;refine hb ⟨q.1.symm,?_⟩;induction r using abn with
    |nil=>simp[adq]at q|cons d r=>simp[adq]at q;simp[q.2.symm]
    (refine aa e1 ?_;refine aa (ih r (c::ay) (agu h)) ?_);unfold mq;rw[gn c r λa b=>hb ⟨a,b⟩]
    by_cases lI:c=13
    ·subst lI;simp
    ·by_cases kK:c=10
     ·subst kK;simp
     ·simp[lI,kK]
theorem Oh:∀(x ay:List Nat),iU [10] (dD [13] 0 ay x)=ay.reverse++x.map (λc=>if c=13 then 10 else c):=by intro ah;induction ah with
|nil=>intro ay;simp[iD,fQ,cO,rJ,rH,rI]
|cons c r ih=>
  intro ay
  by_cases h:c=13
  ·subst h;have e1:dD [13] 0 ay (13::r)=ay.reverse::dD [13] 0 [] r:=by rfl
   (refine aa e1 ?_;refine aa (nD _ _ (ye _ _ _ _)) ?_;refine aa (ih []) ?_);simp
  ·have e1:dD [13] 0 ay (c::r)=dD [13] 0 (c::ay) r:=by simp[iD,fQ,cO,adq,afv h]
   (refine aa e1 ?_;refine aa (ih (c::ay)) ?_);simp[h]
theorem lu:toL (Mi "\r\n")=[13,10]:=by decide +kernel
theorem DW:toL (Mi "\n")=[10]:=by decide +kernel
theorem Ny:toL (Mi "\r")=[13]:=by decide +kernel
theorem rM:toL (Mi "\r\n.\r\n")=[13,10,46,13,10]:=by decide +kernel
theorem jA:toL (Mi "\n~\n")=[10,126,10]:=by decide +kernel
theorem Oz(x:Str):toL (ad4 (ad4 x (Mi "\r\n") (Mi "\n")) (Mi "\r") (Mi "\n"))=mq (toL x)/\(ad4 x (Mi "\r\n") (Mi "\n")).length=(mq (toL x)).length:=by
 have h1:toL (ad4 x (Mi "\r\n") (Mi "\n"))=iU [10] (dD [13,10] 0 [] (toL x)):=by rw[uz _ _ _ (by exact aa lu (afo 13 [10])),lu,DW,Ht _ _ _ _ _ (by rw[←aB];exact ab0 _ _)]
 have h2:=JS (toL x).length (toL x) [] (abm _);simp only[aj6,aha,aeg]at h2;refine⟨?_,?_⟩
 ·rw[uz _ _ _ (by exact aa Ny (afo 13 [])),Ny,DW,Ht _ _ _ _ _ (by rw[←aB];exact ab0 _ _),Oh,h1];simpa using h2
 ·(rewrite[aB];refine aa h1 ?_;refine aa (ach h2) ?_;rw[acx])
theorem o8(y:List Nat):∀(x:List Nat)(s:Nat)(ay:List Nat),(∀ r∈dD y s ay x,r.length<=ay.length+x.length)/\(dD y s ay x).length<=x.length+1
|[],s,ay=>by
  have:dD y s ay []=[ay.reverse]:=by induction s using acw<;>rfl
  refine aa this ?_;simp
|c::x,s+1,ay=>by have ih:=o8 y x s ay;rw[fQ];exact⟨λr hr=>by have:=ih.1 r hr;simp;exact adk this,by simp;exact adk ih.2⟩
|c::x,0,ay=>by
  rw[cO]
  split
  ·have ih:=o8 y x (y.length - 1) [];refine⟨λr hr=> ?_,by simp;exact ih.2⟩;rcases abx.mp hr with rfl|hr
   ·simp
   ·have:=ih.1 r hr;simp at this ⊢;exact abj this (abj (acg _) (abz _ _))
  ·have ih:=o8 y x 0 (c::ay);exact⟨λr hr=>by have:=ih.1 r hr;simp at this ⊢;exact abj this (ab2 (ab9 _ _)),by simp;exact adk ih.2⟩
theorem reading(hq:toL q=dots true (crlf (toL x)))(hl:q.length<=2000)(rest:Str) :
  ah2 (q++Mi "\r\n.\r\n" ++rest) (Mi "\r\n.\r\n") 1=[q,rest]/\(∀ r∈adx q (Mi "\r\n"),r.length<=2000)/\(adx q (Mi "\r\n")).length<=2001/\
  JoinOk (Mi "\n") ((adx q (Mi "\r\n")).map uJ)=true/\ak3 (Mi "\n") ((adx q (Mi "\r\n")).map uJ)=ur (mq (toL x)):=by
 have hs:adx q (Mi "\r\n")=(dD [13,10] 0 [] (toL q)).map ur:=by rw[Bk _ _ (by exact aa lu (afo 13 [10])) (by refine aa lu ?_;decide),lu,Ht _ _ _ _ _ (by rw[←aB];exact ab0 _ _)]
 have ar:=o8 [13,10] (toL q) 0 [];have DS:(toL q).length<=2000:=by rw[←aB];exact hl
 have bt:∀ r∈adx q (Mi "\r\n"),r.length<=2000:=by refine aa hs ?_;intro r hr;(refine ak (ac0.mp hr) λz hz an=> ?_;obtain rfl:=an);have:=ar.1 z hz;rw[aB,dR];simp at this;exact abj this hl
 have hn:(adx q (Mi "\r\n")).length<=2001:=by(refine aa hs ?_;rw[acx]);exact abj ar.2 (ab8 DS _)
 refine⟨?_,bt,hn,?_,?_⟩
 ·rw[Bj _ _ _ (by refine aa rM ?_;simp) (by refine aa rM ?_;decide),rM];have e:limitOf (q++Mi "\r\n.\r\n" ++rest) 1=1:=rfl;(refine aa e ?_;rewrite[jY,jY];refine aa rM ?_;refine aa hq ?_);have h:=I4 (crlf (toL x)) true [] (toL rest);refine aa h ?_;simp only[aj6,aeg,ab3,aha];(refine aa (ach hq) ?_;rw[jR,jR])
 ·unfold JoinOk;rw[joinTotal];have hu:∀ r∈(adx q (Mi "\r\n")).map uJ,r.length<=2000:=by
   intro r hr;(refine ak (ac0.mp hr) λz hz an=> ?_;obtain rfl:=an);have h1:=bt z hz;rw[aB,Hy];rw[aB]at h1;unfold qM;split
   ·simp;exact adk (bt z hz)
   ·exact h1
  have mP:∀(l:List Str),(∀ r∈l,r.length<=2000)->(l.map (·.length)).sum<=2000 * l.length:=by intro l;induction l with
  |nil=>intro _;exact abm _|cons a l ih=>intro h;have h1:=h a abq;have h2:=ih λr hr=>h r (abl _ hr);simp only[ab3,aly,acv];exact abj (adt h1 h2) (ab2 (ah0 _ _))
  have h1:=mP _ hu;have h2:(Mi "\n").length=1:=by decide +kernel
  rw[acx]at h1 ⊢;have:¬tooLong (((amq uJ (adx q (Mi "\r\n"))).map (·.length)).sum+(adx q (Mi "\r\n")).length * (Mi "\n").length)=true:=by have e:=sizeLine_eq;simp only[tooLong,decide_eq_true_eq,aem,h2];lia
  exact(λ{a}=>bi_not.mpr) this
 ·apply pg;(rewrite[GJ];refine aa DW ?_;rewrite[dR];refine aa aei ?_;refine aa hs ?_;refine aa aei ?_);have e:((toL∘uJ)∘ur)=qM:=by
   funext r
   simp only[alz,Hy,dR]
  (refine aa e ?_;refine aa hq ?_;rw[QQ])
theorem CZ(hA:126∉A)(hS:10∉S):adx (ur (A++[10,126,10]++S)) (Mi "\n~\n")=[ur A,ur S]:=by rw[Bk _ _ (by exact aa jA (afo 10 [126,10])) (by refine aa jA ?_;decide),jA,Ht _ _ _ _ _ (by rw[←aB];exact ab0 _ _),dR,Xl A S [] hA hS];rfl
end
section
noncomputable def Ti:Bool->List Nat->List Nat
|_,[]=>[]
|b,c::r=>if c=34 then(if b=true then 34::Ti false r else Ti true r)else if b=true then[]else c::Ti false r
noncomputable def unq(l:List Nat):List Nat:=Ti false l
theorem Tj(r:List Nat):unq (34::34::r)=34::unq r:=rfl
theorem Hx(c:Nat)(r:List Nat)(h:c=34->r.head? ≠some 34):unq (c::r)=if c=34 then[]else c::unq r:=by
 by_cases hc:c=34
 ·rw[if_pos hc];subst hc;induction r using abn with
 |nil=>rfl|cons d r=>exact(if_neg λe=>h rfl (congrArg some e)).trans rfl
 ·rw[if_neg hc];exact(if_neg hc).trans rfl
theorem item_at{x:Str}{j:Nat}(h:j<x.length):ad2 x (j:Int)=⟨#[x.cps.toList.getD j 0]⟩:=by
 have h':j<x.cps.size:=h;have e1:seqIndex? (j:Int) x.length=some j:=by unfold seqIndex?;have h1:¬((j:Int)<0):=ajs j;simp[h1];assumption
 unfold ad2 Txt.charAt;refine aa e1 ?_;simp[aee]
theorem VV{a b:Str}:(a==b)=decide (a=b):=by
 by_cases h:a=b
 ·subst h;rfl
 ·rfl
theorem Ou{x:Str}{j:Nat}(h:j<x.length):(ad2 x (j:Int)==Mi "\"")=decide (x.cps.toList.getD j 0=34):=by(refine aa (item_at h) ?_;refine aa (show Mi "\"" =⟨#[34]⟩from by decide +kernel) ?_;refine aa VV ?_);congr 1;simp
theorem Bm(l:List Nat)(c:Nat):(⟨l.toArray⟩:Str)++⟨#[c]⟩=⟨(l++[c]).toArray⟩:=by apply Str.ext';simp[ag2]
theorem Am(G:Wr W p mg mb){x:Str}{hp:List Ob}{k:Nat}{q:Bool}(hx:x.length<=100000)(hl:5<=x.length)(h3:(adf x none (some 3) !=(Mi "257"))=false)(h5:(adf x (some 3) (some 5) !=(Mi " \""))=false) :
  Call W (k+1) q (.ref 138) [] [.str x] hp (.str ⟨(unq (x.cps.toList.drop 5)).toArray⟩) hp:=by
 have ar:x.cps.toList.length=x.length:=by simp[akk]
 let E:Str->Int->aj:=λs i=>[some (.str x),some (.str s),some (.int i),some (.int x.length)];refine dG (o:= .ret _ _) (fnAt G rfl (by kernel_rfl)) rfl (λ_=>by kernel_rfl) (az rfl) (j6 (q:=[.b _,.b _,.v _]) 5 9 (.step (big hx)<| .step h3<| .step (big hx)<| .step h5<| .step (jn G (wQ (big hx)))<|
  .last (I2 (σ:=Nat×List Nat) (P:=λs=>s.1<=x.length/\s.2.length<=s.1) (s:=(5,[])) (en:=λs=>E ⟨s.2.toArray⟩ s.1) (res:=λs=>[some (.str x),some (.str ⟨(s.2++unq (x.cps.toList.drop s.1)).toArray⟩)]) (μ:=λs=>x.length - s.1)
   ⟨hl,ac4 _⟩ rfl ?_ (bB (q:=[]) 9 (.last rfl rfl))) rfl)) ⟨rfl,rfl⟩
 rintro⟨j,acc⟩ ⟨hj,cq⟩;dsimp only at hj cq
 by_cases bq:j<x.length
 ·have j3:decide ((j:Int)<x.length)=true:=by simp;assumption
  have ic:x.cps.toList.drop j=x.cps.toList.getD j 0::x.cps.toList.drop (j+1):=n6 (by rw[ar];exact bq);have it:∀{j:Nat},j<x.length->Itm W hp (.str x) (.int j) (.str (ad2 x j)):=λh=>oA (by lia) ((λ{n m}=>af5.mpr) h) (big hx);have hH:((⟨acc.toArray⟩:Str)++ad2 x j).length<=16777216:=by rw[str_len,item_at bq];refine(?_:acc.toArray.size+1<=_);simp;exact tl (abj cq (ac1 (aby bq hx))) rfl
  have n9:∀{j:Nat}{c:Nat}{t:Bool},j<x.length->x.cps.toList.getD j 0=c->decide (c=34)=t->(ad2 x j==Mi "\"")=t:=λh1 h2 h3=>by rw[Ou h1,h2,h3]
  by_cases hc:x.cps.toList.getD j 0=34
  ·by_cases hM:j+1<x.length/\x.cps.toList.getD (j+1) 0=34
   ·have me:x.cps.toList.drop (j+1)=x.cps.toList.getD (j+1) 0::x.cps.toList.drop (j+2):=n6 (by rw[ar];exact hM.1);exact w_next (q:=[.v _,.b _,.b _,.v _,.b _,.b _]) (j+2,acc++[34]) 9 ⟨by simp only;exact hM.1,by simp;exact aek cq⟩ (by simp only;exact aiy bq (aew Nat.two_pos)) (by simp only[ic,me,hc,hM.2,Tj];simp)
     (.step ⟨j3,rfl⟩<| .step (it bq)<| .step (n9 bq hc rfl)<| .step (decide_eq_false (λh=>aeu hM.1 ((ac9 (n:=j+1)).mp h)))<| .step (it hM.1)<| .step (congrArg not (n9 hM.1 hM.2 rfl))<| .step rfl<| .step hH<| .last ⟨Gb E (by rw[item_at bq,hc,Bm]) (by simp only;lia),rfl⟩ rfl)
   ·have e:unq (x.cps.toList.drop j)=[]:=by rw[ic,Hx,if_pos hc];intro _ z;rw[af2]at z;obtain⟨h9,kK⟩:=abw.mp z;exact hM ⟨by rw[←ar];exact h9,by simp[aee,abu h9,kK]⟩
    have e2:∀ i:Int,([some (V.str x),some (V.str ⟨acc.toArray⟩)]:aj)=[some (V.str x),some (V.str ⟨(acc++unq (x.cps.toList.drop j)).toArray⟩)]:=λ_=>by rw[e,adv]
    by_cases iq:j+1<x.length
    ·have hq:x.cps.toList.getD (j+1) 0≠34:=λe=>hM ⟨iq,e⟩;exact Uo (q:=[.v _,.b _,.b _,.v _,.b _,.b _]) 9 (.step ⟨j3,rfl⟩<| .step (it bq)<| .step (n9 bq hc rfl)<| .step (decide_eq_false (λh=>aeu iq ((ac9 (n:=j+1)).mp h)))<| .step (it iq)<| .step (congrArg not (n9 iq rfl (decide_eq_false hq)))<| .step rfl<| .last ⟨e2 0,rfl⟩ rfl)
    ·exact Uo (q:=[.v _,.b _,.b _,.b _]) 9 (.step ⟨j3,rfl⟩<| .step (it bq)<| .step (n9 bq hc rfl)<| .step (decide_eq_true ((ac9 (n:=j+1)).mpr (aes iq)))<| .step rfl<| .last ⟨e2 0,rfl⟩ rfl)
  ·exact w_next (q:=[.v _,.b _]) (j+1,acc++[x.cps.toList.getD j 0]) 9 ⟨by simp only;exact bq,by simp;exact cq⟩ (by simp only;exact aiy bq (aej j)) (by simp only[ic,Hx _ _ (λe=>absurd e hc),if_neg hc];simp)
    (.step ⟨j3,rfl⟩<| .step (it bq)<| .step (n9 bq rfl (decide_eq_false hc))<| .step hH<| .last ⟨Gb E (by rw[item_at bq,Bm]) (by simp only;lia),rfl⟩ rfl)
 ·have e:x.cps.toList.drop j=[]:=akh (by rw[ar];exact aes bq);exact V9 (q:=[]) 9 (.last ⟨decide_eq_false (λh=>bq (af5.mp h)),rfl,(by rw[e,show acc++unq []=acc from adv acc];rfl)⟩ rfl)
end
section
theorem M4(G:Wr W p mg mb)(h:∀(fc:FC)(p:Pos),ni fc.nm x .globalImplicit->Gn W fc (.Name x p) (.type T)):GV W x (.ty T):=λfc _ _ p hh=>Wq (h fc p hh)
theorem M3(G:Wr W p mg mb):GV W (Mi "str") (.ty "str"):=M4 G λ_ _=>Dv G
theorem RB(G:Wr W p mg mb):GV W (Mi "list") (.ty "list"):=M4 G λ_ _=>Gu G
theorem xx(G:Wr W p mg mb)(e:(bif x==("__debug__" : Str)then none else nsIn (hd.heap_39 p) mainGlobals x)=some (some (.ref a)))(h:Fo W a C):GV W x (.gl a):=λ_ _ _ _ hh=>Wo (G.top e hh) (h.at_.elim λo z=>⟨o,z.choose_spec.1⟩)
theorem NQ{a:Addr}{C:Array Nat}{hp₁ hp:List Ob}{k:Nat}{q:Bool}{name:Str}{id:String}{xs:List V}{v:V}(h:Fo W a C)(slot:Slot "re.Pattern" name id)(i8:typeOf (.builtin id)=pure (.type "method_descriptor"))(hc:Call W k q (.builtin id) [] (.gl a::xs) hp v hp):Mt W k q hp₁ (.gl a) name [] xs [] hp v hp:=
 .blt (λg s y=>h.hT g hp₁ s y) nH slot i8 hc
section
theorem An(G:Wr W p mg mb)(hx:x.length<=100000)(h3:(adf x none (some 3) !=(Mi "257"))=false)(h5:(adf x (some 3) (some 5) !=(Mi " \""))=true):Call W (k+1) q (.ref 138) [] [.str x] hp (.str (Mi "")) hp:=
 dG (o:= .ret _ _) (fnAt G rfl (by kernel_rfl)) rfl (λ_=>by kernel_rfl) (az rfl) (bB (q:=[.b _,.b _]) 9 (.step (big hx)<| .step h3<| .step (big hx)<| .step h5<| .last rfl rfl)) ⟨rfl,rfl⟩
theorem uv(G:Wr W p mg mb)(hx:x.length<=100000)(h3:(adf x none (some 3) !=(Mi "257"))=true):iJ W (k+1) true (.ref 138) [] [.str x] hp (.ref 110) (some x) hp:=
 H7 (fnAt G rfl (by kernel_rfl)) rfl (λ_=>by kernel_rfl) (az rfl) (jD (q:=[]) (HH G) 9 rfl (.step (big hx)<| .last ⟨h3,rfl,rfl⟩ rfl))
variable{n:Int}
theorem nW(oa:B_ a)(he:(V.tup [.str a,.int n]).eq (.tup [.str (Mi "~"),.int 0])=t):j9 W hp .Eq (.tup [.str a,.int n]) (.tup [.str (Mi "~"),.int 0]) t:=
 he▸wV .same .same ⟨oa,trivial,trivial⟩ ⟨(by kernel_rfl:acy (Mi "~")=true),trivial,trivial⟩
theorem o4:Qk W hp (.tup [.str a,.int n,.str c]) none (some 2) (.tup [.str a,.int n]):=yd (b:=2) (abm _) (abz _ _)
theorem tY(G:Wr W p mg mb)(pl:Xx a n c T)(oa:B_ a)(he:(V.tup [.str a,.int n]).eq (.tup [.str (Mi "~"),.int 0])=false):Call W (k+1) q (.ref 73) [] [.tup [.str a,.int n,.str c]] hp (.str T) hp:=
 dG (o:= .ret _ _) (fnAt G rfl (by kernel_rfl)) rfl (λ_=>by kernel_rfl) (az rfl) (bB (q:=[.v _,.b _,.v _]) 9 (.step o4<| .step (nW oa he)<| .step (HR pl)<| .last rfl rfl)) ⟨rfl,rfl⟩
theorem qU(G:Wr W p mg mb)(hc:c.length<=1000000)(oa:B_ a)(he:(V.tup [.str a,.int n]).eq (.tup [.str (Mi "~"),.int 0])=true)(h2:agz c (Mi "<")=true)(h3:ah1 c (Mi ">")=true)(br:Yl (adf c (some 1) (some (-1))) T) :
  Call W (k+1) q (.ref 73) [] [.tup [.str a,.int n,.str c]] hp (.str T) hp:=
 dG (o:= .ret _ _) (fnAt G rfl (by kernel_rfl)) rfl (λ_=>by kernel_rfl) (az rfl) (bB (q:=[.v _,.b _,.v _,.v _,.b _,.v _,.b _,.v _,.v _]) 9 (.step o4<| .step (nW oa he)<| .step (dN rfl (abk rfl))<| .step m_startswith<| .step h2<| .step m_endswith<| .step h3<|
  .step (o5 (abj hc (by decide)))<| .step (Ca br)<| .last rfl rfl)) ⟨rfl,rfl⟩
theorem vm(G:Wr W p mg mb)(oa:B_ a)(he:(V.tup [.str a,.int n]).eq (.tup [.str (Mi "~"),.int 0])=true)(h2:(agz c (Mi "<")&&(ah1 c (Mi ">")&&true))=false):Call W (k+1) q (.ref 73) [] [.tup [.str a,.int n,.str c]] hp (.str c) hp:=by refine dG (o:= .ret (.str c) hp) (fnAt G rfl (by kernel_rfl)) rfl (λ_=>by kernel_rfl) (az rfl) ?_ ⟨rfl,rfl⟩;induction e:agz c (Mi "<")using aco with
|true=>
  have e2:ah1 c (Mi ">")=false:=by simpa[e]using h2
  exact bB (q:=[.v _,.b _,.v _,.v _,.b _,.v _,.b _]) 9 (.step o4<| .step (nW oa he)<| .step (dN rfl (abk rfl))<| .step m_startswith<| .step e<| .step m_endswith<| .step e2<| .last rfl rfl)
|false=>exact bB (q:=[.v _,.b _,.v _,.v _,.b _]) 9 (.step o4<| .step (nW oa he)<| .step (dN rfl (abk rfl))<| .step m_startswith<| .step e<| .last rfl rfl)
theorem xX(G:Wr W p mg mb)(hx:x.length<=100000)(hy:y.cps.toList=dots true (crlf x.cps.toList)):Call W (k+1) q (.ref 155) [] [.str x] hp (.str y) hp:=by
 have hz:((⟨(crlf x.cps.toList).toArray⟩:Str)).length<=1000000:=by
  have:=jx x.cps.toList;have e:x.cps.toList.length=x.length:=by simp[akk]
  simp only[akk,aci];exact tl (abj this (acu 2 (abj (ab2 e) hx))) rfl
 exact dG (o:= .ret _ _) (fnAt G rfl (by kernel_rfl)) rfl (λ_=>by kernel_rfl) (az rfl) (bB (q:=[.v _,.v _,.v _,.v _,.v _]) 9 (.step (xx G (by kernel_rfl) (xT G))<| .step (xx G (by kernel_rfl) (Ed G))<|
  .step (λ_ _ _ _ hh=>Q8 (x:=Mi "\r\n") (t:=499) (G.top (by kernel_rfl) hh))<| .step (NQ (Ed G) o7 Bx (yZ (Ed G) (V0 (abj hx (abz _ _))) (by kernel_rfl) (y:=⟨(crlf x.cps.toList).toArray⟩) (by rfl)))<|
  .step (NQ (xT G) o7 Bx (yZ (y:=y) (xT G) (S7 hz) (by kernel_rfl) (by assumption)))<| .last rfl rfl)) ⟨rfl,rfl⟩
theorem Ac(P:Fo W a C)(hl:Ka C b)(hv:v.length<=1000000)(hc:v.cps.toList.any b=false):Mt W k q hp₁ (.gl a) (Mi "search") [] [.str v] [] hp .none hp:=by have h:=yW (k:=k) (q:=q) (hp:=hp) P hl (x:=v) (abj hv (abz _ _));rw[hc]at h;exact NQ P qJ Bw h
theorem K4(G:Wr W p mg mb):GC W k q (Mi "type") [.str v] hp (.ty "str") hp:=⟨_,eQ,uZ,λ_ _=>Gv G⟩
theorem Ik(G:Wr W p mg mb)(hv:v.length<=1000000)(hc:v.cps.toList.any Rx.badName=false):Call W (k+1) q (.ref 200) [Mi "name"] [z,.str v,.bool true] hp (.str v) hp:=
 vJ (o:= .ret _ _) (fnAt G rfl (by kernel_rfl)) rfl (λ_ _ _=>by kernel_rfl) (az rfl) (bB (q:=[.v _,.v _,.b _,.v _,.v _]) 9 (.step (K4 G)<| .step (M3 G)<| .step (vM rfl)<| .step (xx G (by kernel_rfl) (Ao G))<| .step (Ac (Ao G) Rx.search_name hv hc)<| .last rfl rfl)) ⟨rfl,rfl⟩
theorem Lg(G:Wr W p mg mb)(hv:v.length<=1000000)(hc:v.cps.toList.any Rx.badVal=false):Call W (k+1) q (.ref 200) [Mi "name"] [z,.str v,.bool false] hp (.str v) hp:=
 vJ (o:= .ret _ _) (fnAt G rfl (by kernel_rfl)) rfl (λ_ _ _=>by kernel_rfl) (az rfl) (bB (q:=[.v _,.v _,.b _,.v _,.v _]) 9 (.step (K4 G)<| .step (M3 G)<| .step (vM rfl)<| .step (xx G (by kernel_rfl) (Hd G))<| .step (Ac (Hd G) Rx.search_val hv hc)<| .last rfl rfl)) ⟨rfl,rfl⟩
end
end
section
noncomputable def bD(rs:List (Str×Str)):List V:=rs.map λr=> .tup [.str r.1,.str r.2]
structure gY(x:Str):Prop where
 len:x.length<=1000000
 nam:x.cps.toList.any Rx.badName=false
 val:x.cps.toList.any Rx.badVal=false
 low:(ada x).length<=1000000
 lnm:(ada x).cps.toList.any Rx.badName=false
 upp:(aed x).length<=1000000
theorem short(h:n<=1000000):aec n=false:=by have:=sizeLine_eq;simp[aec];exact abj h (abz _ _)
theorem Oj{α:Type}(xs:List α):pick xs none none=xs:=by simp[pick]
noncomputable def zT(n:Str)(r:Str×Str):Option V:=if ada r.1==n then some (.str r.2)else none
noncomputable def xr(rs:List (Str×Str))(n:Str):V:=(rs.findSome? (zT n)).getD .none
theorem MK(h:rs.findSome? (zT n)=none):xr rs n= .none:=congrArg (·.getD V.none) h
theorem MN(h:rs.findSome? (zT n)=some u):xr rs n=u:=congrArg (·.getD V.none) h
noncomputable def Dg(rs:List (Str×Str))(n:Str):List (Str×Str):=rs.filter λr=>ada r.1 !=n
theorem t_(rs:List (Str×Str)):(bD rs).length=rs.length:=by simp[bD]
theorem GQ(rs:List (Str×Str))(n:Str):(Dg rs n).length<=rs.length:=afw _ _
theorem DG(hs:s.length<=1000)(hv:v.length<=1000000):JoinOk s [v]=true:=by have:=sizeLine_eq;simp[JoinOk,aec];(rw[this];exact Um hv hs rfl)
theorem v7:∀ rs:List (Str×Str),lows n (bD rs)=true:=by intro ah;induction ah with
|nil=>exact rfl
|cons r rs ih=>have:=ih;simp only[bD,ab3,gw,lows_cons,oF,lw,mz,mC,oG,ue,pU,oH,lz,ahk,aim]at this ⊢;exact this
theorem qd(rs:List (Str×Str))(a b:Str):bD rs++[.tup [.str a,.str b]]=bD (rs++[(a,b)]):=by simp[bD]
theorem iM{α:Type}{xs:List α}{n:Nat}{x:α}(h:xs[n]? =some x):cN xs (n:Int)=some x:=by
 have hl:=(abw.mp h).1;have e:seqIndex? (n:Int) xs.length=some n:=by unfold seqIndex?;have h1:¬((n:Int)<0):=ajs n;simp[h1];assumption
 unfold cN;exact aa e h
structure HA(hp:List Ob)(i j:Nat)(rs:List (Str×Str)):Prop where
 hi:hp[i]? =some (.ns [Mi "_headers"] [.ref j])
 hj:hp[j]? =some (.list (bD rs))
 hl:rs.length<=1000
section
theorem HA.big(A:HA hp i j rs):(bD rs).length<=16777216:=by rw[t_];exact abj A.hl (by decide)
theorem HA.ne(A:HA hp i j rs):j≠i:=λe=>by have h:=A.hi;rw[←e,A.hj]at h;cases h
theorem HA.set(A:HA hp i j rs)(h:us.length<=1000):HA (hp.set j (.list (bD us))) i j us:=⟨tZ A.ne A.hi,get_set A.hj,h⟩
theorem su(G:Wr W p mg mb)(A:HA hp i j rs)(h:mY x fc.nm env=some (.iref 301 i)):Src W fc env hp (.Attribute (.Name x np) (Mi "_headers") pos) hp (λh=>h[j]? =some (.list (bD rs))) false (bD rs):=
 O8 (Ge (λm=>by with_unfolding_all rfl) G.X (rm h) A.hi rfl (by kernel_rfl)) (zY A.hj)
theorem lC(G:Wr W p mg mb)(hm:fX (hd.heap_39 p) C name f=true)(hf:iT (hd.heap_39 p) f=some r)(hg:zQ (hd.heap_39 p) r.1=true)(hi:hp₁[i]? =some (.ns ks ws))(hn:name∉ks)
  (hc:Call W k q (.ref f) kn ((.iref C i::xs)++us) YQ v Y5):Mt W k q hp₁ (.iref C i) name kn xs us YQ v Y5:= .own G.X hm (lr G hf hg) hi hn hc
theorem lA(G:Wr W p mg mb)(hi:hp₁[i]? =some (.ns [Mi "_headers"] [w]))(hv:v.length<=1000000)(hc:v.cps.toList.any Rx.badName=false):Mt W (k+1) q hp₁ (.iref 301 i) (Mi "_convert_string_type") [Mi "name"] [.str v] [.bool true] hp (.str v) hp:=
 lC G (by kernel_rfl) rfl (by kernel_rfl) hi (by decide +kernel) (Ik G hv hc)
theorem ug(G:Wr W p mg mb)(hi:hp₁[i]? =some (.ns [Mi "_headers"] [w]))(hv:v.length<=1000000)(hc:v.cps.toList.any Rx.badVal=false):Mt W (k+1) q hp₁ (.iref 301 i) (Mi "_convert_string_type") [Mi "name"] [.str v] [.bool false] hp (.str v) hp:=
 lC G (by kernel_rfl) rfl (by kernel_rfl) hi (by decide +kernel) (Lg G hv hc)
theorem Ab(h:(ada n).length<=1000000):Mt W k q hp₁ (.str n) (Mi "lower") [] [] [] hp (.str (ada n)) hp:=m_lower (short h)
theorem M7(G:Wr W p mg mb)(A:HA hp i j rs):Call W (k+1) true (.ref 253) [] [.iref 301 i] hp (.lst (sL (rs.map (·.1)))) hp:=
 dG (o:= .ret _ _) (fnAt G rfl (by kernel_rfl)) rfl (λ_=>by kernel_rfl) (az rfl) (bB (q:=[.v _]) 9 (.step (fG (emb:=λr:Str×Str=>V.tup [.str r.1,.str r.2]) (g:=λr:Str×Str=>V.str r.1) (by kernel_rfl) rfl (su G A rfl) A.hj (abj A.hl (by decide)) aei λr _=>jy (q:=[]) 9 (.last ⟨rfl,rfl,rfl,rfl⟩ rfl))<| .last rfl rfl)) ⟨rfl,rfl⟩
theorem Dw(G:Wr W p mg mb)(A:HA hp i j rs):Call W (k+2) true (.ref 258) [] [.iref 301 i] hp (.lst (sL (rs.map (·.2)))) hp:=
 dG (o:= .ret _ _) (fnAt G rfl (by kernel_rfl)) rfl (λ_=>by kernel_rfl) (az rfl) (bB (q:=[.v _]) 9 (.step (fG (emb:=λr:Str×Str=>V.tup [.str r.1,.str r.2]) (g:=λr:Str×Str=>V.str r.2) (by kernel_rfl) rfl (su G A rfl) A.hj (abj A.hl (by decide)) aei λr _=>jy (q:=[]) 9 (.last ⟨rfl,rfl,rfl,rfl⟩ rfl))<| .last rfl rfl)) ⟨rfl,rfl⟩
theorem vY(G:Wr W p mg mb)(A:HA hp i j rs):Call W (k+2) true (.ref 265) [] [.iref 301 i] hp (.lst (bD rs)) hp:=
 dG (o:= .ret _ _) (fnAt G rfl (by kernel_rfl)) rfl (λ_=>by kernel_rfl) (az rfl) (bB (q:=[.v _,.l _]) 9 (.step (yD G A.hi)<| .step (.ref A.hj)<| .step A.big<| .last (congrArg (λx=>Out.ret (.lst x) hp) (Oj (bD rs))) rfl)) ⟨rfl,rfl⟩
theorem RD(G:Wr W p mg mb)(A:HA hp i j rs)(hn:gY n)(hr:∀ r∈rs,gY r.1):Call W (k+2) true (.ref 248) [] [.iref 301 i,.str n] hp (xr rs (ada n)) hp:=by
 refine H5 (o:= .ret _ _) (fnAt G rfl (by kernel_rfl)) rfl (λs y z hB=>alw rfl (hB _ _ (G.X 241 _ rfl)) rfl rfl rfl) (az rfl) (j6 (q:=[.v _,.v _]) 1 9 (.step (Ab hn.low)<| .step (lA G A.hi hn.low hn.lnm)<|
  .last (Mz (emb:=λr:Str×Str=>V.tup [.str r.1,.str r.2]) (vs:=rs) (f:=zT (ada n)) rfl (su G A rfl) A.hj (λr hm hf=> ?_) (λr hm u hf=> ?_) (λhe=> ?_) λu he=>by rw[MN he]) rfl)) ⟨rfl,rfl⟩
 ·simp only[zT]at hf
  split at hf
  ·cases hf
  next h1=>exact cC (q:=[.v _,.b _]) 9 A.hj (.step (Ab (hr _ hm).low)<| .step (Bool.eq_false_iff.mpr h1)<| .last ⟨rfl,rfl⟩ rfl)
 ·simp only[zT]at hf
  split at hf
  next h1=>exact E_ (q:=[.v _,.b _]) 9 (.step (Ab (hr _ hm).low)<| .step h1<| .last (congrArg (λx=>Out.ret x hp) (acn hf)) rfl)
  ·cases hf
 ·rw[MK he];exact bB (q:=[]) 9 (.last rfl rfl)
theorem Ud(G:Wr W p mg mb)(A:HA hp i j rs)(hn:gY n)(hr:∀ r∈rs,gY r.1)(e:xr rs (ada n)=w):Mt W (k+2) true hp (.iref 301 i) (Mi "get") [] [.str n] [] hp w hp:=lC G (by kernel_rfl) rfl (by kernel_rfl) A.hi (by decide +kernel) (e▸RD G A hn hr)
theorem RC(G:Wr W p mg mb)(A:HA hp i j rs)(hn:gY n)(hr:∀ r∈rs,gY r.1):Call W (k+2) true (.ref 219) [] [.iref 301 i,.str n] hp .none (hp.set j (.list (bD (Dg rs (ada n))))):=
 dH (o:= .next _ _) (fnAt G rfl (by kernel_rfl)) rfl (λ_ _=>by kernel_rfl) (az rfl) (bB (q:=[.v _,.v _,.o _]) 9 (.step (Ab hn.low)<| .step (lA G A.hi hn.low hn.lnm)<|
  .step (Rf rfl (λ_ _=>rfl) rfl (Cm.ev (dj (emb:=λr:Str×Str=>V.tup [.str r.1,.str r.2]) (g:=λr:Str×Str=>V.tup [.str r.1,.str r.2]) (p:=λr=>ada r.1 !=ada n) (us:=bD (Dg rs (ada n))) (by kernel_rfl) rfl (su G A rfl) A.hj (abj A.hl (by decide)) rfl λr hm=>dU (q:=[.v _,.v _]) 9 (.step (dN rfl (abk rfl))<| .step (Ab (hr _ hm).low)<| .last ⟨rfl,rfl,rfl,rfl,rfl,rfl⟩ rfl)))
   (HQ (iz (q:=[.v _]) 9 (.step (yD G A.hi)<| .last ⟨rfl,rfl⟩ rfl)) A.hj .lst (by have:=GQ rs (ada n);have:=A.hl;rw[t_,t_];lia)))<| .last rfl rfl)) ⟨rfl,rfl⟩
theorem RG(G:Wr W p mg mb)(A:HA hp i j rs)(hn:gY n)(hr:∀ r∈rs,gY r.1)(hv:v.length<=1000000)(hc:v.cps.toList.any Rx.badVal=false):Call W (k+3) true (.ref 214) [] [.iref 301 i,.str n,.str v] hp .none (hp.set j (.list (bD (Dg rs (ada n)++[(n,v)])))):=by
 have B:=A.set (abj (GQ rs (ada n)) A.hl);exact jq (o:= .next _ _) (fnAt G rfl (by kernel_rfl)) rfl (λ_ _ _=>by kernel_rfl) (az rfl) (bB (q:=[.o _,.v _,.v _,.v _,.r _ _]) 9 (.step (Ri (f:=219) (K:=hd.heap_39 p) G.X (by kernel_rfl) (by kernel_rfl) (iz (q:=[]) 9 (.last ⟨rfl,rfl⟩ rfl)) (iz (q:=[]) 9 (.last ⟨rfl,rfl⟩ rfl)) A.hi (RC G A hn hr))<|
  .step (yD G B.hi)<| .step (lA G B.hi hn.len hn.nam)<| .step (ug G B.hi hv hc)<| .step (dJ B.hj B.hj B.big)<| .last (Gb (λx h=>Out.next x h) rfl (by rw[←qd,List.set_set])) rfl)) ⟨rfl,rfl⟩
end
end
section
noncomputable def QG(l r:List Int)(p:Int×Int):Option Int:=if(cN l p.1).getD 0<(cN r p.1).getD 0 then some (-p.2)else if(cN l p.1).getD 0>(cN r p.1).getD 0 then some p.2 else none
noncomputable def gk(l r:List Int)(ps:List (Int×Int)):Int:=(ps.findSome? (QG l r)).getD 0
noncomputable def JG(ps:List (Int×Int)):List V:=ps.map λp=> .tup [.int p.1,.int p.2]
theorem lR{i x:Int}(h:cN l i=some x):cN (iL l) i=some (.int x):=by unfold cN iL at *;rw[acx];induction e:seqIndex? i l.length using abt with
|none=>rw[e]at h;cases h
|some j=>rw[e]at h;simp only[aj7,ady]at h ⊢;exact aa h rfl
theorem C_(G:Wr W p mg mb)(hi:hp[i]? =some (.ns [Mi "comp_select_list"] [.lst (JG ps)]))(hl:l.length<=1000)(hr:r.length<=1000)
  (aT:∀ q∈ps,(cN l q.1).isSome=true/\(cN r q.1).isSome=true) :
  Call W (k+1) true (.ref 59) [] [.iref 62 i,.tup (iL l),.tup (iL r)] hp (.int (gk l r ps)) hp:=by
 have vt:(iL l).length<=16777216:=by simp[iL];exact abj hl (abz _ _)
 have ej:(iL r).length<=16777216:=by simp[iL];exact abj hr (abz _ _)
 refine jq (o:= .ret (.int (gk l r ps)) hp) (fnAt G rfl (by kernel_rfl)) rfl (λ_ _ _=>by kernel_rfl) (az rfl) ?_ ⟨rfl,rfl⟩;refine Mz (emb:=λp:Int×Int=>V.tup [.int p.1,.int p.2]) (vs:=ps) (ok:=λ_=>True) (f:=λp=>(QG l r p).map V.int) rfl (bj (q:=[.v _]) 9 (.step (Wf G hi) (.last ⟨gr,rfl⟩ rfl))) trivial ?_ ?_ ?_ ?_
 ·rintro⟨a,d⟩ hm hf;refine cps λ_ c_=> ?_;obtain⟨h1,h2⟩:=aT _ hm;obtain⟨x,hx⟩:=acz.mp h1;obtain⟨y,hy⟩:=acz.mp h2;refine c_ ?_;simp only at hx hy;simp only[QG,hx,hy,aet]at hf
  split at hf
  ·simp at hf
  split at hf
  ·simp at hf
  next n1 n2=>exact cC (q:=[.v _,.v _,.b _,.b _]) 9 trivial (.step (dN (lR hx) vt) (.step (dN (lR hy) ej) (.step (decide_eq_false n1) (.step (decide_eq_false n2) (.last ⟨rfl,rfl⟩ rfl)))))
 ·rintro⟨a,d⟩ hm u hf;obtain⟨h1,h2⟩:=aT _ hm;obtain⟨x,hx⟩:=acz.mp h1;obtain⟨y,hy⟩:=acz.mp h2;simp only at hx hy;simp only[QG,hx,hy,aet]at hf
  split at hf
  next n1=>simp only[akn,ae1]at hf;exact E_ (q:=[.v _,.v _,.b _]) 9 (.step (dN (lR hx) vt) (.step (dN (lR hy) ej) (.step (decide_eq_true n1) (.last (hf▸rfl) rfl))))
  split at hf
  next n1 n2=>simp only[akn,ae1]at hf;exact E_ (q:=[.v _,.v _,.b _,.b _]) 9 (.step (dN (lR hx) vt) (.step (dN (lR hy) ej) (.step (decide_eq_false n1) (.step (decide_eq_true n2) (.last (hf▸rfl) rfl)))))
  ·simp at hf
 ·intro he;have e0:gk l r ps=0:=congrArg (·.getD 0) (aki.mp (zL.symm.trans he));rw[e0];exact bB (q:=[]) 9 (.last rfl rfl)
 ·intro u he;refine ak (adl.mp (zL.symm.trans he)) λz h1 h2=> ?_;have e0:gk l r ps=z:=congrArg (·.getD 0) h1;rw[e0,←h2]
end
section
section
theorem xG(G:Wr W p mg mb)(A:HA hp i j rs)(hn:gY n)(hr:∀ r∈rs,gY r.1)(hg:xr rs (ada n)= .str w):Call W (k+3) true (.ref 291) [] [.iref 301 i,.str n,u] hp (.str w) hp:=
 jq (o:= .ret _ _) (fnAt G rfl (by kernel_rfl)) rfl (λ_ _ _=>by kernel_rfl) (az rfl) (bB (q:=[.v _,.b _]) 9 (.step (Ud G A hn hr hg)<| .step (zq nofun)<| .last rfl rfl)) ⟨rfl,rfl⟩
theorem xF(G:Wr W p mg mb)(A:HA hp i j rs)(hn:gY n)(hr:∀ r∈rs,gY r.1)(hv:v.length<=1000000)(hc:v.cps.toList.any Rx.badVal=false)(hg:xr rs (ada n)= .none):Call W (k+3) true (.ref 291) [] [.iref 301 i,.str n,.str v] hp (.str v) (hp.set j (.list (bD (rs++[(n,v)])))):=
 jq (o:= .ret _ _) (fnAt G rfl (by kernel_rfl)) rfl (λ_ _ _=>by kernel_rfl) (az rfl) (bB (q:=[.v _,.b _,.v _,.v _,.v _,.r _ _]) 9 (.step (Ud G A hn hr hg)<| .step zm<|
  .step (yD G A.hi)<| .step (lA G A.hi hn.len hn.nam)<| .step (ug G A.hi hv hc)<| .step (dJ A.hj A.hj A.big)<| .last (by rw[←qd];rfl) rfl)) ⟨rfl,rfl⟩
theorem M6(G:Wr W p mg mb)(hi:hp[i]? =some (.ns [] [])):CallD W (k+1) true (.ref 193) [] [.iref 301 i] hp .none ((hp++[Ob.list []]).set i (.ns [Mi "_headers"] [.ref hp.length])):=by
 have hj:((hp++[Ob.list []]).set i (.ns [Mi "_headers"] [.ref hp.length]))[hp.length]? =some (.list []):=by have:i<hp.length:=(abw.mp hi).1;exact tZ (aeb this) cz
 exact Cw (o:= .next _ _) (fnAt G rfl (by kernel_rfl)) rfl (λs y hB=>alw rfl (hB _ _ (G.X 186 _ rfl)) rfl rfl rfl) (az rfl) (bB (q:=[.b _,.b _,.i,.v _,.v _,.b _,.h _,.o _]) 9 (.step tu<| .step rfl<| .step ⟨_,eQ,uY (.ref cz),λ_ _=>Gv G⟩<| .step (RB G)<| .step (wX rfl)<|
  .step (Xp.mk G.X (by kernel_rfl) (dm hi))<| .step (pK rfl (d7 rfl) rfl (bj (q:=[]) 9 (.last ⟨zY hj,rfl⟩ rfl)) hj .nil)<| .last rfl rfl)) ⟨rfl,rfl⟩
theorem M8(G:Wr W p mg mb):Call W (k+2) true (.ref 301) [] [] hp (.iref 301 hp.length) (hp++[.ns [Mi "_headers"] [.ref (hp.length+1)],Ob.list []]):=by
 have h:=vK (k:=k+1) (q:=true) (C:=301) (fI:=193) (kw:=[]) (args:=[]) (hp:=hp) G.X (by kernel_rfl) (by kernel_rfl) (by kernel_rfl) (M6 G cz);have e:((hp++[Ob.ns [] []])++[Ob.list []]).set hp.length (.ns [Mi "_headers"] [.ref (hp++[Ob.ns [] []]).length])=hp++[.ns [Mi "_headers"] [.ref (hp.length+1)],Ob.list []]:=by simp[aea]
 rw[e]at h;exact h
theorem S_(G:Wr W p mg mb)(hi:hp[i]? =some (.ns [] [])):CallD W (k+1) true (.ref 52) [] [.iref 62 i,w] hp .none (hp.set i (.ns [Mi "comp_select_list"] [w])):=
 s6 (xs:=[Mi "self",Mi "comp_select_list"]) (args':=[.iref 62 i,w]) (o:= .next _ _) (fnAt G rfl (by kernel_rfl)) (λg s ys ai _ rv hk=>by
  obtain rfl:ai=[]:=by simpa using hk
  refine au (Eo rv) λy1 y2 e r1 r2=> ?_;obtain rfl:ys=[y1,y2]:=ac8 e;exact⟨[y1,y2],aJ r1 (aP r2),aez (by kernel_rfl)⟩) (az rfl) (bB (q:=[.h _]) 9 (.step (Xp.mk G.X (by kernel_rfl) hi)<| .last rfl rfl)) ⟨rfl,rfl⟩
theorem Tc(G:Wr W p mg mb):Call W (k+2) true (.ref 62) [] [w] hp (.iref 62 hp.length) (hp++[.ns [Mi "comp_select_list"] [w]]):=by
 have h:=vK (k:=k+1) (q:=true) (C:=62) (fI:=52) (kw:=[]) (args:=[w]) (hp:=hp) G.X (by kernel_rfl) (by kernel_rfl) (by kernel_rfl) (S_ G cz);have e:(hp++[Ob.ns [] []]).set hp.length (.ns [Mi "comp_select_list"] [w])=hp++[.ns [Mi "comp_select_list"] [w]]:=by simp[aea]
 rw[e]at h;exact h
theorem M5(G:Wr W p mg mb)(A:HA hp i j rs)(hn:gY n)(hv:v.length<=1000000)(hc:v.cps.toList.any Rx.badVal=false):Call W (k+3) true (.ref 298) [] [.iref 301 i,.str n,.str v] hp .none (hp.set j (.list (bD (rs++[(n,v)])))++[Ob.list [.str v]]):=by
 have C6:j<hp.length:=(abw.mp A.hj).1;have hm:(hp++[Ob.list [.str v]])[hp.length]? =some (.list [.str v]):=cz;have e:(hp++[Ob.list [.str v]]).set j (.list (bD rs++[.tup [.str n,.str v]]))=hp.set j (.list (bD (rs++[(n,v)])))++[Ob.list [.str v]]:=by rw[qd,List.set_append_left _ _ C6]
 have e2:(hp++[Ob.list []]).set hp.length (.list ([]++[.str v]))=hp++[Ob.list [.str v]]:=by simp[aea]
 have ap:Mt W (k+2) true (hp++[Ob.list []]) (.ref hp.length) (Mi "append") [] [.str v] [] (hp++[Ob.list []]) .none (hp++[Ob.list [.str v]]):=e2▸dJ cz cz (ac4 _);exact H6 (o:= .next _ _) (fnAt G rfl (by kernel_rfl)) rfl rfl (λ_ _ _=>by kernel_rfl) (az rfl) (bB (q:=[.i,.b _,.v _,.r _ _,.o _,.v _,.v _,.v _,.r _ _]) 9 (.step (tB nofun)<| .step (ug G (dm A.hi) hv hc)<| .step ap<|
  .step (pK rfl (d7 rfl) rfl (uD (K:=Str) (knd:=strKind W.prog W.w) (ks:=[]) (vs:=[]) (us:=[]) Yt Wn rfl rfl rfl) trivial .nil)<| .step (yD G (dm A.hi))<| .step (lA G (dm A.hi) hn.len hn.nam)<|
  .step (NP (.ref hm) (.cons .nil) (DG (by decide +kernel) hv))<| .step (dJ (dm A.hj) (dm A.hj) A.big)<| .last (congrArg _ e) rfl)) ⟨rfl,rfl⟩
theorem Gw(G:Wr W p mg mb)(A:HA hp i j rs)(hn:gY n)(hv:v.length<=1000000)(hc:v.cps.toList.any Rx.badVal=false)(hb:hp.all (Ob.low hp.length)=true):Call W (k+3) true (.ref 298) [] [.iref 301 i,.str n,.str v] hp .none (hp.set j (.list (bD (rs++[(n,v)])))):=
 (M5 G A hn hv hc).drop (by simp) rfl (by
  rw[ab7]at hb ⊢;intro x hx;rw[List.length_set];rcases ahf hx with q|rfl
  ·exact hb x q
  ·exact v7 _)
theorem Jj(G:Wr W p mg mb)(A:HA hp i j rs)(hr:∀ r∈rs,gY r.1){pl:Nat}(cw:rs[pl]? =some (n,v))(hn:(aed n).length<=1000000)(hu:gY (aed n))(hv:v.length<=1000000)(hc:v.cps.toList.any Rx.badVal=false) :
  Call W (k+4) true (.ref 339) [] [.iref 301 i,.int pl] hp .none (hp.set j (.list (bD (Dg rs (ada (aed n))++[(aed n,v)])))):=
 dH (o:= .next _ _) (fnAt G rfl (by kernel_rfl)) rfl (λ_ _=>by kernel_rfl) (az rfl) (bB (q:=[.v _,.v (.tup [.str n,.str v]),.v _,.h _]) 9 (.step (lC G (by kernel_rfl) rfl (by kernel_rfl) A.hi (by decide +kernel) (vY G A))<| .step (aF .lst (iM (by rw[bD,ady,cw];rfl)) A.big)<|
  .step (m_upper (short hn))<| .step (St.own G.X (by kernel_rfl) (by kernel_rfl) A.hi (RG G A hu hr hv hc))<| .last rfl rfl)) ⟨rfl,rfl⟩
end
end
section
noncomputable def kj(d:List (Int×Int))(q:Int×Int):List (Int×Int):=dX d q.1 ((gG d q.1).elim q.2 λo=>o+q.2)
noncomputable def uU(d:List (Int×(Int×Int)))(q:Int×(Int×Int)):List (Int×(Int×Int)):=dX d q.1 ((gG d q.1).elim q.2 λo=>(q.2.1+o.1,q.2.2+o.2))
noncomputable def iI{α:Type}(d:List (Int×α))(q:Int×α):List (Int×α):=dX d q.1 q.2
noncomputable def fC(q:Int×Int):V:= .tup (iL [q.1,q.2])
theorem sU(d:List (Int×Int))(q:Int×Int):(kj d q).length<=d.length+1:=iy ..
theorem yE(d:List (Int×(Int×Int)))(q:Int×(Int×Int)):(uU d q).length<=d.length+1:=iy ..
theorem tW{α:Type}{f:List (Int×α)->Int×α->List (Int×α)}(h:∀ d q,(f d q).length<=d.length+1):∀(xs d:List (Int×α)),(xs.foldl f d).length<=d.length+xs.length:=by intro ah;induction ah with
|nil=>intro d;exact abm _
|cons x xs ih=>intro d;have h1:=h d x;have h2:=ih (f d x);simp only[acd,acv];exact abj h2 (abj (ab8 h1 _) (ab2 (ab9 _ _)))
section
variable{α:Type}{f:α->V}{c:List (Int×α)}{a:Int}{x:α}
theorem wy(hc:c.length<=10000):Us W (hp++[.dI (dK c) (dV f c)]) (.ref hp.length) (.int a) (f x) (hp++[.dI (dK (dX c a x)) (dV f (dX c a x))]):=by have h:=VM (W:=W) (n:=a) (v:=f x) (cz (hp:=hp) (o:= .dI (dK c) (dV f c))) (by simp[dK];exact abj hc (abz _ _));rw[Om,aea _ _ (abm _),ao0]at h;exact h
theorem RJ(h:(gG c a).isSome=t):j9 W (hp++[.dI (dK c) (dV f c)]) .In (.int a) (.ref hp.length) t:=(W6 c a).trans h▸Ii (.ref cz)
theorem Ub(h:gG c a=some x):Itm W (hp++[.dI (dK c) (dV f c)]) (.ref hp.length) (.int a) (f x):=Vt (.ref cz) (by rw[Tp,h];rfl)
end
theorem Bg{α:Type}{d:List (Int×α)}(hd:d.length<=1000):(d.foldl iI []).length<=1000:=by have:=tW (f:=iI) (λd q=>iy d q.1 q.2) d [];simp only[agn]at this;exact abj this (acs hd _)
theorem yQ(G:Wr W p mg mb)(h:Call W k q (.builtin "isinstance") [] [v,.ty "tuple"] hp (.bool t) hp):GC W k q (Mi "isinstance") [v,.ty "tuple"] hp (.bool t) hp:=⟨_,ik,h,λ_ _=>vo G⟩
theorem zV(G:Wr W p mg mb):GV W (Mi "tuple") (.ty "tuple"):=M4 G λ_ _=>zU G
section
theorem Ib(G:Wr W p mg mb)(hd:d.length<=1000)(he:e.length<=1000) :
  Call W (k+1) true (.ref 80) [] [.dI (dK d) (dV V.int d),.dI (dK e) (dV V.int e)] hp (.ref hp.length) (hp++[.dI (dK (e.foldl kj (d.foldl iI []))) (dV V.int (e.foldl kj (d.foldl iI [])))]):=by
 let en:aj:=[some (.dI (dK d) (dV V.int d)),some (.dI (dK e) (dV V.int e)),some (.ref hp.length)];let hq:List (Int×Int)->List Ob:=λc=>hp++[Ob.dI (dK c) (dV V.int c)];refine dH (o:= .ret _ _) (fnAt G rfl (by kernel_rfl)) rfl (λ_ _=>by kernel_rfl) (az rfl) (bB (q:=[.r _ _,.o _,.o _]) 9 (.step vV<|
  .step (b7 (emb:=λp:Int×Int=>V.tup [.int p.1,V.int p.2]) (P:=λi c=>c.length<=i) (f:=iI) (s:=[]) (en:=λ_=>en) (hq:=hq) rfl (uD (K:=Int) (knd:=intKind W.prog W.w) Wb zy rfl rfl (l_ V.int d).symm) trivial (ac4 _) λi c b hi hc _=>⟨cC (q:=[.h _]) 9 trivial (.step (.it (wy (x:=b.2) (tl (abj hc (ac1 (aby hi hd))) rfl)))<| .last ⟨rfl,rfl⟩ rfl),abj (iy _ _ _) (adc hc)⟩)<|
  .step (b7 (emb:=λp:Int×Int=>V.tup [.int p.1,V.int p.2]) (P:=λi c=>c.length<=1000+i) (f:=kj) (s:=d.foldl iI []) (en:=λ_=>en) (hq:=hq) rfl (uD (K:=Int) (knd:=intKind W.prog W.w) Wb zy rfl rfl (l_ V.int e).symm) trivial (Bg hd) λi c b hi hc _=>⟨?_,by have:=sU c b;exact abj this (ab8 hc _)⟩)<|
  .last rfl rfl)) ⟨rfl,rfl⟩
 induction hg:gG c b.1 using abt with
|none=>
  have e1:kj c b=dX c b.1 b.2:=by rw[kj,hg];rfl
  rw[e1];exact cC (q:=[.b _,.h _]) 9 trivial (.step (RJ (congrArg _ hg))<| .step (.it (wy (x:=b.2) (tl (abj hc (acs (ac1 (aby hi he)) 1000)) rfl)))<| .last ⟨rfl,rfl⟩ rfl)
|some o=>
  have e1:kj c b=dX c b.1 (o+b.2):=by rw[kj,hg];rfl
  rw[e1];exact cC (q:=[.b _,.v _,.v _,.v _,.h _]) 9 trivial (.step (RJ (congrArg _ hg))<| .step (zV G)<| .step (yQ G qP)<| .step (Ub hg)<| .step (wy (x:=o+b.2) (tl (abj hc (acs (ac1 (aby hi he)) 1000)) rfl))<| .last ⟨rfl,rfl⟩ rfl)
theorem wY(G:Wr W p mg mb):yw W 79 75:=⟨⟨_,_,_,_,_,_,_,_,_,G.X 79 _ rfl,rfl,rfl,rfl,rfl,rfl,rfl,rfl⟩,by decide⟩
theorem Ie(G:Wr W p mg mb){d e:List (Int×(Int×Int))}(hd:d.length<=1000)(he:e.length<=1000){t:Nat}{ps:Array Value}{bm:Addr}{ob:Obj}(B:BMod W.B mainGlobals mg bm ob)(hT:hp[t]? =some (.tab 75 ps)) :
  Call W (k+1) true (.ref 80) [] [.dI (dK d) (dV fC d),.dI (dK e) (dV fC e)] hp (.ref hp.length) (hp++[.dI (dK (e.foldl uU (d.foldl iI []))) (dV fC (e.foldl uU (d.foldl iI [])))]):=by
 let en:aj:=[some (.dI (dK d) (dV fC d)),some (.dI (dK e) (dV fC e)),some (.ref hp.length)];let hq:List (Int×(Int×Int))->List Ob:=λc=>hp++[Ob.dI (dK c) (dV fC c)];refine dH (o:= .ret _ _) (fnAt G rfl (by kernel_rfl)) rfl (λ_ _=>by kernel_rfl) (az rfl) (bB (q:=[.r _ _,.o _,.o _]) 9 (.step vV<|
  .step (b7 (emb:=λp:Int×(Int×Int)=>V.tup [.int p.1,fC p.2]) (P:=λi c=>c.length<=i) (f:=iI) (s:=[]) (en:=λ_=>en) (hq:=hq) rfl (uD (K:=Int) (knd:=intKind W.prog W.w) Wb zy rfl rfl (l_ fC d).symm) trivial (ac4 _) λi c b hi hc _=>⟨cC (q:=[.h _]) 9 trivial (.step (.it (wy (x:=b.2) (tl (abj hc (ac1 (aby hi hd))) rfl)))<| .last ⟨rfl,rfl⟩ rfl),abj (iy _ _ _) (adc hc)⟩)<|
  .step (b7 (emb:=λp:Int×(Int×Int)=>V.tup [.int p.1,fC p.2]) (P:=λi c=>c.length<=1000+i) (f:=uU) (s:=d.foldl iI []) (en:=λ_=>en) (hq:=hq) rfl (uD (K:=Int) (knd:=intKind W.prog W.w) Wb zy rfl rfl (l_ fC e).symm) trivial (Bg hd) λi c b hi hc _=>⟨?_,by have:=yE c b;exact abj this (ab8 hc _)⟩)<|
  .last rfl rfl)) ⟨rfl,rfl⟩
 induction hg:gG c b.1 using abt with
|none=>
  have e1:uU c b=dX c b.1 b.2:=by rw[uU,hg];rfl
  rw[e1];exact cC (q:=[.b _,.h _]) 9 trivial (.step (RJ (congrArg _ hg))<| .step (.it (wy (x:=b.2) (tl (abj hc (acs (ac1 (aby hi he)) 1000)) rfl)))<| .last ⟨rfl,rfl⟩ rfl)
|some o=>
  have e1:uU c b=dX c b.1 (b.2.1+o.1,b.2.2+o.2):=by rw[uU,hg];rfl
  rw[e1];exact cC (q:=[.b _,.v _,.v _,.v _,.h _]) 9 trivial (.step (RJ (congrArg _ hg))<| .step (zV G)<| .step (yQ G qQ)<|
   .step (IK (as:=[b.2.1,b.2.2]) (bs:=[o.1,o.2]) (cd:=79) (P:=75) (ps:=ps) (t:=t) rfl rfl rfl (wY G) B G.lim (zU G (aL rfl)) (Vo G (aL rfl))
    (kY rfl (iz (q:=[]) 9 (.last ⟨rfl,rfl⟩ rfl)) (kY rfl (iz (q:=[.v _]) 9 (.step (Ub hg)<| .last ⟨rfl,rfl⟩ rfl)) rn)) (dm hT) rfl (abk rfl) rfl rfl rfl (by decide) (by decide) (by decide) (by decide +kernel) (by decide +kernel) rfl (λm x=>rfl))<|
   .step (.it (wy (f:=fC) (x:=(b.2.1+o.1,b.2.2+o.2)) (tl (abj hc (acs (ac1 (aby hi he)) 1000)) rfl)))<| .last ⟨rfl,rfl⟩ rfl)
end
end
section
noncomputable def rowOf(c:Int):List Int:=[c.fdiv 3,c.fmod 3,-(c.fdiv 3),-(c.fmod 3)]
noncomputable def closeStep(ps:List (Int×Int))(s:Int×Int)(c:Int):Int×Int:=
 (if gk (rowOf c) (rowOf s.1) ps= -1 then c else s.1,if gk (rowOf c) (rowOf s.2) ps=1 then c else s.2)
noncomputable def nU(ps:List (Int×Int))(s:Int×Int)(c:Int):Bool:=
 (gk (rowOf c) (rowOf s.1) ps== -1||gk (rowOf c) (rowOf s.1) ps==1)&&(gk (rowOf c) (rowOf s.2) ps== -1||gk (rowOf c) (rowOf s.2) ps==1)&&gk (rowOf c) (rowOf c) ps==0
theorem FJ{c q:Int}(h:q∈[(-1:Int),0,1,2,3]):(cN (rowOf c) q).isSome=true:=by have h4:(rowOf c).length=4:=rfl;simp only[abx,adh,or_false]at h;rcases h with rfl|rfl|rfl|rfl|rfl<;>rfl
theorem Ju{α:Type}(x:α)(xs:List α):pick (x::xs) (some 1) none=xs:=by have e:clipAt (xs.length+1) 1=1:=s7 (n:=1) (abz _ _);simp[pick,e]
theorem Jk(G:Wr W p mg mb){c:Int}(hi:hp[i]? =some (.ns [Mi "comp_select_list"] [.lst (JG ps)]))(hm:hp[m]? =some (.list ws))(hw:ws.length<=1000)
  (eR:∀ q∈ps,q.1∈[(-1:Int),0,1,2,3]) (hl:cs.length<=100) (h9:∀ x∈c::cs,0<=x/\x<=1000) (aT:along (nU ps) (closeStep ps) (c,c) cs=true) :
  Call W (k+2) true (.ref 332) [] [.lst (iL (c::cs)),.iref 62 i,.ref m] hp
   (.bool (decide (3 * (((cs.foldl (closeStep ps) (c,c)).2.fdiv 3) - ((cs.foldl (closeStep ps) (c,c)).1.fdiv 3))+(cs.foldl (closeStep ps) (c,c)).2.fmod 3 - (cs.foldl (closeStep ps) (c,c)).1.fmod 3=(cs.length:Int)))) hp:=by
 let R:Int->V:=λy=> .tup (iL (rowOf y));let S:Int->Str:=λz=>Mi (toString z);have AG:∀ x∈c::cs,(3:Int)≠0/\True/\x.natAbs<2 ^ 60:=λx hx=>⟨by decide,trivial,by have:=h9 x hx;exact Jo this.1 (acr this.2 (by decide))⟩;have cc:((c::cs).map R).length<=16777216:=by simp;exact abj hl (abz _ _)
 have D5:ws.length<=16777216:=abj hw (by decide);have e9:∀ a b:Int,(a==b)=decide (a=b):=λa b=>by by_cases q:a=b<;>exact Bool.beq_eq_decide_eq a b
 have xt:∀ z:Int,(z= -1\/z=1)->isIn (.str (S z)) [.str (Mi "-1"),.str (Mi "1")]=true:=by rintro z (rfl|rfl)<;>decide +kernel
 have sA:∀ z:Int,(z= -1\/z=1)->(S z==Mi "-1")=decide (z= -1):=by rintro z (rfl|rfl)<;>decide +kernel
 have sB:∀ z:Int,(z= -1\/z=1)->(S z==Mi "1")=decide (z=1):=by rintro z (rfl|rfl)<;>decide +kernel
 have EI:∀ z:Int,(z= -1\/z=1)->acy (S z)=true:=by rintro z (rfl|rfl)<;>decide +kernel
 have s0:(S 0==Mi "0")=true:=by decide +kernel
 have ya:∀ z:Int,(z= -1\/z=1)->j9 W hp .In (.str (S z)) (.tup [.str (Mi "-1"),.str (Mi "1")]) true:=λz hz=>xt z hz▸CP (EI z hz) ⟨(by decide +kernel:acy (Mi "-1")=true),(by decide +kernel:acy (Mi "1")=true),trivial⟩;have CE:∀(l r:Int),∀ q∈ps,(cN (rowOf l) q.1).isSome=true/\(cN (rowOf r) q.1).isSome=true:=λl r q hq=>⟨FJ (eR q hq),FJ (eR q hq)⟩;let en:Int×Int->aj:=λs=>[some (.lst (iL (c::cs))),some (.iref 62 i),some (.ref m),some (.lst ((c::cs).map R)),some (R s.1),some (R s.2)];refine jq (o:= .ret _ _) (fnAt G rfl (by kernel_rfl)) rfl (λ_ _ _=>by kernel_rfl) (az rfl) (bB (q:=[.v _,.v (R c),.o _,.r _ _]) 9 (.step (fG (emb:=V.int) (g:=R) (xs:=c::cs) (by kernel_rfl) rfl (bj (q:=[]) 9 (.last ⟨gr,rfl⟩ rfl)) trivial (by simp;exact abj hl (abz _ _)) rfl λx hx=>jy (q:=[]) 9
   (.step ⟨by decide,(AG x hx).2.2,by decide⟩<| .step (by decide:(3:Int)≠0)<| .step ⟨by decide,(AG x hx).2.2,by decide⟩<| .step (by decide:(3:Int)≠0)<| .last ⟨rfl,rfl,rfl,rfl⟩ rfl))<|
  .step (aF .lst (iM (n:=0) rfl) (by simp;exact abj hl (abz _ _)))<|
  .step (I9 (emb:=R) (P:=λi s=>s=(cs.take i).foldl (closeStep ps) (c,c)) (f:=closeStep ps) (xs:=cs) (s:=(c,c)) (en:=en) (hq:=λ_=>hp) rfl (bj (q:=[]) 9 (.step cc<| .last ⟨xJ (Ju (R c) (cs.map R)),rfl⟩ rfl)) trivial rfl λi' s x hs hx=>⟨?_,by rw[JR hx,←hs]⟩)<|
  .step (am6 (by decide +kernel))<| .step (jn G (dh .lst (by simp[iL];exact abj hl (abz _ _))))<| .last (congrArg (λt=>Out.ret (.bool t) hp) ((e9 _ _).trans (by simp[iL]))) rfl)) ⟨rfl,rfl⟩
 have dr:=Km aT hx;rw[←hs]at dr;simp only[nU,ab1,aef,beq_iff_eq]at dr;obtain⟨⟨o1,o2⟩,o3⟩:=dr;let D:Int->Int:=λy=>gk (rowOf x) (rowOf y) ps;have s3:(S (D x)==Mi "0")=true:=by refine(?_:(S (gk (rowOf x) (rowOf x) ps)==_)=_);rw[o3];exact s0
 have bd:∀ y∈[s.1,s.2,x],(D y).natAbs<2 ^ 60:=by
  intro y hy;have:D y= -1\/D y=1\/D y=0:=by
   simp only[abx,adh,or_false]at hy;rcases hy with rfl|rfl|rfl
   ·exact o1.imp id .inl
   ·exact o2.imp id .inl
   ·exact .inr (.inr o3)
  rcases this with e|e|e<;>rw[e]<;>decide
 exact cC (q:=[.v _,.b _,.b _,.b _,.b _,.b _,.r _ _,.i,.i]) 9 trivial (.step (fG (emb:=R) (g:=λy=> .str (S (D y))) (xs:=[s.1,s.2,x]) (by kernel_rfl) rfl (bj (q:=[]) 9 (.last ⟨GF,rfl⟩ rfl)) trivial (abz _ _) rfl λy hy=>jy (q:=[.v _,.v _]) 9
   (.step (lC G (by kernel_rfl) rfl (by kernel_rfl) hi (by decide +kernel) (C_ G hi (abz _ _) (abz _ _) (CE x y)))<| .step (jo G (bd y hy))<| .last ⟨rfl,rfl,rfl,rfl⟩ rfl))<|
  .step (ya _ o1)<| .step rfl<| .step (ya _ o2)<| .step rfl<| .step s3<| .step (uh hm D5)<| .step ⟨rfl,rfl⟩<| .step ⟨rfl,rfl⟩<|
  .last ⟨Gb (λa b:V=>([some (.lst (iL (c::cs))),some (.iref 62 i),some (.ref m),some (.lst ((c::cs).map R)),some a,some b]:aj)) (by refine(?_:(if S (D s.1)==Mi "-1" then R x else R s.1)=_);rw[sA _ o1];simp only[closeStep,decide_eq_true_eq];split<;>rfl) (by refine(?_:(if S (D s.2)==Mi "1" then R x else R s.2)=_);rw[sB _ o2];simp only[closeStep,decide_eq_true_eq];split<;>rfl),rfl⟩ rfl)
end
section
noncomputable def bN(c:Int):Str:=Mi (toString c)
noncomputable def keyOf(n c:Int):Str:=ad2 (Mi "rR") (c.fmod 2)++bN (c.fmod n)
noncomputable def rowsOf(n:Int)(t:List Int):List (Str×Str):=t.map λc=>(keyOf n c,bN c)
noncomputable def aO(n:Int)(t:List Int)(c:Int):List Int:=if t.any (λd=>d.fmod n==c.fmod n)then t else t++[c]
noncomputable def jH(n:Int)(t:List Int)(c:Int):Int:=(t.find? (λd=>d.fmod n==c.fmod n)).getD c
noncomputable def dz(n:Int)(cs:List Int)(c:Int):Int:=(cs.filter λd=>d.fmod n==c.fmod n).headD c
noncomputable def six:List Int:=[1,2,3,4,5,6]
noncomputable def vW(x:Str):Bool:=decide (x.length<=1000000)&& !x.cps.toList.any Rx.badName&& !x.cps.toList.any Rx.badVal&&decide ((ada x).length<=1000000)&& !(ada x).cps.toList.any Rx.badName&&decide ((aed x).length<=1000000)
theorem rC(h:vW x=true):gY x:=by simp only[vW,ab1,decide_eq_true_eq,ac7]at h;obtain⟨⟨⟨⟨⟨a,b⟩,c⟩,d⟩,e⟩,f⟩:=h;exact⟨a,b,c,d,e,f⟩
theorem Jf:(six.all λn=>six.all λc=>vW (keyOf n c)&&decide ((keyOf n c).length<=10)&&acy (keyOf n c)&&six.all λd=>(ada (keyOf n d)==ada (keyOf n c))==(d.fmod n==c.fmod n))=true:=by decide +kernel
theorem str_facts:(six.all λc=>decide ((bN c).length<=10)&& !(bN c).cps.toList.any Rx.badVal&&acy (bN c)&&(six.all λd=>(bN d==bN c)==(d==c))&&six.all λn=>decide ((bN (c.fmod n)).length<=10))=true:=by decide +kernel
theorem yc{c:Int}(h:c∈six):1<=c/\c<=6:=(by decide:∀ n∈six,1<=n/\n<=6) c h
theorem Er{c:Int}(a:1<=c)(b:c<=6):c=1\/c=2\/c=3\/c=4\/c=5\/c=6:=pP (n:=7) (P:=λx=>1<=x->x=1\/x=2\/x=3\/x=4\/x=5\/x=6) (acr (by decide) a) (agc b) (by decide) a
structure Xw(n c:Int):Prop where
 fine:gY (keyOf n c)
 len:(keyOf n c).length<=10
 ok:acy (keyOf n c)=true
 eq:∀ d,d∈six->(ada (keyOf n d)==ada (keyOf n c))=(d.fmod n==c.fmod n)
 sl:(bN c).length<=10
 sv:(bN c).cps.toList.any Rx.badVal=false
 sok:acy (bN c)=true
 seq:∀ d,d∈six->(bN d=bN c↔d=c)
 sn:(bN (c.fmod n)).length<=10
theorem pR{n c:Int}(hn:n∈six)(hc:c∈six):Xw n c:=by have a:=ab7.mp (ab7.mp Jf n hn) c hc;have b:=ab7.mp str_facts c hc;simp only[ab1,decide_eq_true_eq,ab7,ac7,beq_iff_eq]at a b;obtain⟨⟨⟨a1,a2⟩,a3⟩,a4⟩:=a;obtain⟨⟨⟨⟨b1,b2⟩,b3⟩,b4⟩,b5⟩:=b;refine⟨rC a1,a2,a3,a4,b1,b2,b3,λd hd=> ?_,b5 n hn⟩;have:=b4 d hd;(rewrite[←beq_iff_eq (a:=bN d)];refine aa this ?_;rw[beq_iff_eq])
theorem Ja{n c:Int}(hn:n∈six)(hc:c∈six):∀{t:List Int},(∀ d∈t,d∈six)->xr (rowsOf n t) (ada (keyOf n c))=(t.find? (λd=>d.fmod n==c.fmod n)).elim .none λd=> .str (bN d):=by intro ah;induction ah with
|nil=>intro _;exact rfl
|cons d t ih=>intro h;have ih:=ih λx hx=>h x (abl _ hx);have e:=(pR hn hc).eq d (h d abq);induction q:d.fmod n==c.fmod n using aco with
 |true=>rw[xr,show rowsOf n (d::t)=(keyOf n d,bN d)::rowsOf n t from rfl,afh,show zT (ada (keyOf n c)) (keyOf n d,bN d)=some (.str (bN d))from if_pos (e.trans q),List.find?_cons_of_pos (p:=λd:Int=>d.fmod n==c.fmod n) q];rfl|false=>rw[xr,show rowsOf n (d::t)=(keyOf n d,bN d)::rowsOf n t from rfl,afh,show zT (ada (keyOf n c)) (keyOf n d,bN d)=none from if_neg (by rw[e.trans q];nofun),List.find?_cons_of_neg (p:=λd:Int=>d.fmod n==c.fmod n) (by rw[q];nofun)];exact ih
theorem PP{n c:Int}(h:∀ d∈t,d∈six)(hc:c∈six):∀ d∈aO n t c,d∈six:=by
 intro d hd;unfold aO at hd
 split at hd
 ·exact h d hd
 ·rcases ad9.mp hd with q|q
  ·exact h d q
  ·exact aa (ace.mp q) hc
theorem V5{n c:Int}:(aO n t c).length<=t.length+1:=by unfold aO;split<;>simp
theorem QV(G:Wr W p mg mb){n c:Int}(hn:n∈six)(hc:c∈six)(ht:∀ d∈t,d∈six)(A:HA hp i j (rowsOf n t)):Call W (k+3) true (.ref 291) [] [.iref 301 i,.str (keyOf n c),.str (bN c)] hp (.str (bN (jH n t c))) (hp.set j (.list (bD (rowsOf n (aO n t c))))):=by have F:=pR hn hc;have hr:∀ r∈rowsOf n t,gY r.1:=λr hr=>(ac0.mp hr).elim λd z=>z.2▸(pR hn (ht d z.1)).fine;have hg:=Ja hn hc ht;induction e:t.find? (λd=>d.fmod n==c.fmod n)using abt with
|some d=>
  rw[e]at hg;have ea:t.any (λd=>d.fmod n==c.fmod n)=true:=ag9.mpr ⟨d,ajn e,by simpa using ano e⟩;have e3:hp.set j (.list (bD (rowsOf n t)))=hp:=by obtain⟨h1,h2⟩:=abw.mp A.hj;rw[←h2,aif]
  rw[jH,aO,e,if_pos ea,e3];exact xG G A F.fine hr hg
|none=>
  rw[e]at hg;have ea:t.any (λd=>d.fmod n==c.fmod n)=false:=aga.mpr λd hd=>by simpa using amc.mp e d hd
  have e3:rowsOf n (t++[c])=rowsOf n t++[(keyOf n c,bN c)]:=by simp[rowsOf]
  rw[jH,aO,e,if_neg (by rw[ea];nofun),e3];exact xF G A F.fine hr (by have:=F.sl;exact abj this (abz _ _)) F.sv hg
theorem p6(h:acy x=true):(V.str x).pl n=true:=by induction n using acw<;>simpa[jT,gK,jU,jh]using h
theorem Pb{n:Int}(hn:n∈six):∀{a b:List Int},(∀ x∈a,x∈six)->(∀ x∈b,x∈six)->(a.map (λc=>V.str (bN c))=b.map (λc=>V.str (bN c))↔a=b):=by intro ah;induction ah with
|nil=>intro bi;induction bi using abn with
 |nil=>intro _ _;simp|cons _ _=>intro _ _;simp
|cons x a ih=>intro nt;induction nt using abn with
 |nil=>intro _ _;simp|cons y b=>intro ha hb;simp only[ab3,ago,V.str.injEq];rw[ih (λz hz=>ha z (abl _ hz)) (λz hz=>hb z (abl _ hz)),(pR hn (hb y abq)).seq x (ha x abq)]
theorem Hl{n:Int}(hn:n∈six)(ht:∀ d∈t,d∈six):(V.lst (bD (rowsOf n t))).pl 6=true:=by simp only[jT,gK,jU,jh,bD,rowsOf,aei];refine gM λd hd=> ?_;have F:=pR hn (ht d hd);simp only[alz,jT,gK,jU,jh,rW,oY,F.ok,F.sok,ahk]
theorem TQ(G:Wr W p mg mb):GC W (k+2) true (Mi "Headers") [] hp (.iref 301 hp.length) (hp++[.ns [Mi "_headers"] [.ref (hp.length+1)],Ob.list []]):=⟨_,GP G.X (λq=>by kernel_rfl),M8 G,λ_ _=>G.top (by kernel_rfl)⟩
theorem rR(c:Int):c.fmod 2=0\/c.fmod 2=1:=by have h1:=acf c (b:=2) (by decide);have h2:=ack c (b:=2) (by decide);exact aho c
theorem Ov(c:Int):(ad2 (Mi "rR") (c.fmod 2)).length<=10:=by rcases rR c with e|e<;>rw[e]<;>decide +kernel
theorem Ua(c:Int):Itm W h (.str (Mi "rR")) (.int (c.fmod 2)) (.str (ad2 (Mi "rR") (c.fmod 2))):=by rcases rR c with e|e<;>rw[e]<;>exact oA (by decide +kernel) (by decide +kernel) (by decide +kernel)
theorem du:∀ c∈six,c.natAbs<2 ^ 60:=by decide
theorem wg{n c:Int}(hn:n∈six):(c.fmod n).natAbs<2 ^ 60:=by have h:=(by decide:∀ n∈six,0<n/\n<=(2:Int) ^ 40) n hn;exact Jo (acf c h.1) (acr (afl (ack c h.1)) h.2)
theorem lW{N:Int}(h6:∀ c∈cs,c∈six){c:Int}(hc:c∈cs):dz N cs c∈six:=by unfold dz;induction e:cs.filter (λd=>d.fmod N==c.fmod N)using abn with
|nil=>exact h6 c hc
|cons x r=>exact h6 x (afe.mp (e▸abq:x∈cs.filter _)).1
theorem U3{N:Int}{cs:List Int}{c:Int}(hc:c∈cs):((cs.filter λd=>d.fmod N==c.fmod N).map V.int)[0]? =some (.int (dz N cs c)):=by have hm:c∈cs.filter (λd=>d.fmod N==c.fmod N):=afe.mpr ⟨hc,by exact beq_int_true rfl⟩;unfold dz;induction e:cs.filter (λd=>d.fmod N==c.fmod N)using abn with
|nil=>rw[e]at hm;cases hm
|cons x r=>rfl
theorem Vp{N:Int}(hn:N∈six){cs:List Int}(h6:∀ c∈cs,c∈six){hp:List Ob}{c:Int}(hc:c∈six):j9 W hp .In (.str (bN c)) (.lst (cs.map λc=>V.str (bN (dz N cs c)))) ((cs.map (dz N cs)).contains c):=by
 have F:=pR hn hc;have e:isIn (.str (bN c)) (cs.map λc=>V.str (bN (dz N cs c)))=(cs.map (dz N cs)).contains c:=by
  rw[agp,RP (n:=0) (m:=0) (p6 F.sok) (gM λx hx=>p6 (pR hn (lW h6 hx)).sok),agt];simp only[ac0,V.str.injEq];constructor
  ·rintro⟨x,hx,e⟩;exact⟨x,hx,(F.seq _ (lW h6 hx)).mp e⟩
  ·rintro⟨x,hx,e⟩;exact⟨x,hx,(F.seq _ (lW h6 hx)).mpr e⟩
 exact e▸zj (u:= .none) .same (V.pl_fit (p6 F.sok)) (rU (gM λx hx=>p6 (pR hn (lW h6 hx)).sok))
theorem rQ{N:Int}(hn:N∈six){l:List Int}(h:∀ c∈l,c∈six):(V.lst (l.map λc=> .str (bN c))).pl 6=true:=gM λx hx=>p6 (pR hn (h x hx)).sok
set_option maxHeartbeats 4000000 in
theorem DQ(G:Wr W p mg mb){N:Int}(hN:(cs.length:Int)=N)(h6:∀ c∈cs,c∈six)(hn:N∈six)(hm:hp[m]? =some (.list ws))(hw:ws.length<=1000)
  (aT:cs.foldl (aO N) []=cs.filter (λc=>(cs.map (dz N cs)).contains c)) (gN:iC (aO N) (jH N) [] cs=cs.map (dz N cs)) (hb:hp.all (Ob.low hp.length)=true) :
  Call W (k+4) true (.ref 322) [] [.lst (iL cs),.ref m] hp (.bool (iC (aO N) (jH N) [] cs==cs)) hp:=by
 let ST:Int->V:=λc=> .str (bN c);let H:List Int->List Ob:=λt=>hp++[.ns [Mi "_headers"] [.ref (hp.length+1)],.list (bD (rowsOf N t))];have i7:1<=N/\N<=6:=(by decide:∀ n∈six,1<=n/\n<=6) N hn;have cc:cs.length<=16777216:=tl ((ac9 (n:=6)).mp (acr (ah9 hN) i7.2)) rfl;have ku:N≠0:=ao1 (aer (by decide) i7.1);have hA:∀{t:List Int},t.length<=100->HA (H t) hp.length (hp.length+1) (rowsOf N t):=λh=>⟨by simp[H],by simp[H],by simp[rowsOf];exact abj h (abz _ _)⟩;have s1:∀ t u,(H t).set (hp.length+1) (.list (bD (rowsOf N u)))=H u:=λt u=>by simp[H,aea]
 have hT:∀ d∈cs.foldl (aO N) [],d∈six:=I7 (P:=λt=> ∀ d∈t,d∈six) (by simp) λs b hs hb=>PP hs (h6 b hb);have o0:(cs.foldl (aO N) []).length<=100:=by rw[aT];have:=afw (λc=>(cs.map (dz N cs)).contains c) cs;exact tl (abj this ((ac9 (n:=6)).mp (acr (ah9 hN) i7.2))) rfl
 have kq:∀ x∈cs.map (dz N cs),x∈six:=λx hx=>(ac0.mp hx).elim λc z=>z.2▸lW h6 z.1;have key:∀{c},c∈cs->(ad2 (Mi "rR") (c.fmod 2)++bN (c.fmod N)).length<=16777216:=λ{c} hc=>by rw[str_len];have:=Ov c;have:=(pR hn (h6 c hc)).sn;exact Um (Ov c) this rfl
 have i6:(H (cs.foldl (aO N) []))[m]? =some (.list ws):=dm hm;refine Call.drop (hp₁:=hp) (hp':=[.ns [Mi "_headers"] [.ref (hp.length+1)],.list (bD (rowsOf N (cs.foldl (aO N) [])))]) ?_ (abm _) rfl hb;exact dH (o:= .ret (.bool (iC (aO N) (jH N) [] cs==cs)) (H (cs.foldl (aO N) []))) (fnAt G rfl (by kernel_rfl)) rfl (λ_ _=>by kernel_rfl) (az rfl) (bB (q:=[.r _ _,.v (.int N),.r _ _,.v _,.v _,.b _,.v _,.b _,.v _,.v _,.b _]) 9 (.step (TQ G)<| .step (jn G (hN▸acx (as:=cs) V.int▸dh .lst (by simp;assumption)))<|
  .step (QF (emb:=V.int) (xs:=cs) (N:=cs.length) (P:=λi t=>(∀ d∈t,d∈six)/\t.length<=i) (s:=[]) (f:=aO N) (out:=λt c=>ST (jH N t c)) (hq:=H) (by kernel_rfl) rfl (bj (q:=[]) 9 (.last ⟨gr,rfl⟩ rfl)) trivial cc rfl ⟨by simp,by simp⟩ (abm _) λi t c hi ht hc=>⟨
   Gd (q:=[.v _,.v _,.v _,.r _ _]) 9 trivial (.step (by decide:(2:Int)≠0)<| .step (Ua c)<| .step ku<| .step (jo G (wg hn))<| .step (key hc)<| .step (jo G (du c (h6 c hc)))<|
    .step (lC G (by kernel_rfl) rfl (by kernel_rfl) (hA (tl (abj ht.2 (abj (ac1 hi) ((ac9 (n:=6)).mp (acr (ah9 hN) i7.2)))) rfl)).hi (by decide +kernel) (QV G hn (h6 c hc) ht.1 (hA (tl (abj ht.2 (abj (ac1 hi) ((ac9 (n:=6)).mp (acr (ah9 hN) i7.2)))) rfl))))<| .last ⟨rfl,rfl,rfl,s1 _ _⟩ rfl),PP ht.1 (h6 c hc),by have:=V5 (n:=N) (c:=c) (t:=t);exact abj this (ab8 ht.2 _)⟩)<|
  .step (fG (emb:=V.int) (xs:=cs) (g:=λc=>ST (dz N cs c)) (by kernel_rfl) rfl (bj (q:=[]) 9 (.last ⟨gr,rfl⟩ rfl)) trivial cc rfl λc hc=>jy (q:=[.v _,.v _,.v _]) 9
   (.step (dj (emb:=V.int) (g:=V.int) (xs:=cs) (p:=λd=>d.fmod N==c.fmod N) (by kernel_rfl) rfl (bj (q:=[]) 9 (.last ⟨gr,rfl⟩ rfl)) trivial cc rfl λd hd=>dU (q:=[]) 9 (.step ku<| .step ku<| .last ⟨rfl,rfl,rfl,rfl,rfl,rfl⟩ rfl))<|
    .step (aF .lst (iM (n:=0) (U3 hc)) (by rw[acx];exact abj (afw _ _) cc))<| .step (jo G (du _ (lW h6 hc)))<| .last ⟨rfl,rfl,rfl,rfl⟩ rfl))<|
  .step (dj (emb:=V.int) (g:=λc=>V.tup [.str (keyOf N c),ST c]) (xs:=cs) (p:=λc=>(cs.map (dz N cs)).contains c) (us:=bD (rowsOf N (cs.filter λc=>(cs.map (dz N cs)).contains c))) (by kernel_rfl) rfl (bj (q:=[]) 9 (.last ⟨gr,rfl⟩ rfl)) trivial cc (by simp[bD,rowsOf,ST]) λc hc=>dU (q:=[.v _,.b _,.v _,.v _,.v _]) 9
   (.step (jo G (du c (h6 c hc)))<| .step (Vp hn h6 (h6 c hc))<| .step (by decide:(2:Int)≠0)<| .step (Ua c)<| .step ku<| .step (jo G (wg hn))<| .step (key hc)<| .step (jo G (du c (h6 c hc)))<| .last ⟨rfl,rfl,rfl,rfl,rfl,rfl⟩ rfl))<|
  .step (bO (r:=true) .same .same (by rw[mL,gN];exact rQ hn kq) (by have h:=rQ hn kq;rw[aei]at h;exact h) (by simp[mL,gN,ST]))<|
  .step (lC G (by kernel_rfl) rfl (by kernel_rfl) (hA o0).hi (by decide +kernel) (vY G (hA o0)))<| .step (bO (r:=true) .same .same (Hl hn hT) (Hl hn (aT▸hT)) (by rw[aT];exact(λ{a b} ha=>(iff_true_right ha).mpr) rfl rfl))<| .step (uh i6 (abj hw (abz _ _)))<|
  .step (fG (emb:=V.int) (xs:=cs) (g:=ST) (by kernel_rfl) rfl (bj (q:=[]) 9 (.last ⟨gr,rfl⟩ rfl)) trivial cc rfl λc hc=>jy (q:=[.v _]) 9 (.step (jo G (du c (h6 c hc)))<| .last ⟨rfl,rfl,rfl,rfl⟩ rfl))<|
  .step (bO (r:=iC (aO N) (jH N) [] cs==cs) .same .same (by rw[mL,gN];exact rQ hn kq) (rQ hn h6) (by rw[mL,V.lst.injEq,Pb hn (by rw[gN];exact kq) h6,beq_iff_eq]))<| .last rfl rfl)) ⟨rfl,rfl⟩
end
section
noncomputable abbrev Pr:=List (Int×(Int×Int))
noncomputable abbrev Nm:=List (Int×Int)
noncomputable def qW(j:Int)(d:Pr)(c:Int):Pr:=[(c.fmod j,((1:Int),c))].foldl uU (d.foldl iI [])
noncomputable def cB(j:Int)(ts:List Pr)(c:Int):List Pr:=ts++[qW j (ts.getLastD []) c]
noncomputable def xQ(t:Nm)(r:Int):Nm:=[(r,(1:Int))].foldl kj (t.foldl iI [])
noncomputable def tabI(l:List Int):Nm:=l.foldl xQ []
noncomputable def chunk(rs:List Int)(j k:Int):List Int:=pick rs (some k) (some (k+j))
noncomputable def eN(rs:List Int)(j:Int)(s:Nm×List Bool)(k:Int):Nm×List Bool:=((tabI (chunk rs j k)).foldl kj (s.1.foldl iI []),s.2++[decide ((tabI (chunk rs j k)).map (·.2)=adn j.toNat 1)])
noncomputable def Dj(rs cs:List Int)(j size:Int):Pr:=(pick rs none (some size)).foldl (λd r=>dX d r (((pick rs none (some size)).count r:Nat),((pick cs none (some size)).filter (λc=>c.fmod j==r)).sum)) []
noncomputable def Ir(rs:List Int):Nm:=rs.foldl (λd r=>dX d r ((rs.count r:Nat):Int)) []
noncomputable def rests(cs:List Int)(j:Int):List Int:=cs.map (·.fmod j)
noncomputable def cP(cs:List Int)(j:Int):List Pr:=cs.foldl (cB j) [[]]
noncomputable def fu(cs:List Int)(j:Int):Nm×List Bool:=(e_ 0 (7 - j) j).foldl (eN (rests cs j) j) ([],[])
noncomputable def gO(cs:List Int)(j:Int):Bool:=
 ((e_ 0 (7 - j) j).all λk=>((tabI (chunk (rests cs j) j k)).map (·.2)).sum==j)&&(cN (cP cs j) j==some (Dj (rests cs j) cs j j))&&(cN (cP cs j) 6==some (Dj (rests cs j) cs j 6))&&((fu cs j).1==Ir (pick (rests cs j) none (some ((6:Int).fdiv j * j))))
noncomputable def tV(d:Pr):V:= .dI (dK d) (dV fC d)
noncomputable def nV(d:Nm):V:= .dI (dK d) (dV V.int d)
theorem v6:∀ l:List Int,lows n (l.map V.int)=true:=by intro ah;induction ah with
|nil=>exact rfl
|cons a l ih=>exact congrArg _ ih
theorem Vu(d:Nm):(Ob.dI (dK d) (dV V.int d)).low n=true:=by
 have:∀ d:Nm,lows n (dV V.int d)=true:=by intro d;induction d with
 |nil=>rfl|cons a d ih=>simp only[dV,ab3,gw,lows_cons,oF,lw,mz,mC,oG,ue,pU,oH,lz,aim]at ih ⊢;exact ih
 simpa[jB,rO,oV,rP,oW]using this d
theorem NK(d:Pr):(Ob.dI (dK d) (dV fC d)).low n=true:=by
 have:∀ d:Pr,lows n (dV fC d)=true:=by intro d;induction d with
 |nil=>rfl|cons a d ih=>
   have e:(fC a.2).low n=true:=by rfl
   simp only[dV,ab3,gw,lows_cons,ab1]at ih ⊢;exact⟨e,ih⟩
 simpa[jB,rO,oV,rP,oW]using this d
theorem QC(G:Wr W p mg mb){d:Pr}{j c:Int}{hp:List Ob}{k:Nat}(hd:d.length<=1000){t:Nat}{ps:Array Value}{bm:Addr}{ob:Obj}(B:BMod W.B mainGlobals mg bm ob)(hT:hp[t]? =some (.tab 75 ps))(hb:hp.all (Ob.low hp.length)=true) :
  Call W (k+1) true (.ref 80) [] [tV d,.dI [c.fmod j] [.tup [.int 1,.int c]]] hp (tV (qW j d c)) hp:=
 Call.frz (Ie (d:=d) (e:=[(c.fmod j,((1:Int),c))]) G hd (ad0 _) B hT) (abm _) hb (NK _) MF
theorem QB(G:Wr W p mg mb)(hd:d.length<=1000)(he:e.length<=1000)(hb:hp.all (Ob.low hp.length)=true) :
  Call W (k+1) true (.ref 80) [] [nV d,nV e] hp (nV (e.foldl kj (d.foldl iI []))) hp:=
 Call.frz (Ib G hd he) (abm _) hb (Vu _) MF
theorem nM{α:Type}(d:List (Int×α)):(d.foldl iI []).length<=d.length:=by have:=tW (f:=iI) (λd q=>iy d q.1 q.2) d [];simpa using this
theorem Oe(j:Int)(d:Pr)(c:Int):(qW j d c).length<=d.length+1:=by have h1:=nM d;have h2:=yE (d.foldl iI []) (c.fmod j,(1,c));simp only[qW,acd,afu];exact abj h2 (ab8 h1 _)
theorem Ah(d:Nm)(c:Int):(xQ d c).length<=d.length+1:=by have h1:=nM d;have h2:=sU (d.foldl iI []) (c,1);simp only[xQ,acd,afu];exact abj h2 (ab8 h1 _)
theorem Pu(l:List Int):(tabI l).length<=l.length:=by
 have:∀(l:List Int)(t:Nm),(l.foldl xQ t).length<=t.length+l.length:=by intro l;induction l with
 |nil=>intro t;simp|cons a l ih=>intro t;have h1:=ih (xQ t a);have h2:=Ah t a;simp only[acd,acv];exact abj h1 (abj (ab8 h2 _) (ab2 (ab9 _ _)))
 simpa[tabI]using this l []
theorem gA{α:Type}(xs:List α)(a b:Option Int):(pick xs a b).length<=xs.length:=by unfold pick;simp only[aeh,ae6];exact abj (agi _ _) (aje _ _)
theorem Hf(l:List Int)(a b:Option Int):pick (iL l) a b=iL (pick l a b):=by simp only[pick,iL,acx,al0,aoi]
theorem Df:∀ d:Nm,dV V.int d=iL (d.map (·.2)):=by intro ah;induction ah with
|nil=>exact rfl
|cons a d ih=>have:=ih;simp only[dV,iL,ab3]at this ⊢;(exact aa this rfl)
theorem Gq{i:Int}:(adn n [V.int i]).flatten=iL (adn n i):=by simp[iL]
theorem Dy:∀{a b:List Int},iL a=iL b↔a=b
|[],[]=>by simp
|[],_::_=>by simp[iL]
|_::_,[]=>by simp[iL]
|x::a,y::b=>by have:= @Dy a b;simp only[iL,ab3,ago,V.int.injEq]at this ⊢;rw[this]
theorem oX(l:List Int):(V.lst (iL l)).pl (n+1)=true:=by simp only[jT,gK,jU,jh];exact gM λx _=>by simp[jT,gK,jU,jh]
theorem JC{j:Int}(hj:1<=j/\j<=6):aeo 0 (7 - j) j=true:=by have:=Er hj.1 hj.2;rcases this with rfl|rfl|rfl|rfl|rfl|rfl<;>decide
theorem g_{α β:Type}{f:α->β}{l:List α}{i:Int}{x:α}(h:cN l i=some x):cN (l.map f) i=some (f x):=by unfold cN at h ⊢;rw[acx];induction e:seqIndex? i l.length using abt with
|none=>rw[e]at h;cases h
|some n=>rw[e]at h;simp only[aj7]at h ⊢;(refine aa (ady) ?_;refine aa h ?_);rfl
theorem Ax{α:Type}(f:Int->α):∀(l:List Int)(d:List (Int×α)),(l.foldl (λd r=>dX d r (f r)) d).length<=d.length+l.length:=by intro ah;induction ah with
|nil=>intro d;simp
|cons a l ih=>intro d;have h1:=ih (dX d a (f a));have h2:=iy d a (f a);simp only[acd,acv];exact abj h1 (abj (ab8 h2 _) (ab2 (ab9 _ _)))
theorem Lw(rs cs:List Int)(j size:Int):(Dj rs cs j size).length<=rs.length:=by have h:=Ax (λr=>((((pick rs none (some size)).count r:Nat):Int),((pick cs none (some size)).filter (λc=>c.fmod j==r)).sum)) (pick rs none (some size)) [];have h2:=gA rs none (some size);simp only[agn,ae7]at h;exact abj h h2
theorem Lx(rs:List Int):(Ir rs).length<=rs.length:=by have h:=Ax (λr=>((rs.count r:Nat):Int)) rs [];simpa[Ir]using h
theorem Hk{j:Int}(hj:1<=j/\j<=6):(e_ 0 (7 - j) j).length<=100:=by have:=Er hj.1 hj.2;rcases this with rfl|rfl|rfl|rfl|rfl|rfl<;>decide
theorem QL{j:Int}(hj:1<=j/\j<=6):(fu cs j).2.length<=100:=by
 have:∀(l:List Int)(s:Nm×List Bool),(l.foldl (eN (rests cs j) j) s).2.length=s.2.length+l.length:=by intro l;induction l with
 |nil=>intro s;simp|cons a l ih=>intro s;(refine aa acd ?_;rw[ih]);simp[eN];exact ab9 s.snd.length l.length
 have h:=this (e_ 0 (7 - j) j) ([],[]);have h2:=Hk hj;unfold fu;refine aa h ?_;simpa using h2
theorem wu(d:Pr):(V.lst (ae8 (λ(a:Int) b=>V.tup [.int a,b]) (dK d) (dV fC d))).pl 6=true:=by rw[l_];simp only[jT,gK,jU,jh];exact gM λx _=>by rfl
theorem wk(d:Nm):(V.lst (ae8 (λ(a:Int) b=>V.tup [.int a,b]) (dK d) (dV V.int d))).pl 6=true:=by rw[l_];simp only[jT,gK,jU,jh];exact gM λx _=>by rfl
theorem Sd{j:Int}(hj:1<=j/\j<=6):IntMulOk ((6:Int).fdiv j) j:=by have:=Er hj.1 hj.2;rcases this with rfl|rfl|rfl|rfl|rfl|rfl<;>(unfold IntMulOk;decide +kernel)
section
theorem XQ(n:Nat):∀ ts:List Pr,lows n (ts.map tV)=true:=by intro ah;induction ah with
|nil=>exact rfl
|cons d ts ih=>exact abo.mpr ⟨by have:=NK (n:=n) d;simpa[oV,tV,pU]using this,ih⟩
theorem XN(n:Nat):∀ bs:List Bool,lows n (bs.map V.bool)=true:=by intro ah;induction ah with
|nil=>exact rfl
|cons _ bs ih=>exact ih
theorem gf(G:Wr W p mg mb)(e:(bif x==("__debug__" : Str)then none else nsIn (hd.heap_39 p) mainGlobals x)=some (some (.ref a)))(h:iT (hd.heap_39 p) a=some r)(f:zQ (hd.heap_39 p) r.1=true)(c:Call W k q (.ref a) [] vs hp v hp'):GC W k q x vs hp v hp':=XF G e h f c
theorem KY(G:Wr W p mg mb)(hd:d.length<=1000)(he:e.length<=1000)(hb:hp.all (Ob.low hp.length)=true):GC W (k+1) true (Mi "add_callers") [nV d,nV e] hp (nV (e.foldl kj (d.foldl iI []))) hp:=gf G (by kernel_rfl) rfl (by kernel_rfl) (QB G hd he hb)
theorem UG(G:Wr W p mg mb){d:Pr}{j c:Int}(hd:d.length<=1000){t:Nat}{ps:Array Value}{bm:Addr}{ob:Obj}(B:BMod W.B mainGlobals mg bm ob)(hT:hp[t]? =some (.tab 75 ps))(hb:hp.all (Ob.low hp.length)=true):GC W (k+1) true (Mi "add_callers") [tV d,.dI [c.fmod j] [.tup [.int 1,.int c]]] hp (tV (qW j d c)) hp:=gf G (by kernel_rfl) rfl (by kernel_rfl) (QC G hd B hT hb)
theorem Qz(G:Wr W p mg mb){s:Int}(h:(d.map (·.2)).sum=s):GC W (k+1) true (Mi "count_calls") [nV d] hp (.int s) hp:=gf G (by kernel_rfl) rfl (by kernel_rfl) (by rw[nV,Df];exact h▸vg G)
theorem jd(G:Wr W p mg mb)(h:Call W k true (.type "list") [] [v] hp w hp):GC W k true (Mi "list") [v] hp w hp:=⟨_,eQ,h,λ_ _=>Gu G⟩
theorem dg(G:Wr W p mg mb){a b c:Int}(h:Call W k q (.type "range") [] vs hp (.range a b c) hp):GC W k q (Mi "range") vs hp (.range a b c) hp:=⟨_,eQ,h,λ_ _=>MT G⟩
theorem Wj(G:Wr W p mg mb):GC W k true (Mi "sum") [.lst (iL l)] hp (.int l.sum) hp:=⟨_,ik,uX .lst (pD.map _),λ_ _=>Vm G⟩
theorem K1(G:Wr W p mg mb)(h:d.length<=1000):GC W k true (Mi "list") [.view "dict_items" (tV d)] hp (.lst (ae8 (λ(a:Int) b=>V.tup [.int a,b]) (dK d) (dV fC d))) hp:=jd G (kE (knd:=intKind W.prog W.w) Wb nP.dI.dct (by simp only[dV,acx];exact abj h (abz _ _)))
theorem KZ(G:Wr W p mg mb)(h:d.length<=1000):GC W k true (Mi "list") [.view "dict_items" (nV d)] hp (.lst (ae8 (λ(a:Int) b=>V.tup [.int a,b]) (dK d) (dV V.int d))) hp:=jd G (kE (knd:=intKind W.prog W.w) Wb nP.dI.dct (by simp only[dV,acx];exact abj h (abz _ _)))
theorem Ug:Mt W k q hp (tV d) (Mi "items") [] [] [] hp (.view "dict_items" (tV d)) hp:=GZ (knd:=intKind W.prog W.w) nP.dI.dct
theorem Ue:Mt W k q hp (nV d) (Mi "items") [] [] [] hp (.view "dict_items" (nV d)) hp:=GZ (knd:=intKind W.prog W.w) nP.dI.dct
theorem wz(a b:Option Int)(h:l.length<=6):Qk W hp (.lst (iL l)) a b (.lst (iL (pick l a b))):=Hf l a b▸jX .lst (by simp[iL];exact abj h (abz _ _))
theorem RW{ts:List Pr}(h:ts.length=i+1):cN (ts.map tV) (-1)=some (tV (ts.getLastD [])):=by
 have e2:ts.getLastD []=ts[i]'(by lia):=by rw[ajo,ahe,show ts.length - 1=i by exact ach (Nat.eq_sub_of_add_eq (id (ach h))),abu (show i<ts.length by lia)];rfl
 have e3:seqIndex? (-1) (i+1)=some i:=by simp[seqIndex?];(rw[show(-1+((i:Int)+1))=i from(Int.add_comm _ _).trans (Int.add_neg_cancel_right _ _)];exact⟨⟨adg i,agc (am9 _)⟩,ajw i⟩)
 rw[e2,cN,acx,h,e3];simp[abu (show i<ts.length by exact ab2 h.symm)]
end
set_option maxHeartbeats 4000000 in
theorem z8(G:Wr W p mg mb){cs:List Int}{j:Int}{m:Nat}{ws:List V}{hp:List Ob}{k:Nat}(h6:∀ c∈cs,c∈six)(hj:j∈six)(hl:cs.length=6)(hm:hp[m]? =some (.list ws))(hw:ws.length<=1000){t:Nat}{ps:Array Value}{bm:Addr}{ob:Obj}(B:BMod W.B mainGlobals mg bm ob)(hT:hp[t]? =some (.tab 75 ps))
  (aT:gO cs j=true) (hb:hp.all (Ob.low hp.length)=true) :
  Call W (k+2) true (.ref 327) [] [.lst (iL cs),.int j,.ref m] hp (.bool ((fu cs j).2.all id)) hp:=by
 simp only[gO,ab1,ab7,beq_iff_eq]at aT;obtain⟨⟨⟨wd,gN⟩,we⟩,qr⟩:=aT;have kQ:1<=j/\j<=6:=yc hj;have pz:j≠0:=ao1 (aer (by decide) kQ.1);have DD:m<hp.length:=(abw.mp hm).1;have ej:(rests cs j).length=6:=by simp[rests,hl]
 have xi:ws.length<=16777216:=abj hw (abz _ _);have cc:cs.length<=16777216:=by lia
 have vc:j.natAbs<2 ^ 60:=du j hj;have pk:∀{l:List Int}(a b:Option Int),l.length<=6->(pick l a b).length<=16777216:=λ{l} a b h=>abj (gA l a b) (abj h (abz _ _));have Fh:∀{l:List Int},l.length<=6->(iL l).length<=16777216:=λh=>by simp[iL];exact abj h (abz _ _)
 have p3:=gA (rests cs j) none (some ((6:Int).fdiv j * j));have wl:=Lx (pick (rests cs j) none (some ((6:Int).fdiv j * j)));have cl:(fu cs j).1.length<=1000:=by rw[qr];exact tl (abj wl (abj p3 (ab2 ej))) rfl
 have fl:(fu cs j).2.length<=100:=QL kQ;let F:=(hp++[Ob.list [tV []]]).length;let H:List Pr->List Bool->List Ob:=λts bs=>(hp++[Ob.list (ts.map tV)])++[.list (bs.map V.bool)];have hF:F=hp.length+1:=by simp[F]
 have g0:∀ ts bs,(H ts bs)[hp.length]? =some (.list (ts.map tV)):=λts bs=>dm cz;have g1:∀ ts bs,(H ts bs)[F]? =some (.list (bs.map V.bool)):=λts bs=>by simp[H,F]
 have gm:∀ ts bs,(H ts bs)[m]? =some (.list ws):=λts bs=>dm (dm hm);have nb:∀ ts bs,(H ts bs).all (Ob.low (H ts bs).length)=true:=λts bs=>by simp only[H,adb];exact GR hb (by simp[jB,XQ,XN])
 let E:V->Int->aj:=λw _=>[some (.lst (iL cs)),some (.int j),some (.ref m),none,some (.ref hp.length),some w,some (.ref F),some (.lst (iL (rests cs j)))];refine Call.drop (hp₁:=hp) (hp':=[.list ((cP cs j).map tV),.list ((fu cs j).2.map V.bool)]) ?_ (abm _) rfl hb;refine jq (o:= .ret (.bool ((fu cs j).2.all id)) (hp++[.list ((cP cs j).map tV),.list ((fu cs j).2.map V.bool)])) (fnAt G rfl (by kernel_rfl)) rfl (λ_ _ _=>by kernel_rfl) (az rfl) (bB (q:=[.v _,.i,.v _,.i,.v _,.o _,.o _,.o _,.v (.lst (iL (pick (rests cs j) none (some ((6:Int).fdiv j * j))))),.v _,.v _,.v _,.v _,.v _,.b _,.v _,.v _,.b _]) 9 (.step nA<| .step nA<|
  .step (fG (emb:=V.int) (g:=λc=> .int (c.fmod j)) (xs:=cs) (us:=iL (rests cs j)) (by kernel_rfl) rfl (bj (q:=[]) 9 (.last ⟨gr,rfl⟩ rfl)) trivial cc (by simp[rests,iL,ae3]) λc hc=>jy (q:=[]) 9 (.step pz<| .last ⟨rfl,rfl,rfl,rfl⟩ rfl))<|
  .step (b7 (emb:=V.int) (xs:=cs) (P:=λi ts=>ts.length=i+1/\(ts.getLastD []).length<=i) (s:=([[]]:List Pr)) (f:=cB j) (en:=λ_=>E (nV []) 0) (hq:=λts=>H ts []) rfl (bj (q:=[]) 9 (.last ⟨gr,rfl⟩ rfl)) trivial ⟨rfl,abm _⟩ λi ts c hi ht hc=>
   ⟨cC (q:=[.v _,.v _,.r _ _]) 9 trivial (.step (aF (.ref (g0 _ _)) (RW ht.1) (by have:=ht.1;rw[acx];exact tl (abj (ab2 ht.1) (hl▸hi)) rfl))<| .step pz<| .step (UG G (by have:=ht.2;exact tl (abj ht.2 (ac1 (hl▸hi))) rfl) B (dm (dm hT)) (nb _ _))<| .step (dJ (g0 _ _) (g0 _ _) (by have:=ht.1;rw[acx];exact tl (abj (ab2 ht.1) (hl▸hi)) rfl))<|
    .last ⟨rfl,by simp[H,cB,aea]⟩ rfl),by simp[cB,ht.1],by simp only[cB,ale];have:=Oe j (ts.getLastD []) c;have:=ht.2;lia⟩)<|
  .step (b7 (emb:=V.int) (xs:=e_ 0 (7 - j) j) (P:=λi s=>s.1.length<=10 * i/\s.2.length<=i) (s:=(([],[]):Nm×List Bool)) (f:=eN (rests cs j) j) (en:=λs=>E (nV s.1) 0) (hq:=λs=>H (cP cs j) s.2) rfl (bj (q:=[.v _]) 9 (.step (dg G (gj pz (gU (by assumption))))<| .last ⟨gR (JC kQ),rfl⟩ rfl)) trivial ⟨abm _,abm _⟩ λi s k hi hP hk=> ?_)<|
  .step (b7 (emb:=V.int) (xs:=[j,6]) (P:=λ_ _=>True) (s:=()) (f:=λ_ _=>()) (en:=λ_=>E (nV (fu cs j).1) 0) (hq:=λ_=>H (cP cs j) (fu cs j).2) rfl (bj (q:=[]) 9 (.last ⟨GF,rfl⟩ rfl)) trivial trivial λi _ size hi _ hs=>⟨?_,trivial⟩)<|
  .step ⟨pz,by decide,vc⟩<| .step (Sd kQ)<| .step (wz _ _ (ab2 ej))<| .step Ue<| .step (KZ G cl)<|
  .step (F_ (emb:=V.int) (xs:=pick (rests cs j) none (some ((6:Int).fdiv j * j))) (kf:=λr=>r) (vf:=λr=>(((pick (rests cs j) none (some ((6:Int).fdiv j * j))).count r:Nat):Int)) (f:=V.int) (d:=Ir (pick (rests cs j) none (some ((6:Int).fdiv j * j)))) (by kernel_rfl) rfl (bj (q:=[]) 9 (.last ⟨gr,rfl⟩ rfl)) trivial (pk _ _ (ab2 ej)) rfl λr hr=>
   Li (q:=[.v _]) 9 (.step (GX .lst .lst (pD.map _))<| .last ⟨rfl,rfl,rfl,rfl,rfl,rfl⟩ rfl))<| .step Ue<| .step (KZ G (tl (abj wl (abj p3 (ab2 ej))) rfl))<|
  .step (bO (r:=true) .same .same (wk _) (wk _) (by rw[qr];simp))<| .step (uh (gm _ _) xi)<|
  .step (jn G (dh (.ref (g1 _ _)) (by simp;lia)))<| .step ⟨by exact adg (amq V.bool (fu cs j).snd).length,by simp;exact acr (ac9.mpr fl) (by decide),by simp;lia⟩<| .step (wW (.list (g1 _ _)) .same (by simp))<| .last ?_ rfl)) ⟨rfl,rfl⟩
 ·have e4:∀ d:Bool,(H (cP cs j) s.2).set F (.list (s.2.map V.bool++[V.bool d]))=H (cP cs j) (s.2++[d]):=λd=>by simp[H,F,aea]
  have zo:=Hk kQ;have j2:(chunk (rests cs j) j k).length<=6:=by unfold chunk;have:=gA (rests cs j) (some k) (some (k+j));exact le_of_le_of_eq this ej
  have w8:=Pu (chunk (rests cs j) j k);have E0:=hP.1;have E1:=hP.2;have ap:∀(k:Nat)(d:Bool),Mt W k true (H (cP cs j) s.2) (.ref F) (Mi "append") [] [V.bool d] [] (H (cP cs j) s.2) .none (H (cP cs j) (s.2++[d])):=λk d=>e4 d▸dJ (g1 _ _) (g1 _ _) (by simp;exact tl (abj hP.2 (ac1 (aby hi zo))) rfl);refine⟨cC (q:=[.v _,.o _,.v _,.v _,.v _,.b _,.r _ _,.v _,.v _,.v _,.b _,.v _]) 9 trivial (.step nA<| .step (b7 (emb:=V.int) (xs:=chunk (rests cs j) j k) (P:=λi t=>t.length<=i) (s:=([]:Nm)) (f:=xQ) (en:=λt=>E (nV s.1) 0++[some (.int k),some (nV t)]) (hq:=λ_=>H (cP cs j) s.2) rfl (bj (q:=[.v _]) 9 (.step (wz _ _ (ab2 ej))<| .last ⟨gr,rfl⟩ rfl)) trivial (ac4 _)
    λi t r hi ht hr=>⟨cC (q:=[.v _]) 9 trivial (.step (KY (e:=[(r,1)]) G (tl (abj ht (ac1 (aby hi j2))) rfl) (ad0 _) (nb _ _))<| .last ⟨rfl,rfl⟩ rfl),by have:=Ah t r;exact abj this (ab8 ht _)⟩)<|
   .step (KY (e:=tabI (chunk (rests cs j) j k)) G (tl (abj hP.1 (acu 10 (ac1 (aby hi zo)))) rfl) (tl (abj w8 j2) rfl) (nb _ _))<| .step (m_values (knd:=intKind W.prog W.w) nP.dI.dct)<| .step (jd G (qR (knd:=intKind W.prog W.w) nP.dI.dct (by refine(?_:(dV V.int (tabI _)).length<=_);simp only[dV,acx];exact tl (abj w8 j2) rfl)))<| .step ⟨by exact afl kQ.1,by exact acr kQ.2 (by decide),by simp;exact acr kQ.2 (by decide)⟩<|
   .step (bO (r:=decide ((tabI (chunk (rests cs j) j k)).map (·.2)=adn j.toNat 1)) .same .same (by refine(?_:(V.lst (dV V.int (tabI _))).pl 6=true);rw[Df];exact oX _) (by rw[Gq];exact oX _) (by refine(?_:V.lst (dV V.int (tabI _))=_↔_);rw[Df,Gq,V.lst.injEq,Dy,decide_eq_true_eq]))<|
   .step (ap _ _)<| .step (Qz G (wd k hk))<| .step (jo G vc)<| .step (jo G vc)<| .step (beq_self_eq_true _)<| .step (uh (gm _ _) xi)<| .last ⟨rfl,rfl⟩ rfl),?_,by simp[eN];exact hP.2⟩
  have h1:=tW (f:=kj) sU (tabI (chunk (rests cs j) j k)) (s.1.foldl iI []);have h2:=nM s.1;simp only[eN];exact abj h1 (abj (adt (abj h2 hP.1) (abj w8 j2)) (acs (abk rfl) _))
 ·have et:cN (cP cs j) size=some (Dj (rests cs j) cs j size):=by
   rcases abx.mp hs with rfl|h
   ·exact gN
   ·rcases abx.mp h with rfl|h
    ·exact we
    ·cases h
  have iP:(cP cs j).length=7:=by
   have:∀(l:List Int)(ts:List Pr),(l.foldl (cB j) ts).length=ts.length+l.length:=by intro l;induction l with
   |nil=>intro ts;simp|cons a l ih=>intro ts;rw[acd,ih];simp[cB];exact afp _ _ _
   rw[cP,this,hl];rfl
  have dl:=Lw (rests cs j) cs j size;exact cC (q:=[.v _,.v _,.v _,.v _,.v _,.v _,.b _,.v _]) 9 trivial (.step (F_ (emb:=V.int) (xs:=pick (rests cs j) none (some size)) (kf:=λr=>r) (vf:=λr=>(((pick (rests cs j) none (some size)).count r:Int),((pick cs none (some size)).filter (λc=>c.fmod j==r)).sum)) (f:=fC) (d:=Dj (rests cs j) cs j size) (by kernel_rfl) rfl (bj (q:=[.v _]) 9 (.step (wz _ _ (ab2 ej))<| .last ⟨gr,rfl⟩ rfl)) trivial (pk _ _ (ab2 ej)) rfl λr hr=>
    Li (q:=[.v _,.v _,.v (.lst (iL ((pick cs none (some size)).filter λc=>c.fmod j==r))),.v _]) 9 (.step (wz _ _ (ab2 ej))<| .step (GX .lst .lst (pD.map _))<| .step (dj (emb:=V.int) (g:=V.int) (xs:=pick cs none (some size)) (p:=λc=>c.fmod j==r) (by kernel_rfl) rfl (bj (q:=[.v _]) 9 (.step (wz _ _ (ab2 hl))<| .last ⟨gr,rfl⟩ rfl)) trivial (pk _ _ (ab2 hl)) rfl
     λc hc=>dU (q:=[]) 9 (.step pz<| .last ⟨rfl,rfl,rfl,rfl,rfl,rfl⟩ rfl))<| .step (Wj G)<| .last ⟨rfl,rfl,rfl,rfl,rfl,rfl⟩ rfl))<|
   .step (aF (.ref (g0 _ _)) (g_ et) (by simp;lia))<| .step Ug<| .step (K1 G (tl (abj dl (ab2 ej)) rfl))<| .step Ug<| .step (K1 G (tl (abj dl (ab2 ej)) rfl))<| .step (bO (r:=true) .same .same (wu _) (wu _) (by simp))<| .step (uh (gm _ _) xi)<| .last ⟨rfl,rfl⟩ rfl)
 ·exact congrArg (Out.ret _) (by simp[H,fu])
end
section
theorem sX{i:Int}(h:cN l i=some x):cN (sL l) i=some (.str x):=by unfold cN sL at *;rw[acx];induction e:seqIndex? i l.length using abt with
|none=>rw[e]at h;cases h
|some j=>rw[e]at h;simp only[aj7,ady]at h ⊢;exact aa h rfl
noncomputable def sy(e m rX:Str):List Str:=
 [Mi "229 on (|||" ++m++Mi "|)",Mi "229 (!a!b!" ++m++Mi "!)",Mi "229" ++e++Mi ".(|||" ++m++Mi "|)",Mi "229 )" ++e++Mi "..(..." ++m++Mi ".)",
  Mi "229" ++e++Mi "." ++e++Mi "(|||" ++m++Mi "|)(|||7|)",Mi "229 (" ++ajp e 3++m++e++Mi ")",Mi "229 (||| " ++m++e++Mi "|)",
  Mi "229 (|||+0" ++m++Mi "|)",Mi "229 (xxx" ++m++Mi "x)",Mi "229 (|||" ++m++Mi "|)",Mi "2292" ++m++Mi "2)",Mi "229 (|||" ++m++Mi "|!)",
  rX,Mi "229" ++e++Mi "(|||" ++m++Mi "||",Mi "229 (|||" ++m++Mi "-|)",
  Mi ".229 (|||" ++m++Mi "|)",Mi "229 (|||" ++m++Mi "|)",Mi "229 (|||" ++m++Mi "|)"]
noncomputable def Dk(bg:Str)(de:Int)(word first bo:Str):List V:=
 let a:V:= .tup [.str bg,.int de,.str word];let p:V:= .tup [.str (Mi "proto"),.str first]
 [a,a,a,a,a,a,a,a,a,.tup [.str bg,.int de,.str (Mi "")],p,p,p,p,.tup [.str (Mi "value"),.str (Mi "")],.tup [.str (Mi "reply"),.str first]]
theorem rF(h:xs.length+ys.length<=16777216):Qe W (hp++[.list xs]) .Add (.ref hp.length) (.lst ys) (.ref hp.length) (hp++[.list (xs++ys)]):=by have z:=n_ (W:=W) (cz (hp:=hp) (o:= .list xs)) (.lst (xs:=ys)) h;rw[aea _ _ (abm _),ao0]at z;exact z
set_option maxHeartbeats 4000000 in
theorem DP(G:Wr W p mg mb){kind kk de:Int}{bg word e m:Str}{odd:Int}{hp:List Ob}{k:Nat}(ka:0<=kk)(fS:kk<2 ^ 50)(he:cN [Mi "\n",Mi "\r",Mi "\r\n"] (kk.fmod 3)=some e)(E4:e.length<=2)(hm:Mi (toString de)=m)(DD:m.length<=2)(ku:de.natAbs<2 ^ 60)
  (wa:kk.fmod 2=odd) (kr:MulOk e 3/\(ajp e 3).length<=6) {rX:Str} (lI:cN [Mi "229 (||" ++m++Mi "|)",Mi "229 (|||" ++m++Mi "||)"] odd=some rX) {x9 code:Str} (h9:cN [Mi "257-\"",Mi "257 -"] odd=some x9) (ib:(if kind=9 then x9 else if kind=16 then Mi "250 \"" else if kind=17 then Mi ".257 \"" else Mi "257 \"")=code) (cc:code.length<=60) (sN:word.length<=100) (oo:(ad4 word (Mi "\"") (Mi "\"\"")).length<=900) {x3:Str} (h3:cN [Mi "\"",Mi "\" is \"it\"",Mi ""] ((kk.fdiv 3).fmod 3)=some x3) (E8:x3.length<=60) {t r1 first bo:Str} {due:V} (ht:cN (sy e m rX) kind=some t) (iP:t.length<=200) (DT:ad4 t (Mi "\r\n") (Mi "\n")=r1) (ej:r1.length<=900) (mh:ad4 r1 (Mi "\r") (Mi "\n")=first) (ec:first.length<=900) (wP:code++ad4 word (Mi "\"") (Mi "\"\"")++x3=bo)
  (mf:cN (Dk bg de word first bo++[.tup [.str (Mi "reply"),.str bo],.tup [.str (Mi "reply"),.str bo]]) kind=some due) (gd:due.low hp.length=true) (hb:hp.all (Ob.low hp.length)=true) :
  Call W (k+1) true (.ref 312) [] [.int kind,.int kk,.str bg,.int de,.str word] hp (.tup [.str (t++e++Mi "~" ++e++bo),.tup [.str (first++Mi "\n~\n" ++bo),due]]) hp:=by
 subst hm wa DT mh wP;have B5:=sX h9;have BU:=sX h3;have tA:=sX lI;have ua:=sX he;have z0:=sX ht;have q2:(Mi "\"\"").length=2:=by decide +kernel
 have n1:(Mi "\n").length=1:=by decide +kernel
 have E6:=kr.2;have vk:kk.natAbs<2 ^ 60:=XS ka fS;refine Call.drop (hp₁:=hp) (hp':=[.list (sL (sy e (Mi (toString de)) rX))]) ?_ (abm _) (by simp[mz,mC,gw,lows_cons,gd]) hb;refine K7 (o:= .ret _ _) (fnAt G rfl (by kernel_rfl)) rfl (λ_ _ _ _ _=>by kernel_rfl) (az rfl) (j6 (q:=[.v _,.v _,.i,.r _ _,.r _ _,.v _,.r _ _,.r _ _]) 6 9 (.step (by decide:(3:Int)≠0)<| .step (aF .lst ua (abz _ _))<| .step (jo G ku)<| .step (by decide:(2:Int)≠0)<|
  .step ?_<| .step ?_<| .step ?_<| .step ?_<| .step ?_<| .step kr.1<| .step ?_<| .step ?_<| .step (rF (abz _ _))<|
  .step ?_<| .step ?_<| .step ?_<| .step ?_<| .step ?_<| .step (rF (abz _ _))<| .step ?_<| .step ?_<| .step (aF .lst tA (abz _ _))<| .step ?_<| .step ?_<| .step (rF (abz _ _))<|
  .step ?_<| .step ?_<| .step ?_<| .step (rF (abz _ _))<| .last ?_ rfl)) ⟨rfl,rfl⟩
 all_goals try (apply W4;(focus (repeat' (first|with_reducible apply W2|with_reducible refine W3 (by assumption)|exact Nu (by decide +kernel))));exact abk rfl)
 have w1:word.length+(word.length+1) * (Mi "\"\"").length<=16777216:=by rw[q2];exact Um sN (ag0 2 (adc sN)) rfl
 have w2:t.length+(t.length+1) * (Mi "\n").length<=16777216:=by rw[n1];exact Um iP (ag0 1 (adc iP)) rfl
 have w3:(ad4 t (Mi "\r\n") (Mi "\n")).length+((ad4 t (Mi "\r\n") (Mi "\n")).length+1) * (Mi "\n").length<=16777216:=by rw[n1];exact Um ej (ag0 1 (adc ej)) rfl
 have hc:(if(kind==9)=true then V.str x9 else if(kind==16)=true then .str (Mi "250 \"")else if(kind==17)=true then .str (Mi ".257 \"")else .str (Mi "257 \""))= .str code:=by
  rw[←ib];simp only[beq_iff_eq]
  split
  ·rfl
  split
  ·rfl
  split<;>rfl
 have fE:∀{a b:Nat},(anq a b)=true->a<=b:=abk;refine bB (q:=[.i,.v _,.i,.i,.c (.str code),.v _,.v _,.v _,.v _]) 9 (.step (aF .lst B5 (abz _ _))<| .step ⟨rfl,rfl⟩<| .step ⟨rfl,rfl⟩<| .step ⟨rfl,rfl⟩<| .step hc<|
  .step w1<| .step ⟨by decide,vk,by decide⟩<| .step (by decide:(3:Int)≠0)<| .step (aF .lst BU (abz _ _))<| .step ?_<|
  .step (aF (.ref cz) z0 (abz _ _))<| .step ?_<| .step (aF (.ref cz) z0 (abz _ _))<| .step w2<| .step w3<|
  .step ⟨by decide,by decide,fE rfl⟩<| .step (fE rfl)<| .step ⟨by decide,by decide,fE rfl⟩<| .step (fE rfl)<| .step (fE rfl)<|
  .step ?_<| .step ⟨by decide,by decide,fE rfl⟩<| .step (fE rfl)<| .step (aF .lst mf (abz _ _))<| .last rfl rfl)
 all_goals (apply W4;(focus (repeat' (first|with_reducible apply W2|with_reducible refine W3 (by assumption)|exact Nu (by decide +kernel))));exact abk rfl)
end
section
noncomputable def JT(r:Str):Str:=if(adf r none (some 1)==Mi ".")then adf r (some 1) none else r
theorem xO{nm:Names}(h:(nm.all λp=>p.2 != .cell&&p.2 != .free)=true):∀ x k,(x,k)∈nm->k≠ .cell/\k≠ .free:=λx k hm=>by have:=ab7.mp h _ hm;simpa using this
theorem Ul(G:Wr W p mg mb):Ke W 110:=by have e:=G.X 110 _ rfl;have e1:=G.X 97 _ rfl;exact⟨_,109,_,_,_,_,_,_,_,_,_,_,_,_,_,_,_,e,G.ns (by kernel_rfl),G.nsNone (by kernel_rfl) (by kernel_rfl),.own e1 (G.ns (N:=96) (by kernel_rfl)) (G.nsNone (by kernel_rfl) (by kernel_rfl)) .base⟩
theorem Xd(G:Wr W p mg mb):Ke W 122:=by have e:=G.X 122 _ rfl;have e1:=G.X 97 _ rfl;exact⟨_,121,_,_,_,_,_,_,_,_,_,_,_,_,_,_,_,e,G.ns (by kernel_rfl),G.nsNone (by kernel_rfl) (by kernel_rfl),.own e1 (G.ns (N:=96) (by kernel_rfl)) (G.nsNone (by kernel_rfl) (by kernel_rfl)) .base⟩
theorem qO:bootBuiltins "ValueError" =some (.type "ValueError"):=by decide +kernel
theorem Ph:isSubtype (.type "ValueError") (.ref 110)=pure false:=by rw[isSubtype_type];kernel_rfl
theorem Pj:isSubtype (.type "ValueError") (.ref 122)=pure false:=by rw[isSubtype_type];kernel_rfl
theorem V1:isSubtype (.type "ValueError") (.type "BaseException")=pure true:=by rw[isSubtype_type];kernel_rfl
theorem V3:isSubtype (.type "ValueError") (.type "ValueError")=pure true:=by rw[isSubtype_type];kernel_rfl
theorem V2:isSubtype (.type ((anz "ValueError").elim "type" λx=>x.metatype)) (.type "tuple")=pure false:=by rw[isSubtype_type];kernel_rfl
theorem WK:V_ W (.type "ValueError") (.type "ValueError") true:=Vd (X:= "ValueError") (T:= "ValueError") (b:=true) V1 V2 V3
theorem Ce(G:Wr W p mg mb)(h:Ke W C):GC W k q (Mi "str") [.exc C y] hp (.str y) hp:=⟨_,eQ,wR h,λ_ _=>Dv G⟩
theorem Tn(r:Str):(if(adf r none (some 1)==Mi ".")=true then V.str (adf r (some 1) none)else .str r)= .str (JT r):=by simp only[JT];split<;>rfl
section
variable(hw:wire.length<=100000)(gd:bE.length<=100000)(h1:ah2 wire (Mi "\r\n.\r\n") 1=[bE,rest])(bt:∀ r∈adx bE (Mi "\r\n"),r.length<=100000)(fT:(adx bE (Mi "\r\n")).length<=16777216)
  (hj:JoinOk (Mi "\n") ((adx bE (Mi "\r\n")).map JT)=true) (dt:come=ak3 (Mi "\n") ((adx bE (Mi "\r\n")).map JT)) (cc:come.length<=100000) (h2:adx come (Mi "\n~\n")=[first,bo])
include hw gd h1 bt fT hj dt cc h2
theorem lH(G:Wr W p mg mb)(hr:iT (hd.heap_39 p) 317=some r){P:aj->List Ob->List Stmt->Prop}(st:∀{env hp s e h l},Ex W (cH r.1 (k+1) true) env hp s (.next e h)->P e h l->P env hp (s::l))
  (H:P [some (.str wire),some (.str bg),some (.str bE),some (.str rest),some (.str come),some (.str first),some (.str bo)] hp (r.2.drop 3)):P [some (.str wire),some (.str bg)] hp r.2:=by
 cases hr;have m1:Mt W (k+1) true hp (.str wire) (Mi "split") [] [.str (Mi "\r\n.\r\n"),.int 1] [] hp (.lst (sL [bE,rest])) hp:=h1▸NT (by decide +kernel) (by decide +kernel) (tl (ab8 hw 2) rfl);have m2:Mt W (k+1) true hp (.str come) (Mi "split") [] [.str (Mi "\n~\n")] [] hp (.lst (sL [first,bo])) hp:=h2▸m_split (by decide +kernel) (tl (ab8 cc 2) rfl);exact Hh (q:=[.v _,.v _,.v (.str come),.v _]) 3 9 st (.step m1<|
  .step (fG (emb:=V.str) (g:=λr=>V.str (JT r)) (xs:=adx bE (Mi "\r\n")) (us:=sL ((adx bE (Mi "\r\n")).map JT)) (by kernel_rfl) rfl (bj (q:=[.v _]) 9 (.step (m_split (by decide +kernel) (tl (ab8 gd 2) rfl))<| .last ⟨gr,rfl⟩ rfl)) trivial fT aei λr hr=>
   jy (q:=[.i]) 9 (.step (big (bt r hr))<| .step (big (bt r hr))<| .step ⟨rfl,rfl⟩<| .last ⟨rfl,rfl,Tn r,rfl⟩ rfl))<|
  .step (dt▸NP .lst (Strs.map _) hj)<| .step m2<| .last H rfl)
variable{i:Int}
theorem Hj(G:Wr W p mg mb)(e8:Call W (k+1) true (.ref 131) [] [.str first,.tup [.str bg,.int 21]] hp (.tup [.str bg,.int i]) hp)(lP:Call W (k+1) true (.ref 138) [] [.str bo] hp (.str w) hp) :
  Call W (k+2) true (.ref 317) [] [.str wire,.str bg] hp (.tup [.str rest,.tup [.str come,.tup [.str bg,.int i,.str w]]]) hp:=
 dH (o:= .ret _ hp) (fnAt G rfl (by kernel_rfl)) rfl (λ_ _=>by kernel_rfl) (az rfl) (lH hw gd h1 bt fT hj dt cc h2 G rfl (P:=λe h l=>cU W _ e h l _) gq (fM trivial (Vj (fM trivial (Xc (q:=[.v _,.v _]) 9 (.step (gf G (by kernel_rfl) rfl (by kernel_rfl) e8)<| .step (gf G (by kernel_rfl) rfl (by kernel_rfl) lP)<| .step ⟨nofun,nofun,abk rfl⟩<| .last rfl rfl)))))) ⟨rfl,rfl⟩
theorem vq(G:Wr W p mg mb)(e8:iJ W (k+1) true (.ref 131) [] [.str first,.tup [.str bg,.int 21]] hp (.ref 110) (some first) hp) :
  Call W (k+2) true (.ref 317) [] [.str wire,.str bg] hp (.tup [.str rest,.tup [.str come,.tup [.str (Mi "reply"),.str first]]]) hp:=
 dH (o:= .ret _ hp) (fnAt G rfl (by kernel_rfl)) rfl (λ_ _=>by kernel_rfl) (az rfl) (lH hw gd h1 bt fT hj dt cc h2 G rfl (P:=λe h l=>cU W _ e h l _) gq (fM trivial (pL (C:=110) (y:=first) (hp₁:=hp) rfl (xO rfl)
  (jz (xj (jM (gQ rfl (iz (q:=[]) 9 (.last ⟨rfl,rfl⟩ rfl)) (fL rfl (jM (gQ rfl (iz (q:=[]) 9 (.last ⟨rfl,rfl⟩ rfl)) (fL rfl (zB (tM (lr G rfl (by kernel_rfl)) rfl (G.top (by kernel_rfl) (aL rfl)) (lJ (q:=[]) 9 (.last ⟨rfl,rfl⟩ rfl)) e8))))))))))
  (Sel.hit (c:= .ref 110) (G.top (by kernel_rfl) (aL rfl)) (rA (jQ G) (jQ G) (by decide))) (cT rfl) (bB (q:=[.v _]) 9 (.step (Ce G (Ul G))<| .last rfl rfl))))) ⟨rfl,rfl⟩
theorem vp(G:Wr W p mg mb)(e8:iJ W (k+1) true (.ref 131) [] [.str first,.tup [.str bg,.int 21]] hp (.ref 122) (some first) hp) :
  Call W (k+2) true (.ref 317) [] [.str wire,.str bg] hp (.tup [.str rest,.tup [.str come,.tup [.str (Mi "proto"),.str first]]]) hp:=
 dH (o:= .ret _ hp) (fnAt G rfl (by kernel_rfl)) rfl (λ_ _=>by kernel_rfl) (az rfl) (lH hw gd h1 bt fT hj dt cc h2 G rfl (P:=λe h l=>cU W _ e h l _) gq (fM trivial (pL (C:=122) (y:=first) (hp₁:=hp) rfl (xO rfl)
  (jz (xj (jM (gQ rfl (iz (q:=[]) 9 (.last ⟨rfl,rfl⟩ rfl)) (fL rfl (jM (gQ rfl (iz (q:=[]) 9 (.last ⟨rfl,rfl⟩ rfl)) (fL rfl (zB (tM (lr G rfl (by kernel_rfl)) rfl (G.top (by kernel_rfl) (aL rfl)) (lJ (q:=[]) 9 (.last ⟨rfl,rfl⟩ rfl)) e8))))))))))
  (Sel.miss (c:= .ref 110) (G.top (by kernel_rfl) (aL rfl)) (rA (oR G) (jQ G) (by decide)) (Sel.hit (c:= .ref 122) (G.top (by kernel_rfl) (aL rfl)) (rA (oR G) (oR G) (by decide)))) (cT rfl) (bB (q:=[.v _]) 9 (.step (Ce G (Xd G))<| .last rfl rfl))))) ⟨rfl,rfl⟩
theorem vy(G:Wr W p mg mb)(e8:Call W (k+1) true (.ref 131) [] [.str first,.tup [.str bg,.int 21]] hp (.tup [.str bg,.int i]) hp)(lP:iJ W (k+1) true (.ref 138) [] [.str bo] hp (.ref 110) (some bo) hp) :
  Call W (k+2) true (.ref 317) [] [.str wire,.str bg] hp (.tup [.str rest,.tup [.str come,.tup [.str (Mi "reply"),.str bo]]]) hp:=
 dH (o:= .ret _ hp) (fnAt G rfl (by kernel_rfl)) rfl (λ_ _=>by kernel_rfl) (az rfl) (lH hw gd h1 bt fT hj dt cc h2 G rfl (P:=λe h l=>cU W _ e h l _) gq (fM trivial (pL (C:=110) (y:=bo) (hp₁:=hp) rfl (xO rfl)
  (jz (xj (jM (gQ rfl (iz (q:=[]) 9 (.last ⟨rfl,rfl⟩ rfl)) (fL rfl (jM (gQ rfl (iz (q:=[]) 9 (.last ⟨rfl,rfl⟩ rfl)) (fL rfl (LK (iz (q:=[.v _]) 9 (.step (gf G (by kernel_rfl) rfl (by kernel_rfl) e8)<| .last ⟨rfl,rfl⟩ rfl)) (jM (fL rfl (tM (lr G rfl (by kernel_rfl)) rfl (G.top (by kernel_rfl) (aL rfl)) (lJ (q:=[]) 9 (.last ⟨rfl,rfl⟩ rfl)) lP))))))))))))
  (Sel.hit (c:= .ref 110) (G.top (by kernel_rfl) (aL rfl)) (rA (jQ G) (jQ G) (by decide))) (cT rfl) (bB (q:=[.v _]) 9 (.step (Ce G (Ul G))<| .last rfl rfl))))) ⟨rfl,rfl⟩
theorem Ej(G:Wr W p mg mb)(e8:m_ W (k+1) true (.ref 131) [] [.str first,.tup [.str bg,.int 21]] hp (.type "ValueError") none hp) :
  sJ W (k+2) true (.ref 317) [] [.str wire,.str bg] hp (.tup [.str rest,.tup [.str come,.tup [.str (Mi "value"),.str (Mi "")]]]) hp:=
 HY (o:= .ret _ hp) (fnAt G rfl (by kernel_rfl)) rfl (λ_ _=>by kernel_rfl) (az rfl) (lH hw gd h1 bt fT hj dt cc h2 G rfl (P:=λe h l=>gJ W _ e h l _) (λx y=>cL x.c y) (Dq trivial (xg (cls:= .type "ValueError") (msg:=none) (hp₁:=hp) rfl (xO rfl)
  (tR (Ms (zA (tQ rfl (iz (q:=[]) 9 (.last ⟨rfl,rfl⟩ rfl)) (tO rfl (zA (tQ rfl (iz (q:=[]) 9 (.last ⟨rfl,rfl⟩ rfl)) (tO rfl (Iv (vU (lr G rfl (by kernel_rfl)) rfl (G.top (by kernel_rfl) (aL rfl)) (lJ (q:=[]) 9 (.last ⟨rfl,rfl⟩ rfl)) e8))))))))))
  (Sel.miss (c:= .ref 110) (G.top (by kernel_rfl) (aL rfl)) (Gj (jQ G) Ph) (Sel.miss (c:= .ref 122) (G.top (by kernel_rfl) (aL rfl)) (Gj (oR G) Pj) (Sel.hit (c:= .type "ValueError") (G.blt (by kernel_rfl) qO (by decide) (aL rfl)) WK)))
  (bB (q:=[]) 9 (.last rfl rfl))))) ⟨rfl,rfl⟩
end
end
section
noncomputable def jt(n:Int)(c:List Int)(q:Nat×Int):List Int:=c.set ((q.1:Int).fmod n).toNat ((cN c ((q.1:Int).fmod n)).getD 0+q.2.fmod 1000000)
noncomputable def pairsOf(l:List Int):List (Nat×Int):=(ai9 l.length).zip l
theorem Dl(l:List Int):tL (iL l)=(pairsOf l).map λq=>V.tup [.int q.1,.int q.2]:=by unfold tL pairsOf iL;(rewrite[acx];refine aa List.zipWith_map_right ?_;rewrite[List.zip];exact aa List.map_zipWith rfl)
theorem pairs_len(l:List Int):(pairsOf l).length=l.length:=by simp[pairsOf]
theorem h_{α:Type}{l:List α}{i:Int}(h0:0<=i)(h1:i<l.length):cN l i=some (l[i.toNat]'((ag6 h0).mpr h1)):=by have:=iM (xs:=l) (n:=i.toNat) (abu ((ag6 h0).mpr h1));rwa[agg h0]at this
structure CellsOk(n B:Nat)(c:List Int):Prop where
 len:c.length=n
 lo:∀ x∈c,0<=x
 hi:∀ x∈c,x<=B
theorem FW(h:CellsOk n B c)(hn:0<n)(q:Nat×Int):CellsOk n (B+1000000) (jt n c q):=by
 have r1:=acf (q.1:Int) (b:=n) (af5.mpr hn);have r2:=ack (q.1:Int) (b:=n) (af5.mpr hn);have s1:=acf q.2 (b:=1000000) ((λ{a}=>aca.mp) rfl);have s2:=ack q.2 (b:=1000000) ((λ{a}=>aca.mp) rfl);have e:=h_ (l:=c) r1 (by exact aa h.len r2);have m:c[((q.1:Int).fmod n).toNat]'(by exact aa h.len ((λ{n}{z} h=>(ag6 h).mpr) r1 r2))∈c:=aj8 _;have m1:=h.lo _ m;have m2:=h.hi _ m;refine⟨by simp[jt,h.len],λx hx=> ?_,λx hx=> ?_⟩
 ·rcases ahf hx with q|rfl
  ·exact h.lo x q
  ·refine aa e ?_;simp only[aet];exact an6 m1 s1
 ·rcases ahf hx with q|rfl
  ·have:=h.hi x q;exact acr this (ac9.mpr (ab0 _ _))
  ·refine aa e ?_;simp only[aet];exact Int.add_le_add m2 (afl (ack _ (by decide)))
theorem zg(hn:0<n):∀{l:List (Nat×Int)}{c:List Int},CellsOk n B c->CellsOk n (B+1000000 * l.length) (l.foldl (jt n) c)
|[],c,h=>by simpa using h
|q::l,c,h=>by have:=zg hn (l:=l) (FW h hn q);(refine aa acd ?_;refine aa acv ?_);refine⟨this.len,this.lo,λx hx=> ?_⟩;have:=this.hi x hx;exact acr this (ac9.mpr (ab2 (by rw[Nat.mul_succ,ain,ah0 1000000])))
noncomputable def v9:List (Str×Int×Str×Str):=[(Mi ".c",1,Mi "x\"",Mi ".c:1(x\")"),(Mi "~",0,Mi "<b>",Mi "{b}"),(Mi "~",3,Mi "<x>",Mi "~:3(<x>)"),(Mi "~",0,Mi "<d",Mi "<d"),(Mi ".c",0,Mi "<x>",Mi ".c:0(<x>)"),(Mi "~",0,Mi "f>",Mi "f>")]
noncomputable def NZ(b:Str×Int×Str×Str):V:= .tup [.tup [.str b.1,.int b.2.1,.str b.2.2.1],.str b.2.2.2]
noncomputable def Uh:List V:=v9.map NZ
noncomputable def um:List Str:=v9.map λb=>b.2.2.2
theorem O9(G:Wr W p mg mb):∀ b∈v9,GC W (k+1) q (Mi "func_std_string") [.tup [.str b.1,.int b.2.1,.str b.2.2.1]] hp (.str b.2.2.2) hp:=by
 have pl:∀{a c y:Str}{n:Int},Xx a n c y->(acy a=true/\(V.tup [.str a,.int n]).eq (.tup [.str (Mi "~"),.int 0])=false)->GC W (k+1) q (Mi "func_std_string") [.tup [.str a,.int n,.str c]] hp (.str y) hp:=
  λh e=>gf G (by kernel_rfl) rfl (by kernel_rfl) (tY G h e.1 e.2)
 have nm:∀{c:Str},(agz c (Mi "<")&&(ah1 c (Mi ">")&&true))=false->GC W (k+1) q (Mi "func_std_string") [.tup [.str (Mi "~"),.int 0,.str c]] hp (.str c) hp:=
  λh=>gf G (by kernel_rfl) rfl (by kernel_rfl) (vm G (by unfold B_;decide +kernel) (by decide +kernel) h)
 intro b hb;simp only[v9,abx,adh,or_false]at hb;rcases hb with rfl|rfl|rfl|rfl|rfl|rfl
 ·exact pl ⟨by decide +kernel,λb t u1 u2 u3 d m l=>by kernel_rfl⟩ (by decide +kernel)
 ·exact gf G (by kernel_rfl) rfl (by kernel_rfl) (qU G (by decide +kernel) (by unfold B_;decide +kernel) (by decide +kernel) (by decide +kernel) (by decide +kernel) (λt u=>by kernel_rfl))
 ·exact pl ⟨by decide +kernel,λb t u1 u2 u3 d m l=>by kernel_rfl⟩ (by decide +kernel)
 ·exact nm (by decide +kernel)
 ·exact pl ⟨by decide +kernel,λb t u1 u2 u3 d m l=>by kernel_rfl⟩ (by decide +kernel)
 ·exact nm (by decide +kernel)
noncomputable abbrev Lt:=Int×Int×Int
structure Sy where
 text:Lt->Str
 quo:Lt->Str
 told:Int->Lt->V
noncomputable def m7(sd:Int):Str:=ad2 (Mi "pq") sd
noncomputable def wordOf(c:Int):Str:=(cN um (c - 1)).getD (Mi "")
noncomputable def sepS:Str:=Mi "\r\n.\r\n"
structure bf(l:Lt):Prop where
 k0:0<=l.1
 k1:l.1<=17
 kk0:0<=l.2.1
 kk1:l.2.1<2 ^ 50
 card:l.2.2∈six
inductive Shape(sd:Int)(l:Lt):V->Prop
|good {x:Str}:l.1<=8->Shape sd l (.tup [.str x,.tup [.str (m7 sd),.int l.2.2,.str (wordOf l.2.2)]])
|none {x:Str}:l.1=9->Shape sd l (.tup [.str x,.tup [.str (m7 sd),.int l.2.2,.str (Mi "")]])
|bad {x a b:Str}:10<=l.1->Shape sd l (.tup [.str x,.tup [.str a,.str b]])
structure mV(W:Wd)(S:Sy):Prop where
 let_:∀{sd:Int}{l:Lt}{hp:List Ob}{k:Nat},(sd=0\/sd=1)->bf l->hp.all (Ob.low hp.length)=true->Call W (k+1) true (.ref 312) [] [.int l.1,.int l.2.1,.str (m7 sd),.int l.2.2,.str (wordOf l.2.2)] hp (.tup [.str (S.text l),S.told sd l]) hp
 quo_:∀{l:Lt}{hp:List Ob}{k:Nat},bf l->Call W (k+1) true (.ref 155) [] [.str (S.text l)] hp (.str (S.quo l)) hp
 qlen:∀{l:Lt},bf l->(S.quo l).length<=2000
 read:∀{sd:Int}{l:Lt}{rest:Str}{hp:List Ob}{k:Nat},(sd=0\/sd=1)->bf l->rest.length<=50000->sJ W (k+2) true (.ref 317) [] [.str (S.quo l++sepS++rest),.str (m7 sd)] hp (.tup [.str rest,S.told sd l]) hp
 shape:∀{sd:Int}{l:Lt},(sd=0\/sd=1)->bf l->Shape sd l (S.told sd l)
 pl:∀{sd:Int}{l:Lt},(sd=0\/sd=1)->bf l->(S.told sd l).pl 6=true
noncomputable def wire(S:Sy):List Lt->Str
|[]=>Mi ""
|l::r=>S.quo l++sepS++wire S r
theorem qt:wire S []=Mi "" :=rfl
theorem qm:wire S (l::r)=S.quo l++sepS++wire S r:=rfl
theorem yg(x y:Str):(x++y).cps.toList=x.cps.toList++y.cps.toList:=by(rewrite[ag2];exact aa alr rfl)
theorem yf{x y:Str}(h:x.cps.toList=y.cps.toList):x=y:=by induction x using agy;induction y using agy;simp only[Str.mk.injEq];exact aj5.mp h
theorem JP(a b c:Str):a++b++c=a++(b++c):=yf (by simp only[yg,adb])
theorem S6(a:Str):Mi "" ++a=a:=yf (by(rewrite[yg];refine aa (show(Mi "").cps.toList=[] by decide +kernel) ?_);rfl)
theorem Pa(a:Str):a++Mi "" =a:=yf (by(rewrite[yg];refine aa (show(Mi "").cps.toList=[] by decide +kernel) ?_;rw[adv]))
theorem wD(S:Sy)(l:Lt):∀ Q:List Lt,wire S (Q++[l])=wire S Q++(S.quo l++sepS):=by intro ah;induction ah with
|nil=>simp only[aeg,qt,qm,S6,Pa]
|cons a Q ih=>simp only[adu,qt,qm,ih,JP]
theorem ph(H:mV W S):∀{Q:List Lt},(∀ l∈Q,bf l)->(wire S Q).length<=2005 * Q.length:=by intro ah;induction ah with
|nil=>intro _;simp only[qt,qm];decide +kernel
|cons a Q ih=>
  intro h;have h1:=ih λl hl=>h l (abl _ hl);have h2:=H.qlen (h a abq);have h3:sepS.length=5:=by decide +kernel
  simp only[qt,qm,str_len,acv];exact abj (adt (adt h2 (ab2 h3)) h1) (ab2 (ah0 _ _))
theorem yr(S:Sy)(l:Lt)(Q:List Lt):(wire S (l::Q) !=Mi "")=true:=by
 rw[bne_iff_ne];intro h;have:=congrArg akk h;have h3:sepS.length=5:=by decide +kernel
 have h4:(Mi "").length=0:=by decide +kernel
 simp only[qt,qm,str_len]at this;lia
noncomputable def Hb(S:Sy)(c:List Int)(Q0 Q1:List Lt)(D:List Int)(R:List (Str×Str)):List Ob:=
 [.tab 75 #[],.list (iL c),.list Uh,.list [.str (wire S Q0),.str (wire S Q1)],.list (Q0.map (S.told 0)),.list (Q1.map (S.told 1)),.list [.ref 4,.ref 5],.list (iL D),.list [],.ns [Mi "_headers"] [.ref 10],.list (bD R)]
theorem JH{sd:Int}(h:Shape sd l v):v.low n=true:=by cases h<;>rfl
theorem v8(H:mV W S){sd:Int}(fk:sd=0\/sd=1):∀{Q:List Lt},(∀ l∈Q,bf l)->lows n (Q.map (S.told sd))=true:=by intro ah;induction ah with
|nil=>intro _;exact rfl
|cons a Q ih=>intro h;simp only[ab3,gw,lows_cons,ab1];exact⟨JH (H.shape fk (h a abq)),ih λl hl=>h l (abl _ hl)⟩
theorem ud(H:mV W S)(h0:∀ l∈Q0,bf l)(h1:∀ l∈Q1,bf l):(Hb S c Q0 Q1 D R).all (Ob.low (Hb S c Q0 Q1 D R).length)=true:=by have a0:=v8 H (.inl rfl) (n:=11) h0;have a1:=v8 H (.inr rfl) (n:=11) h1;have a2:=v6 (n:=11) c;have a3:=v6 (n:=11) D;have a4:=v7 (n:=11) R;refine(?_:(Hb S c Q0 Q1 D R).all (Ob.low 11)=true);simp only[Hb,age,List.all_nil,jB,rO,oV,rP,oW,gw,lows_cons,oF,lw,mz,mC,oG,ue,pU,oH,lz,iL,a0,a1,a2,a3,a4,ahk,aim];decide
noncomputable def gH(bX card:Int):Int:=if card<=bX then 0 else 1
noncomputable def kindsOf(k:Int):List Int:=(if k.fmod 4=0 then[(k.fdiv 4).fmod 9+9]else[])++[(k.fdiv 36).fmod 9]
noncomputable def push(sd:Int)(q:List Lt×List Lt)(l:Lt):List Lt×List Lt:=if sd=0 then(q.1++[l],q.2)else(q.1,q.2++[l])
noncomputable def fj(c:List Int)(card:Int):Int:=(cN c (card - 1)).getD 0
noncomputable def bV(c:List Int)(bX:Int)(q:List Lt×List Lt)(card:Int):List Lt×List Lt:=(kindsOf (fj c card)).foldl (λq kd=>push (gH bX card) q (kd,(fj c card).fdiv 324,card)) q
noncomputable def dM(bX:Int):List Int:=e_ bX 0 (-1)++e_ (bX+1) 7 1
theorem v4(k:Int):(kindsOf k).length<=2:=by unfold kindsOf;split<;>simp
theorem kinds_ok{k kd:Int}(h:kd∈kindsOf k):0<=kd/\kd<=17:=by
 have a1:=acf (k.fdiv 4) (b:=9) ((λ{a}=>aca.mp) rfl);have a2:=ack (k.fdiv 4) (b:=9) ((λ{a}=>aca.mp) rfl);have b1:=acf (k.fdiv 36) (b:=9) ((λ{a}=>aca.mp) rfl);have b2:=ack (k.fdiv 36) (b:=9) ((λ{a}=>aca.mp) rfl);unfold kindsOf at h;rcases ad9.mp h with q|q
 ·split at q
  ·rw[ace]at q;(subst q;exact⟨an6 a1 (by decide),alf (alg (ack (k.fdiv 4) (by decide:(0:Int)<8+1))) 9⟩)
  ·cases q
 ·rw[ace]at q;(subst q;exact⟨acf _ (by decide),acr (afl (ack _ (by decide))) (by decide)⟩)
theorem pH{bX:Int}(h:0<=bX/\bX<=6):bX=0\/bX=1\/bX=2\/bX=3\/bX=4\/bX=5\/bX=6:=pP (n:=7) (P:=λx=>x=0\/x=1\/x=2\/x=3\/x=4\/x=5\/x=6) h.1 (agc h.2) (by decide)
theorem vL{bX:Int}(h:0<=bX/\bX<=6):(∀ x∈dM bX,x∈six)/\(dM bX).length=6:=by rcases pH h with rfl|rfl|rfl|rfl|rfl|rfl|rfl<;>decide +kernel
noncomputable def B0(ns:List Int)(m:Int)(dk:V):aj:=[some (.lst (iL ns)),some (.ref 1),some (.int ((m.fdiv 21).fmod 6)),none,some (.int (m.fmod 7)),some (.int ((m.fdiv 7).fmod 3)),some (.ref 2),some (.lst (sL um)),some (.ref 3),some (.ref 6),some dk,some (.ref 8),some (.iref 301 9)]
noncomputable def cellsOf(ns c:List Int):List Int:=(pairsOf (pick ns none (some 60))).foldl (jt 8) c
theorem X_(G:Wr W p mg mb)(fh:ns.length<=63)(hc:CellsOk 8 10000 c){m:Int}(hm:cN (cellsOf ns c) 6=some m)(cc:CellsOk 8 (2 ^ 40) (cellsOf ns c))(hr:iT (hd.heap_39 p) 344=some r){P:aj->List Ob->List Stmt->Prop}(st:∀{env hp s e h l},Ex W (cH r.1 59 true) env hp s (.next e h)->P e h l->P env hp (s::l))
  (H:P (B0 ns m (.ref 7)) (Hb S (cellsOf ns c) [] [] [] []) (r.2.drop 7)):P [some (.lst (iL ns)),some (.ref 1)] [.tab 75 #[],.list (iL c)] (r.2.drop 1):=by
 cases hr;have cw:=gA ns none (some 60);have em:∀ h,Qk W h (.lst (iL ns)) none (some 60) (.lst (iL (pick ns none (some 60)))):=λh=>Hf ns none (some 60)▸jX .lst (by simp[iL];exact abj fh (abz _ _));have e6:(10:Int) ^ (6:Int).toNat=1000000:=by decide
 have qf:m∈cellsOf ns c:=(adi.mp hm).elim λj z=>acq z.2;have m1:=cc.lo m qf;have m2:=cc.hi m qf;have ms:m.natAbs<2 ^ 60:=Jo m1 m2;have it:Itm W [.tab 75 #[],.list (iL (cellsOf ns c))] (.ref 1) (.int 6) (.int m):=aF (.ref rfl) (g_ hm) (by have:=cc.len;simp[iL];lia);refine Hh (q:=[.o _,.v _,.v _,.v _,.i,.r _ _,.v (.lst (sL um)),.i,.i,.i,.i,.i,.i,.r _ _]) 6 12 st (.step (b7 (emb:=λq:Nat×Int=>V.tup [.int q.1,.int q.2]) (xs:=pairsOf (pick ns none (some 60))) (P:=λi c=>CellsOk 8 (10000+1000000 * i) c) (s:=c) (f:=jt 8) (en:=λ_=>[some (.lst (iL ns)),some (.ref 1)]) (hq:=λc=>[.tab 75 #[],.list (iL c)]) rfl
   (VP (Dl _) (O7 eQ rfl (Rz G (aL rfl)) (lJ (q:=[.v (.lst (iL (pick ns none (some 60))))]) 9 (.step (em _)<| .last ⟨rfl,rfl⟩ rfl)) (Ni .lst))) .lst hc λi c q hi hP hq=> ?_)<|
  .step it<| .step (by decide:(7:Int)≠0)<| .step it<| .step ⟨by decide,ms,by decide⟩<| .step (by decide:(3:Int)≠0)<| .step it<| .step ⟨by decide,ms,by decide⟩<| .step (by decide:(6:Int)≠0)<|
  .step (n_ rfl .lst (abk rfl))<| .step (fG (emb:=NZ) (g:=λb=> .str b.2.2.2) (xs:=v9) (by kernel_rfl) rfl (bj (q:=[]) 9 (.last ⟨zY rfl,rfl⟩ rfl)) rfl (by decide) aei λb hb=>jy (q:=[.v _]) 9 (.step (O9 G b hb)<| .last ⟨rfl,rfl,rfl,rfl⟩ rfl))<|
  .step (TQ G)<| .last H rfl)
 have hl:=hP.len;have r1:=acf (q.1:Int) (b:=8) (adg _);have r2:=ack (q.1:Int) (b:=8) (adg _);have fp:=h_ (l:=c) r1 (by(rw[hl];exact ack _ (by decide)));exact⟨cC (q:=[.v (.int ((cN c ((q.1:Int).fmod 8)).getD 0)),.h _]) 9 .lst (.step (by decide:(8:Int)≠0)<| .step (aF (.ref rfl) (by rw[iL,g_ fp,fp];rfl) (by simp[iL];lia))<| .step ⟨by decide,by decide +kernel⟩<| .step (by decide:(10:Int) ^ (6:Int).toNat≠0)<|
  .step (lL (j:=0) rfl r1 (by simp[iL];(rw[hl];exact ack _ (by decide))) (by simp[iL];lia))<| .last ⟨rfl,by simp[jt,iL,List.map_set,e6]⟩ rfl),by have:=FW hP (by decide) q;rw[show 10000+1000000 * (i+1)=10000+1000000 * i+1000000 by lia];exact this⟩
end
section
structure PV(n:Nat)(q:List Lt×List Lt):Prop where
 v0:∀ l∈q.1,bf l
 v1:∀ l∈q.2,bf l
 ln:q.1.length+q.2.length<=n
theorem PV.push(h:PV n q)(sd:Int)(hl:bf l):PV (n+1) (push sd q l):=by
 have h2:=h.ln;unfold Internal.push
 split
 ·exact⟨akm.mpr ⟨h.v0,λx hx=>ace.mp hx▸hl⟩,h.v1,by simp;exact abj (ab2 (aou ..)) (adc h2)⟩
 ·exact⟨h.v0,akm.mpr ⟨h.v1,λx hx=>ace.mp hx▸hl⟩,by simp;exact Nat.le_add_of_sub_le h2⟩
theorem PV.fold{f:Int->Lt}(sd:Int):∀{ks:List Int}{n:Nat}{q:List Lt×List Lt},PV n q->(∀ k∈ks,bf (f k))->PV (n+ks.length) (ks.foldl (λq k=>Internal.push sd q (f k)) q):=by intro ah;induction ah with
|nil=>intro _ _ h _;exact h
|cons k ks ih=>intro n q h g;have:=ih (h.push sd (g k abq)) λx hx=>g x (abl _ hx);rw[acv,show n+(ks.length+1)=n+1+ks.length by exact ach (ab9 n ks.length)];exact this
theorem GD{sd:Int}(h:sd=0\/sd=1):Itm W hp (.str (Mi "pq")) (.int sd) (.str (m7 sd)):=by rcases h with rfl|rfl<;>exact oA (by decide +kernel) (by decide +kernel) (by decide +kernel)
theorem SQ(bX card:Int):gH bX card=0\/gH bX card=1:=by unfold gH;split<;>decide
theorem HD{card:Int}(h:card∈six):∃ u,cN Uh (card - 1)=some (.tup [u,.str (wordOf card)])/\cN (sL um) (card - 1)=some (.str (wordOf card)):=by
 have:card=1\/card=2\/card=3\/card=4\/card=5\/card=6:=by simp[six]at h;assumption
 rcases this with rfl|rfl|rfl|rfl|rfl|rfl<;>exact⟨_,rfl,rfl⟩
theorem QS{bX:Int}(h:0<=bX/\bX<=6):(aeo bX 0 (-1)=true/\acl bX 0 (-1)<=16777216/\0<=acl bX 0 (-1))/\(aeo (bX+1) 7 1=true/\acl (bX+1) 7 1<=16777216/\0<=acl (bX+1) 7 1)/\(e_ bX 0 (-1)).length+(e_ (bX+1) 7 1).length<=16777216:=by rcases pH h with rfl|rfl|rfl|rfl|rfl|rfl|rfl<;>decide +kernel
theorem Jg(k:Int):(if(k.fmod 4==0)=true then V.lst [.int ((k.fdiv 4).fmod 9+9)]else .lst [])= .lst (iL (if k.fmod 4=0 then[(k.fdiv 4).fmod 9+9]else[])):=by
 simp only[beq_iff_eq]
 split<;>rfl
theorem SN:sepS.length=5:=by decide +kernel
set_option maxHeartbeats 4000000 in
theorem Yb(G:Wr W p mg mb)(H:mV W S){m:Int}(gy:0<=m.fmod 7/\m.fmod 7<=6)(hc:CellsOk 8 (2 ^ 40) c)(hr:iT (hd.heap_39 p) 344=some r){P:aj->List Ob->List Stmt->Prop}(st:∀{env hp s e h l},Ex W (cH r.1 59 true) env hp s (.next e h)->P e h l->P env hp (s::l))
  (Z:P (B0 ns m (.ref 7)) (Hb S c ((dM (m.fmod 7)).foldl (bV c (m.fmod 7)) ([],[])).1 ((dM (m.fmod 7)).foldl (bV c (m.fmod 7)) ([],[])).2 [] []) (r.2.drop 8)):P (B0 ns m (.ref 7)) (Hb S c [] [] [] []) (r.2.drop 7):=by
 cases hr;obtain⟨CC,cc⟩:=vL gy;obtain⟨q1,q2,q3⟩:=QS gy;have q4:((e_ (m.fmod 7) 0 (-1)).map V.int).length+((e_ (m.fmod 7+1) 7 1).map V.int).length<=16777216:=by simpa using q3
 have ga:=hc.len;refine Hh (q:=[.o _]) 1 12 st (.step (b7 (emb:=V.int) (xs:=dM (m.fmod 7)) (P:=λi s=>PV (2 * i) s) (s:=(([],[]):List Lt×List Lt)) (f:=bV c (m.fmod 7)) (en:=λ_=>B0 ns m (.ref 7)) (hq:=λs=>Hb S c s.1 s.2 [] []) rfl
   (bj (q:=[.v _,.v _,.v _,.v _]) 9 (.step (dg G (gj (by decide) (gU (by decide))))<| .step (jd G (bJ q1.1 q1.2.1 q1.2.2))<| .step (dg G gh)<| .step (jd G (bJ q2.1 q2.2.1 q2.2.2))<| .step q4<| .last ⟨xJ (by simp[dM]),rfl⟩ rfl)) trivial
   ⟨nofun,nofun,abm _⟩ λi s card hi hs nK=> ?_)<| .last Z rfl)
 have l7:=CC card nK;have i4:1<=card/\card<=6:=yc l7;have pf:card - 1<(c.length:Int):=by rw[ga];exact ad1 (Int.sub_le_self card (by decide)) (ad1 i4.2 (by decide))
 have se:=h_ (l:=c) (i:=card - 1) (aiq i4.1) pf;have kg:fj c card=c[(card - 1).toNat]'((ag6 (aiq i4.1)).mpr pf):=by rw[fj,se];rfl
 have pT:fj c card∈c:=kg▸aj8 _;have ka:=hc.lo _ pT;have fS:=hc.hi _ pT;have zw:Itm W (Hb S c s.1 s.2 [] []) (.ref 1) (.int (card - 1)) (.int (fj c card)):=aF (.ref rfl) (by rw[kg];exact g_ se) (by simp[iL];lia);obtain⟨k,hk⟩:∃ k,fj c card=k:=⟨_,rfl⟩;have DL:bV c (m.fmod 7) s card=(kindsOf k).foldl (λq kd=>push (gH (m.fmod 7) card) q (kd,k.fdiv 324,card)) s:=by rw[←hk];rfl
 rw[hk]at zw ka fS;rw[DL];have ij:k.natAbs<2 ^ 60:=Jo ka fS;have CF:0<=k.fdiv 324:=anp ka (by decide);have po:k.fdiv 324<2 ^ 50:=by rw[ajk _ (by decide)];exact ad1 (am7 _ ka) (ad1 fS (by decide))
 have hv:∀ kd∈kindsOf k,bf (kd,k.fdiv 324,card):=λkd sj=>⟨(kinds_ok sj).1,(kinds_ok sj).2,CF,po,l7⟩;have hO:=v4 k;obtain⟨u,-,hword⟩:=HD l7;have fk:=SQ (m.fmod 7) card;have og:V.tup [if decide (card<=m.fmod 7)=true then .int 0 else .int 1,.int k]= .tup [.int (gH (m.fmod 7) card),.int k]:=by simp only[gH,decide_eq_true_eq];split<;>rfl
 have mP:(iL (if k.fmod 4=0 then[(k.fdiv 4).fmod 9+9]else[])).length+[V.int ((k.fdiv 36).fmod 9)].length<=16777216:=by simp only[iL];split<;>simp
 have i5:i<6:=cc▸hi;have eK:=PV.fold (f:=λkd=>(kd,k.fdiv 324,card)) (gH (m.fmod 7) card) hs hv;refine⟨cC (q:=[.i,.v _,.c _,.o _]) 12 trivial (.step ⟨rfl,rfl⟩<| .step zw<| .step og<| .step (b7 (emb:=V.int) (xs:=kindsOf k) (P:=λj s=>PV (2 * i+j) s) (s:=s) (f:=λq kd=>push (gH (m.fmod 7) card) q (kd,k.fdiv 324,card))
   (en:=λ_=>B0 ns m (.ref 7)++[some (V.int card),some (V.int (gH (m.fmod 7) card)),some (V.int k)]) (hq:=λs=>Hb S c s.1 s.2 [] []) rfl (bj (q:=[.i,.d _]) 9 (.step (by decide:(4:Int)≠0)<| .step ⟨by decide,ij,by decide⟩<| .step (by decide:(9:Int)≠0)<| .step ⟨rfl,rfl⟩<| .step (Jg k)<| .step ⟨by decide,ij,by decide⟩<| .step (by decide:(9:Int)≠0)<|
    .step mP<| .last ⟨xJ (by simp[kindsOf,iL]),rfl⟩ rfl)) trivial hs λj s kd hj hs sj=> ?_)<| .last ⟨rfl,rfl⟩ rfl),⟨eK.v0,eK.v1,abj eK.ln (acs hO _)⟩⟩
 have om:=hv kd sj;have As:=ph H hs.v0;have sM:=ph H hs.v1;have cw:=hs.ln;have kX:=H.qlen om;have wo:(S.quo (kd,k.fdiv 324,card)++sepS).length<=2005:=by rw[str_len,SN];exact ab8 kX _
 have zC:(S.quo (kd,k.fdiv 324,card)++sepS).length<=16777216:=abj wo (by decide);refine⟨?_,hs.push _ om⟩;obtain⟨P0,P1⟩:=s;generalize gH (m.fmod 7) card=sd at fk ⊢;dsimp only at cw As sM;have kC:P0.length+P1.length<=2 * 6+2:=abj cw (adt (acu 2 (ac1 (cc▸hi))) (ac1 (aby hj hO)));have a0:(wire S P0).length+(S.quo (kd,k.fdiv 324,card)++sepS).length<=16777216:=Um (abj As (acu 2005 (abj (ab0 _ _) kC))) wo rfl;have a1:(wire S P1).length+(S.quo (kd,k.fdiv 324,card)++sepS).length<=16777216:=Um (abj sM (acu 2005 (abj (abz _ _) kC))) wo rfl;have b0:(P0.map (S.told 0)).length<=16777216:=by rw[acx];exact tl (abj (ab0 _ _) kC) rfl
 have b1:(P1.map (S.told 1)).length<=16777216:=by rw[acx];exact tl (abj (abz _ _) kC) rfl
 rcases fk with rfl|rfl
 ·exact cC (q:=[.v _,.v _,.v _,.v _,.v _,.v _,.h _,.v _,.r _ _]) 12 trivial (.step ⟨by decide,ij,by decide⟩<| .step (GD (.inl rfl))<| .step (aF .lst hword (by decide))<| .step (gf G (by kernel_rfl) rfl (by kernel_rfl) (H.let_ (.inl rfl) om (ud H hs.v0 hs.v1)))<|
   .step (aF (.ref rfl) rfl (abk rfl))<| .step (gf G (by kernel_rfl) rfl (by kernel_rfl) (H.quo_ om))<| .step zC<| .step (qF a0)<| .step (lL (j:=0) rfl (by decide) (by simp) (abk rfl))<|
   .step (aF (.ref rfl) rfl (abk rfl))<| .step (dJ rfl rfl b0)<| .last ⟨rfl,by simp[Hb,push,wD,sepS]⟩ rfl)
 ·exact cC (q:=[.v _,.v _,.v _,.v _,.v _,.v _,.h _,.v _,.r _ _]) 12 trivial (.step ⟨by decide,ij,by decide⟩<| .step (GD (.inr rfl))<| .step (aF .lst hword (by decide))<| .step (gf G (by kernel_rfl) rfl (by kernel_rfl) (H.let_ (.inr rfl) om (ud H hs.v0 hs.v1)))<|
   .step (aF (.ref rfl) rfl (abk rfl))<| .step (gf G (by kernel_rfl) rfl (by kernel_rfl) (H.quo_ om))<| .step zC<| .step (qF a1)<| .step (lL (j:=0) rfl (by decide) (ao2 rfl) (abk rfl))<|
   .step (aF (.ref rfl) rfl (abk rfl))<| .step (dJ rfl rfl b1)<| .last ⟨rfl,by simp[Hb,push,wD,sepS]⟩ rfl)
end
section
theorem uO:(six.all λc=>vW (wordOf c)&&(wordOf c !=Mi ""))=true:=by decide +kernel
theorem wG{c:Int}(h:c∈six):gY (wordOf c):=by have:=ab7.mp uO c h;simp only[ab1]at this;exact rC this.1
theorem HF{c:Int}(h:c∈six):(wordOf c !=Mi "")=true:=by have:=ab7.mp uO c h;simp only[ab1]at this;exact this.2
noncomputable def cY(D:List Int):List (Str×Str):=D.map λc=>(wordOf c,bN c)
noncomputable def cX(Q0 Q1:List Lt)(sd:Int):Int:=if sd=0 then(if Q0.isEmpty then 1 else 0)else(if Q1.isEmpty then 0 else 1)
noncomputable def j7(D:List Int)(l:Lt):List Int:=if l.1<=8 then D++[l.2.2]else D
noncomputable abbrev Qf:=List Lt×List Lt×List Int
noncomputable def jF(sd:Int)(s:Qf):Qf:=
 if sd=0 then(match s.1 with|[]=>s|l::r=>(r,s.2.1,j7 s.2.2 l))else(match s.2.1 with|[]=>s|l::r=>(s.1,r,j7 s.2.2 l))
noncomputable def bitAt(c7 t:Int):Int:=(c7.fdiv (2 ^ (t.fmod 20).toNat)).fmod 2
noncomputable def bA(c7:Int)(s:Qf)(t:Int):Qf:=jF (cX s.1 s.2.1 (bitAt c7 t)) s
theorem uN(S:Sy):(wire S [] !=Mi "")=false:=by simp only[qt,qm];decide +kernel
theorem JX(S:Sy)(Q:List Lt):(wire S Q !=Mi "")= !Q.isEmpty:=by induction Q using abn with
|nil=>rw[uN];rfl
|cons l r=>rw[yr];rfl
structure J9(i:Nat)(s:Qf):Prop where
 v0:∀ l∈s.1,bf l
 v1:∀ l∈s.2.1,bf l
 ln:s.1.length+s.2.1.length<=20
 d:∀ c∈s.2.2,c∈six
 dl:s.2.2.length<=i
theorem Fp(hd:∀ c∈D,c∈six)(hl:D.length<=i)(hv:bf l):(∀ c∈j7 D l,c∈six)/\(j7 D l).length<=i+1:=by
 unfold j7
 split
 ·refine⟨λc hc=> ?_,by simp;assumption⟩;rcases ad9.mp hc with h|h
  ·exact hd c h
  ·exact aa (ace.mp h) hv.card
 ·exact⟨hd,by exact aek hl⟩
theorem XM(sd:Int)(h:J9 i s):J9 (i+1) (jF sd s):=by
 obtain⟨Q0,Q1,D⟩:=s;unfold jF;dsimp only
 split
 ·induction Q0 using abn with
 |nil=>exact⟨h.v0,h.v1,h.ln,h.d,by have:=h.dl;dsimp only at this ⊢;exact aek this⟩|cons l r=>have a:=Fp h.d h.dl (h.v0 l abq);exact⟨λx hx=>h.v0 x (abl _ hx),h.v1,by have:=h.ln;simp only[acv]at this ⊢;exact abj (ab8 (acg _) _) this,a.1,a.2⟩
 ·induction Q1 using abn with
 |nil=>exact⟨h.v0,h.v1,h.ln,h.d,by have:=h.dl;dsimp only at this ⊢;exact aek this⟩|cons l r=>have a:=Fp h.d h.dl (h.v1 l abq);exact⟨h.v0,λx hx=>h.v1 x (abl _ hx),by have:=h.ln;simp only[acv]at this ⊢;exact adz this,a.1,a.2⟩
theorem kZ(h:bh ag env):cU W fc env hp [] (.next ag hp):= .mk λcx g s Q E P t0 hQ=>wpAny_execs_nil (hQ g s .next ⟨rfl,.refl ..,P.weaken h,.refl _⟩)
theorem Ol{n:Int}(h0:0<=n)(h1:n<20):(ahg 2:Int) * n<=2 ^ 27:=by
 have:(ahg 2:Int)=2:=by decide +kernel
 refine aa this ?_;exact acr (Int.mul_le_mul_of_nonneg_left (afl h1) (by decide)) (by decide)
theorem I8{fc:FC}{hp:List Ob}{ok:List Ob->Prop}{σ β:Type}{emb:β->V}{P:Nat->σ->Prop}{f:σ->β->σ}{en:σ->aj}{hq:σ->List Ob}{xs:List β}{s:σ}{tup:Bool}{ac iter:Expr}{body:List Stmt}{pos:Pos}(st:zR fc tup ac iter=true)(aS:Src W fc (en s) hp iter (hq s) ok tup (xs.map emb))(aT:ok (hq s))(hP:P 0 s)
  (H:∀ i s b,i<xs.length->P i s->b∈xs->vG W fc ok ac body (en s) (hq s) (emb b) (en (f s b)) (hq (f s b))/\P (i+1) (f s b)):Qi W fc (en s) hp (.For ac iter body [] pos) (.next (en (xs.foldl f s)) (hq (xs.foldl f s))):=by
 have w:=abo.mp st;have z:=abo.mp w.1;exact Ra z.1 (d7 z.2) w.2 aS aT (dF.foldM hP H)
theorem Uk(n:Nat)(h:eE 0 (nR W fc n t v env hp q λe h _=>[e=ag/\h=hp'])):gW W fc env hp t v ag hp':=fV h λe h' _ a g=>g.1.1▸g.1.2▸a
theorem jw(e:b=a)(h:a.pl 6=true):j9 W hp .Eq a b true:=by subst e;exact bO .same .same h h (by simp)
theorem pX(h1:hp₁[i]? =some (.list zs))(hi:hp[i]? =some (.list xs))(hl:xs.length<=16777216):Mt W k b hp₁ (.ref i) (Mi "extend") [] [.lst []] [] hp .none hp:=by
 have h:=Aa (W:=W) (k:=k) (b:=b) h1 hi (.lst (xs:=[])) (show xs.length+0<=_ from hl);rw[adv]at h;obtain⟨h1,h2⟩:=abw.mp hi;have e:hp.set i (.list xs)=hp:=by rw[←h2,aif]
 rw[e]at h;exact h
theorem lY(m:mask e' e=e')(q:h'=h):cU W fc e h [] (.next e' h'):=q▸kZ (aZ m)
set_option maxHeartbeats 4000000 in
theorem Yc(G:Wr W p mg mb)(H:mV W S){m:Int}(hc:CellsOk 8 (2 ^ 40) c){c7:Int}(h7:cN c 7=some c7)(h8:J9 0 (Q0,Q1,[]))(hr:iT (hd.heap_39 p) 344=some r)
  (Z:gJ W (cH r.1 59 true) (B0 ns m (.ref 7)) (Hb S c ((e_ 0 24 1).foldl (bA c7) (Q0,Q1,[])).1 ((e_ 0 24 1).foldl (bA c7) (Q0,Q1,[])).2.1 ((e_ 0 24 1).foldl (bA c7) (Q0,Q1,[])).2.2 (cY ((e_ 0 24 1).foldl (bA c7) (Q0,Q1,[])).2.2)) (r.2.drop 9) o):gJ W (cH r.1 59 true) (B0 ns m (.ref 7)) (Hb S c Q0 Q1 [] []) (r.2.drop 8) o:=by
 cases hr;have yY:c7∈c:=(adi.mp h7).elim λj z=>acq z.2;have BY:=hc.lo _ yY;have B4:=hc.hi _ yY;have cc:=hc.len;have yT:(e_ 0 24 1).length=24:=by decide +kernel
 refine cL (I8 (emb:=V.int) (xs:=e_ 0 24 1) (P:=λi s=>J9 i s) (s:=((Q0,Q1,[]):Qf)) (f:=bA c7) (en:=λ_=>B0 ns m (.ref 7)) (hq:=λs=>Hb S c s.1 s.2.1 s.2.2 (cY s.2.2)) rfl (bj (q:=[.v _]) 9 (.step (dg G kI)<| .last ⟨gR (by decide +kernel),rfl⟩ rfl)) trivial h8 λi s t hi hI ht=>⟨?_,XM _ hI⟩) Z;obtain⟨Q0,Q1,D⟩:=s;have ol:=hI.v0;have sF:=hI.v1;have eJ:=hI.ln;have hD:=hI.d;have r9:=hI.dl;dsimp only at ol sF eJ hD r9;have k8:=acf t (b:=20) ((λ{a}=>aca.mp) rfl);have Ap:=ack t (b:=20) ((λ{a}=>aca.mp) rfl);have wn:(2:Int) ^ (t.fmod 20).toNat≠0/\c7.natAbs<2 ^ 60/\((2:Int) ^ (t.fmod 20).toNat).natAbs<2 ^ 60:=by have hn:(t.fmod 20).toNat<20:=(λ{n}{z} h=>(ag6 h).mpr) k8 Ap;refine⟨Int.pow_ne_zero (by decide),by exact Jo BY (acr B4 (by decide)),?_⟩;rw[Int.natAbs_pow];exact acj (Nat.pow_le_pow_right (by decide) (ac1 hn)) (by decide)
 have pe:bitAt c7 t=0\/bitAt c7 t=1:=by have a:=acf (c7.fdiv (2 ^ (t.fmod 20).toNat)) (b:=2) ((λ{a}=>aca.mp) rfl);have b:=ack (c7.fdiv (2 ^ (t.fmod 20).toNat)) (b:=2) ((λ{a}=>aca.mp) rfl);unfold bitAt;exact aho (c7.fdiv (2 ^ (t.fmod 20).toNat))
 have u8:∀ b:Int,b=0\/b=1->Itm W (Hb S c Q0 Q1 D (cY D)) (.ref 3) (.int b) (.str (wire S (if b=0 then Q0 else Q1))):=by rintro b (rfl|rfl)<;>exact aF (.ref rfl) rfl (abz _ _)
 have qv:(if(wire S (if bitAt c7 t=0 then Q0 else Q1) !=Mi "")=true then V.int (bitAt c7 t)else .int (1 - bitAt c7 t))= .int (cX Q0 Q1 (bitAt c7 t)):=by rw[JX];rcases pe with e|e<;>rw[e]<;>simp[cX]<;>split<;>simp_all
 have CD:Itm W (Hb S c Q0 Q1 D (cY D)) (.ref 1) (.int 7) (.int c7):=aF (.ref rfl) (g_ h7) (by simp[iL];lia);have yi:(Mi "" !=Mi "")=false:=by decide +kernel
 have ej:(cY D).length<=1000:=by simp[cY];exact tl (abj r9 (ac1 (yT▸hi))) rfl
 have gd:(iL D).length<=16777216:=by simp[iL];exact tl (abj r9 (ac1 (yT▸hi))) rfl
 refine vG.mk (Fz (cT rfl)) (e₂:=B0 ns m (.ref 7)) (Hh (q:=[.v _,.v _,.i,.d _]) 2 12 (P:=λe h l=>gJ W _ e h l _) (λx y=>cL x.c y) (.step CD<| .step (by decide:(20:Int)≠0)<| .step ⟨k8,Ol k8 Ap⟩<| .step wn<| .step (by decide:(2:Int)≠0)<| .step (u8 _ pe)<| .step ⟨rfl,rfl⟩<| .step qv<| .last ?_ rfl)) trivial (aZ rfl);have fk:cX Q0 Q1 (bitAt c7 t)=0\/cX Q0 Q1 (bitAt c7 t)=1:=by unfold cX;split<;>split<;>decide
 unfold bA;dsimp only;generalize cX Q0 Q1 (bitAt c7 t)=sd at fk ⊢;rcases fk with rfl|rfl
 ·induction Q0 using abn with
 |nil=>exact cL (zH (Hm (q:=[]) 9 (.last ⟨uN S,rfl⟩ rfl)) xm.c) (kZ (aZ rfl)).c|cons l r=>
   have hv:=ol l abq;have rd:∀ x∈r,bf x:=λx hx=>ol x (abl _ hx);have oo:=ph H (Q:=r) rd;simp only[acv]at eJ;have K:=pR (n:=1) (by decide) hv.card;have h1:(r.map (S.told 0)).length+1<=16777216:=by simp;exact tl (abj (abj (acg _) (ab0 _ _)) eJ) rfl
   have mI:=H.shape (sd:=0) (.inl rfl) hv;refine cL (Mq (Hm (q:=[]) 9 (.last ⟨yr S l r,rfl⟩ rfl)) (cL (Gi rfl rfl rfl (zz (lr G rfl (by kernel_rfl)) rfl (G.top (by kernel_rfl) (aL rfl)) (lJ (q:=[.v _,.v _]) 9 (.step (aF (.ref rfl) rfl (abk rfl))<| .step (GD (.inl rfl))<| .last ⟨rfl,rfl⟩ rfl)) (H.read (.inl rfl) hv (tl (abj oo (acu 2005 (abj (abj (acg _) (ab0 _ _)) eJ))) rfl)))
    (Uk (q:=[.h _]) 9 (.step (.it (lL (j:=0) rfl (by decide) (Int.ofNat_succ_pos [V.str (wire S Q1)].length) (abk rfl)))<| .last ⟨rfl,rfl⟩ rfl))) (cU.c (o:= .next (B0 ns m (.ref 7)) (Hb S c (jF 0 (l::r,Q1,D)).1 (jF 0 (l::r,Q1,D)).2.1 (jF 0 (l::r,Q1,D)).2.2 (cY (jF 0 (l::r,Q1,D)).2.2))) ?_))) (kZ (aZ rfl)).c
   have cw:=H.pl (sd:=0) (.inl rfl) hv;generalize iP:S.told 0 l=tv at mI cw ⊢;have hA:∀{hp:List Ob},hp=Hb S c r Q1 D (cY D)->HA hp 9 10 (cY D):=λe=>e▸⟨rfl,rfl,ej⟩;cases mI with
  |good h8=>
    have hW:j7 D l=D++[l.2.2]:=if_pos h8;exact j6 (q:=[.r _ _,.b _,.r _ _,.r _ _,.b _,.b _,.r _ _,.r _ _,.r _ _]) 2 12 (.step (pY rfl rfl h1)<| .step (jw iP cw)<| .step (pX (xs:=[]) rfl rfl (ac4 _))<| .step (jn G (di (abk rfl)))<| .step rfl<| .step (HF hv.card)<| .step (jo G (du _ hv.card))<|
     .step (lC G (by kernel_rfl) rfl (by kernel_rfl) (hA rfl).hi (by decide +kernel) (Gw G (hA rfl) (wG hv.card) (abj K.sl (by decide)) K.sv (ud H rd sF)))<| .step (dJ rfl rfl gd)<| .last (lY rfl ((congrArg (λz=>Hb S c r Q1 z (cY z)) hW).trans (by simp only[Hb,cY,iL,af4];rfl))) rfl)
  |none h9=>have hW:j7 D l=D:=if_neg (by lia);exact j6 (q:=[.r _ _,.b _,.r _ _,.r _ _,.b _,.b _]) 2 12 (.step (pY rfl rfl h1)<| .step (jw iP cw)<| .step (pX (xs:=[]) rfl rfl (ac4 _))<| .step (jn G (di (abk rfl)))<| .step rfl<| .step yi<| .last (lY rfl (congrArg (λz=>Hb S c r Q1 z (cY z)) hW)) rfl)|bad kK=>have hW:j7 D l=D:=if_neg (by lia);exact j6 (q:=[.r _ _,.b _,.r _ _,.r _ _]) 2 12 (.step (pY rfl rfl h1)<| .step (jw iP cw)<| .step (pX (xs:=[]) rfl rfl (ac4 _))<| .step (jn G (di (abk rfl)))<| .last (lY rfl (congrArg (λz=>Hb S c r Q1 z (cY z)) hW)) rfl)
 ·induction Q1 using abn with
 |nil=>exact cL (zH (Hm (q:=[]) 9 (.last ⟨uN S,rfl⟩ rfl)) xm.c) (kZ (aZ rfl)).c|cons l r=>
   have hv:=sF l abq;have rd:∀ x∈r,bf x:=λx hx=>sF x (abl _ hx);have oo:=ph H (Q:=r) rd;simp only[acv]at eJ;have K:=pR (n:=1) (by decide) hv.card;have h1:(r.map (S.told 1)).length+1<=16777216:=by simp;exact tl (abj (abj (acg _) (abz _ _)) eJ) rfl
   have mI:=H.shape (sd:=1) (.inr rfl) hv;refine cL (Mq (Hm (q:=[]) 9 (.last ⟨yr S l r,rfl⟩ rfl)) (cL (Gi rfl rfl rfl (zz (lr G rfl (by kernel_rfl)) rfl (G.top (by kernel_rfl) (aL rfl)) (lJ (q:=[.v _,.v _]) 9 (.step (aF (.ref rfl) rfl (abk rfl))<| .step (GD (.inr rfl))<| .last ⟨rfl,rfl⟩ rfl)) (H.read (.inr rfl) hv (tl (abj oo (acu 2005 (abj (abj (acg _) (abz _ _)) eJ))) rfl)))
    (Uk (q:=[.h _]) 9 (.step (.it (lL (j:=1) rfl (by decide) (ao2 rfl) (abk rfl)))<| .last ⟨rfl,rfl⟩ rfl))) (cU.c (o:= .next (B0 ns m (.ref 7)) (Hb S c (jF 1 (Q0,l::r,D)).1 (jF 1 (Q0,l::r,D)).2.1 (jF 1 (Q0,l::r,D)).2.2 (cY (jF 1 (Q0,l::r,D)).2.2))) ?_))) (kZ (aZ rfl)).c
   have cw:=H.pl (sd:=1) (.inr rfl) hv;generalize iP:S.told 1 l=tv at mI cw ⊢;have hA:∀{hp:List Ob},hp=Hb S c Q0 r D (cY D)->HA hp 9 10 (cY D):=λe=>e▸⟨rfl,rfl,ej⟩;cases mI with
  |good h8=>
    have hW:j7 D l=D++[l.2.2]:=if_pos h8;exact j6 (q:=[.r _ _,.b _,.r _ _,.r _ _,.b _,.b _,.r _ _,.r _ _,.r _ _]) 2 12 (.step (pY rfl rfl h1)<| .step (jw iP cw)<| .step (pX (xs:=[]) rfl rfl (ac4 _))<| .step (jn G (di (abk rfl)))<| .step rfl<| .step (HF hv.card)<| .step (jo G (du _ hv.card))<|
     .step (lC G (by kernel_rfl) rfl (by kernel_rfl) (hA rfl).hi (by decide +kernel) (Gw G (hA rfl) (wG hv.card) (abj K.sl (by decide)) K.sv (ud H ol rd)))<| .step (dJ rfl rfl gd)<| .last (lY rfl ((congrArg (λz=>Hb S c Q0 r z (cY z)) hW).trans (by simp only[Hb,cY,iL,af4];rfl))) rfl)
  |none h9=>have hW:j7 D l=D:=if_neg (by lia);exact j6 (q:=[.r _ _,.b _,.r _ _,.r _ _,.b _,.b _]) 2 12 (.step (pY rfl rfl h1)<| .step (jw iP cw)<| .step (pX (xs:=[]) rfl rfl (ac4 _))<| .step (jn G (di (abk rfl)))<| .step rfl<| .step yi<| .last (lY rfl (congrArg (λz=>Hb S c Q0 r z (cY z)) hW)) rfl)|bad kK=>have hW:j7 D l=D:=if_neg (by lia);exact j6 (q:=[.r _ _,.b _,.r _ _,.r _ _]) 2 12 (.step (pY rfl rfl h1)<| .step (jw iP cw)<| .step (pX (xs:=[]) rfl rfl (ac4 _))<| .step (jn G (di (abk rfl)))<| .last (lY rfl (congrArg (λz=>Hb S c Q0 r z (cY z)) hW)) rfl)
end
section
noncomputable abbrev En:=Int×Bool
noncomputable def nmE(e:En):Str:=if e.2 then aed (wordOf e.1)else wordOf e.1
noncomputable def bC(es:List En):List (Str×Str):=es.map λe=>(nmE e,bN e.1)
noncomputable def uV(ex dL:Int):Int:=(ex+2 * dL).fmod 6
noncomputable def j5(es:List En)(a:Int):List En:=pick es none (some a)++pick es (some (a+1)) none++[(((cN es a).getD (0,false)).1,true)]
noncomputable def qy(s:List En×Bool):V:=if s.2 then .lst (iL (s.1.map (·.1)))else .ref 7
theorem bZ(h7:h[7]? =some (.list (iL D)))(e:s.2=false->s.1.map (·.1)=D):Lst h (qy s) (iL (s.1.map (·.1))):=by
 unfold qy
 split
 ·exact .lst
 ·rename_i hf;rw[e (by simpa using hf)];exact .ref h7
theorem N7:(six.all λc=>[true,false].all λu=>vW (nmE (c,u))&&(aed (nmE (c,u))==nmE (c,true))&&acy (nmE (c,u))&&decide ((nmE (c,u)).length<=100)&&vW (aed (nmE (c,u)))&&six.all λd=>[true,false].all λv=>(ada (nmE (d,v))==ada (aed (nmE (c,u))))==(d==c))=true:=by decide +kernel
structure Yr(c:Int)(u:Bool):Prop where
 fine:gY (nmE (c,u))
 up:aed (nmE (c,u))=nmE (c,true)
 ok:acy (nmE (c,u))=true
 len:(nmE (c,u)).length<=100
 ufine:gY (aed (nmE (c,u)))
 eq:∀ d∈six,∀ v,(ada (nmE (d,v))==ada (aed (nmE (c,u))))=(d==c)
theorem Xr{c:Int}(hc:c∈six)(u:Bool):Yr c u:=by have a:=ab7.mp (ab7.mp N7 c hc) u (by induction u using aco<;>simp);simp only[ab1,decide_eq_true_eq,ab7,beq_iff_eq]at a;obtain⟨⟨⟨⟨⟨a1,a2⟩,a3⟩,a4⟩,a5⟩,a6⟩:=a;exact⟨rC a1,a2,a3,a4,rC a5,λd hd v=>a6 d hd v (by induction v using aco<;>simp)⟩
theorem gV{α:Type}(xs:List α)(h:n<=xs.length):pick xs none (some (n:Int))=xs.take n:=by have e:=s7 h;simp[pick,e]
theorem pZ{α:Type}(xs:List α)(h:n<=xs.length):pick xs (some (n:Int)) none=xs.drop n:=by have e:=s7 h;simp only[pick,am8,Option.elim_none,e];(exact aa (adm (by simp)) rfl)
theorem Gk:∀(es:List En)(n:Nat)(e:En),(es.map (·.1)).Nodup->es[n]? =some e->es.filter (λd=>d.1 !=e.1)=es.take n++es.drop (n+1):=by intro ah;induction ah with
|nil=>intro n e _ h;simp at h
|cons x es ih=>intro bi;induction bi using acw with
 |zero=>intro e hn h;simp at h;subst h;rw[ab3,ad8]at hn;refine aa (afc (by simp)) ?_;simp only[an7,aeg,alv,ajf];rw[ai0];intro d hd;have:d.1≠x.1:=λq=>hn.1 (q▸ac0.mpr ⟨d,hd,rfl⟩);simpa using this|succ n=>intro e hn h;simp at h;rw[ab3,ad8]at hn;have hm:e∈es:=acq h;have:x.1≠e.1:=λq=>hn.1 (q▸ac0.mpr ⟨e,hm,rfl⟩);(refine aa (afb (by simpa using this)) ?_;refine aa (ih n e hn.2 h) ?_);rfl
theorem mH{es:List En}{n:Nat}{e:En}(h:es[n]? =some e):j5 es (n:Int)=es.take n++es.drop (n+1)++[(e.1,true)]:=by have hl:=(abw.mp h).1;unfold j5;(refine aa (gV es (adz hl)) ?_;refine aa (show((n:Int)+1)=((n+1:Nat):Int) by simp) ?_;refine aa (pZ es (by assumption)) ?_;refine aa (iM h) ?_);rfl
structure jj(D:List Int)(s:List En×Bool):Prop where
 nd:(s.1.map (·.1)).Nodup
 six:∀ e∈s.1,e.1∈Internal.six
 ln:s.1.length=6
 d0:s.2=false->s.1.map (·.1)=D
theorem T9{D:List Int}{s:List En×Bool}(h:jj D s){n:Nat}{e:En}(he:s.1[n]? =some e):jj D (j5 s.1 (n:Int),true):=by
 have hm:e∈s.1:=acq he;have hl:=(abw.mp he).1;have eJ:=h.ln;have hf:=Gk s.1 n e h.nd he;refine⟨?_,?_,?_,λq=>by cases q⟩
 ·(refine aa (mH he) ?_;refine aa (ach hf) ?_;refine aa af4 ?_;rw[af6]);refine⟨h.nd.sublist ((List.filter_sublist).map _),by simp,?_⟩;intro x hx y hy;(refine ak (ac0.mp hx) λd hd an=> ?_;obtain rfl:=an);have:=(afe.mp hd).2;simp at hy;subst hy;simpa using this
 ·refine aa (mH he) ?_;intro d hd;rcases ad9.mp hd with q|q
  ·rcases ad9.mp q with q|q
   ·exact h.six d (ae9 q)
   ·exact h.six d (List.mem_of_mem_drop q)
  ·exact aa (ace.mp q) (h.six e hm)
 ·refine aa (mH he) ?_;simp;(rw[ako (ac1 hl),ah0 (_ - _) 1,←ain,aiz hl];exact eJ)
theorem U0{es:List En}(h6:∀ e∈es,e.1∈six)(hn:(es.map (·.1)).Nodup){n:Nat}{e:En}(he:es[n]? =some e):Dg (bC es) (ada (aed (nmE e)))++[(aed (nmE e),bN e.1)]=bC (j5 es (n:Int)):=by have hm:e∈es:=acq he;obtain⟨c,u⟩:=e;have F:=Xr (h6 _ hm) u;(refine aa (mH he) ?_;refine aa (ach (Gk es n (c,u) hn he)) ?_);simp only[bC,af4,ab3,aha,F.up,Dg,List.filter_map];congr 2;apply amw;intro d hd;obtain⟨d1,d2⟩:=d;have:=F.eq d1 (h6 _ hd) d2;rw[F.up]at this;simp only[alz,bne,this]
theorem El(h6:∀ e∈es,e.1∈six):∀ r∈bC es,gY r.1:=by intro r hr;(refine ak (ac0.mp hr) λhV he an=> ?_;obtain⟨c,u⟩:=hV;obtain rfl:=an);exact(Xr (h6 _ he) u).fine
noncomputable def B1(ns:List Int)(m:Int)(dk sh:V):aj:=B0 ns m dk++[none,none,none,none,none,none,none,none,some sh]
noncomputable def G7(m:Int)(s:List En×Bool):List En×Bool:=(e_ 0 ((m.fdiv 7).fmod 3) 1).foldl (λs dL=>(j5 s.1 (uV ((m.fdiv 21).fmod 6) dL),true)) s
theorem R9{s:List En×Bool}{n:Nat}{e:En}(he:s.1[n]? =some e)(hn:n<6)(eJ:s.1.length=6)(F:aed (nmE e)=nmE (e.1,true)):V.tup [.lst (pick (iL (s.1.map (·.1))) none (some (n:Int))++pick (iL (s.1.map (·.1))) (some ((n:Int)+1)) none++[.int e.1]),.lst (pick (sL (s.1.map nmE)) none (some (n:Int))++pick (sL (s.1.map nmE)) (some ((n:Int)+1)) none++[.str (aed (nmE e))])]= .tup [.lst (iL ((j5 s.1 (n:Int)).map (·.1))),.lst (sL ((j5 s.1 (n:Int)).map nmE))]:=by
 have e1:((n:Int)+1)=((n+1:Nat):Int):=by simp
 rw[e1,gV _ (by simp[iL];exact abj (ac1 hn) (ab2 eJ.symm)),pZ _ (by simp[iL];exact le_of_le_of_eq hn (id (ach eJ))),gV _ (by simp[sL];exact abj (ac1 hn) (ab2 eJ.symm)),pZ _ (by simp[sL];exact le_of_le_of_eq hn (id (ach eJ))),F,mH he];simp[iL,sL,al0,aoi]
set_option maxHeartbeats 4000000 in
theorem Yd(G:Wr W p mg mb){m:Int}(iA:(m.fdiv 7).fmod 3=0\/(m.fdiv 7).fmod 3=1\/(m.fdiv 7).fmod 3=2)(hD:∀ d∈D,d∈six)(oL:jj D (D.map (·,false),false))(hr:iT (hd.heap_39 p) 344=some r)
  (Z:cU W (cH r.1 59 true) (B1 ns m (qy (G7 m (D.map (·,false),false))) (.lst (sL ((G7 m (D.map (·,false),false)).1.map nmE)))) (Hb S c Q0 Q1 D (bC (G7 m (D.map (·,false),false)).1)) (r.2.drop 12) o):cU W (cH r.1 59 true) (B0 ns m (.ref 7)) (Hb S c Q0 Q1 D (cY D)) (r.2.drop 9) o:=by
 cases hr;have r9:D.length=6:=by have:=oL.ln;simpa using this
 have ed:cY D=bC (D.map (·,false)):=by simp[cY,bC,nmE,ae3]
 have ej:(e_ 0 ((m.fdiv 7).fmod 3) 1).length<=2/\aeo 0 ((m.fdiv 7).fmod 3) 1=true/\ ∀ x∈e_ 0 ((m.fdiv 7).fmod 3) 1,0<=x:=by rcases iA with e|e|e<;>rw[e]<;>decide +kernel
 have p1:=acf (m.fdiv 21) (b:=6) ((λ{a}=>aca.mp) rfl);rw[ed];refine j6 (q:=[.b _,.v (.lst (sL ((D.map (·,false)).map nmE))),.o _]) 3 12 (.step (ju (r:=false) (u:= .lst []) (w:= .lst []) (.list rfl) .same rfl rfl (by simp))<|
  .step (fG (emb:=V.int) (g:=λd=> .str (wordOf d)) (xs:=D) (by kernel_rfl) rfl (bj (q:=[]) 9 (.last ⟨zY rfl,rfl⟩ rfl)) rfl (by lia) (by simp[sL,nmE,ae3]) λd hd=>(HD (hD d hd)).elim λu hu=>jy (q:=[.v _]) 9 (.step (aF (.ref rfl) hu.1 (by decide))<| .last ⟨rfl,rfl,rfl,rfl⟩ rfl))<|
  .step (b7 (emb:=V.int) (xs:=e_ 0 ((m.fdiv 7).fmod 3) 1) (P:=λ_ s=>jj D s) (s:=((D.map (·,false),false):List En×Bool)) (f:=λs dL=>(j5 s.1 (uV ((m.fdiv 21).fmod 6) dL),true)) (en:=λs=>B1 ns m (qy s) (.lst (sL (s.1.map nmE)))) (hq:=λs=>Hb S c Q0 Q1 D (bC s.1)) rfl (bj (q:=[.v _]) 9 (.step (dg G kI)<| .last ⟨gR ej.2.1,rfl⟩ rfl)) trivial oL λi s dL hi hI E7=> ?_)<| .last Z rfl)
 have a1:=acf ((m.fdiv 21).fmod 6+2 * dL) (b:=6) ((λ{a}=>aca.mp) rfl);have a2:=ack ((m.fdiv 21).fmod 6+2 * dL) (b:=6) ((λ{a}=>aca.mp) rfl);obtain⟨n,hn⟩:∃ n:Nat,uV ((m.fdiv 21).fmod 6) dL=n:=⟨(uV ((m.fdiv 21).fmod 6) dL).toNat,(agg a1).symm⟩;have i7:n<6:=by unfold uV at hn;exact Yo hn
 have eJ:=hI.ln;obtain⟨⟨cd,u⟩,he⟩:∃ e,s.1[n]? =some e:=⟨_,abu (ajj i7 (id (ach eJ)))⟩;have hm:(cd,u)∈s.1:=acq he;have F:=Xr (hI.six _ hm) u;have K:=pR (n:=1) (by decide) (hI.six _ hm);have nz:=T9 hI he;rw[←hn]at nz;refine⟨?_,nz⟩;rw[hn];have A:HA (Hb S c Q0 Q1 D (bC s.1)) 9 10 (bC s.1):=⟨rfl,rfl,by simp[bC];lia⟩;have zh:=Jj (k:=55) G A (El hI.six) (pl:=n) (n:=nmE (cd,u)) (v:=bN cd) (by rw[bC,ady,he];rfl) F.ufine.len F.ufine (abj K.sl (by decide)) K.sv;rw[U0 hI.six hI.nd he]at zh;have l6:∀(a b:Option Int),(pick (iL (s.1.map (·.1))) a b).length<=6/\(pick (sL (s.1.map nmE)) a b).length<=6:=λa b=>⟨abj (gA _ a b) (by simp[iL];exact ab2 eJ),abj (gA _ a b) (by simp[sL];exact ab2 eJ)⟩;have li:(iL (s.1.map (·.1))).length<=16777216:=by simp[iL];lia
 have ls:(sL (s.1.map nmE)).length<=16777216:=by simp[sL];lia
 have b1:∀{x y:List V},x.length<=6->y.length<=6->x.length+y.length<=16777216/\ ∀ z:V,(x++y).length+[z].length<=16777216:=λh1 h2=>⟨by exact abj (adt h1 h2) (abk rfl),λz=>by simp;exact abj (adt h1 h2) (abk rfl)⟩;exact cC (q:=[.c (.int n),.r _ (Hb S c Q0 Q1 D (bC (j5 s.1 (n:Int)))),.v _,.v _,.v _,.v _,.v _,.v (.str (nmE (cd,u))),.v _,.c _]) 12 trivial (.step (am6 (by decide +kernel))<| .step (by decide:(6:Int)≠0)<| .step (congrArg V.int hn)<|
  .step (gf G (by kernel_rfl) rfl (by kernel_rfl) zh)<| .step (jX (bZ rfl hI.d0) li)<| .step (jX (bZ rfl hI.d0) li)<| .step (b1 (l6 _ _).1 (l6 _ _).1).1<| .step (aF (v:= .int cd) (bZ rfl hI.d0) (iM (by simp[iL,he])) li)<| .step ((b1 (l6 _ _).1 (l6 _ _).1).2 _)<|
  .step (jX .lst ls)<| .step (jX .lst ls)<| .step (b1 (l6 _ _).2 (l6 _ _).2).1<| .step (aF (v:= .str (nmE (cd,u))) .lst (iM (by simp[sL,he])) ls)<| .step (m_upper (short F.ufine.len))<| .step ((b1 (l6 _ _).2 (l6 _ _).2).2 _)<| .step (R9 he i7 eJ F.up)<| .last ⟨rfl,rfl⟩ rfl)
end
section
noncomputable def Hc(S:Sy)(c:List Int)(Q0 Q1:List Lt)(D:List Int)(R:List (Str×Str))(ps:List (Int×Int)):List Ob:=Hb S c Q0 Q1 D R++[.ns [Mi "comp_select_list"] [.lst (JG ps)]]
noncomputable def gB(b:Int):List (Int×Int):=if b=0 then[(0,1),(3,-1)]else[(2,-1),(1,1)]
theorem Gz{d:Int}(h:d∈six):cD (bN d) d:=by
 have:d=1\/d=2\/d=3\/d=4\/d=5\/d=6:=by simp[six]at h;assumption
 rcases this with rfl|rfl|rfl|rfl|rfl|rfl
 ·exact(λt=>by kernel_rfl:cD (Mi "1") 1)
 ·exact(λt=>by kernel_rfl:cD (Mi "2") 2)
 ·exact(λt=>by kernel_rfl:cD (Mi "3") 3)
 ·exact(λt=>by kernel_rfl:cD (Mi "4") 4)
 ·exact(λt=>by kernel_rfl:cD (Mi "5") 5)
 ·exact(λt=>by kernel_rfl:cD (Mi "6") 6)
theorem Lk(h7:h[7]? =some (.list (iL D)))(e:s.2=false->s.1.map (·.1)=D):Now h (qy s) (.lst (iL (s.1.map (·.1)))):=by
 unfold qy
 split
 ·exact .same
 ·rename_i hf;rw[e (by simpa using hf)];exact .list h7
theorem R4(ps:List (Int×Int)):lows n (JG ps)=true:=by induction ps with
|nil=>rfl
|cons a ps ih=>simp only[JG,ab3,gw,lows_cons,oF,lw,mz,mC,oG,ue,pU,oH,lz,ahk]at ih ⊢;exact ih
theorem NB(H:mV W S)(h0:∀ l∈Q0,bf l)(h1:∀ l∈Q1,bf l):(Hc S c Q0 Q1 D R ps).all (Ob.low (Hc S c Q0 Q1 D R ps).length)=true:=
 GR (ud H h0 h1) (by simp[jB,rO,oV,rP,oW,gw,lows_cons,oF,lw,mz,mC,oG,ue,pU,oH,lz,R4])
noncomputable def qC(ds:List Int)(c:Int):Bool:=decide (ds.filter (λx=>decide (x<=c))=e_ c 0 (-1))&&(decide (ds.filter (λx=>decide (x>c))=e_ (c+1) 7 1)&&true)
noncomputable def cR(ds:List Int):List Int:=(e_ 0 7 1).filter (qC ds)
theorem X8:∀ c∈e_ 0 7 1,(aeo c 0 (-1)=true/\acl c 0 (-1)<=16777216/\0<=acl c 0 (-1))/\(aeo (c+1) 7 1=true/\acl (c+1) 7 1<=16777216/\0<=acl (c+1) 7 1):=by decide +kernel
noncomputable def bc(σ:List En×Bool):List Int:=σ.1.map (·.1)
noncomputable def Xm(cs:List Int):Bool:=(cs.foldl (aO cs.length) []==cs.filter (λc=>(cs.map (dz cs.length cs)).contains c))&&(iC (aO cs.length) (jH cs.length) [] cs==cs.map (dz cs.length cs))
noncomputable def PN(cs:List Int):Bool:=iC (aO cs.length) (jH cs.length) [] cs==cs
noncomputable def XD(ps:List (Int×Int)):List Int->Bool
|[]=>false
|c::cs=>along (nU ps) (closeStep ps) (c,c) cs
noncomputable def HW(ps:List (Int×Int)):List Int->Bool
|[]=>true
|c::cs=>decide (3 * (((cs.foldl (closeStep ps) (c,c)).2.fdiv 3) - ((cs.foldl (closeStep ps) (c,c)).1.fdiv 3))+(cs.foldl (closeStep ps) (c,c)).2.fmod 3 - (cs.foldl (closeStep ps) (c,c)).1.fmod 3=(cs.length:Int))
noncomputable def cQ(ds:List Int):List (List Int):=(e_ 1 7 1).map λj=>pick ds none (some j)
noncomputable def Bv(ds:List Int):Bool:=((cQ ds).filter λt=> !PN t).isEmpty
noncomputable def o_(ds:List Int):Bool:=((e_ 1 7 1).filter λj=> !(fu ds j).2.all id).isEmpty
noncomputable def fourOf(ps:List (Int×Int))(ds:List Int):Bool:=((cQ ds).filter λt=> !HW ps t).isEmpty
theorem OD:∀ j∈e_ 1 7 1,j∈six:=by decide +kernel
noncomputable def Pz(t:List Int):V:= .lst (iL t)
theorem uG(hl:ds.length=6)(h:t∈cQ ds):(∀ x∈t,x∈ds)/\(t.length:Int)∈six/\t.length<=6:=by
 (refine ak (ac0.mp h) λj hj an=> ?_;obtain rfl:=an);have h6:=OD j hj;have mn:1<=j/\j<=6:=yc h6;obtain⟨n,rfl⟩:∃ n:Nat,j=n:=⟨j.toNat,by exact(agg (acr (by decide) mn.1)).symm⟩;refine aa (gV ds (abj ((ac9 (n:=6)).mp mn.2) (ab2 hl.symm))) ?_;have e:(ds.take n).length=n:=by simp;exact ako (abj ((ac9 (n:=6)).mp mn.2) (ab2 hl.symm))
 exact⟨λx hx=>ae9 hx,by exact aa e h6,by exact abj (ab2 e) ((ac9 (n:=6)).mp mn.2)⟩
theorem Hg(l:List (List Int)):(V.lst (l.map Pz)).pl 6=true:=by simp only[jT,gK,jU,jh];exact gM λx _=>by simp only[Pz];exact oX x
theorem lX{α:Type}{f:α->V}{l:List α}:V.lst (l.map f)=V.lst []↔l.isEmpty=true:=by induction l using abn<;>simp
theorem Lz(h1:a=d)(h2:b=d)(h3:c=d):(V.lst [.bool a,.bool b,.bool c]).eq (.lst [.bool d,.bool d,.bool d])=true:=by(refine aa h1 ?_;refine aa h2 ?_;refine aa h3 ?_);induction d using aco<;>rfl
noncomputable def B2(ns:List Int)(m:Int)(σ:List En×Bool):aj:=B1 ns m (qy σ) (.lst (sL (σ.1.map nmE)))++[none,none,some (.lst (iL (bc σ))),some (.iref 62 11)]
section
variable{m:Int}
theorem Di(hI:jj D σ):(bc σ).length=6:=(acx ..).trans hI.ln
theorem Ls(hI:jj D σ):∀ x∈bc σ,x∈six:=λx hx=>(ac0.mp hx).elim λe z=>z.2▸hI.six e z.1
set_option maxHeartbeats 4000000 in
theorem Ye(G:Wr W p mg mb)(hI:jj D σ)(hc:CellsOk 8 (2 ^ 40) c)(hm:cN c 6=some m)(hr:iT (hd.heap_39 p) 344=some r)
  (Z:cU W (cH r.1 59 true) (B2 ns m σ) (Hc S c Q0 Q1 D (bC σ.1) (gB ((m.fdiv 126).fmod 2))) (r.2.drop 14) o):cU W (cH r.1 59 true) (B1 ns m (qy σ) (.lst (sL (σ.1.map nmE)))) (Hb S c Q0 Q1 D (bC σ.1)) (r.2.drop 12) o:=by
 cases hr;have qf:m∈c:=(adi.mp hm).elim λj z=>acq z.2;have m1:=hc.lo m qf;have m2:=hc.hi m qf;have hl:=hc.len;have eJ:=hI.ln;have dl:=Di hI;have ms:m.natAbs<2 ^ 60:=Jo m1 m2;have b1:=acf (m.fdiv 126) (b:=2) ((λ{a}=>aca.mp) rfl);have b2:=ack (m.fdiv 126) (b:=2) ((λ{a}=>aca.mp) rfl);have wS:∀ b:Int,b=0\/b=1->cN [V.lst [.tup [.int 0,.int 1],.tup [.int 3,.int (-1)]],.lst [.tup [.int 2,.int (-1)],.tup [.int 1,.int 1]]] b=some (.lst (JG (gB b))):=by rintro b (rfl|rfl)<;>rfl
 have A:HA (Hb S c Q0 Q1 D (bC σ.1)) 9 10 (bC σ.1):=⟨rfl,rfl,by simp[bC];lia⟩;have A':HA (Hc S c Q0 Q1 D (bC σ.1) (gB ((m.fdiv 126).fmod 2))) 9 10 (bC σ.1):=⟨rfl,rfl,by simp[bC];lia⟩;have hv:sL ((bC σ.1).map (·.2))=(bc σ).map λd=>V.str (bN d):=by simp[sL,bC,bc,ae3]
 have hk:sL ((bC σ.1).map (·.1))=sL (σ.1.map nmE):=by simp[bC,ae3]
 have cw:(V.lst (sL (σ.1.map nmE))).pl 6=true:=by simp only[jh,sL,aei];exact gM λe he=>p6 (Xr (hI.six e he) e.2).ok
 exact j6 (q:=[.v (.lst (iL (bc σ))),.v (.int m),.v _,.r _ _,.b _,.v _,.b _,.v (.lst (sL um)),.b _]) 2 12 (.step (fG (emb:=λd=> .str (bN d)) (g:=V.int) (xs:=bc σ) (by kernel_rfl) rfl (bj (q:=[.v _]) 9 (.step (lC G (by kernel_rfl) rfl (by kernel_rfl) A.hi (by decide +kernel) (Dw G A))<| .last ⟨xJ hv,rfl⟩ rfl)) trivial (by lia) rfl
   λd hd=>jy (q:=[.v _]) 9 (.step (TV G (Gz (Ls hI d hd)))<| .last ⟨rfl,rfl,rfl,rfl⟩ rfl))<|
  .step (aF (.ref rfl) (g_ hm) (by simp[iL];lia))<| .step ⟨by decide,ms,by decide⟩<| .step (by decide:(2:Int)≠0)<| .step (aF .lst (wS _ (aho (m.fdiv 126))) (abz _ _))<| .step ⟨_,GP G.X (λq=>by kernel_rfl),Tc G,λ_ _=>G.top (by kernel_rfl)⟩<|
  .step (ju (r:=false) .same (Lk rfl hI.d0) (oX _) (oX _) (by simp[bc]))<| .step (lC G (by kernel_rfl) rfl (by kernel_rfl) A'.hi (by decide +kernel) (M7 G A'))<| .step (ju (r:=false) .same .same (hk▸cw) cw (by simp[hk]))<|
  .step (fG (emb:=NZ) (g:=λb=> .str b.2.2.2) (xs:=v9) (by kernel_rfl) rfl (bj (q:=[]) 9 (.last ⟨zY rfl,rfl⟩ rfl)) rfl (by decide) aei λb hb=>jy (q:=[]) 9 (.last ⟨rfl,rfl,rfl,rfl⟩ rfl))<| .step (ju (r:=false) .same .same (by decide +kernel) (by decide +kernel) (by simp))<| .last Z rfl)
end
end
section
section
variable{m:Int}
theorem s8(h:decide (a=b)=r):j9 W hp .Eq (.lst (iL a)) (.lst (iL b)) r:=
 bO .same .same (oX _) (oX _) (by rw[V.lst.injEq,Dy,←h,decide_eq_true_eq])
noncomputable def B3(ns:List Int)(m:Int)(σ:List En×Bool):aj:=B2 ns m σ++[some (.lst (iL (cR (bc σ)))),some (.lst ((cQ (bc σ)).map Pz))]
set_option maxHeartbeats 4000000 in
theorem Yg(G:Wr W p mg mb)(hI:jj D σ)(hr:iT (hd.heap_39 p) 344=some r)
  (Z:cU W (cH r.1 59 true) (B3 ns m σ) (Hc S c Q0 Q1 D (bC σ.1) ps) (r.2.drop 16) o):cU W (cH r.1 59 true) (B2 ns m σ) (Hc S c Q0 Q1 D (bC σ.1) ps) (r.2.drop 14) o:=by
 cases hr;have dl:=Di hI;refine j6 (q:=[.v (.lst (iL (cR (bc σ)))),.v (.lst ((cQ (bc σ)).map Pz))]) 2 12 (.step (dj (emb:=V.int) (g:=V.int) (xs:=e_ 0 7 1) (p:=qC (bc σ)) (by kernel_rfl) rfl (bj (q:=[.v _]) 9 (.step (dg G kI)<| .last ⟨gR (by decide +kernel),rfl⟩ rfl)) trivial (by decide +kernel) rfl λk hk=> ?_)<|
  .step (fG (emb:=V.int) (g:=λj=>Pz (pick (bc σ) none (some j))) (xs:=e_ 1 7 1) (by kernel_rfl) rfl (bj (q:=[.v _]) 9 (.step (dg G gh)<| .last ⟨gR (by decide +kernel),rfl⟩ rfl)) trivial (by decide +kernel) aei λj hj=>jy (q:=[.v _]) 9 (.step (wz _ _ (ab2 dl))<| .last ⟨rfl,rfl,rfl,rfl⟩ rfl))<| .last Z rfl)
 have q:=X8 k hk
 by_cases h1:(bc σ).filter (λx=>decide (x<=k))=e_ k 0 (-1)
 ·by_cases h2:(bc σ).filter (λx=>decide (x>k))=e_ (k+1) 7 1
  ·have e:qC (bc σ) k=true:=by rw[qC,decide_eq_true h1,decide_eq_true h2];rfl
   rw[e];exact dU (q:=[.v (.lst (iL ((bc σ).filter (λx=>decide (x<=k))))),.v _,.v _,.b true,.v (.lst (iL ((bc σ).filter (λx=>decide (x>k))))),.v _,.v _,.b true]) 9
    (.step (dj (emb:=V.int) (g:=V.int) (xs:=bc σ) (p:=λx=>decide (x<=k)) (by kernel_rfl) rfl (bj (q:=[]) 9 (.last ⟨jO (bZ rfl hI.d0),rfl⟩ rfl)) (bZ rfl hI.d0) (by lia) rfl λx hx=>dU (q:=[]) 9 (.last ⟨rfl,rfl,rfl,rfl,rfl,rfl⟩ rfl))<|
    .step (dg G (gj (by decide) (gU (by decide))))<| .step (jd G (bJ q.1.1 q.1.2.1 q.1.2.2))<| .step (s8 (decide_eq_true h1))<|
    .step (dj (emb:=V.int) (g:=V.int) (xs:=bc σ) (p:=λx=>decide (x>k)) (by kernel_rfl) rfl (bj (q:=[]) 9 (.last ⟨jO (bZ rfl hI.d0),rfl⟩ rfl)) (bZ rfl hI.d0) (by lia) rfl λx hx=>dU (q:=[]) 9 (.last ⟨rfl,rfl,rfl,rfl,rfl,rfl⟩ rfl))<|
    .step (dg G gh)<| .step (jd G (bJ q.2.1 q.2.2.1 q.2.2.2))<| .step (s8 (decide_eq_true h2))<| .last ⟨rfl,rfl,rfl,rfl,rfl,rfl⟩ rfl)
  ·have e:qC (bc σ) k=false:=by rw[qC,decide_eq_true h1,decide_eq_false h2];rfl
   rw[e];exact dU (q:=[.v (.lst (iL ((bc σ).filter (λx=>decide (x<=k))))),.v _,.v _,.b true,.v (.lst (iL ((bc σ).filter (λx=>decide (x>k))))),.v _,.v _,.b false]) 9
    (.step (dj (emb:=V.int) (g:=V.int) (xs:=bc σ) (p:=λx=>decide (x<=k)) (by kernel_rfl) rfl (bj (q:=[]) 9 (.last ⟨jO (bZ rfl hI.d0),rfl⟩ rfl)) (bZ rfl hI.d0) (by lia) rfl λx hx=>dU (q:=[]) 9 (.last ⟨rfl,rfl,rfl,rfl,rfl,rfl⟩ rfl))<|
    .step (dg G (gj (by decide) (gU (by decide))))<| .step (jd G (bJ q.1.1 q.1.2.1 q.1.2.2))<| .step (s8 (decide_eq_true h1))<|
    .step (dj (emb:=V.int) (g:=V.int) (xs:=bc σ) (p:=λx=>decide (x>k)) (by kernel_rfl) rfl (bj (q:=[]) 9 (.last ⟨jO (bZ rfl hI.d0),rfl⟩ rfl)) (bZ rfl hI.d0) (by lia) rfl λx hx=>dU (q:=[]) 9 (.last ⟨rfl,rfl,rfl,rfl,rfl,rfl⟩ rfl))<|
    .step (dg G gh)<| .step (jd G (bJ q.2.1 q.2.2.1 q.2.2.2))<| .step (s8 (decide_eq_false h2))<| .last ⟨rfl,rfl,rfl,rfl,rfl,rfl⟩ rfl)
 ·have e:qC (bc σ) k=false:=by rw[qC,decide_eq_false h1,ah4]
  rw[e];exact dU (q:=[.v (.lst (iL ((bc σ).filter (λx=>decide (x<=k))))),.v _,.v _,.b false]) 9
   (.step (dj (emb:=V.int) (g:=V.int) (xs:=bc σ) (p:=λx=>decide (x<=k)) (by kernel_rfl) rfl (bj (q:=[]) 9 (.last ⟨jO (bZ rfl hI.d0),rfl⟩ rfl)) (bZ rfl hI.d0) (by lia) rfl λx hx=>dU (q:=[]) 9 (.last ⟨rfl,rfl,rfl,rfl,rfl,rfl⟩ rfl))<|
   .step (dg G (gj (by decide) (gU (by decide))))<| .step (jd G (bJ q.1.1 q.1.2.1 q.1.2.2))<| .step (s8 (decide_eq_false h1))<| .last ⟨rfl,rfl,rfl,rfl,rfl,rfl⟩ rfl)
set_option maxHeartbeats 4000000 in
theorem Yh(G:Wr W p mg mb)(H:mV W S)(hI:jj D σ)(sw:∀ l∈Q0,bf l)(sx:∀ l∈Q1,bf l)(BM:BMod W.B mainGlobals mg bm ob)(eR:∀ q∈ps,q.1∈[(-1:Int),0,1,2,3])(aT:(∀ t∈cQ (bc σ),Xm t=true/\XD ps t=true)/\(∀ j∈e_ 1 7 1,gO (bc σ) j=true)/\Bv (bc σ)=(!(cR (bc σ)).isEmpty)/\o_ (bc σ)=(!(cR (bc σ)).isEmpty)/\fourOf ps (bc σ)=(!(cR (bc σ)).isEmpty))(hr:iT (hd.heap_39 p) 344=some r)(ho:o'= .ret (.bool true) (Hc S c Q0 Q1 D (bC σ.1) ps)) :
  cU W (cH r.1 59 true) (B3 ns m σ) (Hc S c Q0 Q1 D (bC σ.1) ps) (r.2.drop 16) o':=by
 cases hr;have dl:=Di hI;have d6:=Ls hI;have r8:∀ c∈six,0<=c/\c<=1000:=by decide
 refine n8 aT λhT hJ t2 t3 t4=> ?_;have hl:(cQ (bc σ)).length<=16777216:=by rw[cQ,acx];decide +kernel
 have U:∀ t∈cQ (bc σ),∀ k,Call W (k+4) true (.ref 322) [] [.lst (iL t),.ref 8] (Hc S c Q0 Q1 D (bC σ.1) ps) (.bool (PN t)) (Hc S c Q0 Q1 D (bC σ.1) ps):=λt ht k=>by refine bK (uG dl ht) λt1 t2 t3=> ?_;have oj:=(hT t ht).1;simp only[Xm,ab1,beq_iff_eq]at oj;exact DQ (ws:=[]) G rfl (λx hx=>d6 x (t1 x hx)) t2 rfl (by simp) oj.1 oj.2 (NB H sw sx)
 have C:∀ t∈cQ (bc σ),∀ k,Call W (k+2) true (.ref 332) [] [.lst (iL t),.iref 62 11,.ref 8] (Hc S c Q0 Q1 D (bC σ.1) ps) (.bool (HW ps t)) (Hc S c Q0 Q1 D (bC σ.1) ps):=λt ht k=>by refine bK (uG dl ht) λt1 t2 t3=> ?_;have oj:=(hT t ht).2;induction t using abn with
 |nil=>cases oj|cons c0 cs=>exact Jk (ws:=[]) (ps:=ps) G rfl rfl (by simp) eR (by simp at t3;exact abj t3 (abz _ _)) (λx hx=>r8 x (d6 x (t1 x hx))) oj
 have key {hp:List Ob}:j9 W hp .Eq (.lst [.bool (Bv (bc σ)),.bool (o_ (bc σ)),.bool (fourOf ps (bc σ))]) (.lst [.bool !(cR (bc σ)).isEmpty,.bool !(cR (bc σ)).isEmpty,.bool !(cR (bc σ)).isEmpty]) true:=
  Lz t2 t3 t4▸wV .same .same (by simp[zN,Gp,zP,vX]) (by simp[zN,Gp,zP,vX])
 subst ho;exact bB (q:=[.v (.lst (((cQ (bc σ)).filter λt=> !PN t).map Pz)),.b (Bv (bc σ)),.v (.lst (iL ((e_ 1 7 1).filter λj=> !(fu (bc σ) j).2.all id))),.b (o_ (bc σ)),.v (.lst (((cQ (bc σ)).filter λt=> !HW ps t).map Pz)),.b (fourOf ps (bc σ)),.b (!(cR (bc σ)).isEmpty),.b true,.b true,.b true]) 12
  (.step (dj (emb:=Pz) (g:=Pz) (xs:=cQ (bc σ)) (p:=λt=> !PN t) (by kernel_rfl) rfl (bj (q:=[]) 9 (.last ⟨gr,rfl⟩ rfl)) trivial hl rfl λt ht=>dU (q:=[.v _]) 9 (.step (gf G (by kernel_rfl) rfl (by kernel_rfl) (U t ht _))<| .last ⟨rfl,rfl,rfl,rfl,rfl,rfl⟩ rfl))<|
  .step (bO .same .same (Hg _) rfl lX)<|
  .step (dj (emb:=V.int) (g:=V.int) (xs:=e_ 1 7 1) (p:=λj=> !(fu (bc σ) j).2.all id) (by kernel_rfl) rfl (bj (q:=[.v _]) 9 (.step (dg G gh)<| .last ⟨gR (by decide +kernel),rfl⟩ rfl)) trivial (by decide +kernel) rfl λj hj=>dU (q:=[.v _]) 9 (.step (gf G (by kernel_rfl) rfl (by kernel_rfl) (z8 (ws:=[]) (t:=0) G d6 (OD j hj) dl rfl (by simp) BM rfl (hJ j hj) (NB H sw sx)))<| .last ⟨rfl,rfl,rfl,rfl,rfl,rfl⟩ rfl))<|
  .step (bO .same .same (oX _) rfl lX)<|
  .step (dj (emb:=Pz) (g:=Pz) (xs:=cQ (bc σ)) (p:=λt=> !HW ps t) (by kernel_rfl) rfl (bj (q:=[]) 9 (.last ⟨gr,rfl⟩ rfl)) trivial hl rfl λt ht=>dU (q:=[.v _]) 9 (.step (gf G (by kernel_rfl) rfl (by kernel_rfl) (C t ht _))<| .last ⟨rfl,rfl,rfl,rfl,rfl,rfl⟩ rfl))<|
  .step (bO .same .same (Hg _) rfl lX)<|
  .step (ju .same .same (oX _) rfl (by rw[iL,lX];induction(cR (bc σ)).isEmpty using aco<;>exact(λ{a b}=>Bool.coe_true_iff_false.mpr) rfl))<|
  .step ⟨by decide,by decide,abk rfl⟩<| .step key<|
  .step rfl<| .step (bO (u:= .lst []) (w:= .lst []) (.list rfl) .same rfl rfl (by simp))<| .last rfl rfl)
end
end
section
section
section
variable{α β:Type}
theorem MJ(d:List (Int×α))(k q:Int)(x:α):gG (dX d k x) q=if k=q then some x else gG d q:=by induction d with
|nil=>simp[p8,lG,dW,cW]
|cons p d ih=>
  obtain⟨a,y⟩:=p;simp only[p8,lG]
  by_cases e:a=k
  ·subst e;simp only[if_true,dW,cW];split<;>rfl
  ·refine aa (if_neg e) ?_;simp only[dW,cW,ih]
   by_cases e2:a=q
   ·subst e2;(refine aa (if_pos rfl) ?_;rewrite[if_neg (λh=>e h.symm)];exact aa (if_pos rfl) rfl)
   ·(refine aa (if_neg e2) ?_;exact aa (if_neg e2) rfl)
theorem Nk(d:List (Int×α))(k:Int)(x:α):dK (dX d k x)=if k∈dK d then dK d else dK d++[k]:=by induction d with
|nil=>rfl
|cons p d ih=>
  obtain⟨a,y⟩:=p;simp only[p8,lG]
  by_cases e:a=k
  ·subst e;simp[dK]
  ·refine aa (if_neg e) ?_;have:dK ((a,y)::dX d k x)=a::dK (dX d k x):=rfl;(refine aa this ?_;refine aa ih ?_);have h2:dK ((a,y)::d)=a::dK d:=rfl;refine aa h2 ?_
   by_cases hm:k∈dK d
   ·(refine aa (if_pos hm) ?_;exact aa (if_pos (abl _ hm)) rfl)
   ·(refine aa (if_neg hm) ?_;rw[if_neg (by simp only[abx,not_or];exact⟨λh=>e h.symm,hm⟩)]);rfl
theorem pN{k:Int}:gG d k=none↔k∉dK d:=by induction d with
|nil=>simp[dW,cW,dK]
|cons p d ih=>
  obtain⟨a,y⟩:=p;have h2:dK ((a,y)::d)=a::dK d:=rfl;refine aa h2 ?_;simp only[dW,cW,abx,not_or]
  by_cases e:a=k
  ·subst e;simp
  ·(refine aa (if_neg e) ?_;rw[ih]);exact⟨λh=>⟨λq=>e q.symm,h⟩,λh=>h.2⟩
theorem zK:∀{d e:List (Int×α)},dK d=dK e->(dK d).Nodup->(∀ q,gG d q=gG e q)->d=e
|[],[],_,_,_=>rfl
|[],_::_,h,_,_=>(afo _ _ h.symm).elim
|_::_,[],h,_,_=>(afo _ _ h).elim
|(a,y)::d,(b,z)::e,h,hn,hg=>by
  simp only[dK,ab3,ago]at h;obtain⟨rfl,h⟩:=h;have kS:a∉dK d/\(dK d).Nodup:=by simpa[dK]using hn
  have h1:=hg a;simp only[dW,cW,if_true,ae1]at h1;subst h1;have:d=e:=zK h kS.2 λq=>by
   by_cases e2:a=q
   ·subst e2;(refine aa (pN.mpr kS.1) ?_;rw[pN.mpr (by refine(?_:a∉dK e);rw[show dK e=dK d from h.symm];exact kS.1)])
   ·have:=hg q;simpa[dW,cW,e2]using this
  (exact aa this rfl)
noncomputable def upd(kf:β->Int)(f:Option α->β->α)(d:List (Int×α))(b:β):List (Int×α):=dX d (kf b) (f (gG d (kf b)) b)
noncomputable def keyed(kf:β->Int)(ks:List Int)(l:List β):List Int:=l.foldl (λks b=>if kf b∈ks then ks else ks++[kf b]) ks
theorem bR(kf:β->Int)(f:Option α->β->α):∀(l:List β)(d:List (Int×α)),dK (l.foldl (upd kf f) d)=keyed kf (dK d) l:=by intro ah;induction ah with
|nil=>intro d;exact rfl
|cons b l ih=>intro d;(refine aa acd ?_;rw[ih,upd,Nk]);rfl
theorem dZ(kf:β->Int):∀(l:List β)(ks:List Int),ks.Nodup->(keyed kf ks l).Nodup:=by intro ah;induction ah with
|nil=>intro ks h;exact h
|cons b l ih=>
  intro ks h;simp only[keyed,acd];apply ih
  split
  ·exact h
  ·rename_i hn;rw[af6];exact⟨h,by simp,λa ha b hb=>by simp at hb;subst hb;rintro rfl;exact hn ha⟩
theorem jb(kf:β->Int)(f:Option α->β->α)(q:Int):∀(l:List β)(d:List (Int×α)),gG (l.foldl (upd kf f) d) q=(l.filter λb=>decide (kf b=q)).foldl (λo b=>some (f o b)) (gG d q):=by intro ah;induction ah with
|nil=>intro d;exact rfl
|cons b l ih=>
  intro d;(refine aa acd ?_;rw[ih,upd,MJ])
  by_cases e:kf b=q
  ·subst e;(refine aa (if_pos rfl) ?_;refine aa (afb (by exact of_decide_eq_self_eq_true (kf b))) ?_);rfl
  ·(refine aa (if_neg e) ?_;exact aa (afc (by simpa using e)) rfl)
theorem vZ{γ:Type}(kf:β->Int)(g:γ->β)(l:List γ)(ks:List Int):keyed kf ks (l.map g)=keyed (λc=>kf (g c)) ks l:=by simp only[keyed,an8]
theorem Jm(kf:β->Int):∀(l:List β)(ks:List Int)(q:Int),q∈keyed kf ks l↔q∈ks\/ ∃ b∈l,kf b=q:=by intro ah;induction ah with
|nil=>intro ks q;simp[keyed]
|cons b l ih=>
  intro ks q;have ih:=ih (if kf b∈ks then ks else ks++[kf b]) q;simp only[keyed,acd]at ih ⊢;rw[ih]
  by_cases h:kf b∈ks
  ·refine aa (if_pos h) ?_;constructor
   ·rintro(a|⟨c,hc,e⟩)
    ·exact .inl a
    ·exact .inr ⟨c,abl _ hc,e⟩
   ·rintro(a|⟨c,hc,e⟩)
    ·exact .inl a
    ·rcases abx.mp hc with rfl|hc
     ·exact .inl (e▸h)
     ·exact .inr ⟨c,hc,e⟩
  ·refine aa (if_neg h) ?_;constructor
   ·rintro(a|⟨c,hc,e⟩)
    ·rcases ad9.mp a with a|a
     ·exact .inl a
     ·exact .inr ⟨b,abq,(ace.mp a).symm⟩
    ·exact .inr ⟨c,abl _ hc,e⟩
   ·rintro(a|⟨c,hc,e⟩)
    ·exact .inl (air _ a)
    ·rcases abx.mp hc with rfl|hc
     ·exact .inl (List.mem_append_right _ (by simp[e]))
     ·exact .inr ⟨c,hc,e⟩
theorem z6(l:List Int)(ks:List Int):keyed id ks (keyed id [] l)=keyed id ks l:=by
 have H:∀(l ms ks:List Int),keyed id ks (keyed id ms l)=keyed id (keyed id ks ms) l:=by intro l;induction l with
 |nil=>intro ms ks;rfl|cons b l ih=>
   intro ms ks;have e1:keyed id ms (b::l)=keyed id (if b∈ms then ms else ms++[b]) l:=rfl;have e2:keyed id (keyed id ks ms) (b::l)=keyed id (if b∈keyed id ks ms then keyed id ks ms else keyed id ks ms++[b]) l:=rfl;(refine aa e1 ?_;refine aa e2 ?_;rw[ih])
   by_cases h:b∈ms
   ·(refine aa (if_pos h) ?_;exact aa (if_pos ((Jm id ms ks b).mpr (.inr ⟨b,h,rfl⟩))) rfl)
   ·refine aa (if_neg h) ?_;have:keyed id ks (ms++[b])=if b∈keyed id ks ms then keyed id ks ms else keyed id ks ms++[b]:=by simp only[keyed,aia,acd,afu,id_eq]
    (exact aa this rfl)
 exact H l [] ks
theorem DK:∀(l ks:List Int),(ks++l).Nodup->keyed id ks l=ks++l:=by intro ah;induction ah with
|nil=>intro ks _;exact ach (adv ks)
|cons b l ih=>
  intro ks h;have hb:b∉ks:=λq=>by rw[af6]at h;exact h.2.2 b q b abq rfl
  have e:keyed id ks (b::l)=keyed id (ks++[b]) l:=by simp only[keyed,acd,id_eq,if_neg hb]
  (refine aa e ?_;refine aa (ih (ks++[b]) (by simpa using h)) ?_);simp
theorem qD:∀{d:List (Int×α)},(dK d).Nodup-> ∀ q,(d.filter λb=>decide (b.1=q))=((gG d q).elim [] λv=>[(q,v)]):=by intro ah;induction ah with
|nil=>intro _ q;exact rfl
|cons bi d ih=>
  obtain⟨a,y⟩:=bi;intro hn q;have kS:a∉dK d/\(dK d).Nodup:=by simpa[dK]using hn
  have ih:=ih kS.2 q
  by_cases e:a=q
  ·subst e;(refine aa (afb (by exact of_decide_eq_self_eq_true (a,y).fst)) ?_;refine aa ih ?_;refine aa (pN.mpr kS.1) ?_);simp[dW,cW]
  ·(refine aa (afc (by simpa using e)) ?_;refine aa ih ?_);simp[dW,cW,e]
theorem qe{d:List (Int×α)}(hn:(dK d).Nodup):d.foldl iI []=d:=by
 have e:(d.foldl iI [])=d.foldl (upd (·.1) (λ_ b=>b.2)) []:=rfl;refine aa e ?_;have hk:dK (d.foldl (upd (·.1) (λ_ b=>b.2)) [])=dK d:=by
  rw[bR];have:keyed (·.1) (dK ([]:List (Int×α))) d=keyed id [] (dK d):=by refine(?_:_=keyed id [] (d.map (·.1)));rw[vZ];rfl
  (refine aa this ?_;refine aa (DK _ _ (by simpa using hn)) ?_);rfl
 refine zK hk (by exact aa hk hn) λq=> ?_;rw[jb,qD hn];induction gG d q using abt<;>rfl
end
theorem Kg(d:Nm)(q:Int×Int):kj d q=upd (·.1) (λo b=>o.elim b.2 λx=>x+b.2) d q:=rfl
theorem Kh(d:Pr)(q:Int×(Int×Int)):uU d q=upd (·.1) (λo b=>o.elim b.2 λx=>(b.2.1+x.1,b.2.2+x.2)) d q:=rfl
noncomputable def inc(o:Option Int)(_:Int):Int:=o.elim 1 λx=>x+1
theorem Od(hn:(dK d).Nodup)(r:Int):xQ d r=upd id inc d r:=by unfold xQ;(refine aa (qe hn) ?_;refine aa acd ?_;refine aa afu ?_;rw[Kg]);unfold upd inc;rfl
theorem wC{α β:Type}{kf:β->Int}{f:Option α->β->α}{d:List (Int×α)}(h:(dK d).Nodup)(b:β):(dK (upd kf f d b)).Nodup:=by have:=bR kf f [b] d;(refine aa (show upd kf f d b=[b].foldl (upd kf f) d from rfl) ?_;refine aa this ?_);exact dZ kf _ _ h
theorem I5:∀(l:List Int){d:Nm},(dK d).Nodup->l.foldl xQ d=l.foldl (upd id inc) d:=by intro ah;induction ah with
|nil=>intro _ _;exact rfl
|cons r l ih=>intro d h;(refine aa acd ?_;refine aa acd ?_;rewrite[Od h];exact aa (ih (wC h r)) rfl)
theorem iG(l:List Int):tabI l=l.foldl (upd id inc) []:=I5 l (by simp[dK])
theorem t7:∀(l:List Int)(o:Option Int),l.foldl (λo b=>some (inc o b)) o=if l=[]then o else some (o.getD 0+l.length):=by intro ah;induction ah with
|nil=>intro o;rfl
|cons a l ih=>intro o;(refine aa acd ?_;rw[ih]);induction o using abt<;>by_cases h:l=[]<;>simp[h,inc]<;>lia
theorem Ds(l:List Int)(q:Int):(l.filter λb=>decide (id b=q)).length=l.count q:=by refine aa List.count_eq_length_filter ?_;congr 1
theorem Q3(l:List Int):tabI l=Ir l:=by
 rw[iG];have e:Ir l=l.foldl (upd id (λ_ r=>((l.count r:Nat):Int))) []:=rfl;refine aa e ?_;have hk:dK (l.foldl (upd id inc) [])=dK (l.foldl (upd id (λ_ r=>((l.count r:Nat):Int))) []):=by rw[bR,bR]
 refine zK hk (by rw[bR];exact dZ _ _ _ (by simp[dK])) λq=> ?_;rw[jb,jb,t7];have hc:∀(m:List Int)(o:Option Int),(∀ x∈m,x=q)->m.foldl (λ(o:Option Int) b=>some ((l.count b:Nat):Int)) o=if m=[]then o else some ((l.count q:Nat):Int):=by intro m;induction m with
 |nil=>intro o _;rfl|cons a m ih=>
   intro o hm;(refine aa acd ?_;refine aa (ih _ λx hx=>hm x (abl _ hx)) ?_;refine aa (hm a abq) ?_)
   by_cases h:m=[]<;>simp[h]
 (refine aa (hc _ _ λx hx=>by simpa using(afe.mp hx).2) ?_;rw[Ds]);simp[dW,cW]
theorem R7(c:List Int)(hw:(dK w).Nodup):(tabI c).foldl kj w=c.foldl (upd id inc) w:=by
 have e:(tabI c).foldl kj w=(tabI c).foldl (upd (·.1) (λo b=>o.elim b.2 λx=>x+b.2)) w:=rfl;have hn:(dK (tabI c)).Nodup:=by rw[iG,bR];exact dZ _ _ _ (by simp[dK])
 have hk:dK ((tabI c).foldl kj w)=dK (c.foldl (upd id inc) w):=by
  (refine aa e ?_;rw[bR,bR]);have:keyed (·.1) (dK w) (tabI c)=keyed id (dK w) (dK (tabI c)):=by refine(?_:_=keyed id (dK w) ((tabI c).map (·.1)));rw[vZ];rfl
  (refine aa this ?_;rw[iG,bR]);exact z6 c (dK w)
 refine zK hk (by(refine aa hk ?_;rw[bR]);exact dZ _ _ _ hw) λq=> ?_;(refine aa e ?_;rw[jb,jb,qD hn,t7,iG,jb,t7])
 by_cases h:(c.filter λb=>decide (id b=q))=[]
 ·rw[if_pos h,if_pos h];rfl
 ·simp only[h,if_false,dW,cW,am8,amy,aox,acd,afu];induction gG w q using abt<;>simp
theorem S8:∀(d:Nm)(k x:Int),((dX d k x).map (·.2)).sum=(d.map (·.2)).sum+x - (gG d k).getD 0:=by intro ah;induction ah with
|nil=>intro k x;simp[p8,lG,dW,cW]
|cons bi d ih=>
  obtain⟨a,y⟩:=bi;intro k x;have ih:=ih k x;simp only[p8,lG,dW,cW]
  by_cases e:a=k
  ·simp[e];lia
  ·simp only[if_neg e,ab3,aly,ih];lia
theorem Pk(l:List Int):((tabI l).map (·.2)).sum=l.length:=by
 rw[iG];have:∀(l:List Int)(d:Nm),((l.foldl (upd id inc) d).map (·.2)).sum=(d.map (·.2)).sum+l.length:=by intro l;induction l with
 |nil=>intro d;simp|cons r l ih=>intro d;(refine aa acd ?_;rw[ih,upd,S8]);induction h:gG d (id r)using abt<;>simp[inc]<;>lia
 have:=this l [];simpa using this
noncomputable def Wc(j:Int)(o:Option (Int×Int))(c:Int):Int×Int:=o.elim (1,c) λx=>(1+x.1,c+x.2)
theorem Og(hn:(dK d).Nodup)(j c:Int):qW j d c=upd (·.fmod j) (Wc j) d c:=by unfold qW;(refine aa (qe hn) ?_;refine aa acd ?_;refine aa afu ?_;rw[Kh]);unfold upd Wc;rfl
theorem I6(j:Int):∀(l:List Int){d:Pr},(dK d).Nodup->l.foldl (qW j) d=l.foldl (upd (·.fmod j) (Wc j)) d:=by intro ah;induction ah with
|nil=>intro _ _;exact rfl
|cons r l ih=>intro d h;(refine aa acd ?_;refine aa acd ?_;rewrite[Og h];exact aa (ih (wC h r)) rfl)
theorem Bq(j:Int):∀(cs:List Int)(ts:List Pr)(d:Pr)(n:Nat),ts≠[]->ts.getLastD []=d->n<=cs.length->(cs.foldl (cB j) ts)[ts.length - 1+n]? =some ((cs.take n).foldl (qW j) d)
|cs,ts,d,0,dv,hd,hn=>by
  have keep:∀(cs:List Int)(ts:List Pr)(i:Nat)(x:Pr),ts[i]? =some x->(cs.foldl (cB j) ts)[i]? =some x:=by intro cs;induction cs with
  |nil=>intro ts i x h;exact h|cons c cs ih=>intro ts i x h;refine aa acd ?_;apply ih;unfold cB;refine aa (ael (abw.mp h).1) ?_;exact h
  apply keep;simp only[an7,afu,ah7];(refine aa (ach hd) ?_;refine aa (ajo) ?_;refine aa (ahe) ?_);have:ts.length - 1<ts.length:=by induction ts using abn with|nil=>exact absurd rfl dv|cons _ _=>simp
  refine aa (abu this) ?_;rfl
|[],ts,d,n+1,dv,hd,hn=>by simp at hn
|c::cs,ts,d,n+1,dv,hd,hn=>by
  have h1:1<=ts.length:=by induction ts using abn with|nil=>exact absurd rfl dv|cons _ _=>simp
  have ih:=Bq j cs (cB j ts c) (qW j d c) n (by simp[cB]) (by unfold cB;(refine aa ale ?_;exact aa hd rfl)) (by simpa using hn);have e:(cB j ts c).length - 1+n=ts.length - 1+(n+1):=by simp[cB];(rw[←ain,afp,amd h1])
  rw[e]at ih;(refine aa acd ?_;refine aa ih ?_);simp
theorem PQ(j:Int):∀(l:List Int)(o:Option (Int×Int)),l.foldl (λo b=>some (Wc j o b)) o=if l=[]then o else some ((o.getD (0,0)).1+l.length,(o.getD (0,0)).2+l.sum):=by intro ah;induction ah with
|nil=>intro o;rfl
|cons a l ih=>intro o;(refine aa acd ?_;rw[ih]);induction o using abt<;>by_cases h:l=[]<;>simp[h,Wc]<;>lia
theorem QZ(j:Int)(l:List Int):l.foldl (qW j) []=(l.map (·.fmod j)).foldl (λd r=>dX d r ((((l.map (·.fmod j)).count r:Nat):Int),(l.filter (λc=>c.fmod j==r)).sum)) []:=by
 (refine aa (I6 j l (by simp[dK])) ?_;refine aa an8 ?_);have e:(l.foldl (λd c=>dX d (c.fmod j) ((((l.map (·.fmod j)).count (c.fmod j):Nat):Int),(l.filter (λb=>b.fmod j==c.fmod j)).sum)) ([]:Pr))=l.foldl (upd (·.fmod j) (λ_ c=>((((l.map (·.fmod j)).count (c.fmod j):Nat):Int),(l.filter (λb=>b.fmod j==c.fmod j)).sum))) []:=rfl;refine aa e ?_;have hk:dK (l.foldl (upd (·.fmod j) (Wc j)) [])=dK (l.foldl (upd (·.fmod j) (λ_ c=>((((l.map (·.fmod j)).count (c.fmod j):Nat):Int),(l.filter (λb=>b.fmod j==c.fmod j)).sum))) ([]:Pr)):=by rw[bR,bR]
 refine zK hk (by rw[bR];exact dZ _ _ _ (by simp[dK])) λq=> ?_;rw[jb,jb,PQ];have hc:∀(m:List Int)(o:Option (Int×Int)),(∀ x∈m,x.fmod j=q)->m.foldl (λ(o:Option (Int×Int)) c=>some ((((l.map (·.fmod j)).count (c.fmod j):Nat):Int),(l.filter (λb=>b.fmod j==c.fmod j)).sum)) o=if m=[]then o else some ((((l.map (·.fmod j)).count q:Nat):Int),(l.filter (λb=>b.fmod j==q)).sum):=by intro m;induction m with
 |nil=>intro o _;rfl|cons a m ih=>
   intro o hm;(refine aa acd ?_;refine aa (ih _ λx hx=>hm x (abl _ hx)) ?_;refine aa (hm a abq) ?_)
   by_cases h:m=[]<;>simp[h]
 refine aa (hc _ _ λx hx=>by simpa using(afe.mp hx).2) ?_;have e1:(l.filter λb=>decide (b.fmod j=q))=l.filter (λb=>b.fmod j==q):=amw λb _=>by rw[agp];rfl
 have e2:(l.map (·.fmod j)).count q=(l.filter (λb=>b.fmod j==q)).length:=by(refine aa List.count_eq_countP ?_;refine aa List.countP_map ?_;refine aa List.countP_eq_length_filter ?_);rfl
 (refine aa e1 ?_;refine aa e2 ?_);simp[dW,cW]
end
end
section
noncomputable def bL:Nat->List Int->List (List Int)
|0,_=>[[]]
|n+1,l=>l.flatMap λx=>(bL n (l.erase x)).map (x:: ·)
theorem Av:bL 0 l=[[]]:=rfl
theorem Ar:bL (n+1) l=l.flatMap λx=>(bL n (l.erase x)).map (x:: ·):=rfl
theorem Aq:∀{d l:List Int},d.Perm l->d∈bL l.length l:=by intro ah;induction ah with
|nil=>intro l h;have:=h.length_eq;induction l using abn with|nil=>exact ahn rfl|cons _ _=>simp at this
|cons x d ih=>
  intro l h;have hx:x∈l:=h.subset abq;have h2:d.Perm (l.erase x):=List.cons_perm_iff_perm_erase.mp h |>.2;have h3:=ih h2;have hl:l.length=(l.erase x).length+1:=by refine aa (List.length_erase_of_mem hx) ?_;have:=List.length_pos_of_mem hx;exact(amd this).symm
  refine aa hl ?_;simp only[Av,Ar,List.mem_flatMap,ac0];exact⟨x,hx,d,h3,rfl⟩
end
section
section
theorem d8{j:Int}(h:j∈six):j=1\/j=2\/j=3\/j=4\/j=5\/j=6:=by simp[six]at h;assumption
theorem Uc{α:Type}{l:List α}(h:l.length=6):∃ a b c d e f,l=[a,b,c,d,e,f]:=by
 have s {l:List α} {n:Nat} (h:l.length=n+1):∃ a t,l=a::t/\t.length=n:=by induction l using abn with
 |nil=>injection h|cons a t=>exact⟨a,t,rfl,aon h⟩
 exact dY (s h) λa _ e1 h=>dY (s h) λb _ e2 h=>dY (s h) λc _ e3 h=>dY (s h) λd _ e4 h=>dY (s h) λe _ e5 h=>dY (s h) λf _ e6 h=>
  ⟨a,b,c,d,e,f,by rw[e1,e2,e3,e4,e5,e6,adp.mp h]⟩
theorem Xb:e_ 0 (7 - 1) 1=[0,1,2,3,4,5]/\e_ 0 (7 - 2) 2=[0,2,4]/\e_ 0 (7 - 3) 3=[0,3]/\e_ 0 (7 - 4) 4=[0]/\e_ 0 (7 - 5) 5=[0]/\e_ 0 (7 - 6) 6=[0]:=by decide +kernel
theorem chunk_len(hR:R.length=6){j:Int}(hj:j∈six):∀ k∈e_ 0 (7 - j) j,((chunk R j k).length:Int)=j:=by
 (refine T8 (Uc hR) λa b c d e f oB=> ?_;obtain rfl:=oB);refine Mj Xb λr1 r2 r3 r4 r5 r6=> ?_;rcases d8 hj with rfl|rfl|rfl|rfl|rfl|rfl
 ·refine aa r1 ?_;intro k hk;simp only[abx,adh,or_false]at hk;rcases hk with rfl|rfl|rfl|rfl|rfl|rfl<;>rfl
 ·refine aa r2 ?_;intro k hk;simp only[abx,adh,or_false]at hk;rcases hk with rfl|rfl|rfl<;>rfl
 ·refine aa r3 ?_;intro k hk;simp only[abx,adh,or_false]at hk;rcases hk with rfl|rfl<;>rfl
 ·refine aa r4 ?_;intro k hk;simp only[abx,adh,or_false]at hk;subst hk;rfl
 ·refine aa r5 ?_;intro k hk;simp only[abx,adh,or_false]at hk;subst hk;rfl
 ·refine aa r6 ?_;intro k hk;simp only[abx,adh,or_false]at hk;subst hk;rfl
theorem Ig(hR:R.length=6){j:Int}(hj:j∈six):((e_ 0 (7 - j) j).map (chunk R j)).flatten=pick R none (some ((6:Int).fdiv j * j)):=by
 (refine T8 (Uc hR) λa b c d e f oB=> ?_;obtain rfl:=oB);refine Mj Xb λr1 r2 r3 r4 r5 r6=> ?_;rcases d8 hj with rfl|rfl|rfl|rfl|rfl|rfl
 ·exact aa r1 rfl
 ·exact aa r2 rfl
 ·exact aa r3 rfl
 ·exact aa r4 rfl
 ·exact aa r5 rfl
 ·exact aa r6 rfl
theorem QK(R:List Int)(j:Int):∀(ks:List Int)(s:Nm×List Bool),(dK s.1).Nodup->(ks.foldl (eN R j) s).1=((ks.map (chunk R j)).flatten).foldl (upd id inc) s.1:=by intro ah;induction ah with
|nil=>intro s _;exact rfl
|cons k ks ih=>
  intro s h;have e:(eN R j s k).1=(chunk R j k).foldl (upd id inc) s.1:=by unfold eN;simp only;(refine aa (qe h) ?_;exact aa (R7 _ h) rfl)
  rw[acd,ih _ (by(refine aa e ?_;rw[bR]);exact dZ _ _ _ h),e,ab3,amt,aia]
theorem Dc(hl:cs.length=6){j:Int}(hj:j∈six):gO cs j=true:=by
 have hR:(rests cs j).length=6:=by simp[rests,hl]
 have mn:1<=j/\j<=6:=by rcases d8 hj with h|h|h|h|h|h<;>lia
 have hd:∀ n:Nat,n<=6->cN (cP cs j) (n:Int)=some (Dj (rests cs j) cs j (n:Int)):=by
  intro n hn;have h:=Bq j cs [[]] [] n (afo [] []) rfl (le_of_le_of_eq hn (id (ach hl)));have h2:(cP cs j)[n]? =some ((cs.take n).foldl (qW j) []):=by simpa[cP]using h
  (refine aa (iM h2) ?_;rw[QZ]);unfold Dj;(refine aa (gV _ (le_of_le_of_eq hn (id (ach hR)))) ?_;refine aa (gV _ (le_of_le_of_eq hn (id (ach hl)))) ?_;rewrite[rests];exact aa al0 rfl)
 unfold gO;simp only[ab1,ab7,beq_iff_eq];refine⟨⟨⟨λk hk=> ?_,?_⟩,?_⟩,?_⟩
 ·rw[Pk];exact chunk_len hR hj k hk
 ·obtain⟨n,rfl⟩:∃ n:Nat,j=n:=⟨j.toNat,by exact(agg (acr (by decide) mn.1)).symm⟩;exact hd n (ac9.mp mn.2)
 ·exact hd 6 (abm _)
 ·unfold fu;(refine aa (QK _ _ _ _ (by decide)) ?_;refine aa (Ig hR hj) ?_;rw[←iG,Q3])
theorem Gl(n:Int)(r:Int):∀(l t:List Int),((l.foldl (aO n) t).find? λd=>d.fmod n==r)=((t++l).find? λd=>d.fmod n==r):=by intro ah;induction ah with
|nil=>intro t;simp
|cons c l ih=>
  intro t;(refine aa acd ?_;rw[ih]);unfold aO
  split
  ·rename_i h;refine ak (ag9.mp h) λd hd e=> ?_;(refine aa (agw) ?_;refine aa (agw) ?_;refine aa (ais) ?_)
   by_cases q:(c.fmod n==r)=true
   ·have:((t.find? λd=>d.fmod n==r)).isSome=true:=by rw[amx];exact⟨d,hd,by rw[beq_iff_eq]at e q ⊢;(refine aa e ?_;exact aa q rfl)⟩
    obtain⟨x,hx⟩:=acz.mp this;exact aa hx rfl
   ·simp only[q]
  ·simp
theorem tK(n:Int)(cs:List Int)(c:Int):dz n cs c=(cs.find? λd=>d.fmod n==c.fmod n).getD c:=by unfold dz;refine aa (ach (List.head?_filter)) ?_;induction cs.filter (λd=>d.fmod n==c.fmod n)using abn<;>rfl
theorem V6(n:Int):∀(l pre:List Int),iC (aO n) (jH n) (pre.foldl (aO n) []) l=l.map (dz n (pre++l)):=by intro ah;induction ah with
|nil=>intro _;exact rfl
|cons c l ih=>
  intro pre;have e1:jH n (pre.foldl (aO n) []) c=dz n (pre++c::l) c:=by unfold jH;(rewrite[Gl,tK,aeg];refine aa (agw) ?_);induction pre.find? (λd=>d.fmod n==c.fmod n)using abt<;>simp
  have e2:aO n (pre.foldl (aO n) []) c=(pre++[c]).foldl (aO n) []:=by exact aa aia rfl
  simp only[Hp,Ho,ab3];(refine aa e1 ?_;refine aa e2 ?_;refine aa (ih (pre++[c])) ?_);simp
theorem V7(n:Int)(ds:List Int):∀(l pre:List Int),(pre++l).Nodup->(∀ c∈l,c∈ds↔(pre++l).find? (λd=>d.fmod n==c.fmod n)=some c)->(pre++l).foldl (aO n) []=pre.foldl (aO n) []++l.filter (λc=>ds.contains c):=by intro ah;induction ah with
|nil=>intro pre _ _;simp
|cons c l ih=>
  intro pre hn hd;have h1:=ih (pre++[c]) (by simpa using hn) (λx hx=>by simpa using hd x (abl _ hx));rw[adb,akx]at h1;(refine aa h1 ?_;refine aa aia ?_;refine aa acd ?_;refine aa afu ?_);have hc:=hd c abq;have ea:(pre.foldl (aO n) []).any (λd=>d.fmod n==c.fmod n)=(pre.find? λd=>d.fmod n==c.fmod n).isSome:=by have:=Gl n (c.fmod n) pre [];rw[aeg]at this;(refine aa (ach this) ?_;rw[agp,amx,ag9])
  have eu:∀ t:List Int,aO n t c=if t.any (λd=>d.fmod n==c.fmod n)=true then t else t++[c]:=λt=>rfl
  (rewrite[eu];refine aa ea ?_);induction e:pre.find? (λd=>d.fmod n==c.fmod n)using abt with
 |some x=>
   have dv:¬c∈ds:=by(rewrite[hc];refine aa (agw) ?_;refine aa e ?_);simp only[Option.some_or,ae1];rintro rfl;rw[af6]at hn;exact hn.2.2 _ (ajn e) _ abq rfl
   exact aa (afc (by simpa using dv)) rfl
 |none=>
   have i5:c∈ds:=by(rewrite[hc];refine aa (agw) ?_;refine aa e ?_);simp
   refine aa (afb (by exact List.elem_eq_true_of_mem i5)) ?_;simp
theorem Yi(hn:cs.Nodup):Xm cs=true:=by
 unfold Xm;rw[ab1,beq_iff_eq,beq_iff_eq];refine⟨?_,by have:=V6 cs.length cs [];simpa using this⟩;have:=V7 cs.length (cs.map (dz cs.length cs)) cs [] (by simpa using hn) (λc hc=> ?_)
 ·assumption
 ·rw[aeg,ac0];constructor
  ·rintro⟨x,hx,e⟩;rw[tK]at e;induction h:cs.find? (λd=>d.fmod cs.length==x.fmod cs.length)using abt with
  |none=>have:=amc.mp h x hx;simp at this|some y=>rw[h]at e;simp only[aet]at e;subst e;have hy:=ano h;rw[beq_iff_eq]at hy;exact aa hy h
  ·intro h;exact⟨c,hc,by(rewrite[tK];refine aa h ?_);rfl⟩
theorem Ih:([gB 0,gB 1].all λps=>six.all λa=>(gk (rowOf a) (rowOf a) ps==0)&&six.all λb=>(a==b)||gk (rowOf a) (rowOf b) ps== -1||gk (rowOf a) (rowOf b) ps==1)=true:=by decide +kernel
theorem Qy(h0:∀ a∈six,gk (rowOf a) (rowOf a) ps=0)(h1:∀ a∈six,∀ b∈six,a≠b->gk (rowOf a) (rowOf b) ps= -1\/gk (rowOf a) (rowOf b) ps=1):∀(cs seen:List Int)(s:Int×Int),(seen++cs).Nodup->(∀ x∈seen++cs,x∈six)->s.1∈seen->s.2∈seen->along (nU ps) (closeStep ps) s cs=true:=by intro ah;induction ah with
|nil=>intro _ _ _ _ _ _;exact rfl
|cons c cs ih=>
  intro seen s hn h6 m1 m2;have hc:∀ y∈seen,c≠y:=λy hy e=>by subst e;rw[af6]at hn;exact hn.2.2 _ hy _ abq rfl
  have c6:=h6 c List.mem_append_cons_self;have a6:=h6 s.1 (air _ m1);have b6:=h6 s.2 (air _ m2);simp only[wK,wJ,ab1];refine⟨?_,ih (seen++[c]) _ (by simpa using hn) (by simpa using h6) ?_ ?_⟩
  ·unfold nU;simp only[ab1,aef,beq_iff_eq];exact⟨⟨h1 c c6 _ a6 (hc _ m1),h1 c c6 _ b6 (hc _ m2)⟩,h0 c c6⟩
  ·unfold closeStep;dsimp only;split<;>simp[m1]
  ·unfold closeStep;dsimp only;split<;>simp[m2]
theorem XH{b:Int}(hb:b=0\/b=1)(hn:cs.Nodup)(h6:∀ x∈cs,x∈six)(dv:cs≠[]):XD (gB b) cs=true:=by
 have F:∀ ps∈[gB 0,gB 1],(∀ a∈six,gk (rowOf a) (rowOf a) ps=0)/\(∀ a∈six,∀ b∈six,a≠b->gk (rowOf a) (rowOf b) ps= -1\/gk (rowOf a) (rowOf b) ps=1):=by
  intro ps eR;have h:=ab7.mp Ih ps eR;rw[ab7]at h;refine⟨λa ha=> ?_,λa ha b hb nE=> ?_⟩
  ·have:=h a ha;rw[ab1,beq_iff_eq]at this;exact this.1
  ·have:=h a ha;rw[ab1,ab7]at this;have:=this.2 b hb;simp only[aef,beq_iff_eq]at this;rcases this with(q|q)|q
   ·exact absurd q nE
   ·exact .inl q
   ·exact .inr q
 have eR:gB b∈[gB 0,gB 1]:=by rcases hb with rfl|rfl<;>simp
 obtain⟨f0,f1⟩:=F _ eR;induction cs using abn with
|nil=>exact absurd rfl dv
|cons c cs=>exact Qy f0 f1 cs [c] (c,c) (by assumption) (by assumption) (.head _) (.head _)
end
end
section
section
noncomputable def jP(s:Int×Int)(c:Int):Int×Int:=(if c<s.1 then c else s.1,if s.2<c then c else s.2)
noncomputable def KR:List Int->Bool
|[]=>true
|c::cs=>decide ((cs.foldl jP (c,c)).2 - (cs.foldl jP (c,c)).1=(cs.length:Int))
theorem N5:([gB 0,gB 1].all λps=>six.all λl=>six.all λc=>(decide (gk (rowOf c) (rowOf l) ps= -1)==decide (c<l))&&(decide (gk (rowOf c) (rowOf l) ps=1)==decide (l<c))&&decide (3 * (c.fdiv 3 - l.fdiv 3)+c.fmod 3 - l.fmod 3=c - l))=true:=by decide +kernel
theorem xM(eR:ps∈[gB 0,gB 1]){l c:Int}(hl:l∈six)(hc:c∈six):(gk (rowOf c) (rowOf l) ps= -1↔c<l)/\(gk (rowOf c) (rowOf l) ps=1↔l<c)/\3 * (c.fdiv 3 - l.fdiv 3)+c.fmod 3 - l.fmod 3=c - l:=by have h:=ab7.mp (ab7.mp (ab7.mp N5 ps eR) l hl) c hc;simp only[ab1,decide_eq_true_eq,beq_iff_eq,decide_eq_decide]at h;exact⟨h.1.1,h.1.2,h.2⟩
theorem R8(eR:ps∈[gB 0,gB 1]):∀(cs:List Int)(s:Int×Int),s.1∈six->s.2∈six->(∀ x∈cs,x∈six)->cs.foldl (closeStep ps) s=cs.foldl jP s/\(cs.foldl jP s).1∈six/\(cs.foldl jP s).2∈six:=by intro ah;induction ah with
|nil=>intro s h1 h2 _;exact⟨rfl,h1,h2⟩
|cons c cs ih=>
  intro s h1 h2 h6;have c6:=h6 c abq;have e:closeStep ps s c=jP s c:=by unfold closeStep jP;have a:=xM eR h1 c6;have b:=xM eR h2 c6;simp only[a.1,b.2.1]
  (refine aa acd ?_;refine aa acd ?_;refine aa e ?_);apply ih
  ·unfold jP;dsimp only;split<;>assumption
  ·unfold jP;dsimp only;split<;>assumption
  ·exact λx hx=>h6 x (abl _ hx)
theorem UJ(eR:ps∈[gB 0,gB 1])(h6:∀ x∈t,x∈six):HW ps t=KR t:=by induction t using abn with
|nil=>rfl
|cons c cs=>have c6:=h6 c abq;refine bK (R8 eR cs (c,c) c6 c6 λx hx=>h6 x (abl _ hx)) λe m1 m2=> ?_;simp only[HW,KR,e];(exact aa ((xM eR m1 m2).2.2) rfl)
noncomputable def WL(R:List Int)(j:Int):List Bool:=(e_ 0 (7 - j) j).map λk=>decide (((chunk R j k).foldl (upd id inc) []).map (·.2)=adn j.toNat 1)
theorem QM(R:List Int)(j:Int):∀(ks:List Int)(s:Nm×List Bool),(ks.foldl (eN R j) s).2=s.2++ks.map λk=>decide (((chunk R j k).foldl (upd id inc) []).map (·.2)=adn j.toNat 1):=by intro ah;induction ah with
|nil=>intro s;simp
|cons k ks ih=>intro s;(refine aa acd ?_;rw[ih]);simp only[eN,iG,ab3,adb,akx]
noncomputable def fast(d:List Int):Bool:=
 let f:= !(cR d).isEmpty
 (((cQ d).all PN)==f)&&(((e_ 1 7 1).all λj=>(WL (rests d j) j).all id)==f)&&(((cQ d).all KR)==f)
theorem tU{α:Type}(p:α->Bool)(l:List α):(l.filter λx=> !p x).isEmpty=l.all p:=by induction l with
|nil=>rfl
|cons a l ih=>induction h:p a using aco<;>simp[h,ih]
theorem all_congr{α:Type}{p q:α->Bool}{l:List α}(h:∀ x∈l,p x=q x):l.all p=l.all q:=by induction l with
|nil=>rfl
|cons a l ih=>simp only[age];(refine aa (h a abq) ?_;exact aa (ih λx hx=>h x (abl _ hx)) rfl)
theorem WM:((bL 5 [2,3,4,5,6]).all λd=>fast (1::d))=true:=by decide +kernel
theorem WN:((bL 5 [1,3,4,5,6]).all λd=>fast (2::d))=true:=by decide +kernel
theorem WP:((bL 5 [1,2,4,5,6]).all λd=>fast (3::d))=true:=by decide +kernel
theorem WQ:((bL 5 [1,2,3,5,6]).all λd=>fast (4::d))=true:=by decide +kernel
theorem WR:((bL 5 [1,2,3,4,6]).all λd=>fast (5::d))=true:=by decide +kernel
theorem WT:((bL 5 [1,2,3,4,5]).all λd=>fast (6::d))=true:=by decide +kernel
theorem I3(h:d.Perm six):fast d=true:=by
 have hm:d∈bL 6 six:=Aq h;simp only[Av,Ar,six,agb,ag8,adv]at hm;have e1:([1,2,3,4,5,6]:List Int).erase 1=[2,3,4,5,6]:=by decide
 have e2:([1,2,3,4,5,6]:List Int).erase 2=[1,3,4,5,6]:=by decide
 have e3:([1,2,3,4,5,6]:List Int).erase 3=[1,2,4,5,6]:=by decide
 have e4:([1,2,3,4,5,6]:List Int).erase 4=[1,2,3,5,6]:=by decide
 have e5:([1,2,3,4,5,6]:List Int).erase 5=[1,2,3,4,6]:=by decide
 have e6:([1,2,3,4,5,6]:List Int).erase 6=[1,2,3,4,5]:=by decide
 have i6:d∈(bL 5 [2,3,4,5,6]).map (1:: ·)\/d∈(bL 5 [1,3,4,5,6]).map (2:: ·)\/d∈(bL 5 [1,2,4,5,6]).map (3:: ·)\/d∈(bL 5 [1,2,3,5,6]).map (4:: ·)\/d∈(bL 5 [1,2,3,4,6]).map (5:: ·)\/d∈(bL 5 [1,2,3,4,5]).map (6:: ·):=by have vv:d∈bL 6 [1,2,3,4,5,6]:=Aq h;rw[show bL 6 [1,2,3,4,5,6]=([1,2,3,4,5,6]:List Int).flatMap λx=>(bL 5 (([1,2,3,4,5,6]:List Int).erase x)).map (x:: ·)from rfl]at vv;simp only[agb,ag8,adv,e1,e2,e3,e4,e5,e6,ad9]at vv;exact vv
 have fin:∀(x:Int)(l:List Int),((bL 5 l).all λd=>fast (x::d))=true->d∈(bL 5 l).map (x:: ·)->fast d=true:=by intro x l hl hd;(refine ak (ac0.mp hd) λy hy an=> ?_;obtain rfl:=an);exact ab7.mp hl y hy
 rcases i6 with q|q|q|q|q|q
 ·exact fin _ _ WM q
 ·exact fin _ _ WN q
 ·exact fin _ _ WP q
 ·exact fin _ _ WQ q
 ·exact fin _ _ WR q
 ·exact fin _ _ WT q
theorem QT(h:d.Perm six){b:Int}(hb:b=0\/b=1):(∀ t∈cQ d,Xm t=true/\XD (gB b) t=true)/\(∀ j∈e_ 1 7 1,gO d j=true)/\Bv d=(!(cR d).isEmpty)/\o_ d=(!(cR d).isEmpty)/\fourOf (gB b) d=(!(cR d).isEmpty):=by
 have hn:d.Nodup:=h.nodup_iff.mpr (by decide);have hl:d.length=6:=h.length_eq;have h6:∀ x∈d,x∈six:=λx hx=>h.subset hx;have eR:gB b∈[gB 0,gB 1]:=by rcases hb with rfl|rfl<;>simp
 have ht:∀ t∈cQ d,t.Nodup/\(∀ x∈t,x∈six)/\t≠[]:=by
  intro t ht;refine bK (uG hl ht) λt1 t2 t3=> ?_;refine⟨?_,λx hx=>h6 x (t1 x hx),?_⟩
  ·(refine ak (ac0.mp ht) λj hj an=> ?_;obtain rfl:=an);unfold pick;exact(hn.sublist (List.drop_sublist _ _)).sublist (amn _ _)
  ·rintro rfl;contradiction
 have hf:=I3 h;simp only[fast,ab1,beq_iff_eq]at hf;refine⟨λt h=>⟨Yi (ht t h).1,XH hb (ht t h).1 (ht t h).2.1 (ht t h).2.2⟩,λj hj=>Dc hl (OD j hj),?_,?_,?_⟩
 ·(refine aa (ach hf.1.1) ?_;rw[Bv,tU])
 ·(refine aa (ach hf.1.2) ?_;rw[o_,tU]);refine all_congr λj _=> ?_;rw[fu,QM];rfl
 ·(refine aa (ach hf.2) ?_;rw[fourOf,tU]);exact all_congr λt h=>UJ eR (ht t h).2.1
end
end
section
section
noncomputable def gc(Q:List Lt):List Int:=(Q.filter λl=>decide (l.1<=8)).map (·.2.2)
theorem Dt(P Q:List Lt):gc (P++Q)=gc P++gc Q:=by simp[gc]
theorem Du(l:Lt):gc [l]=if l.1<=8 then[l.2.2]else[]:=by unfold gc;by_cases h:l.1<=8<;>simp[h]
theorem Oi{α:Type}(a b c:List α):(a++c++b).Perm (a++b++c):=by rw[adb,adb];exact aig a aih
theorem Jx(sd:Int)(q:List Lt×List Lt)(l:Lt):(gc (push sd q l).1++gc (push sd q l).2).Perm (gc q.1++gc q.2++gc [l]):=by
 unfold push
 split
 ·dsimp only;rw[Dt];exact Oi _ _ _
 ·dsimp only;rw[Dt,←adb]
theorem VF(sd kk card:Int):∀(ks:List Int)(q:List Lt×List Lt),(gc (ks.foldl (λq kd=>push sd q (kd,kk,card)) q).1++gc (ks.foldl (λq kd=>push sd q (kd,kk,card)) q).2).Perm (gc q.1++gc q.2++(ks.filter λk=>decide (k<=8)).map λ_=>card):=by intro ah;induction ah with
|nil=>intro q;simp
|cons k ks ih=>
  intro q;refine aa acd ?_;refine(ih _).trans ?_;refine(aib _ (Jx sd q (k,kk,card))).trans ?_;rw[adb,Du]
  by_cases h:k<=8<;>simp[h]
theorem DN(k:Int):((kindsOf k).filter λk=>decide (k<=8)).length=1:=by
 have a1:=acf (k.fdiv 4) (b:=9) ((λ{a}=>aca.mp) rfl);have b1:=acf (k.fdiv 36) (b:=9) ((λ{a}=>aca.mp) rfl);have b2:=ack (k.fdiv 36) (b:=9) ((λ{a}=>aca.mp) rfl);have h1:(k.fdiv 36).fmod 9<=8:=(λ{a b}=>Int.le_iff_lt_add_one.mpr) b2;have h2:¬(k.fdiv 4).fmod 9+9<=8:=Int.not_le.mpr (aer (by decide:(8:Int)<0+9) (alf a1 9));unfold kindsOf
 split<;>simp[List.filter_cons,h1,h2]
theorem xW(c:List Int)(bX:Int)(q:List Lt×List Lt)(card:Int):(gc (bV c bX q card).1++gc (bV c bX q card).2).Perm (gc q.1++gc q.2++[card]):=by refine(VF _ _ _ _ _).trans ?_;have h:=DN (fj c card);obtain⟨x,hx⟩:=List.length_eq_one_iff.mp h;refine aa hx ?_;rfl
theorem Cd(c:List Int)(bX:Int):∀(cs:List Int)(q:List Lt×List Lt),(gc (cs.foldl (bV c bX) q).1++gc (cs.foldl (bV c bX) q).2).Perm (gc q.1++gc q.2++cs):=by intro ah;induction ah with
|nil=>intro q;simp
|cons card cs ih=>intro q;refine aa acd ?_;refine(ih _).trans ?_;refine(aib _ (xW c bX q card)).trans ?_;simp
theorem Jy(sd kk card:Int):∀(ks:List Int)(q:List Lt×List Lt),(∀ k∈ks,bf (k,kk,card))->(∀ l∈q.1,bf l)->(∀ l∈q.2,bf l)->
  (∀ l∈(ks.foldl (λq kd=>push sd q (kd,kk,card)) q).1,bf l)/\(∀ l∈(ks.foldl (λq kd=>push sd q (kd,kk,card)) q).2,bf l)/\(ks.foldl (λq kd=>push sd q (kd,kk,card)) q).1.length+(ks.foldl (λq kd=>push sd q (kd,kk,card)) q).2.length=q.1.length+q.2.length+ks.length:=by
 intro ah;induction ah with
|nil=>intro q _ h1 h2;exact⟨h1,h2,by rfl⟩
|cons k ks ih=>
  intro q hk h1 h2;have hv:=hk k abq;refine aa acd ?_;have a1:∀ l∈(push sd q (k,kk,card)).1,bf l:=by
   unfold push;split
   ·intro l hl;rcases ad9.mp hl with h|h
    ·exact h1 l h
    ·exact aa (ace.mp h) hv
   ·exact h1
  have a2:∀ l∈(push sd q (k,kk,card)).2,bf l:=by
   unfold push;split
   ·exact h2
   ·intro l hl;rcases ad9.mp hl with h|h
    ·exact h2 l h
    ·exact aa (ace.mp h) hv
  have a3:(push sd q (k,kk,card)).1.length+(push sd q (k,kk,card)).2.length=q.1.length+q.2.length+1:=by unfold push;split<;>simp<;>lia
  refine bK (ih _ (λx hx=>hk x (abl _ hx)) a1 a2) λb1 b2 b3=> ?_;exact⟨b1,b2,by(refine aa b3 ?_;refine aa a3 ?_;refine aa acv ?_);exact afp (q.fst.length+q.snd.length) 1 ks.length⟩
theorem Cy(hc:CellsOk 8 (2 ^ 40) c){card:Int}(h6:card∈six):∀ k∈kindsOf (fj c card),bf (k,(fj c card).fdiv 324,card):=by
 intro k hk;have i4:=d8 h6;have hl:=hc.len;have wt:=(by decide:∀ n∈six,0<=n - 1/\n - 1<8) card h6;have h2:card - 1<(c.length:Int):=by rw[hl];exact wt.2
 have se:=h_ (l:=c) (i:=card - 1) wt.1 h2;have kg:fj c card=c[(card - 1).toNat]'((ag6 wt.1).mpr h2):=by(rewrite[fj];refine aa se ?_);rfl
 have pT:fj c card∈c:=by exact aa kg (aj8 _)
 have ka:=hc.lo _ pT;have fS:=hc.hi _ pT;refine⟨(kinds_ok hk).1,(kinds_ok hk).2,anp ka (by decide),?_,h6⟩;refine(?_:(fj c card).fdiv 324<2 ^ 50);exact aa (ajk _ (by decide)) (ad1 (am7 _ ka) (ad1 fS (by decide)))
theorem KQ(hc:CellsOk 8 (2 ^ 40) c)(bX:Int):∀(cs:List Int)(q:List Lt×List Lt),(∀ x∈cs,x∈six)->(∀ l∈q.1,bf l)->(∀ l∈q.2,bf l)->
  (∀ l∈(cs.foldl (bV c bX) q).1,bf l)/\(∀ l∈(cs.foldl (bV c bX) q).2,bf l)/\(cs.foldl (bV c bX) q).1.length+(cs.foldl (bV c bX) q).2.length<=q.1.length+q.2.length+2 * cs.length:=by
 intro ah;induction ah with
|nil=>intro q _ h1 h2;exact⟨h1,h2,by simp⟩
|cons card cs ih=>intro q h6 h1 h2;refine aa acd ?_;refine bK (Jy (gH bX card) ((fj c card).fdiv 324) card (kindsOf (fj c card)) q (Cy hc (h6 card abq)) h1 h2) λa1 a2 a3=> ?_;obtain⟨b1,b2,b3⟩:=ih (bV c bX q card) (λx hx=>h6 x (abl _ hx)) a1 a2;have:=v4 (fj c card);refine⟨b1,b2,?_⟩;have e:(bV c bX q card).1.length+(bV c bX q card).2.length=q.1.length+q.2.length+(kindsOf (fj c card)).length:=a3;exact aa acv (abj b3 (abj (ab8 (abj (ab2 e) (acs this _)) _) (ab2 (afp ..))))
theorem HN(D:List Int)(l:Lt)(A B:List Int):(j7 D l++A++B).Perm (D++(gc [l]++A)++B):=by
 rw[Du];unfold j7
 by_cases h:l.1<=8<;>simp[h]
theorem Gr(l:Lt)(r:List Lt):gc (l::r)=gc [l]++gc r:=by rw[←Dt];rfl
noncomputable def tot(s:Qf):Nat:=s.1.length+s.2.1.length
theorem JB(c7 t:Int)(hb:bitAt c7 t=0\/bitAt c7 t=1)(s:Qf):((bA c7 s t).2.2++gc (bA c7 s t).1++gc (bA c7 s t).2.1).Perm (s.2.2++gc s.1++gc s.2.1)/\tot (bA c7 s t)=tot s - 1:=by
 obtain⟨Q0,Q1,D⟩:=s;unfold bA tot;dsimp only;generalize bitAt c7 t=b at hb;have e0:∀ l r,jF 0 (l::r,Q1,D)=(r,Q1,j7 D l):=λl r=>rfl;have e1:∀ l r,jF 1 (Q0,l::r,D)=(Q0,r,j7 D l):=λl r=>rfl;have p0:∀ l r,(j7 D l++gc r++gc Q1).Perm (D++gc (l::r)++gc Q1):=λl r=>by rw[Gr];exact HN D l _ _
 have p1:∀(l:Lt)(r Q0:List Lt),(j7 D l++gc Q0++gc r).Perm (D++gc Q0++gc (l::r)):=λl r Q0=>by
  (refine aa (Gr l r) ?_;rw[Du]);unfold j7
  by_cases h:l.1<=8
  ·simp only[h,if_true,adb];refine aig D ?_;rw[←adb,←adb];exact aib _ aih
  ·simp only[h,if_false,adb,aeg];exact aic _
 rcases hb with rfl|rfl
 ·induction Q0 using abn with
 |cons l r=>have e:cX (l::r) Q1 0=0:=rfl;(refine aa e ?_;rw[e0]);exact⟨p0 l r,by simp<;>lia⟩
 |nil=>have e:cX [] Q1 0=1:=rfl;refine aa e ?_;induction Q1 using abn with
  |nil=>exact⟨aic _,rfl⟩|cons l r=>exact⟨p1 l r [],by rfl⟩
 ·induction Q1 using abn with
 |cons l r=>have e:cX Q0 (l::r) 1=1:=rfl;(refine aa e ?_;rw[e1]);exact⟨p1 l r Q0,by rfl<;>lia⟩
 |nil=>have e:cX Q0 [] 1=0:=rfl;refine aa e ?_;induction Q0 using abn with
  |nil=>exact⟨aic _,rfl⟩|cons l r=>exact⟨p0 l r,by rfl⟩
theorem Uz(c7 t:Int):bitAt c7 t=0\/bitAt c7 t=1:=by have a:=acf (c7.fdiv (2 ^ (t.fmod 20).toNat)) (b:=2) ((λ{a}=>aca.mp) rfl);have b:=ack (c7.fdiv (2 ^ (t.fmod 20).toNat)) (b:=2) ((λ{a}=>aca.mp) rfl);unfold bitAt;exact aho (c7.fdiv (2 ^ (t.fmod 20).toNat))
theorem Ek(c7:Int):∀(ts:List Int)(s:Qf),((ts.foldl (bA c7) s).2.2++gc (ts.foldl (bA c7) s).1++gc (ts.foldl (bA c7) s).2.1).Perm (s.2.2++gc s.1++gc s.2.1)/\tot (ts.foldl (bA c7) s)=tot s - ts.length:=by intro ah;induction ah with
|nil=>intro s;exact⟨aic _,rfl⟩
|cons t ts ih=>intro s;obtain⟨a,b⟩:=ih (bA c7 s t);obtain⟨d,e⟩:=JB c7 t (Uz c7 t) s;exact aa acd ⟨a.trans d,by(refine aa b ?_;refine aa e ?_;refine aa acv ?_);lia⟩
theorem N6(ex:Int):∀(ms:List Int)(s:List En×Bool),jj D s->jj D (ms.foldl (λs dL=>(j5 s.1 (uV ex dL),true)) s)/\((ms.foldl (λs dL=>(j5 s.1 (uV ex dL),true)) s).1.map (·.1)).Perm (s.1.map (·.1)):=by intro ah;induction ah with
|nil=>intro s h;exact⟨h,aic _⟩
|cons m ms ih=>
  intro s h;have a1:=acf (ex+2 * m) (b:=6) ((λ{a}=>aca.mp) rfl);have a2:=ack (ex+2 * m) (b:=6) (adg _);obtain⟨n,hn⟩:∃ n:Nat,uV ex m=n:=⟨(uV ex m).toNat,(agg a1).symm⟩;have i7:n<6:=by unfold uV at hn;exact Yo hn
  have eJ:=h.ln;obtain⟨e,he⟩:∃ e,s.1[n]? =some e:=⟨_,abu (ajj i7 (id (ach eJ)))⟩;have hI:=T9 h he;(refine aa acd ?_;refine aa hn ?_);obtain⟨b1,b2⟩:=ih (j5 s.1 (n:Int),true) hI;refine⟨b1,b2.trans ?_⟩;dsimp only;refine aa (mH he) ?_;have hs:s.1=s.1.take n++e::s.1.drop (n+1):=by obtain⟨h1,h2⟩:=abw.mp he;(refine aa (ach h2) ?_;refine aa (ach (ahc h1)) ?_;rw[akt])
  have:(s.1.map (·.1))=((s.1.take n).map (·.1))++e.1::((s.1.drop (n+1)).map (·.1)):=by have:=congrArg (amq (·.1)) hs;simpa using this
  refine aa this ?_;simp only[af4,ab3,aha,adb];refine aig _ ?_;exact aih
end
end
section
theorem Az:∃ d∈recsOf hd.view_39,d.name=Mi "add_callers" :=by
 have h:(recsOf hd.view_39).any (λd=>d.name==Mi "add_callers")=true:=by decide +kernel
 refine ak (ag9.mp h) λd h1 h2=> ?_;exact⟨d,h1,by simpa using h2⟩
theorem RX{hp':List Int->List Ob}(aI:∀ ns,(hp' ns)[0]? =some (.tab 75 #[]))
  (H:∀(W:Wd)(p:Params)(mg mb:Str->Option Value)(ns:List Int),W.prog=ab6.prog->ns.length<=63->Wr W p mg mb->(∃ bm ob,BMod W.B mainGlobals mg bm ob)->sO W 60 true (.ref 344) [] [.lst (iL ns)] [.tab 75 #[]] (.bool true) (hp' ns)) :
  ab6.Holds:=by
 refine hd ?_;intro w s₀ s₁ mg mb G Y a o pm cd r7 dV kV ho sg nK hD DB hg args f_ as fw im wq sN C8;have X:(hd.heap_39 w.params).In s₁.heap:=kIn_of Y;obtain⟨ns,rfl,fh⟩:=Nt (l:=ab6) fw rfl;have e1:mg (Mi "law")=some (.ref 344):=mg_of X G.T.g (by kernel_rfl);have e2:a=344:=by have:mg (Mi "law")=some (.ref a):=DB;rw[e1]at this;cases this;rfl
 subst e2;cases sN with
|cons sM hw2=>cases hw2;cases sM with
 |list ha xc=>
   rename_i b vs;have hb:b≠sysModules:=by intro q;subst q;cases wq with
   |cons r1 r2=>cases r1 with
    |list h1 h2 h3 h4=>exact absurd (C8 sysModules (ahn rfl)) (by decide)
   have S:Start (hd.heap_39 w.params) [75] mg mb s₁.heap:=by
    refine⟨X,G.T.g,G.T.b,G.T.builtins,G.T.nolimit,G.T.bmain,?_,?_,?_,?_,by decide⟩
    ·(refine ak ((G.T.seer (by decide +kernel)).mods) λmm dy _=> ?_;obtain⟨o,_,_,ho,_⟩:=dy);exact⟨o,ho⟩
    ·intro P hP;obtain rfl:P=75:=by simpa using hP
     refine cps λ_ c_=> ?_;refine ak Az λd po CH=> ?_;obtain⟨a',o',fd,c,P,h1,h2,h3,h4,h5,h6⟩:=G.T.tab d po;have q1:mg (Mi "add_callers")=some (.ref 80):=mg_of X G.T.g (by kernel_rfl);rw[CH,q1]at h1;cases h1;have q2:=X 80 _ rfl;rw[q2]at h2;cases h2;cases h3;cases h4;obtain⟨⟨o2,Fs,g1,g2,g3,g4⟩,g5⟩:=id h6;refine c_ ?_;have q3:=X 79 _ rfl;rw[q3]at g1;cases g1;cases g3;cases g4;exact⟨79,h6⟩
    ·intro P hP;obtain rfl:P=75:=by simpa using hP
     decide
    ·intro P hP;obtain rfl:P=75:=by simpa using hP
     rfl
   refine enter (tabs:=[75]) (fa:=344) (k:=60) (hp':=hp' ns) S hg ha xc hb ?_ (λW h1 h2 G' M=> ?_) ?_
   ·exact⟨by decide +kernel,by decide +kernel⟩
   ·exact H W w.params mg mb ns h1 fh G' M
   ·intro i P hi;induction i using acw with
   |zero=>simp at hi;subst hi;exact aI ns|succ i=>injection hi
end
section
noncomputable def M_:List Int:=[2420,181,1910,92,543,2701,45,150]
noncomputable def je(ns:List Int):List Int:=cellsOf ns M_
noncomputable def mF(ns:List Int):Int:=(cN (je ns) 6).getD 0
noncomputable def Xq(ns:List Int):Int:=(cN (je ns) 7).getD 0
noncomputable def oZ(ns:List Int):List Lt×List Lt:=(dM ((mF ns).fmod 7)).foldl (bV (je ns) ((mF ns).fmod 7)) ([],[])
noncomputable def xY(ns:List Int):Qf:=(e_ 0 24 1).foldl (bA (Xq ns)) ((oZ ns).1,(oZ ns).2,[])
noncomputable def σ0F(ns:List Int):List En×Bool:=((xY ns).2.2.map (·,false),false)
noncomputable def σF(ns:List Int):List En×Bool:=G7 (mF ns) (σ0F ns)
noncomputable def Ly(S:Sy)(ns:List Int):List Ob:=Hc S (je ns) (xY ns).1 (xY ns).2.1 (xY ns).2.2 (bC (σF ns).1) (gB (((mF ns).fdiv 126).fmod 2))
theorem Jh(G:Wr W p mg mb){S:Sy}(H:mV W S){bm:Addr}{ob:Obj}(BM:BMod W.B mainGlobals mg bm ob){ns:List Int}(fh:ns.length<=63){r:FuncData×List Stmt}(hr:iT (hd.heap_39 p) 344=some r) :
  gJ W (cH r.1 59 true) [some (.lst (iL ns)),some (.ref 1)] [.tab 75 #[],.list (iL M_)] (r.2.drop 1) (.ret (.bool true) (Ly S ns)):=by
 have DM:=gA ns none (some 60);have zi:CellsOk 8 10000 M_:=⟨rfl,by decide,by decide⟩;have DO:(pick ns none (some 60)).length<=63:=abj DM fh;have l5:=zg (n:=8) (by decide) (l:=pairsOf (pick ns none (some 60))) zi;have hc:CellsOk 8 (2 ^ 40) (je ns):=⟨l5.len,l5.lo,λx hx=>by
  have h1:=l5.hi x hx;rw[pairs_len]at h1;have h2:((10000+1000000 * (pick ns none (some 60)).length:Nat):Int)<=((2 ^ 40:Nat):Int):=by lia
  exact acr h1 h2⟩
 have ar:=hc.len;have hm:cN (je ns) 6=some (mF ns):=by have h:=h_ (l:=je ns) (i:=6) (by decide) (by refine aa ar ?_;decide);(rewrite[mF];refine aa h ?_);rfl
 have h7:cN (je ns) 7=some (Xq ns):=by have h:=h_ (l:=je ns) (i:=7) (by decide) (by refine aa ar ?_;decide);(rewrite[Xq];refine aa h ?_);rfl
 have tn:=acf (mF ns) (b:=7) ((λ{a}=>aca.mp) rfl);have BD:=ack (mF ns) (b:=7) ((λ{a}=>aca.mp) rfl);have gy:0<=(mF ns).fmod 7/\(mF ns).fmod 7<=6:=⟨tn,alg (ack _ (by decide:(0:Int)<6+1))⟩;have E9:=acf ((mF ns).fdiv 7) (b:=3) (adg _);have Fa:=ack ((mF ns).fdiv 7) (b:=3) (adg _);have iA:((mF ns).fdiv 7).fmod 3=0\/((mF ns).fdiv 7).fmod 3=1\/((mF ns).fdiv 7).fmod 3=2:=XK;have Fk:=acf ((mF ns).fdiv 21) (b:=6) (adg _);have Fn:=ack ((mF ns).fdiv 21) (b:=6) (adg _);have EW:=acf ((mF ns).fdiv 126) (b:=2) (adg _);have EX:=ack ((mF ns).fdiv 126) (b:=2) (adg _);have zd:((mF ns).fdiv 126).fmod 2=0\/((mF ns).fdiv 126).fmod 2=1:=Ys;obtain⟨c6,BC⟩:=vL gy;refine bK (KQ hc ((mF ns).fmod 7) (dM ((mF ns).fmod 7)) ([],[]) c6 (by simp) (by simp)) λqa qb qc=> ?_;have qp:=Cd (je ns) ((mF ns).fmod 7) (dM ((mF ns).fmod 7)) ([],[]);have cp:(dM ((mF ns).fmod 7)).Perm six:=by
  have:∀ x∈[(0:Int),1,2,3,4,5,6],(dM x).isPerm six=true:=by decide +kernel
  have hx:=this ((mF ns).fmod 7) (by rcases pH gy with h|h|h|h|h|h|h<;>refine aa h ?_<;>simp);exact List.isPerm_iff.mp hx
 have y6:J9 0 ((oZ ns).1,(oZ ns).2,[]):=⟨qa,qb,by dsimp only;simp only[agn,ae7,BC]at qc;exact abj qc (by decide),by simp,by simp⟩;obtain⟨rp,rt⟩:=Ek (Xq ns) (e_ 0 24 1) ((oZ ns).1,(oZ ns).2,[]);have EM:(e_ 0 24 1).length=24:=by decide +kernel
 have k8:tot (xY ns)=0:=by
  have:tot ((oZ ns).1,(oZ ns).2,([]:List Int))<=20:=y6.ln;have e:tot (xY ns)=tot ((oZ ns).1,(oZ ns).2,([]:List Int)) - 24:=by exact aa (ach EM) rt
  exact e.trans (ags (tl this rfl))
 have e0:(xY ns).1=[]:=adp.mp (by unfold tot at k8;exact Nat.eq_zero_of_add_eq_zero_right k8);have e1:(xY ns).2.1=[]:=adp.mp (by unfold tot at k8;exact Nat.eq_zero_of_add_eq_zero_left k8);have dp:(xY ns).2.2.Perm six:=by have h:((xY ns).2.2++gc (xY ns).1++gc (xY ns).2.1).Perm (([]:List Int)++gc (oZ ns).1++gc (oZ ns).2):=rp;rw[e0,e1]at h;simp only[gc,List.filter_nil,aha,adv,aeg]at h;exact h.trans ((qp:(gc (oZ ns).1++gc (oZ ns).2).Perm (dM ((mF ns).fmod 7))).trans cp)
 have mr:(σ0F ns).1.map (·.1)=(xY ns).2.2:=by simp[σ0F,ae3]
 have zn:∀ d∈(xY ns).2.2,d∈six:=λd hd=>dp.subset hd;have gd:(xY ns).2.2.length=6:=dp.length_eq;have oL:jj (xY ns).2.2 (σ0F ns):=⟨by exact aa mr (dp.nodup_iff.mpr (by decide)),λe he=>by(refine ak (ac0.mp he) λx hx an=> ?_;obtain rfl:=an);exact zn x hx,by rw[σ0F,acx];exact gd,λ_=>mr⟩;obtain⟨hI,hp⟩:=N6 (((mF ns).fdiv 21).fmod 6) (e_ 0 (((mF ns).fdiv 7).fmod 3) 1) (σ0F ns) oL;have nz:jj (xY ns).2.2 (σF ns):=hI;have BE:(bc (σF ns)).Perm six:=by have:((σF ns).1.map (·.1)).Perm ((σ0F ns).1.map (·.1)):=hp;rw[mr]at this;exact this.trans dp
 refine n8 (QT BE zd) λk1 k2 k3 k4 k5=> ?_;have sw:∀ l∈(xY ns).1,bf l:=by refine aa e0 ?_;simp
 have sx:∀ l∈(xY ns).2.1,bf l:=by refine aa e1 ?_;simp
 have eR:∀ q∈gB (((mF ns).fdiv 126).fmod 2),q.1∈[(-1:Int),0,1,2,3]:=by rcases zd with h|h<;>refine aa h ?_<;>decide
 let P:aj->List Ob->List Stmt->Prop:=λe h l=>gJ W (cH r.1 59 true) e h l (.ret (.bool true) (Ly S ns));have st:∀{env hp s e h l},Ex W (cH r.1 59 true) env hp s (.next e h)->P e h l->P env hp (s::l):=λx y=>cL x.c y;exact X_ (P:=P) G fh zi hm hc hr st<|Yb (P:=P) G H gy hc hr st<|Yc G H hc h7 y6 hr<|cU.c<|Yd G iA zn oL hr<|Ye G nz hc hm hr<|Yg G nz hr<|Yh G H nz sw sx BM eR ⟨k1,k2,k3,k4,k5⟩ hr rfl
theorem Ji(G:Wr W p mg mb)(H:mV W S)(BM:BMod W.B mainGlobals mg bm ob)(fh:ns.length<=63):sO W 60 true (.ref 344) [] [.lst (iL ns)] [.tab 75 #[]] (.bool true) (Ly S ns):=
 Cg (o:= .ret (.bool true) (Ly S ns)) (fnAt G rfl (by kernel_rfl)) rfl (λ_=>by kernel_rfl) (az rfl)
  (zJ (hp₁:=[.tab 75 #[]]) (vs:=[.int 181,.int 1910,.int 92,.int 543,.int 2701,.int 45,.int 150]) (lJ (q:=[]) 9 (.last ⟨rfl,rfl⟩ rfl)) (by decide) (cT rfl) (Jh G H BM fh rfl)) ⟨rfl,rfl⟩
end
section
noncomputable def eS(r:Int):Str:=(cN [Mi "\n",Mi "\r",Mi "\r\n"] r).getD (Mi "")
noncomputable def Yj(odd:Int)(m:Str):Str:=(cN [Mi "229 (||" ++m++Mi "|)",Mi "229 (|||" ++m++Mi "||)"] odd).getD (Mi "")
noncomputable def Yu(odd:Int):Str:=(cN [Mi "257-\"",Mi "257 -"] odd).getD (Mi "")
noncomputable def codeS(kind odd:Int):Str:=if kind=9 then Yu odd else if kind=16 then Mi "250 \"" else if kind=17 then Mi ".257 \"" else Mi "257 \""
noncomputable def Yk(q:Int):Str:=(cN [Mi "\"",Mi "\" is \"it\"",Mi ""] q).getD (Mi "")
noncomputable def tS(kind r odd card:Int):Str:=(cN (sy (eS r) (bN card) (Yj odd (bN card))) kind).getD (Mi "")
noncomputable def UW(card:Int):Str:=ad4 (wordOf card) (Mi "\"") (Mi "\"\"")
noncomputable def iH(kind odd q card:Int):Str:=codeS kind odd++UW card++Yk q
noncomputable def mR(kind odd card:Int):Str:=ur (mq (toL (tS kind 0 odd card)))
noncomputable def Fl:List Int:=[0,1,2,3,4,5,6,7,8,9,10,11,12,13,14,15,16,17]
noncomputable def R3:List Int:=[0,1,2]
noncomputable def R2:List Int:=[0,1]
theorem Rv:(Fl.all λkind=>R3.all λr=>R2.all λodd=>six.all λcard=>decide ((toL (tS kind r odd card)).length<=100)&&((toL (tS kind r odd card)).getLast? !=some 13)&&(mq (toL (tS kind r odd card))==mq (toL (tS kind 0 odd card))))=true:=by decide +kernel
noncomputable def c3(x:Str):Bool:=adf x none (some 3) !=Mi "229"
noncomputable def lB(x:Str):Int:=ad3 x (Mi "(")
noncomputable def rB(x:Str):Int:=afa x (Mi ")") (lB x+1)
noncomputable def W8(x:Str):Bool:= !c3 x&&decide (0<=lB x)&&decide (lB x+1<x.length)&&decide (0<rB x)&&decide (rB x - 1<x.length)&& !(ad2 x (lB x+1) !=ad2 x (rB x - 1))&& !((ad2 x (lB x+1)).length==0)
noncomputable def lE(x:Str):List Str:=adx (adf x (some (lB x+1)) (some (rB x))) (ad2 x (lB x+1))
noncomputable def Xf(c:Int):Str:=(cN [Mi " 1\n",Mi " 2\n",Mi " 3\n",Mi " 4\n",Mi " 5\n",Mi " 6\n"] (c - 1)).getD (Mi "")
noncomputable def W9(c:Int):Str:=(cN [Mi "+01",Mi "+02",Mi "+03",Mi "+04",Mi "+05",Mi "+06"] (c - 1)).getD (Mi "")
noncomputable def Uy(c:Int):Str:=(cN [Mi "1-",Mi "2-",Mi "3-",Mi "4-",Mi "5-",Mi "6-"] (c - 1)).getD (Mi "")
noncomputable def Xu(x:Str)(c:Int):Bool:=W8 x&&decide ((lE x).length=5)&&(cN (lE x) 3==some (bN c)||cN (lE x) 3==some (Xf c)||cN (lE x) 3==some (W9 c))
noncomputable def V8(x:Str)(c:Int):Bool:=W8 x&&decide ((lE x).length=5)&&(cN (lE x) 3==some (Uy c))
noncomputable def X7(x:Str):Bool:=W8 x&&decide ((lE x).length≠5)&&decide ((lE x).length<=100000)
noncomputable def X4(x:Str):Bool:= !c3 x&&decide (lB x<0)
noncomputable def X5(x:Str):Bool:= !c3 x&&decide (0<=lB x)&&decide (lB x+1<x.length)&&decide (rB x<0)
noncomputable def X6(x:Str):Bool:= !c3 x&&decide (0<=lB x)&&decide (lB x+1<x.length)&&decide (0<rB x)&&decide (rB x - 1<x.length)&&(ad2 x (lB x+1) !=ad2 x (rB x - 1))
noncomputable def La(kind:Int)(x:Str)(c:Int):Bool:=if kind=10 then X4 x else if kind=11 then X6 x else if kind=12 then X7 x else if kind=13 then X5 x else if kind=14 then V8 x c else if kind=15 then c3 x else Xu x c
theorem Rt:(Fl.all λkind=>R2.all λodd=>six.all λcard=> !(toL (mR kind odd card)).contains 126&&acy (mR kind odd card)&&La kind (mR kind odd card) card)=true:=by decide +kernel
noncomputable def rep(kind:Int):Int:=if kind=9\/kind=16\/kind=17 then kind else 0
noncomputable def s3(x:Str):Bool:=adf x none (some 3) !=Mi "257"
noncomputable def s5(x:Str):Bool:=adf x (some 3) (some 5) !=Mi " \""
noncomputable def VK(kind:Int)(x:Str)(c:Int):Bool:=if kind=9 then !s3 x&&s5 x else if kind=0 then !s3 x&& !s5 x&&decide (5<=x.length)&&(unq (x.cps.toList.drop 5)==(wordOf c).cps.toList)else s3 x
theorem Ru:(([0,9,16,17]:List Int).all λkind=>R2.all λodd=>R3.all λq=>six.all λcard=>((toL (iH kind odd q card)).all λc=>c !=13&&c !=10)&&acy (iH kind odd q card)&&decide ((iH kind odd q card).length<=100)&&VK kind (iH kind odd q card) card)=true:=by decide +kernel
theorem Ry:(six.all λc=>decide ((wordOf c).length<=100)&&decide ((UW c).length<=900)&&acy (wordOf c)&&decide ((bN c).length<=2))=true:=by decide +kernel
theorem Rq:(Fl.all λkind=>R2.all λodd=>decide ((codeS kind odd).length<=60))=true:=by decide +kernel
theorem Rr:(R3.all λr=>decide ((eS r).length<=2)&&decide ((ajp (eS r) 3).length<=6)&&decide ((Yk r).length<=60)&&ends.contains (toL (eS r)))=true:=by decide +kernel
theorem Wa{k:Int}(h0:0<=k)(h1:k<=17):k∈Fl:=by obtain⟨n,rfl⟩:=ahu h0;exact(by decide:∀ n:Nat,n<18->(n:Int)∈Fl) n (amo (ac9.mp h1))
theorem r3(k:Int):k.fmod 3∈R3:=by have a:=acf k (b:=3) ((λ{a}=>aca.mp) rfl);have b:=ack k (b:=3) ((λ{a}=>aca.mp) rfl);have:k.fmod 3=0\/k.fmod 3=1\/k.fmod 3=2:=XK;simp only[R3,abx,adh,or_false];exact this
theorem r2(k:Int):k.fmod 2∈R2:=by have a:=acf k (b:=2) ((λ{a}=>aca.mp) rfl);have b:=ack k (b:=2) ((λ{a}=>aca.mp) rfl);have:k.fmod 2=0\/k.fmod 2=1:=aho k;simp only[R2,abx,adh,or_false];exact this
theorem SM(kind odd q card:Int):iH kind odd q card=iH (rep kind) odd q card:=by
 unfold iH codeS rep
 by_cases h9:kind=9
 ·simp[h9]
 ·by_cases r8:kind=16
  ·simp[r8]
  ·by_cases yB:kind=17
   ·simp[yB]
   ·simp[h9,r8,yB]
theorem Sv(kind:Int):rep kind∈([0,9,16,17]:List Int):=by
 unfold rep;split
 ·rename_i h;rcases h with rfl|rfl|rfl<;>exact ahn rfl
 ·exact abq
structure Xy(kind odd q card:Int):Prop where
 nl:oO (toL (iH kind odd q card))
 ok:acy (iH kind odd q card)=true
 len:(iH kind odd q card).length<=100
 cls:VK (rep kind) (iH kind odd q card) card=true
theorem SJ{kind odd q card:Int}(ho:odd∈R2)(hq:q∈R3)(hc:card∈six):Xy kind odd q card:=by have h:=ab7.mp (ab7.mp (ab7.mp (ab7.mp Ru (rep kind) (Sv kind)) odd ho) q hq) card hc;rw[←SM]at h;simp only[ab1,ab7,bne_iff_ne,decide_eq_true_eq]at h;exact⟨h.1.1.1,h.1.1.2,h.1.2,h.2⟩
structure Xv(kind odd card:Int):Prop where
 til:126∉toL (mR kind odd card)
 ok:acy (mR kind odd card)=true
 cls:La kind (mR kind odd card) card=true
theorem WX{kind odd card:Int}(hk:kind∈Fl)(ho:odd∈R2)(hc:card∈six):Xv kind odd card:=by have h:=ab7.mp (ab7.mp (ab7.mp Rt kind hk) odd ho) card hc;simp only[ab1,ac7,alh,decide_eq_false_iff_not]at h;exact⟨h.1.1,h.1.2,h.2⟩
structure TF(kind r odd card:Int):Prop where
 len:(toL (tS kind r odd card)).length<=100
 last:(toL (tS kind r odd card)).getLast? ≠some 13
 lf:mq (toL (tS kind r odd card))=toL (mR kind odd card)
theorem tF{kind r odd card:Int}(hk:kind∈Fl)(hr:r∈R3)(ho:odd∈R2)(hc:card∈six):TF kind r odd card:=by have h:=ab7.mp (ab7.mp (ab7.mp (ab7.mp Rv kind hk) r hr) odd ho) card hc;simp only[ab1,decide_eq_true_eq,bne_iff_ne,beq_iff_eq]at h;exact⟨h.1.1,h.1.2,by(refine aa h.2 ?_;rw[mR,dR])⟩
structure WF(c:Int):Prop where
 len:(wordOf c).length<=100
 dbl:(UW c).length<=900
 ok:acy (wordOf c)=true
 sl:(bN c).length<=2
theorem wF{c:Int}(hc:c∈six):WF c:=by have h:=ab7.mp Ry c hc;simp only[ab1,decide_eq_true_eq]at h;exact⟨h.1.1.1,h.1.1.2,h.1.2,h.2⟩
structure EF(r:Int):Prop where
 len:(eS r).length<=2
 mul:(ajp (eS r) 3).length<=6
 x3:(Yk r).length<=60
 mem:toL (eS r)∈ends
theorem eF{r:Int}(hr:r∈R3):EF r:=by have h:=ab7.mp Rr r hr;simp only[ab1,decide_eq_true_eq,alh]at h;exact⟨h.1.1.1,h.1.1.2,h.1.2,h.2⟩
theorem Gm{kind odd card:Int}(hk:kind∈Fl)(ho:odd∈R2)(hc:card∈six):(mR kind odd card).length<=200:=by have h:=tF hk (r:=0) (by decide) ho hc;(rewrite[aB];refine aa (ach h.lf) ?_);unfold mq;have h1:=afw (λc=>decide (c≠13)) (crlf (toL (tS kind 0 odd card)));have h2:=jx (toL (tS kind 0 odd card));have h3:=h.len;exact tl (abj h1 (abj h2 (acu 2 h3))) rfl
noncomputable def uH(kind r odd q card:Int):Str:=tS kind r odd card++eS r++Mi "~" ++eS r++iH kind odd q card
noncomputable def vd(kind odd q card:Int):Str:=mR kind odd card++Mi "\n~\n" ++iH kind odd q card
noncomputable def tH(sd kind odd q card:Int):V:=(cN (Dk (m7 sd) card (wordOf card) (mR kind odd card) (iH kind odd q card)++[.tup [.str (Mi "reply"),.str (iH kind odd q card)],.tup [.str (Mi "reply"),.str (iH kind odd q card)]]) kind).getD .none
noncomputable def SY:Sy where
 text:=λl=>uH l.1 (l.2.1.fmod 3) (l.2.1.fmod 2) ((l.2.1.fdiv 3).fmod 3) l.2.2
 quo:=λl=>ur (dots true (crlf (toL (uH l.1 (l.2.1.fmod 3) (l.2.1.fmod 2) ((l.2.1.fdiv 3).fmod 3) l.2.2))))
 told:=λsd l=> .tup [.str (vd l.1 (l.2.1.fmod 2) ((l.2.1.fdiv 3).fmod 3) l.2.2),tH sd l.1 (l.2.1.fmod 2) ((l.2.1.fdiv 3).fmod 3) l.2.2]
theorem ym{kind r odd q card:Int}(hk:kind∈Fl)(hr:r∈R3)(ho:odd∈R2)(hq:q∈R3)(hc:card∈six):(uH kind r odd q card).length<=210:=by
 have h1:=(tF hk hr ho hc).len;have h2:=(eF hr).len;have h3:=(SJ (kind:=kind) ho hq hc).len;have h4:(Mi "~").length=1:=by decide +kernel
 rw[←aB]at h1;unfold uH;simp only[str_len];exact tl (adt (adt (adt (adt h1 h2) (ab2 h4)) h2) h3) rfl
theorem V4{kind r odd q card:Int}(hk:kind∈Fl)(hr:r∈R3)(ho:odd∈R2)(hq:q∈R3)(hc:card∈six):ur (mq (toL (uH kind r odd q card)))=vd kind odd q card:=by
 have h1:=tF hk hr ho hc;have h2:=eF hr;have h3:=SJ (kind:=kind) ho hq hc;have h4:toL (Mi "~")=[126]:=by decide +kernel
 apply pg;rw[dR];unfold uH vd;simp only[jY,h4,jA];(refine aa (R0 h2.mem h1.last h3.nl) ?_;exact aa h1.lf rfl)
theorem jm{α:Type}{l:List α}{i:Int}{d:α}(h:(cN l i).isSome=true):cN l i=some ((cN l i).getD d):=by induction e:cN l i using abt with
|none=>rw[e]at h;cases h
|some x=>rfl
theorem fD{α:Type}{l:List α}{i:Int}(h0:0<=i)(h1:i<l.length):(cN l i).isSome=true:=by exact aa (h_ h0 h1) rfl
theorem Nj{k:Int}(h:k∈Fl):0<=k/\k<18:=(by decide:∀ k∈Fl,0<=k/\k<18) k h
theorem Ui{k:Int}(h:k∈R3):0<=k/\k<3:=(by decide:∀ k∈R3,0<=k/\k<3) k h
theorem W_{k:Int}(h:k∈R2):0<=k/\k<2:=(by decide:∀ k∈R2,0<=k/\k<2) k h
theorem lV{sd kind odd q card:Int}(hk:kind∈Fl) :
  (kind<=8/\tH sd kind odd q card= .tup [.str (m7 sd),.int card,.str (wordOf card)])\/(kind=9/\tH sd kind odd q card= .tup [.str (m7 sd),.int card,.str (Mi "")])\/
  (10<=kind/\kind<=13/\tH sd kind odd q card= .tup [.str (Mi "proto"),.str (mR kind odd card)])\/(kind=14/\tH sd kind odd q card= .tup [.str (Mi "value"),.str (Mi "")])\/
  (kind=15/\tH sd kind odd q card= .tup [.str (Mi "reply"),.str (mR kind odd card)])\/(16<=kind/\tH sd kind odd q card= .tup [.str (Mi "reply"),.str (iH kind odd q card)]):=by
 simp only[Fl,abx,adh,or_false]at hk;rcases hk with rfl|rfl|rfl|rfl|rfl|rfl|rfl|rfl|rfl|rfl|rfl|rfl|rfl|rfl|rfl|rfl|rfl|rfl
 iterate 9 exact .inl ⟨by decide,rfl⟩
 ·exact .inr (.inl ⟨rfl,rfl⟩)
 iterate 4 exact .inr (.inr (.inl ⟨by decide,by decide,rfl⟩))
 ·exact .inr (.inr (.inr (.inl ⟨rfl,rfl⟩)))
 ·exact .inr (.inr (.inr (.inr (.inl ⟨rfl,rfl⟩))))
 iterate 2 exact .inr (.inr (.inr (.inr (.inr ⟨by decide,rfl⟩))))
end
section
theorem RN{d:Int}(h:d∈six):cD (Xf d) d:=by
 rcases d8 h with rfl|rfl|rfl|rfl|rfl|rfl
 ·exact(λt=>by kernel_rfl:cD (Mi " 1\n") 1)
 ·exact(λt=>by kernel_rfl:cD (Mi " 2\n") 2)
 ·exact(λt=>by kernel_rfl:cD (Mi " 3\n") 3)
 ·exact(λt=>by kernel_rfl:cD (Mi " 4\n") 4)
 ·exact(λt=>by kernel_rfl:cD (Mi " 5\n") 5)
 ·exact(λt=>by kernel_rfl:cD (Mi " 6\n") 6)
theorem RM{d:Int}(h:d∈six):cD (W9 d) d:=by
 rcases d8 h with rfl|rfl|rfl|rfl|rfl|rfl
 ·exact(λt=>by kernel_rfl:cD (Mi "+01") 1)
 ·exact(λt=>by kernel_rfl:cD (Mi "+02") 2)
 ·exact(λt=>by kernel_rfl:cD (Mi "+03") 3)
 ·exact(λt=>by kernel_rfl:cD (Mi "+04") 4)
 ·exact(λt=>by kernel_rfl:cD (Mi "+05") 5)
 ·exact(λt=>by kernel_rfl:cD (Mi "+06") 6)
theorem RL{d:Int}(h:d∈six):gZ (Uy d):=by
 rcases d8 h with rfl|rfl|rfl|rfl|rfl|rfl
 ·exact(λt=>by kernel_rfl:gZ (Mi "1-"))
 ·exact(λt=>by kernel_rfl:gZ (Mi "2-"))
 ·exact(λt=>by kernel_rfl:gZ (Mi "3-"))
 ·exact(λt=>by kernel_rfl:gZ (Mi "4-"))
 ·exact(λt=>by kernel_rfl:gZ (Mi "5-"))
 ·exact(λt=>by kernel_rfl:gZ (Mi "6-"))
theorem KD{d:Int}(h:d∈six):(reprText (Uy d)).length<=1000:=by rcases d8 h with rfl|rfl|rfl|rfl|rfl|rfl<;>decide +kernel
structure PF(x:Str):Prop where
 h3:(adf x none (some 3) !=Mi "229")=false
 l0:0<=lB x
 l1:lB x+1<x.length
 r0:0<rB x
 r1:rB x - 1<x.length
 eq:(ad2 x (lB x+1) !=ad2 x (rB x - 1))=false
 ne:((ad2 x (lB x+1)).length==0)=false
theorem pF(h:W8 x=true):PF x:=by simp only[W8,c3,ab1,decide_eq_true_eq,ac7]at h;exact⟨h.1.1.1.1.1.1,h.1.1.1.1.1.2,h.1.1.1.1.2,h.1.1.1.2,h.1.1.2,h.1.2,h.2⟩
theorem q9{i:Int}(h:cN l i=some x):cN (sL l) i=some (.str x):=by rw[sL];exact g_ h
theorem xR(G:Wr W p mg mb){c:Int}(hx:x.length<=1000)(hc:c∈six)(h:Xu x c=true):Call W (k+1) true (.ref 131) [] [.str x,.tup [s,u]] hp (.tup [s,.int c]) hp:=by
 simp only[Xu,ab1,decide_eq_true_eq,aef,beq_iff_eq]at h;obtain⟨⟨h1,h2⟩,h3⟩:=h;have P:=pF h1;have hs:=abj (abj (akb x (some (lB x+1)) (some (rB x))) hx) (by decide:1000<=100000);rcases h3 with(q|q)|q
 ·exact lD (by lia) G P.h3 P.l0 P.l1 P.r0 P.r1 P.eq P.ne hs rfl h2 (q9 q) (Gz hc)
 ·exact lD (by lia) G P.h3 P.l0 P.l1 P.r0 P.r1 P.eq P.ne hs rfl h2 (q9 q) (RN hc)
 ·exact lD (by lia) G P.h3 P.l0 P.l1 P.r0 P.r1 P.eq P.ne hs rfl h2 (q9 q) (RM hc)
theorem VB(G:Wr W p mg mb){c:Int}(hx:x.length<=1000)(hc:c∈six)(h:V8 x c=true):m_ W (k+1) true (.ref 131) [] [.str x,.tup [s,u]] hp (.type "ValueError") none hp:=by simp only[V8,ab1,decide_eq_true_eq,beq_iff_eq]at h;obtain⟨⟨h1,h2⟩,h3⟩:=h;have P:=pF h1;have hs:=abj (abj (akb x (some (lB x+1)) (some (rB x))) hx) (by decide:1000<=100000);exact Ec (by lia) G P.h3 P.l0 P.l1 P.r0 P.r1 P.eq P.ne hs rfl h2 (q9 h3) (RL hc) (KD hc)
theorem Eb(G:Wr W p mg mb){c kind:Int}(hx:x.length<=1000)(hk:10<=kind/\kind<=13)(h:La kind x c=true):iJ W (k+1) true (.ref 131) [] [.str x,pv] hp (.ref 122) (some x) hp:=by
 have:kind=10\/kind=11\/kind=12\/kind=13:=pP (n:=14) (P:=λx=>10<=x->x=10\/x=11\/x=12\/x=13) (acr (by decide) hk.1) (agc hk.2) (by decide) hk.1;rcases this with rfl|rfl|rfl|rfl
 ·have h':X4 x=true:=h;simp only[X4,c3,ab1,decide_eq_true_eq,ac7]at h';exact Ai (by lia) G h'.1 h'.2
 ·have h':X6 x=true:=h;simp only[X6,c3,ab1,decide_eq_true_eq,ac7]at h';exact Ak (by lia) G h'.1.1.1.1.1 h'.1.1.1.1.2 h'.1.1.1.2 h'.1.1.2 h'.1.2 h'.2
 ·have h':X7 x=true:=h;simp only[X7,ab1,decide_eq_true_eq]at h';have P:=pF h'.1.1;have hs:=abj (abj (akb x (some (lB x+1)) (some (rB x))) hx) (by decide:1000<=100000);exact Al (by lia) G P.h3 P.l0 P.l1 P.r0 P.r1 P.eq P.ne hs rfl h'.1.2 h'.2
 ·have h':X5 x=true:=h;simp only[X5,c3,ab1,decide_eq_true_eq,ac7]at h';exact Aj (by lia) G h'.1.1.1 h'.1.1.2 h'.1.2 h'.2
theorem Cz{kind:Int}{c:Int}(h:La kind x c=true)(hk:kind<=9\/16<=kind):Xu x c=true:=by have h1:kind≠10:=λe=>(by decide:¬((10:Int)<=9\/(16:Int)<=10)) (e▸hk);have h2:kind≠11:=λe=>(by decide:¬((11:Int)<=9\/(16:Int)<=11)) (e▸hk);have h3:kind≠12:=λe=>(by decide:¬((12:Int)<=9\/(16:Int)<=12)) (e▸hk);have h4:kind≠13:=λe=>(by decide:¬((13:Int)<=9\/(16:Int)<=13)) (e▸hk);have h5:kind≠14:=λe=>(by decide:¬((14:Int)<=9\/(16:Int)<=14)) (e▸hk);have h6:kind≠15:=λe=>(by decide:¬((15:Int)<=9\/(16:Int)<=15)) (e▸hk);simpa[La,h1,h2,h3,h4,h5,h6]using h
theorem Js(G:Wr W p mg mb){c:Int}(hx:x.length<=1000)(h:VK 0 x c=true):Call W (k+1) true (.ref 138) [] [.str x] hp (.str (wordOf c)) hp:=by
 have h':(!s3 x&& !s5 x&&decide (5<=x.length)&&(unq (x.cps.toList.drop 5)==(wordOf c).cps.toList))=true:=h;simp only[s3,s5,ab1,decide_eq_true_eq,ac7,beq_iff_eq]at h';have r:=Am (k:=k) (q:=true) (hp:=hp) G (x:=x) (by lia) h'.1.2 h'.1.1.1 h'.1.1.2;rw[h'.2]at r;have e:(⟨(wordOf c).cps.toList.toArray⟩:Str)=wordOf c:=by induction wordOf c using agy;simp
 rwa[e]at r
theorem O3{kind:Int}(h:kind<=8\/10<=kind/\kind<=15):rep kind=0:=by unfold rep;rw[if_neg];(intro e;rcases e with rfl|rfl|rfl<;>revert h<;>decide)
set_option maxHeartbeats 4000000 in
theorem Xk(G:Wr W p mg mb):mV W SY:=by
 refine⟨?_,?_,?_,?_,?_,?_⟩
 ·rintro sd ⟨kind,kk,card⟩ hp k fk hv hb;have hk:=Wa hv.k0 hv.k1;have hr:=r3 kk;have ho:=r2 kk;have hq:=r3 (kk.fdiv 3);have hc:=hv.card;dsimp only at hk hc;have T:=tF hk hr ho hc;have E:=eF hr;have E3:=eF hq;have Wd:=wF hc;have hO:=Nj hk;have ej:=Ui hr;have sq:=W_ ho;have kX:=Ui hq;have zD:=Oz (tS kind (kk.fmod 3) (kk.fmod 2) card);have fq:(mq (toL (tS kind (kk.fmod 3) (kk.fmod 2) card))).length<=200:=by unfold mq;have h1:=afw (λc=>decide (c≠13)) (crlf (toL (tS kind (kk.fmod 3) (kk.fmod 2) card)));have h2:=jx (toL (tS kind (kk.fmod 3) (kk.fmod 2) card));have h3:=T.len;exact tl (abj h1 (abj h2 (acu 2 h3))) rfl
  have un:ad4 (ad4 (tS kind (kk.fmod 3) (kk.fmod 2) card) (Mi "\r\n") (Mi "\n")) (Mi "\r") (Mi "\n")=mR kind (kk.fmod 2) card:=pg (by(refine aa zD.1 ?_;exact aa T.lf rfl));have cc:(codeS kind (kk.fmod 2)).length<=60:=by have h:=ab7.mp (ab7.mp Rq kind hk) (kk.fmod 2) ho;simpa using h
  have ec:=Gm hk ho hc;have o0:=T.len;rw[←aB]at o0;have EZ:([Mi "\n",Mi "\r",Mi "\r\n"]:List Str).length=3:=rfl;have kr:MulOk (eS (kk.fmod 3)) 3:=by have:kk.fmod 3=0\/kk.fmod 3=1\/kk.fmod 3=2:=XK;rcases this with e|e|e<;>refine aa e ?_<;>(unfold MulOk;decide +kernel)
  have mf:(tH sd kind (kk.fmod 2) ((kk.fdiv 3).fmod 3) card).low hp.length=true:=by rcases lV (sd:=sd) (odd:=kk.fmod 2) (q:=(kk.fdiv 3).fmod 3) (card:=card) hk with⟨_,h⟩|⟨_,h⟩|⟨_,_,h⟩|⟨_,h⟩|⟨_,h⟩|⟨_,h⟩<;>refine aa h ?_<;>rfl
  exact DP (t:=tS kind (kk.fmod 3) (kk.fmod 2) card) G hv.kk0 hv.kk1 (jm (fD ej.1 (by simpa using ej.2))) E.len rfl Wd.sl (du _ hc) rfl ⟨kr,E.mul⟩ (jm (fD sq.1 (by simpa using sq.2))) (jm (fD sq.1 (by simpa using sq.2))) rfl cc Wd.len Wd.dbl (jm (fD kX.1 (by simpa using kX.2))) E3.x3 (jm (fD hO.1 (by simpa[sy]using hO.2))) (abj o0 (by decide)) rfl (by exact aa zD.2 (abj fq (by decide))) un (abj ec (by decide)) rfl (jm (fD hO.1 (by simpa[Dk]using hO.2))) mf hb
 ·rintro⟨kind,kk,card⟩ hp k hv;have hl:=ym (Wa hv.k0 hv.k1) (r3 kk) (r2 kk) (r3 (kk.fdiv 3)) hv.card;exact xX G (by refine(?_:(uH _ _ _ _ _).length<=100000);exact abj hl (by decide)) (by refine(?_:toL (ur _)=_);rw[dR];rfl)
 ·rintro⟨kind,kk,card⟩ hv;have hl:=ym (Wa hv.k0 hv.k1) (r3 kk) (r2 kk) (r3 (kk.fdiv 3)) hv.card;refine(?_:(ur (dots true (crlf (toL _)))).length<=2000);rw[aB,dR];have h1:=tG (crlf (toL (uH kind (kk.fmod 3) (kk.fmod 2) ((kk.fdiv 3).fmod 3) card))) true;have h2:=jx (toL (uH kind (kk.fmod 3) (kk.fmod 2) ((kk.fdiv 3).fmod 3) card));rw[aB]at hl;dsimp only at h1 h2 hl ⊢;exact tl (abj h1 (acu 2 (abj h2 (acu 2 hl)))) rfl
 ·rintro sd ⟨kind,kk,card⟩ rest hp k fk hv dE;have hk:=Wa hv.k0 hv.k1;have hr:=r3 kk;have ho:=r2 kk;have hq:=r3 (kk.fdiv 3);have hc:=hv.card;dsimp only at hk hc;have hl:=ym hk hr ho hq hc;have F:=WX hk ho hc;have S:=SJ (kind:=kind) ho hq hc;have ec:=Gm hk ho hc;have em:=S.len;refine(?_:sJ W (k+2) true (.ref 317) [] [.str (ur (dots true (crlf (toL (uH kind (kk.fmod 3) (kk.fmod 2) ((kk.fdiv 3).fmod 3) card))))++sepS++rest),.str (m7 sd)] hp (.tup [.str rest,.tup [.str (vd kind (kk.fmod 2) ((kk.fdiv 3).fmod 3) card),tH sd kind (kk.fmod 2) ((kk.fdiv 3).fmod 3) card]]) hp);have dt:=V4 hk hr ho hq hc;generalize hx:uH kind (kk.fmod 3) (kk.fmod 2) ((kk.fdiv 3).fmod 3) card=x at hl dt ⊢;have kX:(ur (dots true (crlf (toL x)))).length<=2000:=by rw[aB,dR];have h1:=tG (crlf (toL x)) true;have h2:=jx (toL x);rw[aB]at hl;exact tl (abj h1 (acu 2 (abj h2 (acu 2 hl)))) rfl
  refine n8 (reading (x:=x) (q:=ur (dots true (crlf (toL x)))) (dR _) kX rest) λq1 q2 q3 q4 q5=> ?_;generalize ur (dots true (crlf (toL x)))=qq at kX q1 q2 q3 q4 q5 ⊢;rw[dt]at q5;have cc:(vd kind (kk.fmod 2) ((kk.fdiv 3).fmod 3) card).length<=1000:=by
   unfold vd;have h4:(Mi "\n~\n").length=3:=by decide +kernel
   simp only[str_len];exact tl (adt (adt ec (ab2 h4)) em) rfl
  have iF:adx (vd kind (kk.fmod 2) ((kk.fdiv 3).fmod 3) card) (Mi "\n~\n")=[mR kind (kk.fmod 2) card,iH kind (kk.fmod 2) ((kk.fdiv 3).fmod 3) card]:=by have h:=CZ (A:=toL (mR kind (kk.fmod 2) card)) (S:=toL (iH kind (kk.fmod 2) ((kk.fdiv 3).fmod 3) card)) F.til (λq=>(S.nl 10 q).2 rfl);rw[jR,jR]at h;refine aa (ach h) ?_;congr 1;apply pg;rw[dR];unfold vd;(rewrite[jY,jY];exact aa jA rfl)
  have hw:(qq++sepS++rest).length<=100000:=by
   have h3:sepS.length=5:=by decide +kernel
   simp only[str_len];exact tl (adt (adt kX (ab2 h3)) dE) rfl
  have bt:∀ r∈adx qq (Mi "\r\n"),r.length<=100000:=λr hr=>abj (q2 r hr) (by decide);have fT:(adx qq (Mi "\r\n")).length<=16777216:=abj q3 (by decide);rcases lV (sd:=sd) (odd:=kk.fmod 2) (q:=(kk.fdiv 3).fmod 3) (card:=card) hk with⟨h,e⟩|⟨h,e⟩|⟨h,h',e⟩|⟨h,e⟩|⟨h,e⟩|⟨h,e⟩
  ·refine aa e ?_;have hs:=S.cls;rw[O3 (.inl h)]at hs;exact(Hj hw (by lia) q1 bt fT q4 q5.symm (tl cc rfl) iF G (xR G (tl ec rfl) hc (Cz F.cls (.inl (acr h (by decide))))) (Js G (tl em rfl) hs)).c
  ·refine aa e ?_;subst h;have hs:(!s3 (iH 9 (kk.fmod 2) ((kk.fdiv 3).fmod 3) card)&&s5 (iH 9 (kk.fmod 2) ((kk.fdiv 3).fmod 3) card))=true:=S.cls;simp only[s3,s5,ab1,ac7]at hs;exact(Hj hw (by lia) q1 bt fT q4 q5.symm (tl cc rfl) iF G (xR G (tl ec rfl) hc (Cz F.cls (.inl (by lia)))) (An G (tl em rfl) hs.1 hs.2)).c
  ·exact aa e ((vp hw (by lia) q1 bt fT q4 q5.symm (tl cc rfl) iF G (Eb G (tl ec rfl) ⟨h,h'⟩ F.cls)).c)
  ·refine aa e ?_;subst h;exact Ej hw (by lia) q1 bt fT q4 q5.symm (tl cc rfl) iF G (VB G (tl ec rfl) hc F.cls)
  ·refine aa e ?_;subst h;exact(vq hw (by lia) q1 bt fT q4 q5.symm (tl cc rfl) iF G (ut (tl ec rfl) G F.cls)).c
  ·refine aa e ?_;have hs:s3 (iH kind (kk.fmod 2) ((kk.fdiv 3).fmod 3) card)=true:=by
    have h2:=Nj hk;have:kind=16\/kind=17:=pP (n:=18) (P:=λx=>16<=x->x=16\/x=17) h2.1 h2.2 (by decide) h;rcases this with rfl|rfl
    ·exact S.cls
    ·exact S.cls
   exact(vy hw (by lia) q1 bt fT q4 q5.symm (tl cc rfl) iF G (xR G (tl ec rfl) hc (Cz F.cls (.inr (h)))) (uv G (tl em rfl) hs)).c
 ·rintro sd ⟨kind,kk,card⟩ fk hv;refine(?_:Shape sd (kind,kk,card) (.tup [.str _,tH sd kind (kk.fmod 2) ((kk.fdiv 3).fmod 3) card]));rcases lV (sd:=sd) (odd:=kk.fmod 2) (q:=(kk.fdiv 3).fmod 3) (card:=card) (Wa hv.k0 hv.k1)with⟨h,e⟩|⟨h,e⟩|⟨h,h',e⟩|⟨h,e⟩|⟨h,e⟩|⟨h,e⟩<;>dsimp only at h e<;>refine aa e ?_
  ·exact .good h
  ·exact .none h
  ·exact .bad h
  ·exact .bad (by refine(?_:10<=kind);exact acr (by decide) (ah9 h.symm))
  ·exact .bad (by refine(?_:10<=kind);exact acr (by decide) (ah9 h.symm))
  ·exact .bad (by refine(?_:10<=kind);exact acr (by decide) h)
 ·rintro sd ⟨kind,kk,card⟩ fk hv;have hk:=Wa hv.k0 hv.k1;have ho:=r2 kk;have hq:=r3 (kk.fdiv 3);have hc:=hv.card;dsimp only at hk hc;have F:=WX hk ho hc;have S:=SJ (kind:=kind) ho hq hc;have Wk:=(wF hc).ok;have AE:∀ a b:Str,acy a=true->acy b=true->acy (a++b)=true:=by intro a b h1 h2;unfold acy at h1 h2 ⊢;(rewrite[ag2];refine aa Array.all_append ?_;refine aa h1 ?_;refine aa h2 ?_);rfl
  have tT:acy (vd kind (kk.fmod 2) ((kk.fdiv 3).fmod 3) card)=true:=AE _ _ (AE _ _ F.ok (by decide +kernel)) S.ok;have w0:acy (m7 sd)=true:=by rcases fk with rfl|rfl<;>decide +kernel
  refine(?_:(V.tup [.str (vd kind (kk.fmod 2) ((kk.fdiv 3).fmod 3) card),tH sd kind (kk.fmod 2) ((kk.fdiv 3).fmod 3) card]).pl 6=true);have l0:acy (Mi "")=true:=by decide +kernel
  have l1:acy (Mi "proto")=true:=by decide +kernel
  have l2:acy (Mi "value")=true:=by decide +kernel
  have l3:acy (Mi "reply")=true:=by decide +kernel
  rcases lV (sd:=sd) (odd:=kk.fmod 2) (q:=(kk.fdiv 3).fmod 3) (card:=card) hk with⟨h,e⟩|⟨h,e⟩|⟨h,h',e⟩|⟨h,e⟩|⟨h,e⟩|⟨h,e⟩<;>refine aa e ?_<;>simp[jT,gK,jU,jh,rW,oY,tT,w0,Wk,l0,l1,l2,l3,F.ok,S.ok]
theorem law3_holds:ab6.Holds:=
 RX (hp':=Ly SY) (λns=>rfl) λW p mg mb ns _ fh G ⟨bm,ob,BM⟩=>Ji G (Xk G) BM fh
end
end
end Internal
theorem PySem.Challenge.cw_wz0027_03_holds : PySem.Challenge.rw_wz0027_03.Holds :=
 Internal.law3_holds
