import PyProof.Rows.All
import PyProof.EnumFor
import PyProof.ExcAttrAll.AssertionError
import PyProof.ExcAttrAll.ValueError
import PyProof.ExcStrAll.AssertionError
import PyProof.ExcStrAll.ValueError
import PyProof.StrLawsIn
import PyProof.StrLawsOcc
import PyProof.GenObj
import PyProof.GenQ
import PyProof.Rows.EnumRows
import Wide.BytesFacts
import KE.KxBytes
import KE.KLam
import KE.KxPercent
import KE.KSortTup
import KE.KxDecode
import KE.KxFormat
import Wide.FinOn
import OpenK.AllK
import Wide.Txt2
import Wide.All
import Lean
import PySem.Challenge.RW_ta0097_01
set_option Elab.async false
set_option backward.match.sparseCases false
set_option genSizeOf false
set_option genSizeOfSpec false
set_option genInjectivity false
set_option bootstrap.genMatcherCode false
open Option.some renaming inj→Z8
open PySem.Str renaming ofString→Z9,isSurrogate→agN,empty→agO
open Int renaming ofNat→aaa,add→aaK,emod→abj,toNat→abu,natCast_nonneg→abG,ofNat_lt→abK,lt_of_le_of_lt→acd,ofNat_eq_natCast→acn,neg→acz,rec→ac8,emod_nonneg→adM,le_of_lt→adS,add_zero→adU,not_lt→ad4,lt_of_lt_of_le→ad5,fmod_eq_emod_of_nonneg→ad6,add_sub_cancel→ad7,emod_lt_of_pos→aej,lt_trans→aeX,add_comm→aeZ,toNat_of_nonneg→afu,le_natAbs→afH,sub_add_cancel→afO,ofNat_le→af4,add_emod→af5,natCast_succ→ags,sub_neg→agG,natAbs_neg→agT,not_le→agU,add_assoc→ag7,le_trans→ahm,ne_of_gt→ahn,ediv_one→ahq,mul→ah2
open PySem renaming wpAny_bind→aab,Value→aac,Shared→aad,wpAny_pure→aag,wpAny→aai,Heap→aal,NameKind→aam,wpAny_mono→aas,Around→aav,World→aaC,wpAny_of_eq→aaN,wpAny_holding→aaP,wpAny_standAt→aa3,wpAny_storeName_local→aa6,wpAny_ite→abi,wpAny_execs_cons→abp,builtinLookup_eq_fast→abv,seg_execs_cons→abC,wpAny_assignInOrder_more→abO,seg_execs_nil→abP,wpAny_truthy_bool→abY,wpAny_assign_Name→abZ,wpAny_Constant_bool→ab3,Fin→ab7,typeLookup_type→acj,wpAny_execs_nil→acm,wpAny_Assign_Name→acq,call_meets→acu,wpAny_isTrue_Compare1→acL,typeIs_str→acP,wpAny_loadName_local→acR,wpAny_call_entry→acT,wpAny_Name→ade,isSubtype_type→ado,wpAny_seqItems→adq,wpAny_pyNext_list_end→adx,codeAny_call_function→ady,entryFor_of_tree→adC,wpAny_field→adG,setGen_self→adH,list_getitem_lookup→adN,wpAny_Constant_str→ad3,wpAny_isTrue_value→aea,wpAny_rule→aed,wpAny_call→aee,wpAny_letOwnedTupleGo_enum→aeg,wpAny_setField→aeh,wpAny_Call_ofName→aew,wpAny_mkStr→aey,wpAny_pyIter_list→aez,wpAny_pyIter_enum→aeA,wpAny_newObj_type→aeB,sizeLine_eq→aeC,wpAny_getItem_list_slice→aeF,wpAny_newList→aeH,wpAny_assignInOrder_none→aeI,wpAny_comprehension_free→aeJ,wpAny_isInstance→aeS,wpAny_pyNext_list_item→ae2,wpAny_operating→ae4,wpAny_updateSeq→ae5,wpAny_letTemporaryGo→afg,Frame→afp,wpAny_newFunctionEnv→afr,wpAny_Constant_none→aft,wpAny_loadName_cell→afx,wpAny_loadName_free→afy,builtinType_eq_fast→afz,wpAny_mkBytes→afI,plainId_quiet→afJ,wpAny_onRaise→afK,wpAny_Constant_int→afM,wpAny_assign_Tuple→afX,wpAny_isNot_plain→af8,call_type_of→agd,wpAny_Return_some→agk,Str→agx,wpAny_pyIter_zip→agy,seg_again→agC,wpAny_pyIter_gen→agE,wpAny_point→agI,wpAny_specialOf→agK,codeAny_of_tree→agP,call→agR,wpAny_List→agY
open List renaming mem_cons_self→aae,mem_cons_of_mem→aaf,length_map→aaj,length_append→aao,mem_singleton→aaq,mem_cons→aar,mem_append_right→aau,getElem?_eq_getElem→aax,getElem?_eq_some_iff→aay,map_cons→aaz,rec→aaB,length_cons→aaD,append_assoc→aaE,all_eq_true→aaG,getD_eq_getElem?_getD→aaI,range'→aaL,not_mem_nil→aaM,append_nil→aaO,map_append→aaR,mem_append_left→aaT,mem_of_getElem?→aaU,mem_append→aaW,map_map→aaY,nil_append→aaZ,mem_filter→aa0,take_of_length_le→aa2,mem_map→aa8,cons_append→abc,size_toArray→abf,drop_eq_getElem_cons→abr,lookup_append→aby,mem_of_mem_take→abz,getElem?_append_right→abA,map_congr_left→abD,nodup_cons→abE,length_take→abH,replicate→abR,eq_nil_of_length_eq_zero→abS,flatten_cons→abX,forIn_cons→ab0,foldl_cons→ab2,length_drop→ab6,lookup_cons→ab9,getElem?_append_left→aci,forall_mem_cons→aco,append_toArray→acA,range→acF,drop_of_length_le→acH,mem_filterMap→acJ,map_inj_left→acO,drop_take→acQ,range'_succ→acU,take_length→acV,extract_eq_take_drop→acW,length_take_le→ac0,filterMap_cons_some→ac2,getElem?_take_of_lt→ac6,map_take→ac7,length_nil→ada,find?_cons→adb,mem_range→adm,drop_zero→adn,drop_eq_nil_of_le→ads,getElem?_toArray→adv,getElem?_eq_none→adw,mem_toArray→adz,getElem_mem→adB,drop_append_of_le_length→adI,filter_eq_self→adP,length_reverse→adR,map_nil→adZ,drop→ad0,foldl_toArray→aec,filter_append→aef,pairwise_iff_getElem→aek,nodup_append→aes,push_toArray→aex,filterMap_cons_none→aeE,flatten_nil→aeT,cons_lt_cons_iff→ae7,nodup_nil→afb,length→afn,mem_of_mem_drop→afs,cons_head_tail→afA,take_succ_cons→afB,mem_map_of_mem→afE,eraseDups_cons→afF,flatten_append→afG,map_drop→afL,map_replicate→afN,findIdx?_cons→afY,length_range'→af1,all_map→af7,reverse_cons→af9,take_sublist→aga,take_add_one→agb,foldl_append→agc,any_eq_false→agj,getElem?_map→agm,zip_nil_left→agn,flatMap_cons→agp,map_reverse→agz,head_cons→ag0,tail_cons→ag1,take_zero→ag3,all_cons→ag6,take_nil→ag9,drop_nil→aha,any_map→aho,map_id→ahI,lookup→ahK
open Nat renaming le_trans→aah,le_of_ble_eq_true→aak,eq_of_beq_eq_true→aan,beq→aap,le_refl→aaA,ble_eq_true_of_le→aaF,lt_of_lt_of_le→aaX,ble→aa5,blt→aba,le_add_right→abb,add_sub_cancel_left→abh,zero_le→abk,beq_refl→abn,le_of_eq→abo,not_lt→abt,ne_of_lt→abx,zero_add→abL,add_assoc→abN,add_le_add_right→abV,succ_ne_self→ab8,add_le_add→ace,lt_of_le_of_lt→acf,rec→ach,succ_add_eq_add_succ→acv,add_le_add_left→acB,succ→acC,le_of_succ_le→acN,mul_le_mul_left→acY,exists_eq_add_of_lt→adg,le_of_lt→adl,succ_le_succ→adA,lt_succ_self→adE,min_eq_left→adJ,add_comm→adT,succ_pos→adV,ne_of_gt→adW,add_sub_cancel→ad9,lt_succ_of_le→aet,le_succ→aeu,lt_irrefl→aeD,succ_ne_zero→aeK,lt_of_not_le→aeL,min_le_right→aeM,sub_self→aeW,lt_trans→aeY,not_lt_zero→ae3,sub_le→afP,mod_lt→afQ,pos_of_ne_zero→afR,le_of_lt_succ→af2,lt_trichotomy→age,lt_succ_of_lt→ago,min_eq_right→agr,toDigitsCore→agv,zero_lt_succ→agw,log2_lt→agF,le_add_left→agL,lt_or_ge→ahl,toDigits→ahr,add_zero→ahs,pred→ahz,two_mul→ahG
open PySem.Heap renaming get?_push_of_some→aat,get?_push_size→aaw,get?_update_other→aaS,lt_size→aa7,get?_update_self→abe,get?_none_of_le→abT,SameBut→acE,size_push→adt,get?_update_ne→adO,ExtBut→agJ
open PySem.Value renaming ref→aaH,none→abd,str→abI,int→acK,type→adF,isStr→ahL,bool→ah1
open PySem.Sre renaming Seen→aaJ,forSearch→ab5,M→acX,inSet→ad1,Frame→aeR
open Bool renaming or_eq_true_iff→aaQ,and_eq_true_iff→aa1,not_eq_true'→aa9,false_eq_true→abl,and_eq_true→abq,eq_iff_iff→abF,false_ne_true→abJ,rec→abQ,eq_false_or_eq_true→acy,or_eq_true→adK,false_and→afm,and_false→afq
open PySem.NameKind renaming cell→aaV,free→abm
open PySem.Obj renaming mapSeq→aa4,data_mapFields→acg,mapFields→acw,isFreed_of_fields→acM,dropNameByArray→ac1,dropName_eq→adL,data→agS
open PySem.Builtin.Range renaming rangeSize→abg,rangeFitsLong→adX,small→ahT
open Option renaming isSome_iff_exists→abw,rec→acs,map_some→ac9,isNone_iff_eq_none→aen,some→afo,isSome_some→af0,getD_some→agt,elim_some→agu,none→ahA,elim→ahF
open Array renaming getElem?_eq_some_iff→abB,getElem?_push→adQ,getElem?_eq_getElem→aep,getElem?_eq_none→aeV,toList_append→afD,extract_size→afT,getD→afU,find?_toList→afZ,toList→af3,size_push→agM,foldl→ahE,ext'→ahW,size→ahY
open PySem.Calls renaming loadGlobal_builtin→abM,loadGlobal_global→adh
open PySem.Sre.M renaming admitted→abU,runFor→aht
open PySem.W.KPc renaming ite_yes→abW,ite_no→adf,range_list→afl,good_add→agg,obj_none→agh,turn→ag2
open PySem.Challenge renaming pw_ta0097_01→ab1
open PySem.F renaming plainAttrs_str→ab4,plainAttrs_list→acD,slot_str_split→acI,slot_list_append→ac3,args_str_split_2→ac4,slot_dict_itemiterator_iter→ac5,entry_str_split→adi,excRaise_AssertionError→adu,excRaise_ValueError→adY,args_list_append_2→aeb,entry_list_append→ael,slot_str_format_m→aem,slot_list_insert→aeG,slot_list_count→aeO,slot_list_index→aeP,slot_str_encode→aeQ,slot_dict_items→aeU,sub_bytes_bytes→agi
open ForInStep renaming yield→ack
open Ne renaming symm→acp
open PySem.W renaming emptyDict→acr,ks_loadName_global→acG,dictOf→adk,typeIs_bytes→adp,callWith_of→aev,plainGet→aeN,plainGet_of→agH,InstAt→agZ
open PySem.Builtin.List renaming listFitsIndex→acS
open PySem.Builtin.Str renaming strKind→acZ,codecArg→afj,glued→agf,occurrences→ahi,tooLong→ahR
open PySem.Builtin.Bytes renaming joinLetGo→adj,takeBufferQuiet?→adD,takeBuffer?→aeo,utf8At→afk,fullReadOnly→ag4,joined→ahH,joinM→ahS
open PySem.Expr renaming Name→ad2
open Char renaming toNat→ad8
open PySem.GenOnly renaming setGen→aei
open PySem.Builtin.Generator renaming genWake→aeq
open UInt8 renaming ofNat→aer,toNat_ofNat'→afV
open PyProof renaming noPylong_small→ae0
open PySem.P renaming str_of_exc_one→ae1,str_of_int→afS,eq_str→agW
open PySem.W.WShape renaming hasItems→ae6,has→ah0
open PySem.SeqRoads2.EqGives renaming str→ae8
open PySem.Builtin.Re renaming reRunToEnd→ae9,reDrive→afW
open Std.Legacy.Range renaming forIn_eq_forIn_range'→afa,size→ahv
open PyProof.Rows renaming mod_int→afc,neg_int→afd,lt_int→afv,lt_str→afw,slot_str_getitem→agq,get?_update_seq→agQ,pow_int_small→agV,getItem_tuple→agX,floordiv_int→ag5,getItem_str→ag8,truthy_int→ahj,notIn_str→ahp,iadd_int→ahw,iadd_str→ahx,isub_int→ahy,sub_int→ahC,mul_int→ahD,in_str→ahN,gt_int→ahO,le_int→ahP,ge_int→ahQ
open PySem.MeetsSeq.EqGives renaming int→afe
open String renaming toList_ofList→afh,ofList→ahc
open PySem.W.FB renaming slot_bytes_decode→afi
open PySem.EntryCells renaming newEntry→afC
open Nat.succ renaming inj→af6
open PySem.Sem renaming bind_eq_wrap'→agl,bind_eq_wrap→agD,wrap_wrap→ahg
open PySem.DictEntry renaming refKey→agA
open And renaming intro→agB
open Int.ofNat renaming inj→ahb
open PySem.SC renaming join→ahd
open PySem.Value.ref renaming inj→ahe
open List.cons renaming inj→ahf
open PySem.W.Hook renaming says→ahh
open PySem.W.Looks renaming now→ahk
open PySem.W.KBy renaming quiet_eq→ahu
open Prod.mk renaming inj→ahB
open PySem.IsRange renaming new→ahJ
open PySem.Builtin.Int renaming intBits→ahM
open PySem.Heap.SameBut renaming update→ahU
open PySem.Frame renaming guarded→ahV
open PySem.Heap.IsSliceOf renaming new→ahX
open False renaming elim→ahZ
open List.Pairwise renaming nil→ah3
open Except renaming ok→ah4
namespace Internal
open PySem
@[elab_as_elim] theorem rwl.{u} {α:Sort u} {a b:α} {P:α→Prop} (h:a=b) (k:P b):P a:=h▸k
@[elab_as_elim] theorem rwr.{u} {α:Sort u} {a b:α} {P:α→Prop} (h:a=b) (k:P a):P b:=h▸k
theorem hide{T:Prop}(h:∀G:Prop,(T→G)→G):T:=h T id
theorem ex1.{u0} {Ar:Sort u0} {P:Ar→Prop} {G:Prop} (h:∃x0,P x0) (k:∀x0,P x0→G):G:=by rcases h with⟨x0,h⟩;exact k x0 h
theorem ex2.{u0,u1} {Ar:Sort u0} {α1:Sort u1} {P:Ar→α1→Prop} {G:Prop} (h:∃x0,∃x1,P x0 x1) (k:∀x0 x1,P x0 x1→G):G:=by rcases h with⟨x0,x1,h⟩;exact k x0 x1 h
theorem ex3.{u0,u1,u2} {Ar:Sort u0} {α1:Sort u1} {α2:Sort u2} {P:Ar→α1→α2→Prop} {G:Prop} (h:∃x0,∃x1,∃x2,P x0 x1 x2) (k:∀x0 x1 x2,P x0 x1 x2→G):G:=by rcases h with⟨x0,x1,x2,h⟩;exact k x0 x1 x2 h
theorem ex4.{u0,u1,u2,u3} {Ar:Sort u0} {α1:Sort u1} {α2:Sort u2} {α3:Sort u3} {P:Ar→α1→α2→α3→Prop} {G:Prop} (h:∃x0,∃x1,∃x2,∃x3,P x0 x1 x2 x3) (k:∀x0 x1 x2 x3,P x0 x1 x2 x3→G):G:=by rcases h with⟨x0,x1,x2,x3,h⟩;exact k x0 x1 x2 x3 h
theorem ex5.{u0,u1,u2,u3,u4} {Ar:Sort u0} {α1:Sort u1} {α2:Sort u2} {α3:Sort u3} {LL:Sort u4} {P:Ar→α1→α2→α3→LL→Prop} {G:Prop} (h:∃x0,∃x1,∃x2,∃x3,∃x4,P x0 x1 x2 x3 x4) (k:∀x0 x1 x2 x3 x4,P x0 x1 x2 x3 x4→G):G:=by rcases h with⟨x0,x1,x2,x3,x4,h⟩;exact k x0 x1 x2 x3 x4 h
theorem ex6.{u0,u1,u2,u3,u4,u5} {Ar:Sort u0} {α1:Sort u1} {α2:Sort u2} {α3:Sort u3} {LL:Sort u4} {OI:Sort u5} {P:Ar→α1→α2→α3→LL→OI→Prop} {G:Prop} (h:∃x0,∃x1,∃x2,∃x3,∃x4,∃x5,P x0 x1 x2 x3 x4 x5) (k:∀x0 x1 x2 x3 x4 x5,P x0 x1 x2 x3 x4 x5→G):G:=by rcases h with⟨x0,x1,x2,x3,x4,x5,h⟩;exact k x0 x1 x2 x3 x4 x5 h
theorem ex7.{u0,u1,u2,u3,u4,u5,u6} {Ar:Sort u0} {α1:Sort u1} {α2:Sort u2} {α3:Sort u3} {LL:Sort u4} {OI:Sort u5} {Rt:Sort u6} {P:Ar→α1→α2→α3→LL→OI→Rt→Prop} {G:Prop} (h:∃x0,∃x1,∃x2,∃x3,∃x4,∃x5,∃x6,P x0 x1 x2 x3 x4 x5 x6) (k:∀x0 x1 x2 x3 x4 x5 x6,P x0 x1 x2 x3 x4 x5 x6→G):G:=by rcases h with⟨x0,x1,x2,x3,x4,x5,x6,h⟩;exact k x0 x1 x2 x3 x4 x5 x6 h
theorem ex8.{u0,u1,u2,u3,u4,u5,u6,u7} {Ar:Sort u0} {α1:Sort u1} {α2:Sort u2} {α3:Sort u3} {LL:Sort u4} {OI:Sort u5} {Rt:Sort u6} {U0:Sort u7} {P:Ar→α1→α2→α3→LL→OI→Rt→U0→Prop} {G:Prop} (h:∃x0,∃x1,∃x2,∃x3,∃x4,∃x5,∃x6,∃x7,P x0 x1 x2 x3 x4 x5 x6 x7) (k:∀x0 x1 x2 x3 x4 x5 x6 x7,P x0 x1 x2 x3 x4 x5 x6 x7→G):G:=by rcases h with⟨x0,x1,x2,x3,x4,x5,x6,x7,h⟩;exact k x0 x1 x2 x3 x4 x5 x6 x7 h
theorem ex9.{u0,u1,u2,u3,u4,u5,u6,u7,u8} {Ar:Sort u0} {α1:Sort u1} {α2:Sort u2} {α3:Sort u3} {LL:Sort u4} {OI:Sort u5} {Rt:Sort u6} {U0:Sort u7} {XD:Sort u8} {P:Ar→α1→α2→α3→LL→OI→Rt→U0→XD→Prop} {G:Prop} (h:∃x0,∃x1,∃x2,∃x3,∃x4,∃x5,∃x6,∃x7,∃x8,P x0 x1 x2 x3 x4 x5 x6 x7 x8) (k:∀x0 x1 x2 x3 x4 x5 x6 x7 x8,P x0 x1 x2 x3 x4 x5 x6 x7 x8→G):G:=by rcases h with⟨x0,x1,x2,x3,x4,x5,x6,x7,x8,h⟩;exact k x0 x1 x2 x3 x4 x5 x6 x7 x8 h
theorem an2{A0 A1 G:Prop}(h:A0∧A1)(k:A0→A1→G):G:=by rcases h with⟨h0,h1⟩;exact k h0 h1
theorem an3{A0 A1 A2 G:Prop}(h:A0∧A1∧A2)(k:A0→A1→A2→G):G:=by rcases h with⟨h0,h1,h2⟩;exact k h0 h1 h2
theorem an4{A0 A1 A2 A3 G:Prop}(h:A0∧A1∧A2∧A3)(k:A0→A1→A2→A3→G):G:=by rcases h with⟨h0,h1,h2,h3⟩;exact k h0 h1 h2 h3
theorem an5{A0 A1 A2 A3 A4 G:Prop}(h:A0∧A1∧A2∧A3∧A4)(k:A0→A1→A2→A3→A4→G):G:=by rcases h with⟨h0,h1,h2,h3,h4⟩;exact k h0 h1 h2 h3 h4
theorem an6{A0 A1 A2 A3 A4 A5 G:Prop}(h:A0∧A1∧A2∧A3∧A4∧A5)(k:A0→A1→A2→A3→A4→A5→G):G:=by rcases h with⟨h0,h1,h2,h3,h4,h5⟩;exact k h0 h1 h2 h3 h4 h5
theorem an7{A0 A1 A2 A3 A4 A5 A6 G:Prop}(h:A0∧A1∧A2∧A3∧A4∧A5∧A6)(k:A0→A1→A2→A3→A4→A5→A6→G):G:=by rcases h with⟨h0,h1,h2,h3,h4,h5,h6⟩;exact k h0 h1 h2 h3 h4 h5 h6
theorem an8{A0 A1 A2 A3 A4 A5 A6 A7 G:Prop}(h:A0∧A1∧A2∧A3∧A4∧A5∧A6∧A7)(k:A0→A1→A2→A3→A4→A5→A6→A7→G):G:=by rcases h with⟨h0,h1,h2,h3,h4,h5,h6,h7⟩;exact k h0 h1 h2 h3 h4 h5 h6 h7
theorem an9{A0 A1 A2 A3 A4 A5 A6 A7 A8 G:Prop}(h:A0∧A1∧A2∧A3∧A4∧A5∧A6∧A7∧A8)(k:A0→A1→A2→A3→A4→A5→A6→A7→A8→G):G:=by rcases h with⟨h0,h1,h2,h3,h4,h5,h6,h7,h8⟩;exact k h0 h1 h2 h3 h4 h5 h6 h7 h8
theorem an10{A0 A1 A2 A3 A4 A5 A6 A7 A8 A9 G:Prop}(h:A0∧A1∧A2∧A3∧A4∧A5∧A6∧A7∧A8∧A9)(k:A0→A1→A2→A3→A4→A5→A6→A7→A8→A9→G):G:=by rcases h with⟨h0,h1,h2,h3,h4,h5,h6,h7,h8,h9⟩;exact k h0 h1 h2 h3 h4 h5 h6 h7 h8 h9
theorem an11{A0 A1 A2 A3 A4 A5 A6 A7 A8 A9 Ru G:Prop}(h:A0∧A1∧A2∧A3∧A4∧A5∧A6∧A7∧A8∧A9∧Ru)(k:A0→A1→A2→A3→A4→A5→A6→A7→A8→A9→Ru→G):G:=by rcases h with⟨h0,h1,h2,h3,h4,h5,h6,h7,h8,h9,Rv⟩;exact k h0 h1 h2 h3 h4 h5 h6 h7 h8 h9 Rv
theorem an12{A0 A1 A2 A3 A4 A5 A6 A7 A8 A9 Ru WD G:Prop}(h:A0∧A1∧A2∧A3∧A4∧A5∧A6∧A7∧A8∧A9∧Ru∧WD)(k:A0→A1→A2→A3→A4→A5→A6→A7→A8→A9→Ru→WD→G):G:=by rcases h with⟨h0,h1,h2,h3,h4,h5,h6,h7,h8,h9,Rv,h11⟩;exact k h0 h1 h2 h3 h4 h5 h6 h7 h8 h9 Rv h11
theorem no1{α:Type}{a:α}{P:Prop}(h:(none:Option α)=some a):P:=nomatch h
theorem no2{α:Type}{a:α}{P:Prop}(h:some a=(none:Option α)):P:=nomatch h
theorem nb1{P:Prop}(h:false=true):P:=nomatch h
theorem nb2{P:Prop}(h:true=false):P:=nomatch h
section
variable{M:Model}{A:aav}{E:aac→aad→Prop}{s:aad}{α β:Type}
theorem Rw{m:Sem α}{Q:α→aad→Prop}(h:∀P:α→aad→Prop,(∀v s',Q v s'→P v s')→aai M A m P E s):aai M A m Q E s:=h Q fun _ _ x=>x
theorem WE{m:Sem α}{k:α→Sem β}{Q:β→aad→Prop}(h:∀P:α→aad→Prop,(∀v s',aai M A (k v) Q E s'→P v s')→aai M A m P E s):aai M A (m>>=k) Q E s:=aab (h _ fun _ _ x=>x)
theorem Rx{n:Nat}{b:β}{f:Nat→β→Sem (ForInStep β)}{k:β→Sem α}{Q:α→aad→Prop}(h:∀(P:β→aad→Prop)(g:Nat→β→Sem (ForInStep β)),(∀v s',aai M A (k v) Q E s'→P v s')→(∀i b P s,aai M A (f i b) P E s→aai M A (g i b) P E s)→aai M A (forIn (aaL 0 n 1) b g) P E s):aai M A (forIn [:n] b f>>=k) Q E s:=by
 refine aab ?_
 rw[afa]
 have e:[:n].size=n:=by simp[ahv]
 show aai M A (forIn (aaL 0 [:n].size 1) b f) _ E s
 rw[e]
 exact h _ f (fun _ _ x=>x) fun _ _ _ _ x=>x
theorem U1{c:Prop}[Decidable c]{x y:Sem α}{Q:α→aad→Prop}(hc:c)(h:aai M A x Q E s):aai M A (if c then x else y) Q E s:=by rw[if_pos hc];exact h
theorem U3{c:Prop}[Decidable c]{x y:Sem α}{Q:α→aad→Prop}(hc:¬c)(h:aai M A y Q E s):aai M A (if c then x else y) Q E s:=by rw[if_neg hc];exact h
theorem NY{l:List Nat}{x:Nat}{b:β}{f:Nat→β→Sem (ForInStep β)}{Q:β→aad→Prop}(h:∀P:ForInStep β→aad→Prop,(∀b' s',Q b' s'→P (.done b') s')→(∀b' s',aai M A (forIn l b' f) Q E s'→P (.yield b') s')→aai M A (f x b) P E s):aai M A (forIn (x::l) b f) Q E s:=by
 rw[ab0]
 refine aab (h _ (fun b' s' q=>?_) fun b' s' q=>?_)
 ·exact aag q
 ·exact q
end
noncomputable def ps(a b c d:Nat):Pos:=⟨a,b,c,d⟩
set_option genCtorIdx false
mutual
inductive Op where
 |add|sub|mul|fdiv|mod|pow
inductive Cm where
 |eq|ne|lt|le|gt|ge|is|Fj|Fo|Fp
end
noncomputable def Op.ctorIdx:Op→Nat:=@Op.rec (fun _=>Nat) (fun _=>Nat) 0 1 2 3 4 5 0 0 0 0 0 0 0 0 0 0
noncomputable def Cm.ctorIdx:Cm→Nat:=@Cm.rec (fun _=>Nat) (fun _=>Nat) 0 0 0 0 0 0 0 1 2 3 4 5 6 7 8 9
noncomputable def Op.py:Op→Operator
 |.add=>.Add|.sub=>.Sub|.mul=>.Mult|.fdiv=>.FloorDiv|.mod=>.Mod|.pow=>.Pow
noncomputable def Cm.py:Cm→CmpOp
 |.eq=>.Eq|.ne=>.NotEq|.lt=>.Lt|.le=>.LtE|.gt=>.Gt|.ge=>.GtE|.is=>.Is|.Fj=>.IsNot|.Fo=>.In|.Fp=>.NotIn
inductive T where
 |one(x:Nat)(p:Pos)
 |two(x:Nat)(px:Pos)(y:Nat)(py:Pos)(p:Pos)
mutual
inductive E where
 |kN(p:Pos)
 |kB(b:Bool)(p:Pos)
 |kI(i:Int)(p:Pos)
 |kS(s:List Nat)(p:Pos)
 |kY(b:List UInt8)(p:Pos)
 |nm(x:Nat)(p:Pos)
 |gl(x:Nat)(p:Pos)
 |As(XE:Bool)(l:List E)(p:Pos)
 |bin(a:E)(o:Op)(b:E)(p:Pos)
 |neg(a:E)(p:Pos)
 |nt(a:E)(p:Pos)
 |lam(k:Nat)(x:Nat)(px:Pos)(b:E)(sc:List (Nat×aam))(p:Pos)
 |ite(t a b:E)(p:Pos)
 |cmp(a:E)(o:Cm)(b:E)(p:Pos)
 |lst(l:List E)(p:Pos)
 |tup(l:List E)(p:Pos)
 |comp(e:E)(gs:List G)(sc:List (Nat×aam))(p:Pos)
 |call(f:E)(as:List E)(ks:List K)(p:Pos)
 |bA(o:E)(n:Nat)(ap:Pos)(as:List E)(ks:List K)(p:Pos)
 |attr(o:E)(n:Nat)(p:Pos)
 |sub(o i:E)(p:Pos)
 |slc(o:E)(l u s:Option E)(sp p:Pos)
inductive G where
 |mk(t:T)(it:E)(ifs:List E)
inductive K where
 |mk(x:Nat)(v:E)(p:Pos)
end
inductive S where
 |expr(e:E)(p:Pos)
 |asg(x:Nat)(px:Pos)(e:E)(p:Pos)
 |kj(xs:List (Nat×Pos))(pt:Pos)(e:E)(p:Pos)
 |aug(x:Nat)(px:Pos)(o:Op)(e:E)(p:Pos)
 |ifs(t:E)(b o:List S)(p:Pos)
 |Cv(t:E)(b:List S)(p:Pos)
 |lO(t:T)(it:E)(b:List S)(p:Pos)
 |ret(e:E)(p:Pos)
 |Cw(e:E)(p:Pos)
 |Cy(b:List S)(ty:E)(x:Nat)(hb:List S)(hp p:Pos)
end Internal
set_option bootstrap.genMatcherCode true
set_option compiler.extract_closed false
namespace Internal
open Lean Parser.Tactic
def nd(k:Name)(a:Array Syntax):Syntax:=.node .none k a
def ta(k:String)(a:Array Syntax):Syntax:=nd (.str `Lean.Parser.Tactic k) a
def te(k:String)(a:Array Syntax):Syntax:=nd (.str `Lean.Parser.Term k) a
def nu(a:Array Syntax):Syntax:=nd nullKind a
def kw(s:String):Syntax:=.atom .none s
def D4(n:Name):Syntax:=mkIdent n
def mi(s:String):Syntax:=D4 (.str `Internal s)
def ap(f:Syntax)(a:Array Syntax):Syntax:=if a.isEmpty then f else te "app" #[f,nu a]
def ho:Syntax:=te "syntheticHole" #[kw "?",kw "_"]
def rf(t:Syntax):Syntax:=ta "refine" #[kw "refine",t]
def sq(a:Array Syntax):Syntax:=ta "tacticSeq" #[ta "tacticSeq1Indented" #[nu (a.foldl (fun b t=>if b.isEmpty then #[t] else(b.push (kw ";")).push t) #[])]]
def pa(a:Array Syntax):Syntax:=ta "paren" #[kw "(",sq a,kw ")"]
def fi(a:Array Syntax):Syntax:=ta "first" #[kw "first",nu (a.map fun t=>nd groupKind #[kw "|",sq #[t]])]
def tc(x:Syntax):Syntax:=ta "tacticTry_" #[kw "try",sq #[ta "clear" #[kw "clear",nu #[x]]]]
def ri(a:Array Syntax):Syntax:=ta "rintro" #[kw "rintro",nu a,nu #[]]
def rp(p:Syntax):Syntax:=nd `Lean.Parser.Tactic.rintroPat.one #[nd `Lean.Parser.Tactic.rcasesPat.paren #[kw "(",p,kw ")"]]
def hv(k w:String)(c:Array Syntax)(x:Syntax)(ty:Array Syntax)(e:Syntax):Syntax:=ta k (#[kw w]++c++#[te "letDecl" #[te "letIdDecl" #[te "letId" #[x],nu #[],nu ty,kw ":=",e]]])
def ids(s:Syntax):Array Name:=Id.run do
 let mut a:=#[]
 for x in s.topDown do
  if x.isIdent then a:=a.push x.getId.getRoot
 return a
def XF(e p:Syntax):Syntax:=Id.run do
 let ps:=p[0][0][1].getSepArgs
 let rs:=ps.map rp
 let n:=ps.size
 let en:=ids e
 let cl:=((ids p).filter en.contains).map fun x=>tc (D4 x)
 let z:=D4 `XG
 let mut ts:=#[]
 for i' in[0:n] do
  let i:=n - 1 - i'
  let j:=n - i
  if i≤9&&j≤12 then
   let a:=rs.extract 0 i
   let b:=rs.extract i n
   let f (x:String) (k:Nat) (e:Syntax):=rf (ap (mi s!"{x}{k}") #[e,ho])
   ts:=ts.push (pa (if i==0 then #[f "an" j e]++cl++#[ri b] else if j==1 then #[f "ex" i e]++cl++#[ri rs] else
    #[f "ex" i e]++cl++#[ri (a.push (nd `Lean.Parser.Tactic.rintroPat.one #[nd `Lean.Parser.Tactic.rcasesPat.one #[z]])),f "an" j z,tc z,ri b]))
 return fi (ts.push (ta "rcases" #[kw "rcases",nu #[ta "elimTarget" #[nu #[],e]],nu #[kw "with",ta "rcasesPatLo" #[ta "rcasesPatMed" #[nu #[nd `Lean.Parser.Tactic.rcasesPat.paren #[kw "(",p,kw ")"]]],nu #[]]]]))
def tup(p:Syntax)(k:Nat):Bool:=p[0][0].isOfKind `Lean.Parser.Tactic.rcasesPat.tuple&&p[0].getNumArgs==1&&p[0][0][1].getSepArgs.size≥k
def U4(x alts:Syntax):Syntax:=Id.run do
 let cs (t:Syntax):=ta "cases" #[kw "cases",nu #[ta "elimTarget" #[nu #[],t]],nu #[],alts]
 let fb:=cs (te "paren" #[kw "(",x,kw ")"])
 match x.getId with
 |.str a "inv"=>
  let a:=D4 a
  return fi #[pa #[hv "replace" "replace" #[] a #[] x,cs a],fb]
 |_=>
  let mut ts:=#[]
  if alts.getNumArgs==0 then
   let z:=D4 `XG
   let h:=fun ty e=>pa #[hv "tacticHave__" "have" #[te "letConfig" #[nu #[]]] z ty e,ta "clear" #[kw "clear",nu #[x]],ta "subst" #[kw "subst",nu #[z]]]
   let ho':=te "hole" #[kw "_"]
   ts:=#["no1","no2","nb1","nb2"].map (fun f=>ta "exact" #[kw "exact",ap (mi f) #[x]])++
    #[h #[te "typeSpec" #[kw ":",nd `«term_=_» #[ho',kw "=",ho']]] x,h #[] (ap (D4 ``Eq.symm) #[te "paren" #[kw "(",ap (D4 ``Option.some.inj) #[x],kw ")"]])]
  for c in["Internal.V","List","Option","Nat","Bool","Int","Internal.R","Internal.VRs","Internal.VInt","Internal.VStr","Internal.VCons","Internal.VLst","Internal.VTup","Internal.VRef","Internal.VInst","Internal.VBool","Internal.VByt","Internal.VNone","Internal.VNil","Internal.VFn","Internal.VLam","Internal.VPat","Internal.VBi","Internal.VDct","Internal.VTot","Internal.VNtot","Internal.VSym","Internal.VErr","Internal.Bi","Internal.Fl","Internal.E","Internal.Me"] do
   ts:=ts.push (ta "induction" #[kw "induction",nu #[ta "elimTarget" #[nu #[],x]],nu #[kw "using",D4 (.str c.toName "casesOn")],nu #[],alts])
  return fi (ts.push fb)
def XH(rs:Array Syntax):Syntax:=
 let ho':=te "hole" #[kw "_"]
 pa (rs.map (fun r=>
  let t:=r[1]
  let f:=fun k=>rf (ap (mi (if r[0].getNumArgs==0 then "rwl" else "rwr")) #[if k==0 then t else te "paren" #[kw "(",ap t (Array.replicate k ho'),kw ")"],ho])
  let o:=ta "rewriteSeq" #[kw "rewrite",ta "optConfig" #[nu #[]],ta "rwRuleSeq" #[kw "[",nu #[r],kw "]"],nu #[]]
  if(t.find? fun s=>s.isOfKind `Lean.Parser.Term.syntheticHole||s.isOfKind `Lean.Parser.Term.byTactic).isSome then o else fi #[f 0,f 1,f 2,f 3,o])
 |>.push (ta "tacticTry_" #[kw "try",sq #[ta "withReducible" #[kw "with_reducible",sq #[ta "tacticRfl" #[kw "rfl"]]]]]))
def sup(b:Bool)(s:Syntax):MacroM Syntax:=if b then return s else Macro.throwUnsupported
end Internal
set_option compiler.extract_closed false
set_option backward.match.sparseCases false
local macro_rules |`(⋯)=>`(by kernel_rfl)
local macro_rules |`(tactic|exists $x:ident)=>`(tactic|first|(replace $x:ident := (Option.some.inj $x).symm; subst $x) | cases $x:ident)
local macro_rules (kind:=Lean.Parser.Tactic.rcases)
 |s=>Internal.sup (s[1].getNumArgs==1&&s[1][0][0].getNumArgs==0&&s[2].getNumArgs==2&&s[2][1][1].getNumArgs==0&&Internal.tup s[2][1][0] 2) (Internal.XF s[1][0][1] s[2][1][0])
local macro_rules (kind:=Lean.Parser.Tactic.obtain)
 |s=>Internal.sup (s[2].getNumArgs==0&&s[3].getNumArgs==2&&s[3][1].getNumArgs==1&&Internal.tup s[1][0] 3) (
  let rc:=fun p=>Internal.ta "rcases" #[Internal.kw "rcases",Internal.nu #[Internal.ta "elimTarget" #[Internal.nu #[],s[3][1][0]]],Internal.nu #[Internal.kw "with",Internal.ta "rcasesPatLo" #[p,Internal.nu #[]]]]
  Internal.fi #[Internal.pa #[Internal.ta "substEqs" #[Internal.kw "subst_eqs"],Internal.ta "tactic_<;>_" #[Internal.pa #[rc s[1][0]],Internal.kw "<;>",Internal.ta "substVars" #[Internal.kw "subst_vars"]]],
   rc (Internal.ta "rcasesPatMed" #[Internal.nu #[Internal.nd `Lean.Parser.Tactic.rcasesPat.paren #[Internal.kw "(",Internal.ta "rcasesPatLo" #[s[1][0],Internal.nu #[]],Internal.kw ")"]]])])
local macro_rules (kind:=Lean.Parser.Tactic.substEqs)
 |s=>Internal.sup (s.getNumArgs==1)<|Internal.rf (Internal.ap (Internal.mi "hide") #[Internal.te "fun" #[Internal.kw "fun",Internal.te "basicFun" #[Internal.nu #[Internal.D4 `GG,Internal.D4 `WG],Internal.nu #[],Internal.kw "=>",Internal.ho]]])
local macro_rules (kind:=Lean.Parser.Tactic.substVars)
 |s=>Internal.sup (s.getNumArgs==1)<|Internal.pa #[Internal.rf (Internal.ap (Internal.D4 `WG) #[Internal.ho]),Internal.tc (Internal.D4 `WG),Internal.tc (Internal.D4 `GG)]
local macro_rules (kind:=Lean.Parser.Tactic.cases)
 |s=>Internal.sup (s[1].getNumArgs==1&&s[1][0][0].getNumArgs==0&&s[1][0][1].isIdent&&s[2].getNumArgs==0) (Internal.U4 s[1][0][1] s[3])
local macro_rules (kind:=Lean.Parser.Tactic.rwSeq)
 |s=>Internal.sup (s[1][0].getNumArgs==0&&s[3].getNumArgs==0) (Internal.XH s[2][1].getSepArgs)
local macro_rules (kind:=Lean.Parser.Tactic.omega)
 |s=>Internal.sup (s[1][0].getNumArgs==0) (Internal.fi #[Internal.ta "lia" #[Internal.kw "lia",Internal.ta "optConfig" #[Internal.nu #[]]],Internal.ta "omega" #[Internal.kw "omega",Internal.ta "optConfig" #[Internal.nu #[Internal.ta "configItem" #[Internal.ta "posConfigItem" #[Internal.kw "+",Internal.D4 `splitNatSub]]]]]])
set_option tactic.hygienic false
set_option genSizeOf false
set_option genSizeOfSpec false
set_option genInjectivity false
set_option genCtorIdx false
set_option bootstrap.genMatcherCode false
set_option maxRecDepth 100000
namespace Internal
open PySem
noncomputable section
mutual
inductive Bi where
 |len|type|str|repr|min|max|sum|sorted|OJ|OL|int
inductive Pt where
 |dot|xm|qT|rU|Au
inductive Me where
 |append|insert|count|index|join|split|lower|encode|decode|format|sub|search|conv|getAll|keys|items|Av
end
noncomputable def Bi.ctorIdx:Bi→Nat:=@Bi.rec (fun _=>Nat) (fun _=>Nat) (fun _=>Nat) 0 1 2 3 4 5 6 7 8 9 10 0 0 0 0 0 0 0 0 0 0 0 0 0 0 0 0 0 0 0 0 0 0
noncomputable def Pt.ctorIdx:Pt→Nat:=@Pt.rec (fun _=>Nat) (fun _=>Nat) (fun _=>Nat) 0 0 0 0 0 0 0 0 0 0 0 0 1 2 3 4 0 0 0 0 0 0 0 0 0 0 0 0 0 0 0 0 0
noncomputable def Me.ctorIdx:Me→Nat:=@Me.rec (fun _=>Nat) (fun _=>Nat) (fun _=>Nat) 0 0 0 0 0 0 0 0 0 0 0 0 0 0 0 0 0 1 2 3 4 5 6 7 8 9 10 11 12 13 14 15 16
inductive V where
 |none|bool (b:Bool)|int (i:Int)|str (l:List Nat)|m7 (l:List Nat)
 |tup(l:List V)|lst (l:List V)|ref (n:Nat)|inst (n:Nat)
 |fn(k:Nat)|lam (k:Nat)|pat (p:Pt)|bi (b:Bi)|dct
 |tot(k:Int)|lD (k:Int)|sym (l:List Nat)|err (c:Nat) (m:V)
noncomputable def V.ctorIdx:V→Nat:=@V.rec (fun _=>Nat) (fun _=>Nat) 0 (fun _=>1) (fun _=>2) (fun _=>3) (fun _=>4) (fun _ _=>5) (fun _ _=>6) (fun _=>7) (fun _=>8) (fun _=>9) (fun _=>10) (fun _=>11) (fun _=>12) 13 (fun _=>14) (fun _=>15) (fun _=>16) (fun _ _ _=>17) 0 (fun _ _ _ _=>0)
abbrev HP:=List (List V)
abbrev aR:=List (Nat×V)
inductive R(α:Type)where
 |bad
 |ok(a:α)(h:HP)
 |exc(c:Nat)(m:V)(h:HP)
noncomputable def R.ctorIdx{α:Type}:R α→Nat:=@R.rec α (fun _=>Nat) 0 (fun _ _=>1) (fun _ _ _=>2)
theorem nW{α:Type}{a:α}{h:HP}{P:Prop}(e:R.bad=R.ok a h):P:=nomatch e
theorem Ry{α:Type}{a:α}{h:HP}{P:Prop}(e:R.ok a h=R.bad):P:=nomatch e
theorem LM{α:Type}{a:α}{h h':HP}{c:Nat}{m:V}{P:Prop}(e:R.exc c m h=R.ok a h'):P:=nomatch e
theorem U5{α:Type}{a:α}{h h':HP}{c:Nat}{m:V}{P:Prop}(e:R.ok a h=R.exc c m h'):P:=nomatch e
noncomputable def R.bind{α β:Type}(r:R α)(f:α→HP→R β):R β:=@R.rec α (fun _=>R β) .bad f .exc r
noncomputable def R.lift{α:Type}(o:Option α)(h:HP):R α:=@acs α (fun _=>R α) .bad (fun a=>.ok a h) o
noncomputable def az{α:Type}(b:Bool)(x y:α):α:=@abQ (fun _=>α) y x b
noncomputable def aT{α β:Type}(o:Option α)(f:α→Option β):Option β:=@acs α (fun _=>Option β) .none f o
noncomputable def au{α:Type}(l m:List α):List α:=@aaB α (fun _=>List α) m (fun a _ ih=>a::ih) l
noncomputable def lmap{α β:Type}(f:α→β)(l:List α):List β:=@aaB α (fun _=>List β) [] (fun a _ ih=>f a::ih) l
noncomputable def aC{α:Type}(l:List α):Nat:=@aaB α (fun _=>Nat) 0 (fun _ _ ih=>acC ih) l
noncomputable def dF{α:Type}(l:List α):Nat→List α:=@aaB α (fun _=>Nat→List α) (fun _=>[]) (fun a _ ih n=>@ach (fun _=>List α) [] (fun m _=>a::ih m) n) l
noncomputable def fS{α:Type}(l:List α):Nat→List α:=@aaB α (fun _=>Nat→List α) (fun _=>[]) (fun a t ih n=>@ach (fun _=>List α) (a::t) (fun m _=>ih m) n) l
noncomputable def HQ{α:Type}(l:List α):List α→List α:=@aaB α (fun _=>List α→List α) (fun r=>r) (fun a _ ih r=>ih (a::r)) l
noncomputable def yv{α:Type}(l:List α):List α:=HQ l []
noncomputable def LN{α:Type}(f:α→Bool)(l:List α):Bool:=@aaB α (fun _=>Bool) true (fun a _ ih=>az (f a) ih false) l
noncomputable def jn{α β:Type}(f:α→Option β)(l:List α):Option (List β):=
 @aaB α (fun _=>Option (List β)) (some []) (fun a _ ih=>aT (f a) fun b=>aT ih fun t=>some (b::t)) l
noncomputable def jR{α:Type}(l:List α):Nat→Option α:=
 @aaB α (fun _=>Nat→Option α) (fun _=>none) (fun a _ ih n=>@ach (fun _=>Option α) (some a) (fun m _=>ih m) n) l
noncomputable def setAt{α:Type}(l:List α):Nat→α→List α:=
 @aaB α (fun _=>Nat→α→List α) (fun _ _=>[]) (fun a t ih n b=>@ach (fun _=>List α) (b::t) (fun m _=>a::ih m b) n) l
noncomputable def fk(a c:Int)(n:Nat):List V:=@ach (fun _=>Int→List V) (fun _=>[]) (fun _ ih a=>.int a::ih (aaK a c)) n a
noncomputable def rep{α:Type}(s:List α)(n:Nat):List α:=@ach (fun _=>List α) [] (fun _ ih=>au s ih) n
noncomputable def short{α:Type}(l:List α):Bool:=aa5 (aC l) 4000
noncomputable def fit{α:Type}(l:List α):Option (List α):=az (short l) (some l) none
noncomputable def aK(x:Nat)(r:aR):Option V:=
 @aaB (Nat×V) (fun _=>Option V) none (fun p _ ih=>@abQ (fun _=>Option V) ih (some p.2) (aap x p.1)) r
noncomputable def dc(x:Nat)(v:V)(r:aR):aR:=
 @aaB (Nat×V) (fun _=>aR) [(x,v)] (fun p t ih=>@abQ (fun _=>aR) (p::ih) ((p.1,v)::t) (aap x p.1)) r
noncomputable def gP(x:List Nat):List Nat→Bool:=
 @aaB Nat (fun _=>List Nat→Bool) (fun y=>@aaB Nat (fun _=>Bool) true (fun _ _ _=>false) y)
  (fun a _ ih y=>@aaB Nat (fun _=>Bool) false (fun b t _=>@abQ (fun _=>Bool) false (ih t) (aap a b)) y) x
noncomputable def HR(x:List Nat):List Nat→Bool:=
 @aaB Nat (fun _=>List Nat→Bool) (fun y=>@aaB Nat (fun _=>Bool) false (fun _ _ _=>true) y)
  (fun a _ ih y=>@aaB Nat (fun _=>Bool) false (fun b t _=>@abQ (fun _=>Bool) (aba a b) (ih t) (aap a b)) y) x
noncomputable def jS(a b:Int):Bool:=@ac8 (fun _=>Bool) (fun n=>aba 0 n) (fun _=>false) (aaK b (acz a))
noncomputable def Q9(a b:Int):Bool:=@ac8 (fun _=>Bool) (fun _=>true) (fun _=>false) (aaK b (acz a))
noncomputable def uz(a b:Int):Bool:=@ac8 (fun _=>Bool) (fun n=>aap n 0) (fun _=>false) (aaK b (acz a))
noncomputable def LO(f:Nat):Nat→List Nat→List Nat:=
 @ach (fun _=>Nat→List Nat→List Nat) (fun _ acc=>acc) (fun _ ih n acc=>@ach (fun _=>List Nat) ((48+n)::acc) (fun _ _=>ih (n/10) ((48+n%10)::acc)) (n/10)) f
noncomputable def dec(i:Int):Option (List Nat):=@ac8 (fun _=>Option (List Nat)) (fun n=>az (aba n 1000000) (some (LO 7 n [])) none) (fun _=>none) i
noncomputable def lP(a b:V):Option Bool:=match a with
 |.int i=>match b with|.int j=>some (uz i j)|_=>none
 |.str s=>match b with|.str t=>some (gP s t)|_=>none
 |.sym s=>match b with|.sym t=>az (gP s t) (some true) none|_=>none
 |_=>none
noncomputable def lQ(f:V→V→Option Bool)(x:List V):List V→Option Bool:=
 @aaB V (fun _=>List V→Option Bool) (fun y=>@aaB V (fun _=>Option Bool) (some true) (fun _ _ _=>some false) y)
  (fun a _ ih y=>@aaB V (fun _=>Option Bool) (some false) (fun b t _=>aT (f a b) fun c=>aT (ih t) fun d=>some (az c d false)) y) x
noncomputable def uA(a b:V):Option Bool:=match a with
 |.tup l=>match b with|.tup m=>az (aap (aC l) (aC m)) (lQ lP l m) none|_=>none
 |a=>lP a b
noncomputable def items(H:HP)(v:V):Option (List V):=match v with
 |.lst l=>some l
 |.ref n=>jR H n
 |_=>none
noncomputable def index(n:Nat)(i:Int):Option Nat:=
 @ac8 (fun _=>Option Nat) (fun k=>az (aba k n) (some k) none) (fun k=>az (aba k n) (some (n - 1 - k)) none) i
noncomputable def tr(v:V):Option Bool:=match v with
 |.none=>some false
 |.bool b=>some b
 |.int i=>some (az (uz i 0) false true)
 |_=>none
noncomputable def isIn(x:V)(l:List V):Option Bool:=@aaB V (fun _=>Option Bool) (some false) (fun y _ ih=>aT (uA y x) fun c=>aT ih fun d=>some (az c true d)) l
noncomputable def kq(x:V)(l:List V):Option Nat:=@aaB V (fun _=>Option Nat) (some 0) (fun y _ ih=>aT (uA y x) fun c=>aT ih fun n=>some (az c (acC n) n)) l
noncomputable def nX(x:V)(l:List V):Option Nat:=@aaB V (fun _=>Option Nat) none (fun y _ ih=>aT (uA y x) fun c=>az c (some 0) (aT ih fun n=>some (acC n))) l
noncomputable def oU(v:V):Option Int:=match v with|.int i=>some i|_=>none
noncomputable def foldI(f:Int→Int→Int)(l:List V):Int→Option Int:=
 @aaB V (fun _=>Int→Option Int) (fun a=>some a) (fun v _ ih a=>aT (oU v) fun i=>ih (f a i)) l
noncomputable def Aw(a i:Int):Int:=az (jS i a) i a
noncomputable def Rz(a i:Int):Int:=az (jS a i) i a
noncomputable def uB(f:Int→Int→Int)(l:List V):Option Int:=match l with
 |[]=>none
 |v::t=>aT (oU v) fun i=>foldI f t i
noncomputable def Ax(v:V):Option (List Nat):=match v with|.str s=>some s|_=>none
noncomputable def jo(sep:List Nat)(l:List (List Nat)):List Nat:=
 @aaB (List Nat) (fun _=>List Nat) [] (fun s t ih=>au s (@aaB (List Nat) (fun _=>List Nat) [] (fun _ _ _=>au sep ih) t)) l
noncomputable def XI(a b:V):Option Bool:=match a with
 |.int i=>match b with
  |.int j=>some (jS i j)
  |_=>none
 |_=>none
noncomputable def oV(a:V):Option (Int×List Nat):=match a with
 |.tup l=>match l with
  |[p,q]=>match p with
   |.int i=>match q with
    |.str s=>some (i,s)
    |_=>none
   |_=>none
  |_=>none
 |_=>none
noncomputable def HG(a b:Int×List Nat):Bool:=az (uz a.1 b.1) (HR a.2 b.2) (jS a.1 b.1)
noncomputable def HS(x:V)(l:List V):Option (List V):=
 @aaB V (fun _=>Option (List V)) (some [x]) (fun y t ih=>aT (XI y x) fun c=>az c (aT ih fun r=>some (y::r)) (some (x::y::t))) l
noncomputable def Ay(l:List V):Option (List V):=@aaB V (fun _=>Option (List V)) (some []) (fun x _ ih=>aT ih (HS x)) l
noncomputable def yw(l:List V):Option (List V):=@acs (List Int) (fun _=>Option (List V))
 (match l with
  |[p,q]=>aT (oV p) fun a=>aT (oV q) fun b=>some (az (HG b a) [q,p] [p,q])
  |_=>none)
 (fun _=>az (aba (aC l) 64) (Ay l) none) (jn oU l)
noncomputable def xo(l:List V):Nat→List V:=@aaB V (fun _=>Nat→List V) (fun _=>[]) (fun v _ ih k=>.tup [.int (aaa k),v]::ih (acC k)) l
noncomputable def wK(l:List V):List V→List V:=
 @aaB V (fun _=>List V→List V) (fun _=>[]) (fun a _ ih y=>@aaB V (fun _=>List V) [] (fun b t _=>.tup [a,b]::ih t) y) l
noncomputable def bJ(i:Int):Bool:=aba (Int.natAbs i) 1000000
noncomputable def OM(a c m:Int):Option (List V):=az (jS (-1) m) (az (bJ m) (some (fk a c (abu m))) none) none
noncomputable def lR(a b c:Int):Option (List V):=
 az (bJ a) (az (bJ b) (az (bJ c) (az (az (jS 0 c) true (jS c 0)) (OM a c (abg a b c)) none) none) none) none
noncomputable def ascii(l:List Nat):Bool:=LN (fun c=>aba c 128) l
noncomputable def low(c:Nat):Nat:=az (aa5 65 c) (az (aa5 c 90) (Nat.add c 32) c) c
noncomputable def bU(l:List Nat):List (List Nat):=match l with
 |[]=>[[]]
 |13::10::l=>[]::bU l
 |c::l=>match bU l with
  |[]=>[[c]]
  |r::t=>(c::r)::t
noncomputable def fJ(l:List Nat):Option (List Nat):=match l with
 |[]=>some []
 |c::l=>
  az (aap c 13) (match l with
   |[]=>none
   |d::m=>az (aap d 10) (aT (fJ m) fun t=>some (13::10::t)) none)
  (az (aap c 10) none
  (az (aba c 1114112) (aT (fJ l) fun t=>some (c::t))
  (az (aap c 1114112) none
   (match l with
    |[]=>some [13,10]
    |d::_=>az (aap d 46) (aT (fJ l) fun t=>some (13::10::t)) none))))
noncomputable def dots(l:List Nat):Bool→List Nat:=
 @aaB Nat (fun _=>Bool→List Nat) (fun _=>[]) (fun c _ ih bol=>az (az bol (aap c 46) false) (46::46::ih false) (c::ih (aap c 10))) l
noncomputable def d9(l:List Nat):Nat→Bool→List V:=
 @aaB Nat (fun _=>Nat→Bool→List V) (fun pos fK=>az fK [.tup [.int (aaa (ahz pos)),.str [92]]] [])
  (fun c _ ih pos fK=>az fK (.tup [.int (aaa pos),.str [92,c]]::ih (acC pos) false)
   (az (aap c 92) (ih (acC pos) true) (.tup [.int (aaa pos),.str [c]]::ih (acC pos) false))) l
noncomputable def cM(l:List Nat):Bool→Bool:=
 @aaB Nat (fun _=>Bool→Bool) (fun fK=>fK) (fun c _ ih fK=>az fK (ih false) (ih (aap c 92))) l
noncomputable def LP(H:HP)(a b:V):Option V:=match a with
 |.int i=>match b with
  |.int j=>some (.int (aaK i j))
  |.tot k=>some (.tot (aaK k i))
  |_=>none
 |.str s=>match b with
  |.str t=>aT (fit (au s t)) fun u=>some (.str u)
  |.sym t=>az (ascii s) (aT (fit (au s t)) fun u=>some (.sym u)) none
  |_=>none
 |.sym s=>match b with
  |.str t=>az (ascii t) (aT (fit (au s t)) fun u=>some (.sym u)) none
  |.sym t=>aT (fit (au s t)) fun u=>some (.sym u)
  |_=>none
 |.tot k=>match b with
  |.int j=>some (.tot (aaK k j))
  |_=>none
 |a=>aT (items H a) fun l=>aT (items H b) fun m=>aT (fit (au l m)) fun u=>some (.lst u)
noncomputable def D5(a b:V):Option V:=match a with
 |.int i=>match b with
  |.int j=>some (.int (aaK i (acz j)))
  |_=>none
 |.lD k=>match b with
  |.int j=>some (.lD (aaK k (acz j)))
  |_=>none
 |_=>none
noncomputable def LQ(a b:V):Option V:=match b with
 |.int j=>match a with
  |.int i=>az (bJ i) (az (bJ j) (some (.int (ah2 i j))) none) none
  |.str s=>az (bJ j) (aT (fit (rep s (abu j))) fun u=>some (.str u)) none
  |_=>none
 |_=>none
noncomputable def HT(a b:V):Option V:=match a with
 |.int i=>match b with
  |.int j=>az (jS 0 j) (az (bJ j) (some (.int (i/j))) none) none
  |_=>none
 |_=>none
noncomputable def RA(par:Bool)(j:Int)(a:V):Option V:=match a with
 |.int i=>some (.int (abj i j))
 |.tot k=>az (uz j 2) (some (.int (abj (aaK k (az par 1 0)) 2))) none
 |_=>none
noncomputable def LR(par:Bool)(a b:V):Option V:=match b with
 |.int j=>az (jS 0 j) (RA par j a) none
 |_=>none
noncomputable def ON(a b:V):Option V:=match a with
 |.int i=>match b with
  |.int j=>@ac8 (fun _=>Option V) (fun n=>az (bJ i) (az (aba n 20) (some (.int (i^n))) none) none) (fun _=>none) j
  |_=>none
 |_=>none
noncomputable def Fq(par:Bool)(H:HP)(o:Op)(a b:V):Option V:=match o with
 |.add=>LP H a b
 |.sub=>D5 a b
 |.mul=>LQ a b
 |.fdiv=>HT a b
 |.mod=>LR par a b
 |.pow=>ON a b
noncomputable def Ra(H:HP)(a b:V):Option Bool:=match items H a with
 |some l=>aT (items H b) fun m=>lQ uA l m
 |none=>lP a b
noncomputable def ltV(a b:V):Option Bool:=match a with
 |.int i=>match b with
  |.int j=>some (jS i j)
  |_=>none
 |.str s=>match b with
  |.str t=>some (HR s t)
  |_=>none
 |.lD k=>match b with
  |.int j=>az (uz j 0) (az (jS k 0) (some true) none) none
  |_=>none
 |_=>none
noncomputable def WH(a b:V):Option Bool:=match a with
 |.int i=>match b with
  |.int j=>some (jS j i)
  |_=>none
 |_=>none
noncomputable def U6(a b:V):Option Bool:=match a with
 |.int i=>match b with
  |.int j=>some (Q9 i j)
  |_=>none
 |_=>none
noncomputable def U7(a b:Bi):Option Bool:=match a,b with
 |.str,.str=>some true
 |.int,.str=>some false
 |_,_=>none
noncomputable def yx(a:V):Bool:=match a with|.none=>true|_=>false
noncomputable def Ue(a b:V):Option Bool:=match b with
 |.none=>some (yx a)
 |.bool c=>match a with
  |.bool d=>some (az c d (az d false true))
  |_=>none
 |.bi k=>match a with
  |.bi j=>U7 j k
  |_=>none
 |_=>none
noncomputable def Az(c:Nat)(l:List Nat):Bool:=@aaB Nat (fun _=>Bool) false (fun d _ ih=>az (aap c d) true ih) l
noncomputable def OO(H:HP)(a b:V):Option Bool:=match b with
 |.str t=>match a with
  |.str s=>match s with
   |[c]=>some (Az c t)
   |_=>none
  |_=>none
 |b=>aT (items H b) fun l=>isIn a l
noncomputable def wL(o:Option Bool):Option Bool:=aT o fun b=>some (az b false true)
noncomputable def Ft(H:HP)(o:Cm)(a b:V):Option Bool:=match o with
 |.eq=>Ra H a b
 |.ne=>wL (Ra H a b)
 |.lt=>ltV a b
 |.gt=>WH a b
 |.le=>U6 a b
 |.ge=>U6 b a
 |.is=>Ue a b
 |.Fj=>wL (Ue a b)
 |.Fo=>OO H a b
 |.Fp=>wL (OO H a b)
noncomputable def RC(H:HP)(i:Int)(o:V):Option V:=match o with
 |.str s=>aT (index (aC s) i) fun k=>aT (jR s k) fun c=>some (.str [c])
 |.tup l=>aT (index (aC l) i) fun k=>jR l k
 |o=>aT (items H o) fun l=>aT (index (aC l) i) fun k=>jR l k
noncomputable def wM(H:HP)(o i:V):Option V:=match i with
 |.int i=>az (bJ i) (RC H i o) none
 |_=>none
noncomputable def bound(n:Nat)(d:Nat)(v:V):Option Nat:=match v with
 |.none=>some d
 |.int i=>some (@ac8 (fun _=>Nat) (fun k=>az (aa5 k n) k n) (fun k=>n - (k+1)) i)
 |_=>none
noncomputable def cW{α:Type}(xs:List α)(l u s:V):Option (List α):=match s with
 |.none=>aT (bound (aC xs) 0 l) fun a=>aT (bound (aC xs) (aC xs) u) fun b=>some (fS (dF xs b) a)
 |.int s=>@ac8 (fun _=>Option (List α))
  (fun c=>az (aa5 1 c) (match u with
   |.none=>aT (bound (aC xs) 0 l) fun a=>some ((sliceRange (aaa a) (aaa (aC xs)) (aaa c)).filterMap fun i=>xs[i]?)
   |_=>none) none)
  (fun c=>az (aap c 0) (match l with
   |.none=>match u with
    |.none=>some (yv xs)
    |_=>none
   |_=>none) none) s
 |_=>none
noncomputable def isWhole(l u s:V):Bool:=match l with
 |.none=>match u with
  |.none=>match s with|.none=>true|_=>false
  |_=>false
 |_=>false
noncomputable def OP(H:HP)(l u s:V)(o:Option (List V)):R V:=match o with
 |none=>.bad
 |some xs=>az (short xs) (az (isWhole l u s) (.ok (.ref (aC H)) (au H [xs])) (R.lift (aT (cW xs l u s) fun y=>some (.lst y)) H)) .bad
noncomputable def nY(H:HP)(o l u s:V):R V:=match o with
 |.str x=>match s with
  |.none=>R.lift (aT (fit x) fun x=>aT (cW x l u .none) fun y=>some (.str y)) H
  |_=>.bad
 |o=>OP H l u s (items H o)
noncomputable def bh(n:Nat)(lk:List Nat):Bool:=@aaB Nat (fun _=>Bool) true (fun m _ ih=>az (aap n m) false ih) lk
noncomputable def b9:Nat:=1000000
noncomputable def OQ(H:HP)(v:V):Option V:=match v with
 |.str s=>aT (fit s) fun s=>some (.int (aaa (aC s)))
 |v=>aT (items H v) fun l=>aT (fit l) fun l=>some (.int (aaa (aC l)))
noncomputable def OR(v:V):Option V:=match v with
 |.str _=>some (.bi .str)
 |.tot _=>some (.bi .int)
 |_=>none
noncomputable def RD(v:V):Option V:=match v with
 |.str l=>some (.str l)
 |.sym l=>some (.sym l)
 |_=>none
noncomputable def OS(v:V):Option V:=match v with
 |.int i=>aT (dec i) fun s=>some (.str s)
 |.tot k=>az (uz k 0) (some (.sym [1114112])) none
 |.err _ m=>RD m
 |_=>none
noncomputable def OT(v:V):Option V:=match v with
 |.tot k=>az (uz k 0) (some (.sym [1114112])) none
 |_=>none
noncomputable def rV(lk:List Nat)(b:Bi)(as:List V)(H:HP):R V:=match b with
 |.len=>match as with
  |[v]=>R.lift (OQ H v) H
  |_=>.bad
 |.type=>match as with
  |[v]=>R.lift (OR v) H
  |_=>.bad
 |.str=>match as with
  |[v]=>R.lift (OS v) H
  |_=>.bad
 |.repr=>match as with
  |[v]=>R.lift (OT v) H
  |_=>.bad
 |.min=>match as with
  |[v]=>az (bh b9 lk) (R.lift (aT (items H v) fun l=>aT (uB Aw l) fun i=>some (.int i)) H) .bad
  |[v,u]=>az (bh b9 lk) (R.lift (aT (oU v) fun i=>aT (oU u) fun j=>some (.int (Aw i j))) H) .bad
  |_=>.bad
 |.max=>match as with
  |[v]=>az (bh b9 lk) (R.lift (aT (items H v) fun l=>aT (uB Rz l) fun i=>some (.int i)) H) .bad
  |_=>.bad
 |.sum=>match as with
  |[v]=>az (bh b9 lk) (R.lift (aT (items H v) fun l=>aT (foldI aaK l 0) fun i=>some (.int i)) H) .bad
  |_=>.bad
 |.sorted=>match as with
  |[v]=>R.lift (aT (items H v) fun l=>aT (yw l) fun m=>some (.lst m)) H
  |_=>.bad
 |_=>.bad
noncomputable def qU(k:Pt)(r t:V):Option V:=match k with
 |.xm=>match r with
  |.str u=>az (gP u [13,10]) (match t with
   |.str l=>az (ascii l) (aT (fJ l) fun m=>aT (fit m) fun m=>some (.str m)) none
   |.sym l=>aT (fJ l) fun m=>aT (fit m) fun m=>some (.str m)
   |_=>none) none
  |_=>none
 |.dot=>match r with
  |.str u=>az (gP u [46,46]) (match t with
   |.str l=>az (ascii l) (aT (fit (dots l true)) fun m=>some (.str m)) none
   |_=>none) none
  |_=>none
 |.qT=>match r with
  |.m7 u=>az (gP u [46,46]) (match t with
   |.m7 l=>az (ascii l) (aT (fit (dots l true)) fun m=>some (.m7 m)) none
   |_=>none) none
  |_=>none
 |_=>none
noncomputable def clean(l:List Nat):Bool:=LN (fun c=>az (aa5 32 c) (aba c 127) false) l
noncomputable def xq(k:Pt)(t:V):Option V:=match k with
 |.rU=>match t with
  |.str l=>az (clean l) (some .none) none
  |_=>none
 |.Au=>match t with
  |.str l=>az (clean l) (some .none) none
  |_=>none
 |_=>none
noncomputable def AA:List Nat:=[72,101,97,100,101,114,32,110,97,109,101,115,47,118,97,108,117,101,115,32,109,117,115,116,32,98,101,32,111,102,32,116,121,112,101,32,115,116,114,32,40,103,111,116,32,123,48,125,41]
noncomputable def AB:List Nat:=[72,101,97,100,101,114,32,110,97,109,101,115,47,118,97,108,117,101,115,32,109,117,115,116,32,98,101,32,111,102,32,116,121,112,101,32,115,116,114,32,40,103,111,116,32]
noncomputable def qV(lk:List Nat)(a:Nat)(f:List V→Option (List V))(H:HP):R V:=
 az (bh a lk) (match jR H a with
  |some l=>match aT (fit l) f with
   |some m=>.ok .none (setAt H a m)
   |none=>.bad
  |none=>.bad) .bad
noncomputable def uC(lk:List Nat)(o:V)(n:Me)(as:List V)(H:HP):R V:=match n with
 |.append=>match o with
  |.ref a=>match as with
   |[v]=>qV lk a (fun l=>some (au l [v])) H
   |_=>.bad
  |_=>.bad
 |.insert=>match o with
  |.ref a=>match as with
   |[i,v]=>qV lk a (fun l=>aT (oU i) fun i=>az (bJ i) (@ac8 (fun _=>Option (List V)) (fun k=>some (au (dF l k) (v::fS l k))) (fun _=>none) i) none) H
   |_=>.bad
  |_=>.bad
 |.count=>match as with
  |[v]=>R.lift (aT (items H o) fun l=>aT (kq v l) fun n=>some (.int (aaa n))) H
  |_=>.bad
 |.index=>match as with
  |[v]=>R.lift (aT (items H o) fun l=>aT (fit l) fun l=>aT (isIn v l) fun _=>aT (nX v l) fun n=>some (.int (aaa n))) H
  |_=>.bad
 |.join=>match o with
  |.str s=>match as with
   |[v]=>R.lift (aT (fit s) fun s=>aT (items H v) fun l=>aT (jn Ax l) fun ts=>aT (fit (jo s ts)) fun u=>some (.str u)) H
   |_=>.bad
  |_=>.bad
 |.split=>match o with
  |.str s=>match as with
   |[v]=>match v with
    |.str u=>az (gP u [13,10]) (az (short s) (.ok (.lst (lmap V.str (bU s))) H) .bad) .bad
    |_=>.bad
   |_=>.bad
  |_=>.bad
 |.lower=>match o with
  |.str s=>match as with
   |[]=>az (ascii s) (az (short s) (.ok (.str (lmap low s)) H) .bad) .bad
   |_=>.bad
  |_=>.bad
 |.encode=>match o with
  |.str s=>match as with
   |[v]=>match v with
    |.str u=>az (gP u [117,116,102,45,56]) (az (ascii s) (az (short s) (.ok (.m7 s) H) .bad) .bad) .bad
    |_=>.bad
   |_=>.bad
  |_=>.bad
 |.decode=>match o with
  |.m7 s=>match as with
   |[v]=>match v with
    |.str u=>az (gP u [117,116,102,45,56]) (az (ascii s) (az (short s) (.ok (.str s) H) .bad) .bad) .bad
    |_=>.bad
   |_=>.bad
  |_=>.bad
 |.format=>match o with
  |.str s=>match as with
   |[v]=>match v with
    |.sym t=>az (gP s AA) (az (short t) (.ok (.sym (au AB (au t [41]))) H) .bad) .bad
    |_=>.bad
   |_=>.bad
  |_=>.bad
 |.sub=>match o with
  |.pat k=>match as with
   |[r,t]=>R.lift (qU k r t) H
   |_=>.bad
  |_=>.bad
 |.search=>match o with
  |.pat k=>match as with
   |[t]=>R.lift (xq k t) H
   |_=>.bad
  |_=>.bad
 |_=>.bad
end
noncomputable section
structure Cx where
 par:Bool
 iD:Nat→List V→aR→List Nat→HP→R V
 lk:List Nat
abbrev CE:=Cx→aR→HP→R V
abbrev CB:=Cx→aR→HP→R Bool
abbrev CL:=Cx→aR→HP→R (List V)
abbrev CK:=Cx→aR→HP→R aR
abbrev CI:=Cx→aR→HP→R (List V×List Nat)
inductive Fl where
 |on(r:aR)
 |back(v:V)
noncomputable def Fl.ctorIdx:Fl→Nat:=@Fl.rec (fun _=>Nat) (fun _=>0) (fun _=>1)
abbrev CS:=Cx→aR→HP→R Fl
inductive Tg where
 |one(x:Nat)
 |two(x y:Nat)
noncomputable def Tg.ctorIdx:Tg→Nat:=@Tg.rec (fun _=>Nat) (fun _=>0) (fun _ _=>1)
noncomputable def HU{α:Type}(x:Nat)(l:List (Nat×α)):Option α:=@aaB (Nat×α) (fun _=>Option α) none (fun p _ ih=>@abQ (fun _=>Option α) ih (some p.2) (aap x p.1)) l
theorem jT{α:Type}{x:Nat}{v:α}:∀{l:List (Nat×α)},HU x l=some v→(x,v)∈l
 |[],h=>no1 h
 |(y,u)::l,h=>by
  have h:@abQ (fun _=>Option α) (HU x l) (some u) (aap x y)=some v:=h
  cases e:aap x y with
  |true=>rw[e] at h;rw[aan e,Z8 h];exact aae ..
  |false=>rw[e] at h;exact aaf _ (jT h)
noncomputable def xr:List (Nat×V):=[(76,.fn 0),(2,.fn 1),(78,.fn 2),(10,.fn 3),(20,.fn 4),(25,.fn 5),(104,.fn 6),(84,.fn 7),(85,.fn 8),(86,.fn 9),(101,.fn 15),(106,.fn 16),(109,.fn 17),(111,.fn 18),(123,.fn 19),(128,.fn 20),(70,.fn 21),(26,.pat .dot),(28,.pat .xm),(31,.pat .qT),(38,.pat .rU),(39,.pat .Au),(29,.str [13,10]),(8,.bi .len),(33,.bi .type),(35,.bi .str),(43,.bi .repr),(63,.bi .min),(80,.bi .max),(95,.bi .sum),(118,.bi .sorted),(7,.bi .OJ),(41,.bi .OL)]
noncomputable def LS(x:Nat):Option V:=HU x xr
noncomputable def RE:List (Nat×Me):=[(18,.append),(6,.insert),(61,.count),(62,.index),(19,.join),(124,.split),(46,.lower),(87,.encode),(88,.decode),(42,.format),(27,.sub),(40,.search),(45,.conv),(113,.getAll),(112,.keys),(54,.items),(73,.Av)]
noncomputable def yz(n:Nat):Option Me:=HU n RE
noncomputable def Ug:Me→Nat
 |.append=>18|.insert=>6|.count=>61|.index=>62|.join=>19|.split=>124|.lower=>46|.encode=>87|.decode=>88|.format=>42|.sub=>27|.search=>40|.conv=>45|.getAll=>113|.keys=>112|.items=>54|.Av=>73
theorem U8{n:Nat}{m:Me}(h:yz n=some m):n=Ug m:=aan (aaG.mp (show RE.all (fun p=>aap p.1 (Ug p.2))=true from rfl) _ (jT h))
noncomputable def instMeth(n:Me):Option Nat:=match n with
 |.conv=>some 10|.getAll=>some 11|.keys=>some 12|.items=>some 13|.Av=>some 14|_=>none
noncomputable def bP(r:aR)(l:List Nat):aR:=@aaB Nat (fun _=>aR) [] (fun x _ ih=>@acs V (fun _=>aR) ih (fun v=>(x,v)::ih) (aK x r)) l
noncomputable def freeOf:List (Nat×aam)→List Nat
 |[]=>[]
 |(x,k)::l=>match k with|.free=>x::freeOf l|_=>freeOf l
noncomputable def dU(t:Tg)(v:V)(r:aR):Option aR:=match t with
 |.one x=>some (dc x v r)
 |.two x y=>match v with
  |.tup [a,b]=>some (dc y b (dc x a r))
  |_=>none
noncomputable def ef(l:List Nat):List V→aR→Option aR:=
 @aaB Nat (fun _=>List V→aR→Option aR) (fun m r=>@aaB V (fun _=>Option aR) (some r) (fun _ _ _=>none) m)
  (fun x _ ih m r=>@aaB V (fun _=>Option aR) none (fun v t _=>ih t (dc x v r)) m) l
noncomputable def wN:CE:=fun _ _ _=>.bad
noncomputable def cV(v:V):CE:=fun _ _ H=>.ok v H
noncomputable def af(x:Nat):CE:=fun _ r H=>R.lift (aK x r) H
noncomputable def aD(a:CE)(o:Op)(b:CE):CE:=fun C r H=>(a C r H).bind fun x H=>(b C r H).bind fun y H=>R.lift (Fq C.par H o x y) H
noncomputable def Fv(v:V)(H:HP):R V:=match v with
 |.int i=>.ok (.int (-i)) H
 |.tot k=>.ok (.lD (-k)) H
 |_=>.bad
noncomputable def fZ(a:CE):CE:=fun C r H=>(a C r H).bind Fv
noncomputable def XJ(t:CB):CE:=fun C r H=>(t C r H).bind fun b H=>.ok (.bool (az b false true)) H
noncomputable def nZ(t:CB)(a b:CE):CE:=fun C r H=>(t C r H).bind fun c H=>az c (a C r H) (b C r H)
noncomputable def aY(a:CE)(o:Cm)(b:CE):CE:=fun C r H=>(a C r H).bind fun x H=>(b C r H).bind fun y H=>R.lift (aT (Ft H o x y) fun c=>some (.bool c)) H
noncomputable def sS:CE:=fun _ _ H=>.ok (.ref (aC H)) (au H [[]])
noncomputable def n6(l:CL):CE:=fun C r H=>(l C r H).bind fun vs H=>az (short vs) (.ok (.lst vs) H) .bad
noncomputable def iB(l:CL):CE:=fun C r H=>(l C r H).bind fun vs H=>az (short vs) (.ok (.tup vs) H) .bad
noncomputable def aj:CL:=fun _ _ H=>.ok [] H
noncomputable def aa(a:CE)(l:CL):CL:=fun C r H=>(a C r H).bind fun v H=>(l C r H).bind fun vs H=>.ok (v::vs) H
noncomputable def ay:CK:=fun _ _ H=>.ok [] H
noncomputable def jq(x:Nat)(a:CE)(l:CK):CK:=fun C r H=>(a C r H).bind fun v H=>(l C r H).bind fun vs H=>.ok ((x,v)::vs) H
noncomputable def OU(a b:CE):CE:=fun C r H=>(a C r H).bind fun v H=>match tr v with
 |some c=>az c (b C r H) (.ok v H)
 |none=>.bad
noncomputable def WI(a b:CE):CE:=fun C r H=>(a C r H).bind fun v H=>match tr v with
 |some c=>az c (.ok v H) (b C r H)
 |none=>.bad
noncomputable def eF(C:Cx)(g:V)(as:List V)(ks:aR)(H:HP):R V:=match g with
 |.fn k=>C.iD k as ks C.lk H
 |.lam k=>C.iD (100+k) as ks C.lk H
 |.bi b=>match ks with
  |[]=>rV C.lk b as H
  |_=>.bad
 |_=>.bad
noncomputable def aB(g:CE)(as:CL)(ks:CK):CE:=fun C r H=>(g C r H).bind fun g H=>(as C r H).bind fun as H=>(ks C r H).bind fun ks H=>eF C g as ks H
noncomputable def nO(C:Cx)(o:V)(n:Me)(as:List V)(ks:aR)(H:HP):R V:=match o with
 |.inst a=>match instMeth n with
  |some k=>C.iD k (.inst a::as) ks C.lk H
  |none=>.bad
 |o=>match ks with
  |[]=>uC C.lk o n as H
  |_=>.bad
noncomputable def isRef(v:V):Bool:=match v with|.ref _=>true|_=>false
noncomputable def AD(v:V):Bool:=match v with|.ref _=>true|.lst _=>true|_=>false
noncomputable def isStr(v:V):Bool:=match v with|.str _=>true|_=>false
noncomputable def HV(v:V):Bool:=match v with|.m7 _=>true|_=>false
noncomputable def D6(v:V):Bool:=match v with|.pat _=>true|_=>false
noncomputable def qW(v:V):Bool:=match v with|.inst _=>true|_=>false
noncomputable def n7(o:V)(n:Me):Bool:=match n with
 |.append=>isRef o|.insert=>isRef o|.count=>AD o|.index=>AD o
 |.join=>isStr o|.split=>isStr o|.lower=>isStr o|.encode=>isStr o|.format=>isStr o|.decode=>HV o
 |.sub=>D6 o|.search=>D6 o
 |.conv=>qW o|.getAll=>qW o|.keys=>qW o|.items=>qW o|.Av=>qW o
noncomputable def aS(o:CE)(n:Me)(as:CL)(ks:CK):CE:=fun C r H=>(o C r H).bind fun o H=>az (n7 o n) ((as C r H).bind fun as H=>(ks C r H).bind fun ks H=>nO C o n as ks H) .bad
noncomputable def U9(o:V)(H:HP):R V:=match o with
 |.inst a=>.ok (.ref a) H
 |_=>.bad
noncomputable def Cz(o:CE):CE:=fun C r H=>(o C r H).bind U9
noncomputable def dH(o i:CE):CE:=fun C r H=>(o C r H).bind fun o H=>(i C r H).bind fun i H=>R.lift (wM H o i) H
noncomputable def cJ(o l u s:CE):CE:=fun C r H=>(o C r H).bind fun o H=>(l C r H).bind fun l H=>(u C r H).bind fun u H=>(s C r H).bind fun s H=>nY H o l u s
noncomputable def oW:CB:=fun _ _ _=>.bad
noncomputable def bV(a:CE):CB:=fun C r H=>(a C r H).bind fun v H=>R.lift (tr v) H
noncomputable def OV(a:CB):CB:=fun C r H=>(a C r H).bind fun b H=>.ok (az b false true) H
noncomputable def cC(b:Bool):CB:=fun _ _ H=>.ok b H
noncomputable def jU(a b:CB):CB:=fun C r H=>(a C r H).bind fun c H=>az c (b C r H) (.ok false H)
noncomputable def lS(a b:CB):CB:=fun C r H=>(a C r H).bind fun c H=>az c (.ok true H) (b C r H)
noncomputable def cY(v:V):List Nat:=match v with|.ref n=>[n]|_=>[]
noncomputable def gc(H:HP)(v:V):Option (List V):=match v with
 |.tup l=>some l
 |v=>items H v
noncomputable def jc:CI:=fun _ _ _=>.bad
noncomputable def iV(a:CE):CI:=fun C r H=>(a C r H).bind fun v H=>match gc H v with|some l=>.ok (l,cY v) H|none=>.bad
noncomputable def AE(as:List V):Option (List V):=match as with
 |[.int b]=>lR 0 b 1
 |[.int a,.int b,.int c]=>lR a b c
 |_=>none
noncomputable def jV(as:CL):CI:=fun C r H=>(as C r H).bind fun as H=>match AE as with|some l=>.ok (l,[]) H|none=>.bad
noncomputable def D7(a:CE):CI:=fun C r H=>(a C r H).bind fun v H=>match items H v with|some l=>.ok (xo l 0,cY v) H|none=>.bad
noncomputable def OW(a b:CE):CI:=fun C r H=>(a C r H).bind fun v H=>(b C r H).bind fun u H=>match items H v with
 |some l=>match items H u with
  |some m=>.ok (wK l m,au (cY v) (cY u)) H
  |none=>.bad
 |none=>.bad
noncomputable def Fw(a:CE):CI:=fun C r H=>(a C r H).bind fun v H=>match v with|.str s=>az (cM s false) .bad (.ok (d9 s 0 false,[]) H)|_=>.bad
noncomputable def OX(a:CE):CI:=fun C r H=>(a C r H).bind fun v H=>match v with|.dct=>.ok ([],[]) H|_=>.bad
noncomputable def c7(tests:aR→HP→R Bool)(inner:aR→HP→R (List V))(t:Tg)(l:List V):aR→HP→R (List V):=
 @aaB V (fun _=>aR→HP→R (List V)) (fun _ H=>.ok [] H) (fun v _ ih r H=>match dU t v r with
  |none=>.bad
  |some r=>match tests r H with
   |.ok b H=>az b (match inner r H with
    |.ok xs H=>match ih r H with
     |.ok ys H=>.ok (au xs ys) H
     |_=>.bad
    |_=>.bad) (ih r H)
   |_=>.bad) l
noncomputable def Cx.lock(C:Cx)(l:List Nat):Cx:=⟨C.par,C.iD,au l C.lk⟩
noncomputable def g1(e:CE):CL:=fun C r H=>(e C r H).bind fun v H=>.ok [v] H
noncomputable def g2(t:Tg)(it:CI)(tests:CB)(inner:CL):CL:=fun C r H=>match it C r H with
 |.ok x H=>az (bh b9 C.lk) (c7 (tests (C.lock x.2)) (inner (C.lock x.2)) t x.1 r H) .bad
 |_=>.bad
noncomputable def cz(fr:List Nat)(t:Tg)(it:CI)(tests:CB)(inner:CL):CE:=fun C r H=>match it C r H with
 |.ok x H=>az (bh b9 C.lk) (match c7 (tests (C.lock x.2)) (inner (C.lock x.2)) t x.1 (bP r fr) H with
  |.ok vs H=>az (short vs) (.ok (.lst vs) H) .bad
  |_=>.bad) .bad
 |_=>.bad
noncomputable def nI(x:Nat)(r:aR):aR:=@aaB (Nat×V) (fun _=>aR) [] (fun p _ ih=>@abQ (fun _=>aR) (p::ih) ih (aap x p.1)) r
noncomputable def LU:CS:=fun _ _ _=>.bad
noncomputable def aA:CS:=fun _ r H=>.ok (.on r) H
noncomputable def ak(a b:CS):CS:=fun C r H=>(a C r H).bind fun f H=>match f with
 |.on r=>b C r H
 |.back v=>.ok (.back v) H
noncomputable def cD(e:CE):CS:=fun C r H=>(e C r H).bind fun _ H=>.ok (.on r) H
noncomputable def bH(x:Nat)(e:CE):CS:=fun C r H=>(e C r H).bind fun v H=>.ok (.on (dc x v r)) H
noncomputable def gh(xs:List Nat)(e:CE):CS:=fun C r H=>az (bh b9 C.lk) ((e C r H).bind fun v H=>match gc H v with
 |some vs=>match ef xs vs r with
  |some r=>.ok (.on r) H
  |none=>.bad
 |none=>.bad) .bad
noncomputable def D8(v:V):Bool:=match v with|.int _=>true|.str _=>true|.sym _=>true|_=>false
noncomputable def qX(x:Nat)(o:Op)(e:CE):CS:=fun C r H=>match aK x r with
 |some u=>az (D8 u) ((e C r H).bind fun v H=>R.lift (aT (Fq C.par H o u v) fun w=>some (Fl.on (dc x w r))) H) .bad
 |none=>.bad
noncomputable def iC(t:CB)(a b:CS):CS:=fun C r H=>(t C r H).bind fun c H=>az c (a C r H) (b C r H)
noncomputable def AF(t:CB)(b:CS)(C:Cx)(n:Nat):aR→HP→R Fl:=
 ach (fun _ _=>.bad) (fun _ ih r H=>match t C r H with
  |.ok c H=>az c (match b C r H with
   |.ok f H=>match f with
    |.on r=>ih r H
    |.back v=>.ok (.back v) H
   |_=>.bad) (.ok (.on r) H)
  |_=>.bad) n
noncomputable def AG(t:CB)(b:CS):CS:=fun C r H=>AF t b C 40 r H
noncomputable def bz(b:aR→HP→R Fl)(t:Tg)(l:List V):aR→HP→R Fl:=
 @aaB V (fun _=>aR→HP→R Fl) (fun r H=>.ok (.on r) H) (fun v _ ih r H=>match dU t v r with
  |none=>.bad
  |some r=>match b r H with
   |.ok f H=>match f with
    |.on r=>ih r H
    |.back v=>.ok (.back v) H
   |_=>.bad) l
noncomputable def jd(t:Tg)(it:CI)(b:CS):CS:=fun C r H=>match it C r H with
 |.ok x H=>az (bh b9 C.lk) (bz (b (C.lock x.2)) t x.1 r H) .bad
 |_=>.bad
noncomputable def dI(e:CE):CS:=fun C r H=>(e C r H).bind fun v H=>.ok (.back v) H
noncomputable def rW(c:Nat)(m:CE):CS:=fun C r H=>az (bh b9 C.lk) ((m C r H).bind fun m H=>.exc c m H) .bad
noncomputable def CA(b:CS)(c x:Nat)(hb:CS):CS:=fun C r H=>match b C r H with
 |.ok a H=>.ok a H
 |.bad=>.bad
 |.exc d m H=>az (aap c d) (match hb (C.lock [b9]) (dc x (.err c m) r) H with
  |.ok a H=>match a with
   |.on r=>.ok (.on (nI x r)) H
   |.back v=>.ok (.back v) H
  |_=>.bad) .bad
noncomputable def tV:T→Tg
 |.one x _=>.one x
 |.two x _ y _ _=>.two x y
noncomputable def Uh(sc:List (Nat×aam)):Bool:=sc.all fun p=>match p.2 with|.globalExplicit=>false|_=>true
noncomputable def aL:List CE→CL
 |[]=>aj
 |a::l=>aa a (aL l)
noncomputable def kL:List (Nat×CE)→CK
 |[]=>ay
 |(x,a)::l=>jq x a (kL l)
noncomputable def OY(c:Bool):List CE→CE
 |[]=>wN
 |a::l=>match l with
  |[]=>a
  |_::_=>match c with
   |true=>OU a (OY c l)
   |false=>WI a (OY c l)
noncomputable def AH(c:Bool):List CB→CB
 |[]=>cC c
 |a::l=>match c with
  |true=>jU a (AH c l)
  |false=>lS a (AH c l)
noncomputable def gens:List (Tg×CI×CB)→CL→CL
 |[],i=>i
 |(t,it,b)::l,i=>g2 t it b (gens l i)
noncomputable def OZ(fr:List Nat)(l:List (Tg×CI×CB))(i:CL):CE:=match l with
 |[]=>wN
 |(t,it,b)::l=>cz fr t it b (gens l i)
noncomputable def RH(l:List CE):CE:=match l with
 |[]=>sS
 |a::l=>n6 (aa a (aL l))
noncomputable def jC(o:CE)(n:Nat)(as:List CE)(ks:List (Nat×CE)):CE:=match yz n with
 |some m=>aS o m (aL as) (kL ks)
 |none=>wN
noncomputable def CC(x:Nat):CE:=match LS x with|some v=>cV v|none=>wN
noncomputable def D9(o:CE)(n:Nat):CE:=match aap n 48 with|true=>Cz o|false=>wN
noncomputable def yC(g:CE)(as:List CE)(n:Nat):CI:=
 az (aap n 59) (jV (aL as)) (az (aap n 129) (match as with|[x]=>D7 x|_=>jc) (az (aap n 127) (match as with|[x,y]=>OW x y|_=>jc)
  (az (aap n 17) (match as with|[x]=>Fw x|_=>jc) (iV (aB g (aL as) ay)))))
noncomputable def NZ(gi:Option Nat)(g:CE)(as:List CE)(ks:List (Nat×CE)):CI:=match gi with
 |none=>iV (aB g (aL as) (kL ks))
 |some n=>match ks with
  |_::_=>jc
  |[]=>yC g as n
noncomputable def HW(oi:Option Nat)(o:CE)(n:Nat)(as:List CE)(ks:List (Nat×CE)):CI:=az (aap n 54) (match oi,as,ks with
 |some 53,[],[]=>OX o
 |_,_,_=>jc) (iV (jC o n as ks))
noncomputable def LV:E→Option Nat
 |.gl n _=>some n
 |_=>none
noncomputable def O0:E→Option Nat
 |.nm n _=>some n
 |_=>none
mutual
noncomputable def cE:E→CE
 |.kN _=>cV .none
 |.kB b _=>cV (.bool b)
 |.kI i _=>cV (.int i)
 |.kS s _=>cV (.str s)
 |.kY b _=>cV (.m7 (b.map (·.toNat)))
 |.nm x _=>af x
 |.gl x _=>CC x
 |.As c l _=>OY c (uD l)
 |.bin a o b _=>aD (cE a) o (cE b)
 |.neg a _=>fZ (cE a)
 |.nt a _=>XJ (cT a)
 |.lam k _ _ _ _ _=>cV (.lam k)
 |.ite t a b _=>nZ (cT t) (cE a) (cE b)
 |.cmp a o b _=>aY (cE a) o (cE b)
 |.lst l _=>RH (uD l)
 |.tup l _=>iB (aL (uD l))
 |.comp e gs sc _=>OZ (freeOf sc) (RI gs) (g1 (cE e))
 |.call g as ks _=>aB (cE g) (aL (uD as)) (kL (Cu ks))
 |.bA o n _ as ks _=>jC (cE o) n (uD as) (Cu ks)
 |.attr o n _=>D9 (cE o) n
 |.sub o i _=>dH (cE o) (cE i)
 |.slc o l u s _ _=>cJ (cE o) (cO l) (cO u) (cO s)
noncomputable def uD:List E→List CE
 |[]=>[]
 |e::l=>cE e::uD l
noncomputable def Cu:List K→List (Nat×CE)
 |[]=>[]
 |k::l=>cK k::Cu l
noncomputable def cK:K→Nat×CE
 |.mk x e _=>(x,cE e)
noncomputable def cO:Option E→CE
 |none=>cV .none
 |some e=>cE e
noncomputable def RI:List G→List (Tg×CI×CB)
 |[]=>[]
 |g::l=>cG g::RI l
noncomputable def cG:G→Tg×CI×CB
 |.mk t it ifs=>(tV t,cI it,AH true (O1 ifs))
noncomputable def O1:List E→List CB
 |[]=>[]
 |e::l=>cT e::O1 l
noncomputable def cT:E→CB
 |.kN _=>bV (cV .none)
 |.kB b _=>bV (cV (.bool b))
 |.kI _ _=>oW
 |.kS _ _=>oW
 |.kY _ _=>oW
 |.nm x _=>bV (af x)
 |.gl _ _=>oW
 |.As c l _=>AH c (O1 l)
 |.bin a o b _=>bV (aD (cE a) o (cE b))
 |.neg _ _=>oW
 |.nt a _=>OV (cT a)
 |.lam _ _ _ _ _ _=>oW
 |.ite _ _ _ _=>oW
 |.cmp a o b _=>bV (aY (cE a) o (cE b))
 |.lst _ _=>oW
 |.tup _ _=>oW
 |.comp _ _ _ _=>oW
 |.call g as ks _=>bV (aB (cE g) (aL (uD as)) (kL (Cu ks)))
 |.bA o n _ as ks _=>bV (jC (cE o) n (uD as) (Cu ks))
 |.attr _ _ _=>oW
 |.sub _ _ _=>oW
 |.slc _ _ _ _ _ _=>oW
noncomputable def cI:E→CI
 |.kN _=>jc
 |.kB _ _=>jc
 |.kI _ _=>jc
 |.kS _ _=>jc
 |.kY _ _=>jc
 |.nm x _=>iV (af x)
 |.gl _ _=>jc
 |.As _ _ _=>jc
 |.bin _ _ _ _=>jc
 |.neg _ _=>jc
 |.nt _ _=>jc
 |.lam _ _ _ _ _ _=>jc
 |.ite _ _ _ _=>jc
 |.cmp _ _ _ _=>jc
 |.lst _ _=>jc
 |.tup l _=>iV (iB (aL (uD l)))
 |.comp _ _ _ _=>jc
 |.call g as ks _=>NZ (LV g) (cE g) (uD as) (Cu ks)
 |.bA o n _ as ks _=>HW (O0 o) (cE o) n (uD as) (Cu ks)
 |.attr o n _=>iV (D9 (cE o) n)
 |.sub _ _ _=>jc
 |.slc o l u s _ _=>iV (cJ (cE o) (cO l) (cO u) (cO s))
end
noncomputable def HX(e:E):CS:=match e with
 |.call g as ks _=>match g,as,ks with
  |.gl c _,[m],[]=>match c with
   |7=>rW 7 (cE m)
   |41=>rW 41 (cE m)
   |_=>LU
  |_,_,_=>LU
 |_=>LU
noncomputable def RJ(c:Option Nat)(b:CS)(x:Nat)(hb:CS):CS:=match c with
 |some c=>CA b c x hb
 |none=>LU
mutual
noncomputable def cS:S→CS
 |.expr e _=>cD (cE e)
 |.asg x _ e _=>bH x (cE e)
 |.kj xs _ e _=>gh (xs.map (·.1)) (cE e)
 |.aug x _ o e _=>qX x o (cE e)
 |.ifs t b o _=>iC (cT t) (iH b) (iH o)
 |.Cv t b _=>AG (cT t) (iH b)
 |.lO t it b _=>jd (tV t) (cI it) (iH b)
 |.ret e _=>dI (cE e)
 |.Cw e _=>HX e
 |.Cy b ty x hb _ _=>RJ (LV ty) (iH b) x (iH hb)
noncomputable def iH:List S→CS
 |[]=>aA
 |s::l=>ak (cS s) (iH l)
end
end
noncomputable def HY:List Str:=[
 (Z9 "key"),
 (Z9 "lo"),
 (Z9 "bisect_right"),
 (Z9 "a"),
 (Z9 "x"),
 (Z9 "hi"),
 (Z9 "insert"),
 (Z9 "ValueError"),
 (Z9 "len"),
 (Z9 "mid"),
  (Z9 "bisect_left"),
  (Z9 "addr"),
  (Z9 "start"),
  (Z9 "open_pos"),
  (Z9 "result"),
  (Z9 "pos"),
  (Z9 "ch"),
  (Z9 "_iter_escaped_chars"),
  (Z9 "append"),
  (Z9 "join"),
  (Z9 "_strip_quoted_realnames"),
  (Z9 "opens"),
  (Z9 "accepted_values"),
  (Z9 "v"),
  (Z9 "email_header_fields"),
  (Z9 "_check_parenthesis"),
  (Z9 "_twin_re_1"),
  (Z9 "sub"),
  (Z9 "_twin_re_3"),
  (Z9 "CRLF"),
  (Z9 "data"),
  (Z9 "_twin_re_2"),
  (Z9 "bindata"),
  (Z9 "type"),
  (Z9 "value"),
  (Z9 "str"),
  (Z9 "regex"),
  (Z9 "name"),
  (Z9 "_name_disallowed_re"),
  (Z9 "_value_disallowed_re"),
  (Z9 "search"),
  (Z9 "AssertionError"),
  (Z9 "format"),
  (Z9 "repr"),
  (Z9 "self"),
  (Z9 "_convert_string_type"),
  (Z9 "lower"),
  (Z9 "kv"),
  (Z9 "_headers"),
  (Z9 ".0"),
  (Z9 "k"),
  (Z9 "parts"),
  (Z9 "_value"),
  (Z9 "_params"),
  (Z9 "items"),
  (Z9 "replace"),
  (Z9 "_formatparam"),
  (Z9 "_name"),
  (Z9 "sums"),
  (Z9 "range"),
  (Z9 "ring"),
  (Z9 "count"),
  (Z9 "index"),
  (Z9 "min"),
  (Z9 "high"),
  (Z9 "taken"),
  (Z9 "size"),
  (Z9 "held"),
  (Z9 "table"),
  (Z9 "spot"),
  (Z9 "Headers"),
  (Z9 "foot"),
  (Z9 "bead"),
  (Z9 "add_header"),
  (Z9 "line"),
  (Z9 "names"),
  (Z9 "insort_right"),
  (Z9 "one"),
  (Z9 "insort_left"),
  (Z9 "text"),
  (Z9 "max"),
  (Z9 "beads"),
  (Z9 "ends"),
  (Z9 "total"),
  (Z9 "quotedata"),
  (Z9 "_quote_periods"),
  (Z9 "_fix_eols"),
  (Z9 "encode"),
  (Z9 "decode"),
  (Z9 "turn"),
  (Z9 "falls"),
  (Z9 "own"),
  (Z9 "script"),
  (Z9 "base"),
  (Z9 "nums"),
  (Z9 "sum"),
  (Z9 "hidden"),
  (Z9 "small"),
  (Z9 "great"),
  (Z9 "ups"),
   (Z9 "back"),
   (Z9 "_law_start"),
   (Z9 "turns"),
   (Z9 "good"),
   (Z9 "_pre_parse_validation"),
   (Z9 "turned"),
   (Z9 "_law_heights"),
   (Z9 "other"),
   (Z9 "others"),
   (Z9 "_law_hung"),
   (Z9 "given"),
   (Z9 "_law_laid"),
   (Z9 "keys"),
   (Z9 "get_all"),
   (Z9 "up"),
   (Z9 "down"),
   (Z9 "way"),
   (Z9 "due"),
   (Z9 "sorted"),
   (Z9 "when"),
   (Z9 "error"),
   (Z9 "mail"),
   (Z9 "rows"),
   (Z9 "_law_mail"),
   (Z9 "split"),
   (Z9 "row"),
   (Z9 "low"),
   (Z9 "zip"),
   (Z9 "_law_walked"),
   (Z9 "enumerate"),
   (Z9 "shelf"),
   (Z9 "span"),
   (Z9 "wide"),
   (Z9 "c"),
   (Z9 "lens"),
   (Z9 "cols"),
   (Z9 "hooks"),
   (Z9 "i")]
noncomputable def eH:List S:=[(.ifs (.cmp (.nm 0 (ps 7 7 7 10)) .is (.kN (ps 7 14 7 18)) (ps 7 7 7 18)) [(.asg 1 (ps 8 8 8 10) (.call (.gl 2 (ps 8 13 8 25)) [(.nm 3 (ps 8 26 8 27)),(.nm 4 (ps 8 29 8 30)),(.nm 1 (ps 8 32 8 34)),(.nm 5 (ps 8 36 8 38))] [] (ps 8 13 8 39)) (ps 8 8 8 39))] [(.asg 1 (ps 10 8 10 10) (.call (.gl 2 (ps 10 13 10 25)) [(.nm 3 (ps 10 26 10 27)),(.call (.nm 0 (ps 10 29 10 32)) [(.nm 4 (ps 10 33 10 34))] [] (ps 10 29 10 35)),(.nm 1 (ps 10 37 10 39)),(.nm 5 (ps 10 41 10 43))] [(.mk 0 (.nm 0 (ps 10 49 10 52)) (ps 10 45 10 52))] (ps 10 13 10 53)) (ps 10 8 10 53))] (ps 7 4 10 53)),
 (.expr (.bA (.nm 3 (ps 11 4 11 5)) 6 (ps 11 4 11 12) [(.nm 1 (ps 11 13 11 15)),(.nm 4 (ps 11 17 11 18))] [] (ps 11 4 11 19)) (ps 11 4 11 19))]
noncomputable def eN:List S:=[(.ifs (.cmp (.nm 1 (ps 13 7 13 9)) .lt (.kI (0) (ps 13 12 13 13)) (ps 13 7 13 13)) [(.Cw (.call (.gl 7 (ps 14 14 14 24)) [(.kS [108,111,32,109,117,115,116,32,98,101,32,110,111,110,45,110,101,103,97,116,105,118,101] (ps 14 25 14 50))] [] (ps 14 14 14 51)) (ps 14 8 14 51))] [] (ps 13 4 14 51)),
 (.ifs (.cmp (.nm 5 (ps 15 7 15 9)) .is (.kN (ps 15 13 15 17)) (ps 15 7 15 17)) [(.asg 5 (ps 16 8 16 10) (.call (.gl 8 (ps 16 13 16 16)) [(.nm 3 (ps 16 17 16 18))] [] (ps 16 13 16 19)) (ps 16 8 16 19))] [] (ps 15 4 16 19)),
 (.ifs (.cmp (.nm 0 (ps 17 7 17 10)) .is (.kN (ps 17 14 17 18)) (ps 17 7 17 18)) [(.Cv (.cmp (.nm 1 (ps 18 14 18 16)) .lt (.nm 5 (ps 18 19 18 21)) (ps 18 14 18 21)) [(.asg 9 (ps 19 12 19 15) (.bin (.bin (.nm 1 (ps 19 19 19 21)) .add (.nm 5 (ps 19 24 19 26)) (ps 19 19 19 26)) .fdiv (.kI (2) (ps 19 31 19 32)) (ps 19 18 19 32)) (ps 19 12 19 32)),
 (.ifs (.cmp (.nm 4 (ps 20 15 20 16)) .lt (.sub (.nm 3 (ps 20 19 20 20)) (.nm 9 (ps 20 21 20 24)) (ps 20 19 20 25)) (ps 20 15 20 25)) [(.asg 5 (ps 21 16 21 18) (.nm 9 (ps 21 21 21 24)) (ps 21 16 21 24))] [(.asg 1 (ps 23 16 23 18) (.bin (.nm 9 (ps 23 21 23 24)) .add (.kI (1) (ps 23 27 23 28)) (ps 23 21 23 28)) (ps 23 16 23 28))] (ps 20 12 23 28))] (ps 18 8 23 28))] [(.Cv (.cmp (.nm 1 (ps 25 14 25 16)) .lt (.nm 5 (ps 25 19 25 21)) (ps 25 14 25 21)) [(.asg 9 (ps 26 12 26 15) (.bin (.bin (.nm 1 (ps 26 19 26 21)) .add (.nm 5 (ps 26 24 26 26)) (ps 26 19 26 26)) .fdiv (.kI (2) (ps 26 31 26 32)) (ps 26 18 26 32)) (ps 26 12 26 32)),
 (.ifs (.cmp (.nm 4 (ps 27 15 27 16)) .lt (.call (.nm 0 (ps 27 19 27 22)) [(.sub (.nm 3 (ps 27 23 27 24)) (.nm 9 (ps 27 25 27 28)) (ps 27 23 27 29))] [] (ps 27 19 27 30)) (ps 27 15 27 30)) [(.asg 5 (ps 28 16 28 18) (.nm 9 (ps 28 21 28 24)) (ps 28 16 28 24))] [(.asg 1 (ps 30 16 30 18) (.bin (.nm 9 (ps 30 21 30 24)) .add (.kI (1) (ps 30 27 30 28)) (ps 30 21 30 28)) (ps 30 16 30 28))] (ps 27 12 30 28))] (ps 25 8 30 28))] (ps 17 4 30 28)),
 (.ret (.nm 1 (ps 31 11 31 13)) (ps 31 4 31 13))]
noncomputable def fB:List S:=[(.ifs (.cmp (.nm 0 (ps 33 7 33 10)) .is (.kN (ps 33 14 33 18)) (ps 33 7 33 18)) [(.asg 1 (ps 34 8 34 10) (.call (.gl 10 (ps 34 13 34 24)) [(.nm 3 (ps 34 25 34 26)),(.nm 4 (ps 34 28 34 29)),(.nm 1 (ps 34 31 34 33)),(.nm 5 (ps 34 35 34 37))] [] (ps 34 13 34 38)) (ps 34 8 34 38))] [(.asg 1 (ps 36 8 36 10) (.call (.gl 10 (ps 36 13 36 24)) [(.nm 3 (ps 36 25 36 26)),(.call (.nm 0 (ps 36 28 36 31)) [(.nm 4 (ps 36 32 36 33))] [] (ps 36 28 36 34)),(.nm 1 (ps 36 36 36 38)),(.nm 5 (ps 36 40 36 42))] [(.mk 0 (.nm 0 (ps 36 48 36 51)) (ps 36 44 36 51))] (ps 36 13 36 52)) (ps 36 8 36 52))] (ps 33 4 36 52)),
 (.expr (.bA (.nm 3 (ps 37 4 37 5)) 6 (ps 37 4 37 12) [(.nm 1 (ps 37 13 37 15)),(.nm 4 (ps 37 17 37 18))] [] (ps 37 4 37 19)) (ps 37 4 37 19))]
noncomputable def fC:List S:=[(.ifs (.cmp (.nm 1 (ps 39 7 39 9)) .lt (.kI (0) (ps 39 12 39 13)) (ps 39 7 39 13)) [(.Cw (.call (.gl 7 (ps 40 14 40 24)) [(.kS [108,111,32,109,117,115,116,32,98,101,32,110,111,110,45,110,101,103,97,116,105,118,101] (ps 40 25 40 50))] [] (ps 40 14 40 51)) (ps 40 8 40 51))] [] (ps 39 4 40 51)),
 (.ifs (.cmp (.nm 5 (ps 41 7 41 9)) .is (.kN (ps 41 13 41 17)) (ps 41 7 41 17)) [(.asg 5 (ps 42 8 42 10) (.call (.gl 8 (ps 42 13 42 16)) [(.nm 3 (ps 42 17 42 18))] [] (ps 42 13 42 19)) (ps 42 8 42 19))] [] (ps 41 4 42 19)),
 (.ifs (.cmp (.nm 0 (ps 43 7 43 10)) .is (.kN (ps 43 14 43 18)) (ps 43 7 43 18)) [(.Cv (.cmp (.nm 1 (ps 44 14 44 16)) .lt (.nm 5 (ps 44 19 44 21)) (ps 44 14 44 21)) [(.asg 9 (ps 45 12 45 15) (.bin (.bin (.nm 1 (ps 45 19 45 21)) .add (.nm 5 (ps 45 24 45 26)) (ps 45 19 45 26)) .fdiv (.kI (2) (ps 45 31 45 32)) (ps 45 18 45 32)) (ps 45 12 45 32)),
 (.ifs (.cmp (.sub (.nm 3 (ps 46 15 46 16)) (.nm 9 (ps 46 17 46 20)) (ps 46 15 46 21)) .lt (.nm 4 (ps 46 24 46 25)) (ps 46 15 46 25)) [(.asg 1 (ps 47 16 47 18) (.bin (.nm 9 (ps 47 21 47 24)) .add (.kI (1) (ps 47 27 47 28)) (ps 47 21 47 28)) (ps 47 16 47 28))] [(.asg 5 (ps 49 16 49 18) (.nm 9 (ps 49 21 49 24)) (ps 49 16 49 24))] (ps 46 12 49 24))] (ps 44 8 49 24))] [(.Cv (.cmp (.nm 1 (ps 51 14 51 16)) .lt (.nm 5 (ps 51 19 51 21)) (ps 51 14 51 21)) [(.asg 9 (ps 52 12 52 15) (.bin (.bin (.nm 1 (ps 52 19 52 21)) .add (.nm 5 (ps 52 24 52 26)) (ps 52 19 52 26)) .fdiv (.kI (2) (ps 52 31 52 32)) (ps 52 18 52 32)) (ps 52 12 52 32)),
 (.ifs (.cmp (.call (.nm 0 (ps 53 15 53 18)) [(.sub (.nm 3 (ps 53 19 53 20)) (.nm 9 (ps 53 21 53 24)) (ps 53 19 53 25))] [] (ps 53 15 53 26)) .lt (.nm 4 (ps 53 29 53 30)) (ps 53 15 53 30)) [(.asg 1 (ps 54 16 54 18) (.bin (.nm 9 (ps 54 21 54 24)) .add (.kI (1) (ps 54 27 54 28)) (ps 54 21 54 28)) (ps 54 16 54 28))] [(.asg 5 (ps 56 16 56 18) (.nm 9 (ps 56 21 56 24)) (ps 56 16 56 24))] (ps 53 12 56 24))] (ps 51 8 56 24))] (ps 43 4 56 24)),
 (.ret (.nm 1 (ps 57 11 57 13)) (ps 57 4 57 13))]
noncomputable def bF:List S:=[(.ifs (.cmp (.kS [34] (ps 73 7 73 10)) .Fp (.nm 11 (ps 73 18 73 22)) (ps 73 7 73 22)) [(.ret (.nm 11 (ps 74 15 74 19)) (ps 74 8 74 19))] [] (ps 73 4 74 19)),
 (.asg 12 (ps 75 4 75 9) (.kI (0) (ps 75 12 75 13)) (ps 75 4 75 13)),
 (.asg 13 (ps 76 4 76 12) (.kN (ps 76 15 76 19)) (ps 76 4 76 19)),
 (.asg 14 (ps 77 4 77 10) (.lst [] (ps 77 13 77 15)) (ps 77 4 77 15)),
 (.lO (.two 15 (ps 78 8 78 11) 16 (ps 78 13 78 15) (ps 78 8 78 15)) (.call (.gl 17 (ps 78 19 78 38)) [(.nm 11 (ps 78 39 78 43))] [] (ps 78 19 78 44)) [(.ifs (.cmp (.nm 16 (ps 79 11 79 13)) .eq (.kS [34] (ps 79 17 79 20)) (ps 79 11 79 20)) [(.ifs (.cmp (.nm 13 (ps 80 15 80 23)) .is (.kN (ps 80 27 80 31)) (ps 80 15 80 31)) [(.asg 13 (ps 81 16 81 24) (.nm 15 (ps 81 27 81 30)) (ps 81 16 81 30))] [(.ifs (.cmp (.nm 12 (ps 83 19 83 24)) .ne (.nm 13 (ps 83 28 83 36)) (ps 83 19 83 36)) [(.expr (.bA (.nm 14 (ps 84 20 84 26)) 18 (ps 84 20 84 33) [(.slc (.nm 11 (ps 84 34 84 38)) (some (.nm 12 (ps 84 39 84 44))) (some (.nm 13 (ps 84 45 84 53))) none (ps 84 39 84 53) (ps 84 34 84 54))] [] (ps 84 20 84 55)) (ps 84 20 84 55))] [] (ps 83 16 84 55)),
 (.asg 12 (ps 85 16 85 21) (.bin (.nm 15 (ps 85 24 85 27)) .add (.kI (1) (ps 85 30 85 31)) (ps 85 24 85 31)) (ps 85 16 85 31)),
 (.asg 13 (ps 86 16 86 24) (.kN (ps 86 27 86 31)) (ps 86 16 86 31))] (ps 80 12 86 31))] [] (ps 79 8 86 31))] (ps 78 4 86 31)),
 (.ifs (.cmp (.nm 12 (ps 87 7 87 12)) .lt (.call (.gl 8 (ps 87 15 87 18)) [(.nm 11 (ps 87 19 87 23))] [] (ps 87 15 87 24)) (ps 87 7 87 24)) [(.expr (.bA (.nm 14 (ps 88 8 88 14)) 18 (ps 88 8 88 21) [(.slc (.nm 11 (ps 88 22 88 26)) (some (.nm 12 (ps 88 27 88 32))) none none (ps 88 27 88 33) (ps 88 22 88 34))] [] (ps 88 8 88 35)) (ps 88 8 88 35))] [] (ps 87 4 88 35)),
 (.ret (.bA (.kS [] (ps 89 11 89 13)) 19 (ps 89 11 89 18) [(.nm 14 (ps 89 19 89 25))] [] (ps 89 11 89 26)) (ps 89 4 89 26))]
noncomputable def cA:List S:=[(.asg 11 (ps 91 4 91 8) (.call (.gl 20 (ps 91 11 91 34)) [(.nm 11 (ps 91 35 91 39))] [] (ps 91 11 91 40)) (ps 91 4 91 40)),
 (.asg 21 (ps 92 4 92 9) (.kI (0) (ps 92 12 92 13)) (ps 92 4 92 13)),
 (.lO (.two 15 (ps 93 8 93 11) 16 (ps 93 13 93 15) (ps 93 8 93 15)) (.call (.gl 17 (ps 93 19 93 38)) [(.nm 11 (ps 93 39 93 43))] [] (ps 93 19 93 44)) [(.ifs (.cmp (.nm 16 (ps 94 11 94 13)) .eq (.kS [40] (ps 94 17 94 20)) (ps 94 11 94 20)) [(.aug 21 (ps 95 12 95 17) .add (.kI (1) (ps 95 21 95 22)) (ps 95 12 95 22))] [(.ifs (.cmp (.nm 16 (ps 96 13 96 15)) .eq (.kS [41] (ps 96 19 96 22)) (ps 96 13 96 22)) [(.aug 21 (ps 97 12 97 17) .sub (.kI (1) (ps 97 21 97 22)) (ps 97 12 97 22)),
 (.ifs (.cmp (.nm 21 (ps 98 15 98 20)) .lt (.kI (0) (ps 98 23 98 24)) (ps 98 15 98 24)) [(.ret (.kB false (ps 99 23 99 28)) (ps 99 16 99 28))] [] (ps 98 12 99 28))] [] (ps 96 8 99 28))] (ps 94 8 99 28))] (ps 93 4 99 28)),
 (.ret (.cmp (.nm 21 (ps 100 11 100 16)) .eq (.kI (0) (ps 100 20 100 21)) (ps 100 11 100 21)) (ps 100 4 100 21))]
noncomputable def bQ:List S:=[(.asg 22 (ps 102 4 102 19) (.lst [] (ps 102 22 102 24)) (ps 102 4 102 24)),
 (.lO (.one 23 (ps 103 8 103 9)) (.nm 24 (ps 103 13 103 32)) [(.ifs (.nt (.call (.gl 25 (ps 104 15 104 33)) [(.nm 23 (ps 104 34 104 35))] [] (ps 104 15 104 36)) (ps 104 11 104 36)) [(.asg 23 (ps 105 12 105 13) (.kS [40,39,39,44,32,39,39,41] (ps 105 16 105 26)) (ps 105 12 105 26))] [] (ps 104 8 105 26)),
 (.expr (.bA (.nm 22 (ps 106 8 106 23)) 18 (ps 106 8 106 30) [(.nm 23 (ps 106 31 106 32))] [] (ps 106 8 106 33)) (ps 106 8 106 33))] (ps 103 4 106 33)),
 (.ret (.nm 22 (ps 107 11 107 26)) (ps 107 4 107 26))]
noncomputable def ie:List S:=[(.ret (.bA (.gl 26 (ps 114 11 114 21)) 27 (ps 114 11 114 25) [(.kS [46,46] (ps 114 26 114 30)),(.bA (.gl 28 (ps 114 32 114 42)) 27 (ps 114 32 114 46) [(.gl 29 (ps 114 47 114 51)),(.nm 30 (ps 114 53 114 57))] [] (ps 114 32 114 58))] [] (ps 114 11 114 59)) (ps 114 4 114 59))]
noncomputable def dJ:List S:=[(.ret (.bA (.gl 31 (ps 116 11 116 21)) 27 (ps 116 11 116 25) [(.kY [46,46] (ps 116 26 116 31)),(.nm 32 (ps 116 33 116 40))] [] (ps 116 11 116 41)) (ps 116 4 116 41))]
noncomputable def ig:List S:=[(.ret (.bA (.gl 28 (ps 118 11 118 21)) 27 (ps 118 11 118 25) [(.gl 29 (ps 118 26 118 30)),(.nm 30 (ps 118 32 118 36))] [] (ps 118 11 118 37)) (ps 118 4 118 37))]
noncomputable def bK:List S:=[(.ifs (.cmp (.call (.gl 33 (ps 145 11 145 15)) [(.nm 34 (ps 145 16 145 21))] [] (ps 145 11 145 22)) .is (.gl 35 (ps 145 26 145 29)) (ps 145 11 145 29)) [(.asg 36 (ps 146 12 146 17) (.ite (.nm 37 (ps 146 43 146 47)) (.gl 38 (ps 146 20 146 39)) (.gl 39 (ps 146 53 146 73)) (ps 146 20 146 73)) (ps 146 12 146 73)),
 (.ifs (.bA (.nm 36 (ps 147 15 147 20)) 40 (ps 147 15 147 27) [(.nm 34 (ps 147 28 147 33))] [] (ps 147 15 147 34)) [(.Cw (.call (.gl 7 (ps 148 22 148 32)) [(.kS [67,111,110,116,114,111,108,32,99,104,97,114,97,99,116,101,114,115,32,110,111,116,32,97,108,108,111,119,101,100,32,105,110,32,104,101,97,100,101,114,115] (ps 148 33 148 76))] [] (ps 148 22 148 77)) (ps 148 16 148 77))] [] (ps 147 12 148 77)),
 (.ret (.nm 34 (ps 149 19 149 24)) (ps 149 12 149 24))] [] (ps 145 8 149 24)),
 (.Cw (.call (.gl 41 (ps 150 14 150 28)) [(.bA (.kS [72,101,97,100,101,114,32,110,97,109,101,115,47,118,97,108,117,101,115,32,109,117,115,116,32,98,101,32,111,102,32,116,121,112,101,32,115,116,114,32,40,103,111,116,32,123,48,125,41] (ps 150 29 150 80)) 42 (ps 150 29 150 87) [(.call (.gl 43 (ps 150 88 150 92)) [(.nm 34 (ps 150 93 150 98))] [] (ps 150 88 150 99))] [] (ps 150 29 150 100))] [] (ps 150 14 150 101)) (ps 150 8 150 101))]
noncomputable def ir:List S:=[(.asg 37 (ps 170 8 170 12) (.bA (.nm 44 (ps 170 15 170 19)) 45 (ps 170 15 170 40) [(.bA (.nm 37 (ps 170 41 170 45)) 46 (ps 170 41 170 51) [] [] (ps 170 41 170 53))] [(.mk 37 (.kB true (ps 170 60 170 64)) (ps 170 55 170 64))] (ps 170 15 170 65)) (ps 170 8 170 65)),
 (.ret (.comp (.sub (.nm 47 (ps 171 16 171 18)) (.kI (1) (ps 171 19 171 20)) (ps 171 16 171 21)) [(.mk (.one 47 (ps 171 26 171 28)) (.attr (.nm 44 (ps 171 32 171 36)) 48 (ps 171 32 171 45)) [(.cmp (.bA (.sub (.nm 47 (ps 171 49 171 51)) (.kI (0) (ps 171 52 171 53)) (ps 171 49 171 54)) 46 (ps 171 49 171 60) [] [] (ps 171 49 171 62)) .eq (.nm 37 (ps 171 66 171 70)) (ps 171 49 171 70))])] [(49,.local),(47,.local),(37,.free)] (ps 171 15 171 71)) (ps 171 8 171 71))]
noncomputable def lT:List S:=[(.ret (.comp (.nm 50 (ps 181 16 181 17)) [(.mk (.two 50 (ps 181 22 181 23) 23 (ps 181 25 181 26) (ps 181 22 181 26)) (.attr (.nm 44 (ps 181 30 181 34)) 48 (ps 181 30 181 43)) [])] [(49,.local),(50,.local),(23,.local)] (ps 181 15 181 44)) (ps 181 8 181 44))]
noncomputable def jW:List S:=[(.ret (.slc (.attr (.nm 44 (ps 187 15 187 19)) 48 (ps 187 15 187 28)) none none none (ps 187 29 187 30) (ps 187 15 187 31)) (ps 187 8 187 31))]
noncomputable def eO:List S:=[(.asg 51 (ps 202 8 202 13) (.lst [] (ps 202 16 202 18)) (ps 202 8 202 18)),
 (.ifs (.cmp (.nm 52 (ps 203 11 203 17)) .Fj (.kN (ps 203 25 203 29)) (ps 203 11 203 29)) [(.asg 52 (ps 204 12 204 18) (.bA (.nm 44 (ps 204 21 204 25)) 45 (ps 204 21 204 46) [(.nm 52 (ps 204 47 204 53))] [(.mk 37 (.kB false (ps 204 60 204 65)) (ps 204 55 204 65))] (ps 204 21 204 66)) (ps 204 12 204 66)),
 (.expr (.bA (.nm 51 (ps 205 12 205 17)) 18 (ps 205 12 205 24) [(.nm 52 (ps 205 25 205 31))] [] (ps 205 12 205 32)) (ps 205 12 205 32))] [] (ps 203 8 205 32)),
 (.lO (.two 50 (ps 206 12 206 13) 23 (ps 206 15 206 16) (ps 206 12 206 16)) (.bA (.nm 53 (ps 206 20 206 27)) 54 (ps 206 20 206 33) [] [] (ps 206 20 206 35)) [(.asg 50 (ps 207 12 207 13) (.bA (.nm 44 (ps 207 16 207 20)) 45 (ps 207 16 207 41) [(.nm 50 (ps 207 42 207 43))] [(.mk 37 (.kB true (ps 207 50 207 54)) (ps 207 45 207 54))] (ps 207 16 207 55)) (ps 207 12 207 55)),
 (.ifs (.cmp (.nm 23 (ps 208 15 208 16)) .is (.kN (ps 208 20 208 24)) (ps 208 15 208 24)) [(.expr (.bA (.nm 51 (ps 209 16 209 21)) 18 (ps 209 16 209 28) [(.bA (.nm 50 (ps 209 29 209 30)) 55 (ps 209 29 209 38) [(.kS [95] (ps 209 39 209 42)),(.kS [45] (ps 209 44 209 47))] [] (ps 209 29 209 48))] [] (ps 209 16 209 49)) (ps 209 16 209 49))] [(.asg 23 (ps 211 16 211 17) (.bA (.nm 44 (ps 211 20 211 24)) 45 (ps 211 20 211 45) [(.nm 23 (ps 211 46 211 47))] [(.mk 37 (.kB false (ps 211 54 211 59)) (ps 211 49 211 59))] (ps 211 20 211 60)) (ps 211 16 211 60)),
 (.expr (.bA (.nm 51 (ps 212 16 212 21)) 18 (ps 212 16 212 28) [(.call (.gl 56 (ps 212 29 212 41)) [(.bA (.nm 50 (ps 212 42 212 43)) 55 (ps 212 42 212 51) [(.kS [95] (ps 212 52 212 55)),(.kS [45] (ps 212 57 212 60))] [] (ps 212 42 212 61)),(.nm 23 (ps 212 63 212 64))] [] (ps 212 29 212 65))] [] (ps 212 16 212 66)) (ps 212 16 212 66))] (ps 208 12 212 66))] (ps 206 8 212 66)),
 (.expr (.bA (.attr (.nm 44 (ps 213 8 213 12)) 48 (ps 213 8 213 21)) 18 (ps 213 8 213 28) [(.tup [(.bA (.nm 44 (ps 213 30 213 34)) 45 (ps 213 30 213 55) [(.nm 57 (ps 213 56 213 61))] [(.mk 37 (.kB true (ps 213 68 213 72)) (ps 213 63 213 72))] (ps 213 30 213 73)),(.bA (.kS [59,32] (ps 213 75 213 79)) 19 (ps 213 75 213 84) [(.nm 51 (ps 213 85 213 90))] [] (ps 213 75 213 91))] (ps 213 29 213 92))] [] (ps 213 8 213 93)) (ps 213 8 213 93))]
noncomputable def gj:List S:=[(.asg 58 (ps 216 4 216 8) (.comp (.bin (.bA (.slc (.nm 60 (ps 216 12 216 16)) none (some (.bin (.nm 50 (ps 216 18 216 19)) .add (.kI (1) (ps 216 22 216 23)) (ps 216 18 216 23))) none (ps 216 17 216 23) (ps 216 12 216 24)) 61 (ps 216 12 216 30) [(.kS [40] (ps 216 31 216 34))] [] (ps 216 12 216 35)) .sub (.bA (.slc (.nm 60 (ps 216 38 216 42)) none (some (.bin (.nm 50 (ps 216 44 216 45)) .add (.kI (1) (ps 216 48 216 49)) (ps 216 44 216 49))) none (ps 216 43 216 49) (ps 216 38 216 50)) 61 (ps 216 38 216 56) [(.kS [41] (ps 216 57 216 60))] [] (ps 216 38 216 61)) (ps 216 12 216 61)) [(.mk (.one 50 (ps 216 66 216 67)) (.call (.gl 59 (ps 216 71 216 76)) [(.call (.gl 8 (ps 216 77 216 80)) [(.nm 60 (ps 216 81 216 85))] [] (ps 216 77 216 86))] [] (ps 216 71 216 87)) [])] [(49,.local),(50,.local),(60,.free)] (ps 216 11 216 88)) (ps 216 4 216 88)),
 (.ret (.bin (.bA (.nm 58 (ps 217 11 217 15)) 62 (ps 217 11 217 21) [(.call (.gl 63 (ps 217 22 217 25)) [(.nm 58 (ps 217 26 217 30))] [] (ps 217 22 217 31))] [] (ps 217 11 217 32)) .add (.kI (1) (ps 217 35 217 36)) (ps 217 11 217 36)) (ps 217 4 217 36))]
noncomputable def eT:List S:=[(.asg 64 (ps 219 4 219 8) (.comp (.bin (.bin (.bin (.nm 66 (ps 219 13 219 17)) .add (.kI (1) (ps 219 20 219 21)) (ps 219 13 219 21)) .mul (.bA (.slc (.nm 65 (ps 219 25 219 30)) none (some (.nm 50 (ps 219 32 219 33))) none (ps 219 31 219 33) (ps 219 25 219 34)) 61 (ps 219 25 219 40) [(.kS [40] (ps 219 41 219 44))] [] (ps 219 25 219 45)) (ps 219 12 219 45)) .sub (.bin (.nm 66 (ps 219 48 219 52)) .mul (.bA (.slc (.nm 65 (ps 219 55 219 60)) none (some (.nm 50 (ps 219 62 219 63))) none (ps 219 61 219 63) (ps 219 55 219 64)) 61 (ps 219 55 219 70) [(.kS [41] (ps 219 71 219 74))] [] (ps 219 55 219 75)) (ps 219 48 219 75)) (ps 219 12 219 75)) [(.mk (.one 50 (ps 219 80 219 81)) (.call (.gl 59 (ps 219 85 219 90)) [(.call (.gl 8 (ps 219 91 219 94)) [(.nm 65 (ps 219 95 219 100))] [] (ps 219 91 219 101))] [] (ps 219 85 219 102)) [])] [(49,.local),(50,.local),(66,.free),(65,.free)] (ps 219 11 219 103)) (ps 219 4 219 103)),
 (.asg 67 (ps 220 4 220 8) (.lst [] (ps 220 11 220 13)) (ps 220 4 220 13)),
 (.lO (.one 50 (ps 221 8 221 9)) (.call (.gl 59 (ps 221 13 221 18)) [(.bin (.bin (.nm 66 (ps 221 19 221 23)) .mul (.nm 66 (ps 221 26 221 30)) (ps 221 19 221 30)) .add (.nm 66 (ps 221 33 221 37)) (ps 221 19 221 37))] [] (ps 221 13 221 38)) [(.ifs (.As false [(.cmp (.nm 50 (ps 222 11 222 12)) .Fo (.nm 64 (ps 222 16 222 20)) (ps 222 11 222 20)),(.cmp (.bin (.nm 50 (ps 222 24 222 25)) .sub (.nm 66 (ps 222 28 222 32)) (ps 222 24 222 32)) .Fo (.nm 67 (ps 222 36 222 40)) (ps 222 24 222 40)),(.cmp (.bin (.bin (.nm 50 (ps 222 44 222 45)) .sub (.nm 66 (ps 222 48 222 52)) (ps 222 44 222 52)) .sub (.kI (1) (ps 222 55 222 56)) (ps 222 44 222 56)) .Fo (.nm 67 (ps 222 60 222 64)) (ps 222 44 222 64))] (ps 222 11 222 64)) [(.expr (.bA (.nm 67 (ps 223 12 223 16)) 18 (ps 223 12 223 23) [(.nm 50 (ps 223 24 223 25))] [] (ps 223 12 223 26)) (ps 223 12 223 26))] [] (ps 222 8 223 26))] (ps 221 4 223 26)),
 (.ret (.tup [(.nm 64 (ps 224 12 224 16)),(.nm 67 (ps 224 18 224 22))] (ps 224 11 224 23)) (ps 224 4 224 23))]
noncomputable def iu:List S:=[(.kj [(68,(ps 226 4 226 9)),(69,(ps 226 11 226 15))] (ps 226 4 226 15) (.tup [(.call (.gl 70 (ps 226 19 226 26)) [] [] (ps 226 19 226 28)),(.kI (0) (ps 226 30 226 31))] (ps 226 18 226 32)) (ps 226 4 226 32)),
 (.lO (.one 71 (ps 227 8 227 12)) (.nm 65 (ps 227 16 227 21)) [(.ifs (.cmp (.nm 71 (ps 228 11 228 15)) .eq (.kS [40] (ps 228 19 228 22)) (ps 228 11 228 22)) [(.lO (.one 72 (ps 229 16 229 20)) (.call (.gl 59 (ps 229 24 229 29)) [(.bin (.nm 69 (ps 229 30 229 34)) .sub (.nm 66 (ps 229 37 229 41)) (ps 229 30 229 41)),(.neg (.kI (1) (ps 229 44 229 45)) (ps 229 43 229 45)),(.neg (.nm 66 (ps 229 48 229 52)) (ps 229 47 229 52))] [] (ps 229 24 229 53)) [(.expr (.bA (.nm 68 (ps 230 16 230 21)) 73 (ps 230 16 230 32) [(.sub (.kS [97,98,99,100,101,102,103,104,105,106,107,108,109,110,111,112,113,114,115,116] (ps 230 33 230 55)) (.nm 72 (ps 230 56 230 60)) (ps 230 33 230 61)),(.call (.gl 35 (ps 230 63 230 66)) [(.nm 69 (ps 230 67 230 71))] [] (ps 230 63 230 72))] [] (ps 230 16 230 73)) (ps 230 16 230 73))] (ps 229 12 230 73)),
 (.aug 69 (ps 231 12 231 16) .add (.bin (.nm 66 (ps 231 20 231 24)) .add (.kI (1) (ps 231 27 231 28)) (ps 231 20 231 28)) (ps 231 12 231 28))] [(.aug 69 (ps 233 12 233 16) .sub (.nm 66 (ps 233 20 233 24)) (ps 233 12 233 24)),
 (.lO (.one 72 (ps 234 16 234 20)) (.call (.gl 59 (ps 234 24 234 29)) [(.bin (.bin (.nm 69 (ps 234 30 234 34)) .sub (.nm 66 (ps 234 37 234 41)) (ps 234 30 234 41)) .sub (.kI (1) (ps 234 44 234 45)) (ps 234 30 234 45)),(.neg (.kI (1) (ps 234 48 234 49)) (ps 234 47 234 49)),(.bin (.neg (.nm 66 (ps 234 52 234 56)) (ps 234 51 234 56)) .sub (.kI (1) (ps 234 59 234 60)) (ps 234 51 234 60))] [] (ps 234 24 234 61)) [(.expr (.bA (.nm 68 (ps 235 16 235 21)) 73 (ps 235 16 235 32) [(.sub (.kS [65,66,67,68,69,70,71,72,73,74,75,76,77,78,79,80,81,82,83,84] (ps 235 33 235 55)) (.nm 72 (ps 235 56 235 60)) (ps 235 33 235 61)),(.call (.gl 35 (ps 235 63 235 66)) [(.nm 69 (ps 235 67 235 71))] [] (ps 235 63 235 72))] [] (ps 235 16 235 73)) (ps 235 16 235 73))] (ps 234 12 235 73))] (ps 228 8 235 73))] (ps 227 4 235 73)),
 (.ret (.nm 68 (ps 236 11 236 16)) (ps 236 4 236 16))]
noncomputable def iw:List S:=[(.asg 74 (ps 238 4 238 8) (.lst [] (ps 238 11 238 13)) (ps 238 4 238 13)),
 (.lO (.one 37 (ps 239 8 239 12)) (.nm 75 (ps 239 16 239 21)) [(.ifs (.cmp (.nm 37 (ps 240 11 240 15)) .Fo (.kS [97,98,99,100,101,102,103,104,105,106,107,108,109,110,111,112,113,114,115,116] (ps 240 19 240 41)) (ps 240 11 240 41)) [(.expr (.call (.gl 76 (ps 241 12 241 24)) [(.nm 74 (ps 241 25 241 29)),(.nm 37 (ps 241 31 241 35))] [(.mk 0 (.lam 0 77 (ps 241 48 241 51) (.bA (.nm 77 (ps 241 53 241 56)) 46 (ps 241 53 241 62) [] [] (ps 241 53 241 64)) [(77,.local)] (ps 241 41 241 64)) (ps 241 37 241 64))] (ps 241 12 241 65)) (ps 241 12 241 65))] [(.expr (.call (.gl 78 (ps 243 12 243 23)) [(.nm 74 (ps 243 24 243 28)),(.nm 37 (ps 243 30 243 34))] [(.mk 0 (.lam 1 77 (ps 243 47 243 50) (.bA (.nm 77 (ps 243 52 243 55)) 46 (ps 243 52 243 61) [] [] (ps 243 52 243 63)) [(77,.local)] (ps 243 40 243 63)) (ps 243 36 243 63))] (ps 243 12 243 64)) (ps 243 12 243 64))] (ps 240 8 243 64))] (ps 239 4 243 64)),
 (.ret (.nm 74 (ps 244 11 244 15)) (ps 244 4 244 15))]
noncomputable def iy:List S:=[(.asg 79 (ps 246 4 246 8) (.kS [] (ps 246 11 246 13)) (ps 246 4 246 13)),
 (.lO (.one 72 (ps 247 8 247 12)) (.call (.gl 59 (ps 247 16 247 21)) [(.call (.gl 80 (ps 247 22 247 25)) [(.bin (.lst [(.kI (0) (ps 247 27 247 28))] (ps 247 26 247 29)) .add (.nm 81 (ps 247 32 247 37)) (ps 247 26 247 37))] [] (ps 247 22 247 38)),(.kI (0) (ps 247 40 247 41)),(.neg (.kI (1) (ps 247 44 247 45)) (ps 247 43 247 45))] [] (ps 247 16 247 46)) [(.ifs (.cmp (.nm 72 (ps 248 11 248 15)) .Fo (.nm 81 (ps 248 19 248 24)) (ps 248 11 248 24)) [(.aug 79 (ps 249 12 249 16) .add (.bin (.bin (.kS [46] (ps 249 20 249 23)) .add (.sub (.kS [97,98,99,100,101,102,103,104,105,106,107,108,109,110,111,112,113,114,115,116] (ps 249 26 249 48)) (.nm 72 (ps 249 49 249 53)) (ps 249 26 249 54)) (ps 249 20 249 54)) .add (.sub (.nm 82 (ps 249 57 249 61)) (.bin (.nm 72 (ps 249 62 249 66)) .mod (.call (.gl 8 (ps 249 69 249 72)) [(.nm 82 (ps 249 73 249 77))] [] (ps 249 69 249 78)) (ps 249 62 249 78)) (ps 249 57 249 79)) (ps 249 20 249 79)) (ps 249 12 249 79))] [(.ifs (.bin (.bin (.nm 72 (ps 250 14 250 18)) .add (.nm 83 (ps 250 21 250 26)) (ps 250 14 250 26)) .mod (.kI (2) (ps 250 30 250 31)) (ps 250 13 250 31)) [(.asg 79 (ps 251 12 251 16) (.call (.gl 84 (ps 251 19 251 28)) [(.nm 79 (ps 251 29 251 33))] [] (ps 251 19 251 34)) (ps 251 12 251 34))] [(.asg 79 (ps 253 12 253 16) (.bA (.call (.gl 85 (ps 253 19 253 33)) [(.bA (.call (.gl 86 (ps 253 34 253 43)) [(.nm 79 (ps 253 44 253 48))] [] (ps 253 34 253 49)) 87 (ps 253 34 253 56) [(.kS [117,116,102,45,56] (ps 253 57 253 64))] [] (ps 253 34 253 65))] [] (ps 253 19 253 66)) 88 (ps 253 19 253 73) [(.kS [117,116,102,45,56] (ps 253 74 253 81))] [] (ps 253 19 253 82)) (ps 253 12 253 82))] (ps 250 8 253 82))] (ps 248 8 253 82))] (ps 247 4 253 82)),
 (.ret (.call (.gl 86 (ps 254 11 254 20)) [(.nm 79 (ps 254 21 254 25))] [] (ps 254 11 254 26)) (ps 254 4 254 26))]
noncomputable def fD:List S:=[(.kj [(69,(ps 256 4 256 8)),(60,(ps 256 10 256 14))] (ps 256 4 256 14) (.tup [(.kI (0) (ps 256 18 256 19)),(.lst [] (ps 256 21 256 23))] (ps 256 17 256 24)) (ps 256 4 256 24)),
 (.lO (.one 89 (ps 257 8 257 12)) (.call (.gl 59 (ps 257 16 257 21)) [(.bin (.bin (.kI (2) (ps 257 22 257 23)) .mul (.nm 66 (ps 257 26 257 30)) (ps 257 22 257 30)) .add (.kI (1) (ps 257 33 257 34)) (ps 257 22 257 34))] [] (ps 257 16 257 35)) [(.asg 90 (ps 258 8 258 13) (.As true [(.cmp (.nm 69 (ps 258 16 258 20)) .ge (.nm 66 (ps 258 24 258 28)) (ps 258 16 258 28)),(.cmp (.bin (.nm 69 (ps 258 33 258 37)) .sub (.nm 66 (ps 258 40 258 44)) (ps 258 33 258 44)) .Fp (.nm 81 (ps 258 52 258 57)) (ps 258 33 258 57))] (ps 258 16 258 57)) (ps 258 8 258 57)),
 (.expr (.bA (.nm 60 (ps 259 8 259 12)) 18 (ps 259 8 259 19) [(.ite (.nm 90 (ps 259 27 259 32)) (.kS [41] (ps 259 20 259 23)) (.kS [40] (ps 259 38 259 41)) (ps 259 20 259 41))] [] (ps 259 8 259 42)) (ps 259 8 259 42)),
 (.aug 69 (ps 260 8 260 12) .add (.ite (.nm 90 (ps 260 25 260 30)) (.neg (.nm 66 (ps 260 17 260 21)) (ps 260 16 260 21)) (.bin (.nm 66 (ps 260 36 260 40)) .add (.kI (1) (ps 260 43 260 44)) (ps 260 36 260 44)) (ps 260 16 260 44)) (ps 260 8 260 44))] (ps 257 4 260 44)),
 (.ret (.nm 60 (ps 261 11 261 15)) (ps 261 4 261 15))]
noncomputable def bk:List S:=[(.kj [(91,(ps 263 4 263 7)),(66,(ps 263 9 263 13))] (ps 263 4 263 13) (.tup [(.slc (.nm 92 (ps 263 17 263 23)) none (some (.kI (60) (ps 263 25 263 27))) none (ps 263 24 263 27) (ps 263 17 263 28)),(.bin (.kI (4) (ps 263 30 263 31)) .add (.call (.gl 63 (ps 263 34 263 37)) [(.kI (1) (ps 263 38 263 39)),(.bin (.call (.gl 8 (ps 263 41 263 44)) [(.nm 92 (ps 263 45 263 51))] [] (ps 263 41 263 52)) .fdiv (.kI (3) (ps 263 56 263 57)) (ps 263 41 263 57))] [] (ps 263 34 263 58)) (ps 263 30 263 58))] (ps 263 16 263 59)) (ps 263 4 263 59)),
 (.asg 93 (ps 264 4 264 8) (.lst [(.kI (34) (ps 264 12 264 14)),(.kI (58) (ps 264 16 264 18)),(.kI (17) (ps 264 20 264 22)),(.kI (41) (ps 264 24 264 26)),(.kI (101) (ps 264 28 264 31)),(.kI (31) (ps 264 33 264 35)),(.kI (38) (ps 264 37 264 39)),(.kI (61) (ps 264 41 264 43)),(.kI (160) (ps 264 45 264 48)),(.kI (82) (ps 264 50 264 52)),(.kI (7) (ps 264 54 264 55))] (ps 264 11 264 56)) (ps 264 4 264 56)),
 (.asg 94 (ps 265 4 265 8) (.comp (.bin (.bin (.sub (.nm 93 (ps 265 13 265 17)) (.nm 50 (ps 265 18 265 19)) (ps 265 13 265 20)) .add (.call (.gl 95 (ps 265 23 265 26)) [(.slc (.nm 91 (ps 265 27 265 30)) (some (.nm 50 (ps 265 31 265 32))) none (some (.kI (11) (ps 265 34 265 36))) (ps 265 31 265 36) (ps 265 27 265 37))] [] (ps 265 23 265 38)) (ps 265 13 265 38)) .mod (.bin (.kI (10) (ps 265 42 265 44)) .pow (.kI (6) (ps 265 48 265 49)) (ps 265 42 265 49)) (ps 265 12 265 49)) [(.mk (.one 50 (ps 265 54 265 55)) (.call (.gl 59 (ps 265 59 265 64)) [(.bin (.bin (.kI (2) (ps 265 65 265 66)) .mul (.nm 66 (ps 265 69 265 73)) (ps 265 65 265 73)) .add (.kI (1) (ps 265 76 265 77)) (ps 265 65 265 77))] [] (ps 265 59 265 78)) [])] [(49,.local),(50,.local),(95,.globalImplicit),(93,.free),(91,.free)] (ps 265 11 265 79)) (ps 265 4 265 79)),
 (.kj [(96,(ps 266 4 266 10)),(82,(ps 266 12 266 16))] (ps 266 4 266 16) (.tup [(.lst [(.kS [] (ps 266 21 266 23)),(.kS [] (ps 266 25 266 27)),(.kS [] (ps 266 29 266 31)),(.kS [] (ps 266 33 266 35)),(.kS [34,92,34,41,34] (ps 266 37 266 45)),(.kS [92,40] (ps 266 47 266 52)),(.kS [34,40,41,40,34] (ps 266 54 266 61)),(.kS [92,92] (ps 266 63 266 69))] (ps 266 20 266 70)),(.comp (.sub (.lst [(.kS [10] (ps 266 74 266 78)),(.kS [13,10] (ps 266 80 266 86)),(.kS [13] (ps 266 88 266 92))] (ps 266 73 266 93)) (.bin (.bin (.nm 4 (ps 266 94 266 95)) .fdiv (.kI (16) (ps 266 99 266 101)) (ps 266 94 266 101)) .mod (.kI (3) (ps 266 104 266 105)) (ps 266 94 266 105)) (ps 266 73 266 106)) [(.mk (.one 4 (ps 266 111 266 112)) (.nm 94 (ps 266 116 266 120)) [])] [(49,.local),(4,.local)] (ps 266 72 266 121))] (ps 266 19 266 122)) (ps 266 4 266 122)),
 (.kj [(97,(ps 267 4 267 9)),(98,(ps 267 11 267 16)),(83,(ps 267 18 267 23))] (ps 267 4 267 23) (.tup [(.kS [97,98,99,100,101,102,103,104,105,106,107,108,109,110,111,112,113,114,115,116] (ps 267 27 267 49)),(.kS [65,66,67,68,69,70,71,72,73,74,75,76,77,78,79,80,81,82,83,84] (ps 267 51 267 73)),(.call (.gl 95 (ps 267 75 267 78)) [(.nm 94 (ps 267 79 267 83))] [] (ps 267 75 267 84))] (ps 267 26 267 85)) (ps 267 4 267 85)),
 (.kj [(60,(ps 268 4 268 8)),(79,(ps 268 10 268 14))] (ps 268 4 268 14) (.tup [(.lst [] (ps 268 18 268 20)),(.lst [] (ps 268 22 268 24))] (ps 268 17 268 25)) (ps 268 4 268 25)),
 (.lO (.one 4 (ps 269 8 269 9)) (.nm 94 (ps 269 13 269 17)) [(.asg 99 (ps 270 8 270 11) (.bA (.nm 60 (ps 270 14 270 18)) 61 (ps 270 14 270 24) [(.kS [40] (ps 270 25 270 28))] [] (ps 270 14 270 29)) (ps 270 8 270 29)),
 (.expr (.bA (.nm 60 (ps 271 8 271 12)) 18 (ps 271 8 271 19) [(.ite (.As true [(.cmp (.nm 99 (ps 271 27 271 30)) .lt (.nm 66 (ps 271 33 271 37)) (ps 271 27 271 37)),(.As false [(.cmp (.bin (.nm 4 (ps 271 43 271 44)) .mod (.kI (2) (ps 271 47 271 48)) (ps 271 43 271 48)) .eq (.kI (0) (ps 271 52 271 53)) (ps 271 43 271 53)),(.cmp (.bin (.call (.gl 8 (ps 271 57 271 60)) [(.nm 60 (ps 271 61 271 65))] [] (ps 271 57 271 66)) .sub (.nm 99 (ps 271 69 271 72)) (ps 271 57 271 72)) .gt (.nm 66 (ps 271 75 271 79)) (ps 271 57 271 79))] (ps 271 43 271 79))] (ps 271 27 271 80)) (.kS [40] (ps 271 20 271 23)) (.kS [41] (ps 271 86 271 89)) (ps 271 20 271 89))] [] (ps 271 8 271 90)) (ps 271 8 271 90)),
 (.expr (.bA (.nm 79 (ps 272 8 272 12)) 18 (ps 272 8 272 19) [(.bin (.sub (.nm 60 (ps 272 20 272 24)) (.neg (.kI (1) (ps 272 26 272 27)) (ps 272 25 272 27)) (ps 272 20 272 28)) .add (.sub (.nm 96 (ps 272 31 272 37)) (.bin (.bin (.nm 4 (ps 272 38 272 39)) .fdiv (.kI (2) (ps 272 43 272 44)) (ps 272 38 272 44)) .mod (.kI (8) (ps 272 47 272 48)) (ps 272 38 272 48)) (ps 272 31 272 49)) (ps 272 20 272 49))] [] (ps 272 8 272 50)) (ps 272 8 272 50))] (ps 269 4 272 50)),
 (.kj [(69,(ps 273 4 273 8)),(100,(ps 273 10 273 14))] (ps 273 4 273 14) (.tup [(.call (.gl 101 (ps 273 18 273 28)) [(.nm 60 (ps 273 29 273 33))] [] (ps 273 18 273 34)),(.slc (.nm 60 (ps 273 36 273 40)) none none (some (.neg (.kI (1) (ps 273 44 273 45)) (ps 273 43 273 45))) (ps 273 41 273 45) (ps 273 36 273 46))] (ps 273 17 273 47)) (ps 273 4 273 47)),
 (.asg 102 (ps 274 4 274 9) (.comp (.bA (.kS [] (ps 274 13 274 15)) 19 (ps 274 13 274 20) [(.slc (.bin (.slc (.nm 79 (ps 274 22 274 26)) (some (.nm 50 (ps 274 27 274 28))) none none (ps 274 27 274 29) (ps 274 22 274 30)) .add (.slc (.nm 79 (ps 274 33 274 37)) none (some (.nm 50 (ps 274 39 274 40))) none (ps 274 38 274 40) (ps 274 33 274 41)) (ps 274 22 274 41)) none (some (.neg (.kI (1) (ps 274 45 274 46)) (ps 274 44 274 46))) none (ps 274 43 274 46) (ps 274 21 274 47))] [] (ps 274 13 274 48)) [(.mk (.one 50 (ps 274 53 274 54)) (.call (.gl 59 (ps 274 58 274 63)) [(.call (.gl 8 (ps 274 64 274 67)) [(.nm 60 (ps 274 68 274 72))] [] (ps 274 64 274 73))] [] (ps 274 58 274 74)) [])] [(49,.local),(50,.local),(79,.free)] (ps 274 12 274 75)) (ps 274 4 274 75)),
 (.asg 103 (ps 275 4 275 8) (.sub (.nm 102 (ps 275 11 275 16)) (.bin (.nm 69 (ps 275 17 275 21)) .mod (.call (.gl 8 (ps 275 24 275 27)) [(.nm 60 (ps 275 28 275 32))] [] (ps 275 24 275 33)) (ps 275 17 275 33)) (ps 275 11 275 34)) (ps 275 4 275 34)),
 (.ifs (.cmp (.call (.gl 104 (ps 276 7 276 28)) [(.bin (.nm 102 (ps 276 29 276 34)) .add (.lst [(.bin (.kS [40] (ps 276 38 276 41)) .add (.nm 103 (ps 276 44 276 48)) (ps 276 38 276 48))] (ps 276 37 276 49)) (ps 276 29 276 49))] [] (ps 276 7 276 50)) .ne (.bin (.comp (.ite (.cmp (.nm 50 (ps 276 67 276 68)) .eq (.bin (.nm 69 (ps 276 72 276 76)) .mod (.call (.gl 8 (ps 276 79 276 82)) [(.nm 60 (ps 276 83 276 87))] [] (ps 276 79 276 88)) (ps 276 72 276 88)) (ps 276 67 276 88)) (.sub (.nm 102 (ps 276 55 276 60)) (.nm 50 (ps 276 61 276 62)) (ps 276 55 276 63)) (.kS [40,39,39,44,32,39,39,41] (ps 276 94 276 104)) (ps 276 55 276 104)) [(.mk (.one 50 (ps 276 109 276 110)) (.call (.gl 59 (ps 276 114 276 119)) [(.call (.gl 8 (ps 276 120 276 123)) [(.nm 60 (ps 276 124 276 128))] [] (ps 276 120 276 129))] [] (ps 276 114 276 130)) [])] [(49,.local),(50,.local),(8,.globalImplicit),(60,.free),(69,.free),(102,.free)] (ps 276 54 276 131)) .add (.lst [(.kS [40,39,39,44,32,39,39,41] (ps 276 135 276 145))] (ps 276 134 276 146)) (ps 276 54 276 146)) (ps 276 7 276 146)) [(.ret (.kB false (ps 277 15 277 20)) (ps 277 8 277 20))] [] (ps 276 4 277 20)),
 (.ifs (.As false [(.cmp (.call (.gl 25 (ps 278 7 278 25)) [(.nm 103 (ps 278 26 278 30))] [] (ps 278 7 278 31)) .Fj (.kB true (ps 278 39 278 43)) (ps 278 7 278 43)),(.cmp (.call (.gl 25 (ps 278 47 278 65)) [(.sub (.nm 102 (ps 278 66 278 71)) (.bin (.nm 69 (ps 278 72 278 76)) .sub (.kI (1) (ps 278 79 278 80)) (ps 278 72 278 80)) (ps 278 66 278 81))] [] (ps 278 47 278 82)) .Fj (.kB false (ps 278 90 278 95)) (ps 278 47 278 95)),(.cmp (.call (.gl 25 (ps 278 99 278 117)) [(.bin (.kS [40] (ps 278 118 278 121)) .add (.nm 103 (ps 278 124 278 128)) (ps 278 118 278 128))] [] (ps 278 99 278 129)) .Fj (.kB false (ps 278 137 278 142)) (ps 278 99 278 142))] (ps 278 7 278 142)) [(.ret (.kB false (ps 279 15 279 20)) (ps 279 8 279 20))] [] (ps 278 4 279 20)),
 (.kj [(65,(ps 280 4 280 9)),(105,(ps 280 11 280 17))] (ps 280 4 280 17) (.tup [(.bin (.slc (.nm 60 (ps 280 21 280 25)) (some (.nm 69 (ps 280 26 280 30))) none none (ps 280 26 280 31) (ps 280 21 280 32)) .add (.slc (.nm 60 (ps 280 35 280 39)) none (some (.nm 69 (ps 280 41 280 45))) none (ps 280 40 280 45) (ps 280 35 280 46)) (ps 280 21 280 46)),(.call (.gl 101 (ps 280 48 280 58)) [(.nm 100 (ps 280 59 280 63))] [] (ps 280 48 280 64))] (ps 280 20 280 65)) (ps 280 4 280 65)),
 (.kj [(64,(ps 281 4 281 8)),(67,(ps 281 10 281 14))] (ps 281 4 281 14) (.call (.gl 106 (ps 281 17 281 29)) [(.nm 65 (ps 281 30 281 35)),(.nm 66 (ps 281 37 281 41))] [] (ps 281 17 281 42)) (ps 281 4 281 42)),
 (.asg 107 (ps 282 4 282 9) (.sub (.call (.gl 106 (ps 282 12 282 24)) [(.bin (.slc (.nm 100 (ps 282 25 282 29)) (some (.nm 105 (ps 282 30 282 36))) none none (ps 282 30 282 37) (ps 282 25 282 38)) .add (.slc (.nm 100 (ps 282 41 282 45)) none (some (.nm 105 (ps 282 47 282 53))) none (ps 282 46 282 53) (ps 282 41 282 54)) (ps 282 25 282 54)),(.nm 66 (ps 282 56 282 60))] [] (ps 282 12 282 61)) (.kI (1) (ps 282 62 282 63)) (ps 282 12 282 64)) (ps 282 4 282 64)),
 (.kj [(81,(ps 283 4 283 9)),(108,(ps 283 11 283 17))] (ps 283 4 283 17) (.tup [(.comp (.nm 50 (ps 283 22 283 23)) [(.mk (.one 50 (ps 283 28 283 29)) (.call (.gl 59 (ps 283 33 283 38)) [(.bin (.nm 66 (ps 283 39 283 43)) .mul (.nm 66 (ps 283 46 283 50)) (ps 283 39 283 50))] [] (ps 283 33 283 51)) [(.cmp (.nm 50 (ps 283 55 283 56)) .Fp (.nm 67 (ps 283 64 283 68)) (ps 283 55 283 68))])] [(49,.local),(50,.local),(67,.free)] (ps 283 21 283 69)),(.comp (.nm 50 (ps 283 72 283 73)) [(.mk (.one 50 (ps 283 78 283 79)) (.call (.gl 59 (ps 283 83 283 88)) [(.bin (.nm 66 (ps 283 89 283 93)) .mul (.nm 66 (ps 283 96 283 100)) (ps 283 89 283 100))] [] (ps 283 83 283 101)) [(.cmp (.nm 50 (ps 283 105 283 106)) .Fp (.nm 107 (ps 283 114 283 119)) (ps 283 105 283 119))])] [(49,.local),(50,.local),(107,.free)] (ps 283 71 283 120))] (ps 283 20 283 121)) (ps 283 4 283 121)),
 (.asg 68 (ps 284 4 284 9) (.call (.gl 109 (ps 284 12 284 21)) [(.nm 65 (ps 284 22 284 27)),(.nm 66 (ps 284 29 284 33))] [] (ps 284 12 284 34)) (ps 284 4 284 34)),
 (.asg 110 (ps 285 4 285 9) (.bA (.nm 68 (ps 285 12 285 17)) 54 (ps 285 12 285 23) [] [] (ps 285 12 285 25)) (ps 285 4 285 25)),
 (.expr (.bA (.nm 110 (ps 286 4 286 9)) 18 (ps 286 4 286 16) [(.tup [(.kS [117] (ps 286 18 286 21)),(.kS [48] (ps 286 23 286 26))] (ps 286 17 286 27))] [] (ps 286 4 286 28)) (ps 286 4 286 28)),
 (.ifs (.As false [(.cmp (.call (.gl 111 (ps 287 7 287 16)) [(.bA (.nm 68 (ps 287 17 287 22)) 112 (ps 287 17 287 27) [] [] (ps 287 17 287 29))] [] (ps 287 7 287 30)) .ne (.comp (.sub (.nm 75 (ps 287 35 287 40)) (.nm 72 (ps 287 41 287 45)) (ps 287 35 287 46)) [(.mk (.one 72 (ps 287 51 287 55)) (.nm 81 (ps 287 59 287 64)) []),(.mk (.one 75 (ps 287 69 287 74)) (.tup [(.nm 98 (ps 287 79 287 84)),(.nm 97 (ps 287 86 287 91))] (ps 287 78 287 92)) [])] [(49,.local),(72,.local),(75,.local),(98,.free),(97,.free)] (ps 287 34 287 93)) (ps 287 7 287 93)),(.cmp (.bA (.nm 68 (ps 287 97 287 102)) 113 (ps 287 97 287 110) [(.sub (.nm 98 (ps 287 111 287 116)) (.kI (0) (ps 287 117 287 118)) (ps 287 111 287 119))] [] (ps 287 97 287 120)) .ne (.lst [] (ps 287 124 287 126)) (ps 287 97 287 126))] (ps 287 7 287 126)) [(.ret (.kB false (ps 288 15 288 20)) (ps 288 8 288 20))] [] (ps 287 4 288 20)),
 (.lO (.one 72 (ps 289 8 289 12)) (.nm 81 (ps 289 16 289 21)) [(.kj [(114,(ps 290 8 290 10)),(115,(ps 290 12 290 16))] (ps 290 8 290 16) (.comp (.call (.gl 63 (ps 290 20 290 23)) [(.comp (.nm 77 (ps 290 25 290 28)) [(.mk (.one 77 (ps 290 33 290 36)) (.nm 67 (ps 290 40 290 44)) [(.cmp (.bin (.nm 77 (ps 290 48 290 51)) .mod (.nm 116 (ps 290 54 290 57)) (ps 290 48 290 57)) .eq (.bin (.nm 72 (ps 290 61 290 65)) .mod (.nm 116 (ps 290 68 290 71)) (ps 290 61 290 71)) (ps 290 48 290 71))])] [(49,.local),(77,.local),(72,.free),(116,.free)] (ps 290 24 290 72))] [] (ps 290 20 290 73)) [(.mk (.one 116 (ps 290 78 290 81)) (.tup [(.nm 66 (ps 290 86 290 90)),(.bin (.nm 66 (ps 290 92 290 96)) .add (.kI (1) (ps 290 99 290 100)) (ps 290 92 290 100))] (ps 290 85 290 101)) [])] [(49,.local),(116,.cell),(63,.globalImplicit),(72,.free),(67,.free)] (ps 290 19 290 102)) (ps 290 8 290 102)),
 (.asg 117 (ps 291 8 291 11) (.call (.gl 118 (ps 291 14 291 20)) [(.lst [(.tup [(.bA (.nm 64 (ps 291 23 291 27)) 62 (ps 291 23 291 33) [(.nm 114 (ps 291 34 291 36))] [] (ps 291 23 291 37)),(.call (.gl 35 (ps 291 39 291 42)) [(.nm 114 (ps 291 43 291 45))] [] (ps 291 39 291 46))] (ps 291 22 291 47)),(.tup [(.bin (.bA (.nm 64 (ps 291 50 291 54)) 62 (ps 291 50 291 60) [(.nm 115 (ps 291 61 291 65))] [] (ps 291 50 291 66)) .sub (.kI (1) (ps 291 69 291 70)) (ps 291 50 291 70)),(.call (.gl 35 (ps 291 72 291 75)) [(.nm 115 (ps 291 76 291 80))] [] (ps 291 72 291 81))] (ps 291 49 291 82))] (ps 291 21 291 83))] [] (ps 291 14 291 84)) (ps 291 8 291 84)),
 (.ifs (.cmp (.bA (.nm 68 (ps 292 11 292 16)) 113 (ps 292 11 292 24) [(.sub (.sub (.tup [(.nm 97 (ps 292 26 292 31)),(.nm 98 (ps 292 33 292 38))] (ps 292 25 292 39)) (.bin (.bin (.nm 72 (ps 292 41 292 45)) .add (.nm 83 (ps 292 48 292 53)) (ps 292 41 292 53)) .mod (.kI (2) (ps 292 57 292 58)) (ps 292 40 292 58)) (ps 292 25 292 59)) (.nm 72 (ps 292 60 292 64)) (ps 292 25 292 65))] [] (ps 292 11 292 66)) .ne (.comp (.nm 77 (ps 292 71 292 74)) [(.mk (.two 119 (ps 292 79 292 83) 77 (ps 292 85 292 88) (ps 292 79 292 88)) (.nm 117 (ps 292 92 292 95)) [])] [(49,.local),(119,.local),(77,.local)] (ps 292 70 292 96)) (ps 292 11 292 96)) [(.ret (.kB false (ps 293 19 293 24)) (ps 293 12 293 24))] [] (ps 292 8 293 24))] (ps 289 4 293 24)),
 (.Cy [(.expr (.bA (.nm 68 (ps 295 8 295 13)) 73 (ps 295 8 295 24) [(.sub (.nm 97 (ps 295 25 295 30)) (.kI (1) (ps 295 31 295 32)) (ps 295 25 295 33)),(.nm 83 (ps 295 35 295 40))] [] (ps 295 8 295 41)) (ps 295 8 295 41)),
 (.ret (.kB false (ps 296 15 296 20)) (ps 296 8 296 20))] (.gl 41 (ps 297 11 297 25)) 120 [(.ifs (.As false [(.cmp (.call (.gl 35 (ps 298 11 298 14)) [(.nm 120 (ps 298 15 298 20))] [] (ps 298 11 298 21)) .ne (.bin (.bin (.kS [72,101,97,100,101,114,32,110,97,109,101,115,47,118,97,108,117,101,115,32,109,117,115,116,32,98,101,32,111,102,32,116,121,112,101,32,115,116,114,32,40,103,111,116,32] (ps 298 25 298 72)) .add (.call (.gl 35 (ps 298 75 298 78)) [(.nm 83 (ps 298 79 298 84))] [] (ps 298 75 298 85)) (ps 298 25 298 85)) .add (.kS [41] (ps 298 88 298 91)) (ps 298 25 298 91)) (ps 298 11 298 91)),(.cmp (.bA (.nm 68 (ps 298 95 298 100)) 54 (ps 298 95 298 106) [] [] (ps 298 95 298 108)) .ne (.slc (.nm 110 (ps 298 112 298 117)) none (some (.neg (.kI (1) (ps 298 120 298 121)) (ps 298 119 298 121))) none (ps 298 118 298 121) (ps 298 112 298 122)) (ps 298 95 298 122))] (ps 298 11 298 122)) [(.ret (.kB false (ps 299 19 299 24)) (ps 299 12 299 24))] [] (ps 298 8 299 24))] (ps 297 4 299 24) (ps 294 4 299 24)),
 (.kj [(121,(ps 300 4 300 8)),(122,(ps 300 10 300 14))] (ps 300 4 300 14) (.tup [(.bA (.call (.gl 123 (ps 300 18 300 27)) [(.nm 81 (ps 300 28 300 33)),(.nm 82 (ps 300 35 300 39)),(.nm 83 (ps 300 41 300 46))] [] (ps 300 18 300 47)) 124 (ps 300 18 300 53) [(.kS [13,10] (ps 300 54 300 60))] [] (ps 300 18 300 61)),(.lst [] (ps 300 63 300 65))] (ps 300 17 300 66)) (ps 300 4 300 66)),
 (.lO (.one 125 (ps 301 8 301 11)) (.slc (.nm 121 (ps 301 15 301 19)) none (some (.neg (.kI (1) (ps 301 22 301 23)) (ps 301 21 301 23))) none (ps 301 20 301 23) (ps 301 15 301 24)) [(.expr (.ite (.bin (.nm 83 (ps 303 21 303 26)) .mod (.kI (2) (ps 303 29 303 30)) (ps 303 21 303 30)) (.call (.gl 78 (ps 302 8 302 19)) [(.nm 122 (ps 302 20 302 24)),(.nm 125 (ps 302 26 302 29)),(.kI (0) (ps 302 31 302 32)),(.kI (0) (ps 302 34 302 35))] [(.mk 0 (.lam 2 77 (ps 303 7 303 10) (.nm 77 (ps 303 12 303 15)) [(77,.local)] (ps 303 0 303 15)) (ps 302 37 303 16))] (ps 302 8 303 17)) (.call (.gl 76 (ps 303 36 303 48)) [(.nm 122 (ps 303 49 303 53)),(.nm 125 (ps 303 55 303 58)),(.kI (0) (ps 303 60 303 61)),(.kI (0) (ps 303 63 303 64))] [] (ps 303 36 303 65)) (ps 302 8 303 65)) (ps 302 8 303 65))] (ps 301 4 303 65)),
 (.asg 126 (ps 304 4 304 7) (.comp (.bin (.call (.gl 8 (ps 304 11 304 14)) [(.nm 125 (ps 304 15 304 18))] [] (ps 304 11 304 19)) .sub (.kI (1) (ps 304 22 304 23)) (ps 304 11 304 23)) [(.mk (.one 125 (ps 304 28 304 31)) (.nm 122 (ps 304 35 304 39)) [])] [(49,.local),(125,.local),(8,.globalImplicit)] (ps 304 10 304 40)) (ps 304 4 304 40)),
 (.ifs (.As false [(.cmp (.nm 121 (ps 305 7 305 11)) .ne (.bin (.slc (.comp (.bin (.bin (.kS [46] (ps 305 16 305 19)) .mul (.nm 77 (ps 305 22 305 25)) (ps 305 16 305 25)) .add (.sub (.nm 97 (ps 305 28 305 33)) (.nm 72 (ps 305 34 305 38)) (ps 305 28 305 39)) (ps 305 16 305 39)) [(.mk (.two 77 (ps 305 44 305 47) 72 (ps 305 49 305 53) (ps 305 44 305 53)) (.call (.gl 127 (ps 305 57 305 60)) [(.nm 126 (ps 305 61 305 64)),(.nm 81 (ps 305 66 305 71))] [] (ps 305 57 305 72)) [])] [(49,.local),(77,.local),(72,.local),(97,.free)] (ps 305 15 305 73)) none none (some (.neg (.kI (1) (ps 305 77 305 78)) (ps 305 76 305 78))) (ps 305 74 305 78) (ps 305 15 305 79)) .add (.lst [(.kS [] (ps 305 83 305 85))] (ps 305 82 305 86)) (ps 305 15 305 86)) (ps 305 7 305 86)),(.cmp (.call (.gl 128 (ps 305 90 305 101)) [(.comp (.bin (.nm 77 (ps 305 103 305 106)) .add (.nm 50 (ps 305 109 305 110)) (ps 305 103 305 110)) [(.mk (.two 50 (ps 305 115 305 116) 77 (ps 305 118 305 121) (ps 305 115 305 121)) (.call (.gl 129 (ps 305 125 305 134)) [(.nm 126 (ps 305 135 305 138))] [] (ps 305 125 305 139)) [])] [(49,.local),(50,.local),(77,.local)] (ps 305 102 305 140)),(.nm 66 (ps 305 142 305 146))] [] (ps 305 90 305 147)) .ne (.nm 65 (ps 305 151 305 156)) (ps 305 90 305 156))] (ps 305 7 305 156)) [(.ret (.kB false (ps 306 15 306 20)) (ps 306 8 306 20))] [] (ps 305 4 306 20)),
 (.kj [(130,(ps 307 4 307 9)),(131,(ps 307 11 307 15))] (ps 307 4 307 15) (.tup [(.bin (.bin (.slc (.nm 122 (ps 307 19 307 23)) none none (some (.neg (.kI (1) (ps 307 27 307 28)) (ps 307 26 307 28))) (ps 307 24 307 28) (ps 307 19 307 29)) .add (.nm 122 (ps 307 32 307 36)) (ps 307 19 307 36)) .add (.slc (.nm 122 (ps 307 39 307 43)) none none (some (.neg (.kI (1) (ps 307 47 307 48)) (ps 307 46 307 48))) (ps 307 44 307 48) (ps 307 39 307 49)) (ps 307 19 307 49)),(.call (.gl 8 (ps 307 51 307 54)) [(.nm 122 (ps 307 55 307 59))] [] (ps 307 51 307 60))] (ps 307 18 307 61)) (ps 307 4 307 61)),
 (.asg 132 (ps 308 4 308 8) (.comp (.ite (.cmp (.bin (.nm 133 (ps 308 36 308 37)) .mod (.kI (3) (ps 308 40 308 41)) (ps 308 36 308 41)) .eq (.kI (1) (ps 308 45 308 46)) (ps 308 36 308 46)) (.call (.gl 2 (ps 308 12 308 24)) [(.nm 126 (ps 308 25 308 28)),(.nm 133 (ps 308 30 308 31))] [] (ps 308 12 308 32)) (.bin (.ite (.bin (.nm 133 (ps 309 26 309 27)) .mod (.kI (3) (ps 309 30 309 31)) (ps 309 26 309 31)) (.call (.gl 2 (ps 308 53 308 65)) [(.nm 130 (ps 308 66 308 71)),(.bin (.nm 133 (ps 308 73 308 74)) .add (.kI (1) (ps 308 77 308 78)) (ps 308 73 308 78)),(.nm 131 (ps 308 80 308 84)),(.bin (.kI (2) (ps 308 86 308 87)) .mul (.nm 131 (ps 308 90 308 94)) (ps 308 86 308 94))] [(.mk 0 (.lam 3 125 (ps 309 7 309 10) (.call (.gl 8 (ps 309 12 309 15)) [(.nm 125 (ps 309 16 309 19))] [] (ps 309 12 309 20)) [(125,.local),(8,.globalImplicit)] (ps 309 0 309 20)) (ps 308 96 309 21))] (ps 308 53 309 22)) (.call (.gl 10 (ps 309 37 309 48)) [(.nm 130 (ps 309 49 309 54)),(.bin (.nm 133 (ps 309 56 309 57)) .add (.kI (2) (ps 309 60 309 61)) (ps 309 56 309 61)),(.nm 131 (ps 309 63 309 67)),(.bin (.kI (2) (ps 309 69 309 70)) .mul (.nm 131 (ps 309 73 309 77)) (ps 309 69 309 77))] [(.mk 0 (.lam 4 125 (ps 310 7 310 10) (.call (.gl 8 (ps 310 12 310 15)) [(.nm 125 (ps 310 16 310 19))] [] (ps 310 12 310 20)) [(125,.local),(8,.globalImplicit)] (ps 310 0 310 20)) (ps 309 79 310 21))] (ps 309 37 310 22)) (ps 308 53 310 22)) .sub (.nm 131 (ps 310 26 310 30)) (ps 308 52 310 30)) (ps 308 12 310 30)) [(.mk (.one 133 (ps 310 35 310 36)) (.call (.gl 59 (ps 310 40 310 45)) [(.call (.gl 80 (ps 310 46 310 49)) [(.bin (.lst [(.kI (0) (ps 310 51 310 52))] (ps 310 50 310 53)) .add (.nm 126 (ps 310 56 310 59)) (ps 310 50 310 59))] [] (ps 310 46 310 60))] [] (ps 310 40 310 61)) [])] [(49,.local),(133,.local),(2,.globalImplicit),(10,.globalImplicit),(126,.free),(130,.free),(131,.free)] (ps 308 11 310 62)) (ps 308 4 310 62)),
 (.kj [(134,(ps 311 4 311 8)),(135,(ps 311 10 311 14))] (ps 311 4 311 14) (.tup [(.slc (.nm 126 (ps 311 18 311 21)) none none (some (.neg (.kI (1) (ps 311 25 311 26)) (ps 311 24 311 26))) (ps 311 22 311 26) (ps 311 18 311 27)),(.comp (.bin (.call (.gl 8 (ps 311 30 311 33)) [(.nm 126 (ps 311 34 311 37))] [] (ps 311 30 311 38)) .sub (.nm 77 (ps 311 41 311 44)) (ps 311 30 311 44)) [(.mk (.one 77 (ps 311 49 311 52)) (.nm 132 (ps 311 56 311 60)) [])] [(49,.local),(77,.local),(8,.globalImplicit),(126,.free)] (ps 311 29 311 61))] (ps 311 17 311 62)) (ps 311 4 311 62)),
 (.Cy [(.expr (.ite (.bin (.nm 83 (ps 313 43 313 48)) .mod (.kI (2) (ps 313 51 313 52)) (ps 313 43 313 52)) (.call (.gl 78 (ps 313 8 313 19)) [(.nm 126 (ps 313 20 313 23)),(.kI (0) (ps 313 25 313 26)),(.bin (.neg (.nm 83 (ps 313 29 313 34)) (ps 313 28 313 34)) .sub (.kI (1) (ps 313 37 313 38)) (ps 313 28 313 38))] [] (ps 313 8 313 39)) (.call (.gl 76 (ps 313 58 313 70)) [(.nm 126 (ps 313 71 313 74)),(.kI (0) (ps 313 76 313 77)),(.bin (.neg (.nm 83 (ps 313 80 313 85)) (ps 313 79 313 85)) .sub (.kI (1) (ps 313 88 313 89)) (ps 313 79 313 89))] [] (ps 313 58 313 90)) (ps 313 8 313 90)) (ps 313 8 313 90)),
 (.ret (.kB false (ps 314 15 314 20)) (ps 314 8 314 20))] (.gl 7 (ps 315 11 315 21)) 120 [(.ifs (.As false [(.cmp (.call (.gl 35 (ps 316 11 316 14)) [(.nm 120 (ps 316 15 316 20))] [] (ps 316 11 316 21)) .ne (.kS [108,111,32,109,117,115,116,32,98,101,32,110,111,110,45,110,101,103,97,116,105,118,101] (ps 316 25 316 50)) (ps 316 11 316 50)),(.cmp (.slc (.nm 126 (ps 316 54 316 57)) none none (some (.neg (.kI (1) (ps 316 61 316 62)) (ps 316 60 316 62))) (ps 316 58 316 62) (ps 316 54 316 63)) .ne (.nm 134 (ps 316 67 316 71)) (ps 316 54 316 71))] (ps 316 11 316 71)) [(.ret (.kB false (ps 317 19 317 24)) (ps 317 12 317 24))] [] (ps 316 8 317 24))] (ps 315 4 317 24) (ps 312 4 317 24)),
 (.asg 136 (ps 318 4 318 9) (.comp (.bin (.bin (.bin (.bin (.sub (.nm 134 (ps 318 13 318 17)) (.nm 137 (ps 318 18 318 19)) (ps 318 13 318 20)) .sub (.nm 133 (ps 318 23 318 24)) (ps 318 13 318 24)) .add (.sub (.nm 135 (ps 318 27 318 31)) (.nm 133 (ps 318 32 318 33)) (ps 318 27 318 34)) (ps 318 13 318 34)) .sub (.nm 137 (ps 318 37 318 38)) (ps 318 13 318 38)) .sub (.kI (1) (ps 318 41 318 42)) (ps 318 13 318 42)) [(.mk (.one 137 (ps 318 47 318 48)) (.call (.gl 59 (ps 318 52 318 57)) [(.call (.gl 8 (ps 318 58 318 61)) [(.nm 134 (ps 318 62 318 66))] [] (ps 318 58 318 67))] [] (ps 318 52 318 68)) []),(.mk (.one 133 (ps 318 73 318 74)) (.call (.gl 59 (ps 318 78 318 83)) [(.sub (.nm 134 (ps 318 84 318 88)) (.nm 137 (ps 318 89 318 90)) (ps 318 84 318 91))] [] (ps 318 78 318 92)) [])] [(49,.local),(137,.local),(133,.local),(59,.globalImplicit),(135,.free),(134,.free)] (ps 318 12 318 93)) (ps 318 4 318 93)),
 (.ifs (.cmp (.call (.gl 118 (ps 319 7 319 13)) [(.nm 136 (ps 319 14 319 19))] [] (ps 319 7 319 20)) .ne (.call (.gl 118 (ps 319 24 319 30)) [(.comp (.bin (.nm 72 (ps 319 32 319 36)) .sub (.nm 77 (ps 319 39 319 42)) (ps 319 32 319 42)) [(.mk (.one 72 (ps 319 47 319 51)) (.nm 81 (ps 319 55 319 60)) []),(.mk (.one 77 (ps 319 65 319 68)) (.nm 67 (ps 319 72 319 76)) [(.cmp (.nm 77 (ps 319 80 319 83)) .lt (.nm 72 (ps 319 86 319 90)) (ps 319 80 319 90))])] [(49,.local),(72,.local),(77,.local),(67,.free)] (ps 319 31 319 91))] [] (ps 319 24 319 92)) (ps 319 7 319 92)) [(.ret (.kB false (ps 320 15 320 20)) (ps 320 8 320 20))] [] (ps 319 4 320 20)),
 (.ret (.cmp (.call (.gl 123 (ps 321 11 321 20)) [(.nm 108 (ps 321 21 321 27)),(.slc (.nm 82 (ps 321 29 321 33)) none none (some (.neg (.kI (1) (ps 321 37 321 38)) (ps 321 36 321 38))) (ps 321 34 321 38) (ps 321 29 321 39)),(.bin (.nm 83 (ps 321 41 321 46)) .add (.kI (1) (ps 321 49 321 50)) (ps 321 41 321 50))] [] (ps 321 11 321 51)) .eq (.bA (.kS [] (ps 321 55 321 57)) 19 (ps 321 55 321 62) [(.comp (.bin (.bin (.bin (.kS [46] (ps 321 64 321 67)) .mul (.call (.gl 8 (ps 321 70 321 73)) [(.comp (.nm 77 (ps 321 75 321 78)) [(.mk (.one 77 (ps 321 83 321 86)) (.nm 126 (ps 321 90 321 93)) [(.cmp (.nm 77 (ps 321 97 321 100)) .gt (.nm 133 (ps 321 103 321 104)) (ps 321 97 321 104))])] [(49,.local),(77,.local),(133,.free)] (ps 321 74 321 105))] [] (ps 321 70 321 106)) (ps 321 64 321 106)) .add (.sub (.nm 97 (ps 321 109 321 114)) (.nm 72 (ps 321 115 321 119)) (ps 321 109 321 120)) (ps 321 64 321 120)) .add (.kS [13,10] (ps 321 123 321 129)) (ps 321 64 321 129)) [(.mk (.two 133 (ps 321 134 321 135) 72 (ps 321 137 321 141) (ps 321 134 321 141)) (.call (.gl 129 (ps 321 145 321 154)) [(.slc (.nm 108 (ps 321 155 321 161)) none none (some (.neg (.kI (1) (ps 321 165 321 166)) (ps 321 164 321 166))) (ps 321 162 321 166) (ps 321 155 321 167))] [] (ps 321 145 321 168)) [])] [(49,.local),(133,.cell),(72,.local),(8,.globalImplicit),(126,.free),(97,.free)] (ps 321 63 321 169))] [] (ps 321 55 321 170)) (ps 321 11 321 170)) (ps 321 4 321 170))]
noncomputable section
noncomputable def iO:CS:=(ak (iC (bV (aY (af 0) .is (cV .none))) (ak (bH 1 (aB (cV (.fn 1)) (aa (af 3) (aa (af 4) (aa (af 1) (aa (af 5) aj)))) ay))
 aA) (ak (bH 1 (aB (cV (.fn 1)) (aa (af 3) (aa (aB (af 0) (aa (af 4) aj) ay) (aa (af 1) (aa (af 5) aj)))) (jq 0 (af 0) ay)))
 aA))
 (ak (cD (aS (af 3) .insert (aa (af 1) (aa (af 4) aj)) ay))
 aA))
theorem sU:iH eH=iO:=⋯
noncomputable def iP:CS:=(ak (iC (bV (aY (af 1) .lt (cV (.int 0)))) (ak (rW 7 (cV (.str [108,111,32,109,117,115,116,32,98,101,32,110,111,110,45,110,101,103,97,116,105,118,101])))
 aA) aA)
 (ak (iC (bV (aY (af 5) .is (cV .none))) (ak (bH 5 (aB (cV (.bi .len)) (aa (af 3) aj) ay))
 aA) aA)
 (ak (iC (bV (aY (af 0) .is (cV .none))) (ak (AG (bV (aY (af 1) .lt (af 5))) (ak (bH 9 (aD (aD (af 1) .add (af 5)) .fdiv (cV (.int 2))))
 (ak (iC (bV (aY (af 4) .lt (dH (af 3) (af 9)))) (ak (bH 5 (af 9))
 aA) (ak (bH 1 (aD (af 9) .add (cV (.int 1))))
 aA))
 aA)))
 aA) (ak (AG (bV (aY (af 1) .lt (af 5))) (ak (bH 9 (aD (aD (af 1) .add (af 5)) .fdiv (cV (.int 2))))
 (ak (iC (bV (aY (af 4) .lt (aB (af 0) (aa (dH (af 3) (af 9)) aj) ay))) (ak (bH 5 (af 9))
 aA) (ak (bH 1 (aD (af 9) .add (cV (.int 1))))
 aA))
 aA)))
 aA))
 (ak (dI (af 1))
 aA))))
theorem sV:iH eN=iP:=⋯
noncomputable def jD:CS:=(ak (iC (bV (aY (af 0) .is (cV .none))) (ak (bH 1 (aB (cV (.fn 3)) (aa (af 3) (aa (af 4) (aa (af 1) (aa (af 5) aj)))) ay))
 aA) (ak (bH 1 (aB (cV (.fn 3)) (aa (af 3) (aa (aB (af 0) (aa (af 4) aj) ay) (aa (af 1) (aa (af 5) aj)))) (jq 0 (af 0) ay)))
 aA))
 (ak (cD (aS (af 3) .insert (aa (af 1) (aa (af 4) aj)) ay))
 aA))
theorem uE:iH fB=jD:=⋯
noncomputable def jE:CS:=(ak (iC (bV (aY (af 1) .lt (cV (.int 0)))) (ak (rW 7 (cV (.str [108,111,32,109,117,115,116,32,98,101,32,110,111,110,45,110,101,103,97,116,105,118,101])))
 aA) aA)
 (ak (iC (bV (aY (af 5) .is (cV .none))) (ak (bH 5 (aB (cV (.bi .len)) (aa (af 3) aj) ay))
 aA) aA)
 (ak (iC (bV (aY (af 0) .is (cV .none))) (ak (AG (bV (aY (af 1) .lt (af 5))) (ak (bH 9 (aD (aD (af 1) .add (af 5)) .fdiv (cV (.int 2))))
 (ak (iC (bV (aY (dH (af 3) (af 9)) .lt (af 4))) (ak (bH 1 (aD (af 9) .add (cV (.int 1))))
 aA) (ak (bH 5 (af 9))
 aA))
 aA)))
 aA) (ak (AG (bV (aY (af 1) .lt (af 5))) (ak (bH 9 (aD (aD (af 1) .add (af 5)) .fdiv (cV (.int 2))))
 (ak (iC (bV (aY (aB (af 0) (aa (dH (af 3) (af 9)) aj) ay) .lt (af 4))) (ak (bH 1 (aD (af 9) .add (cV (.int 1))))
 aA) (ak (bH 5 (af 9))
 aA))
 aA)))
 aA))
 (ak (dI (af 1))
 aA))))
theorem uF:iH fC=jE:=⋯
noncomputable def bl:CS:=(ak (iC (bV (aY (cV (.str [34])) .Fp (af 11))) (ak (dI (af 11))
 aA) aA)
 (ak (bH 12 (cV (.int 0)))
 (ak (bH 13 (cV .none))
 (ak (bH 14 sS)
 (ak (jd (.two 15 16) (Fw (af 11)) (ak (iC (bV (aY (af 16) .eq (cV (.str [34])))) (ak (iC (bV (aY (af 13) .is (cV .none))) (ak (bH 13 (af 15))
 aA) (ak (iC (bV (aY (af 12) .ne (af 13))) (ak (cD (aS (af 14) .append (aa (cJ (af 11) (af 12) (af 13) (cV .none)) aj) ay))
 aA) aA)
 (ak (bH 12 (aD (af 15) .add (cV (.int 1))))
 (ak (bH 13 (cV .none))
 aA))))
 aA) aA)
 aA))
 (ak (iC (bV (aY (af 12) .lt (aB (cV (.bi .len)) (aa (af 11) aj) ay))) (ak (cD (aS (af 14) .append (aa (cJ (af 11) (af 12) (cV .none) (cV .none)) aj) ay))
 aA) aA)
 (ak (dI (aS (cV (.str [])) .join (aa (af 14) aj) ay))
 aA)))))))
theorem iQ:iH bF=bl:=⋯
noncomputable def cB:CS:=(ak (bH 11 (aB (cV (.fn 4)) (aa (af 11) aj) ay))
 (ak (bH 21 (cV (.int 0)))
 (ak (jd (.two 15 16) (Fw (af 11)) (ak (iC (bV (aY (af 16) .eq (cV (.str [40])))) (ak (qX 21 .add (cV (.int 1)))
 aA) (ak (iC (bV (aY (af 16) .eq (cV (.str [41])))) (ak (qX 21 .sub (cV (.int 1)))
 (ak (iC (bV (aY (af 21) .lt (cV (.int 0)))) (ak (dI (cV (.bool false)))
 aA) aA)
 aA)) aA)
 aA))
 aA))
 (ak (dI (aY (af 21) .eq (cV (.int 0))))
 aA))))
theorem lE:iH cA=cB:=⋯
noncomputable def bR:CS:=(ak (bH 22 sS)
 (ak (jd (.one 23) (iV (af 24)) (ak (iC (OV (bV (aB (cV (.fn 5)) (aa (af 23) aj) ay))) (ak (bH 23 (cV (.str [40,39,39,44,32,39,39,41])))
 aA) aA)
 (ak (cD (aS (af 22) .append (aa (af 23) aj) ay))
 aA)))
 (ak (dI (af 22))
 aA)))
theorem jF:iH bQ=bR:=⋯
noncomputable def lU:CS:=(ak (dI (aS (cV (.pat .dot)) .sub (aa (cV (.str [46,46])) (aa (aS (cV (.pat .xm)) .sub (aa (cV (.str [13,10])) (aa (af 30) aj)) ay) aj)) ay))
 aA)
theorem yD:iH ie=lU:=⋯
noncomputable def gQ:CS:=(ak (dI (aS (cV (.pat .qT)) .sub (aa (cV (.m7 [46,46])) (aa (af 32) aj)) ay))
 aA)
theorem oY:iH dJ=gQ:=⋯
noncomputable def lV:CS:=(ak (dI (aS (cV (.pat .xm)) .sub (aa (cV (.str [13,10])) (aa (af 30) aj)) ay))
 aA)
theorem yE:iH ig=lV:=⋯
noncomputable def dg:CS:=(ak (iC (bV (aY (aB (cV (.bi .type)) (aa (af 34) aj) ay) .is (cV (.bi .str)))) (ak (bH 36 (nZ (bV (af 37)) (cV (.pat .rU)) (cV (.pat .Au))))
 (ak (iC (bV (aS (af 36) .search (aa (af 34) aj) ay)) (ak (rW 7 (cV (.str [67,111,110,116,114,111,108,32,99,104,97,114,97,99,116,101,114,115,32,110,111,116,32,97,108,108,111,119,101,100,32,105,110,32,104,101,97,100,101,114,115])))
 aA) aA)
 (ak (dI (af 34))
 aA))) aA)
 (ak (rW 41 (aS (cV (.str [72,101,97,100,101,114,32,110,97,109,101,115,47,118,97,108,117,101,115,32,109,117,115,116,32,98,101,32,111,102,32,116,121,112,101,32,115,116,114,32,40,103,111,116,32,123,48,125,41])) .format (aa (aB (cV (.bi .repr)) (aa (af 34) aj) ay) aj) ay))
 aA))
theorem je:iH bK=dg:=⋯
noncomputable def lW:CS:=(ak (bH 37 (aS (af 44) .conv (aa (aS (af 37) .lower aj ay) aj) (jq 37 (cV (.bool true)) ay)))
 (ak (dI (cz [37] (.one 47) (iV (Cz (af 44))) (jU (bV (aY (aS (dH (af 47) (cV (.int 0))) .lower aj ay) .eq (af 37))) (cC true)) (g1 (dH (af 47) (cV (.int 1))))))
 aA))
theorem yF:iH ir=lW:=⋯
noncomputable def uG:CS:=(ak (dI (cz [] (.two 50 23) (iV (Cz (af 44))) (cC true) (g1 (af 50))))
 aA)
theorem Fx:iH lT=uG:=⋯
noncomputable def qY:CS:=(ak (dI (cJ (Cz (af 44)) (cV .none) (cV .none) (cV .none)))
 aA)
theorem CD:iH jW=qY:=⋯
noncomputable def iR:CS:=(ak (bH 51 sS)
 (ak (iC (bV (aY (af 52) .Fj (cV .none))) (ak (bH 52 (aS (af 44) .conv (aa (af 52) aj) (jq 37 (cV (.bool false)) ay)))
 (ak (cD (aS (af 51) .append (aa (af 52) aj) ay))
 aA)) aA)
 (ak (jd (.two 50 23) (OX (af 53)) (ak (bH 50 (aS (af 44) .conv (aa (af 50) aj) (jq 37 (cV (.bool true)) ay)))
 (ak (iC (bV (aY (af 23) .is (cV .none))) (ak (cD (aS (af 51) .append (aa wN aj) ay))
 aA) (ak (bH 23 (aS (af 44) .conv (aa (af 23) aj) (jq 37 (cV (.bool false)) ay)))
 (ak (cD (aS (af 51) .append (aa (aB wN (aa wN (aa (af 23) aj)) ay) aj) ay))
 aA)))
 aA)))
 (ak (cD (aS (Cz (af 44)) .append (aa (iB (aa (aS (af 44) .conv (aa (af 57) aj) (jq 37 (cV (.bool true)) ay)) (aa (aS (cV (.str [59,32])) .join (aa (af 51) aj) ay) aj))) aj) ay))
 aA))))
theorem sW:iH eO=iR:=⋯
noncomputable def gq:CS:=(ak (bH 58 (cz [60] (.one 50) (jV (aa (aB (cV (.bi .len)) (aa (af 60) aj) ay) aj)) (cC true) (g1 (aD (aS (cJ (af 60) (cV .none) (aD (af 50) .add (cV (.int 1))) (cV .none)) .count (aa (cV (.str [40])) aj) ay) .sub (aS (cJ (af 60) (cV .none) (aD (af 50) .add (cV (.int 1))) (cV .none)) .count (aa (cV (.str [41])) aj) ay)))))
 (ak (dI (aD (aS (af 58) .index (aa (aB (cV (.bi .min)) (aa (af 58) aj) ay) aj) ay) .add (cV (.int 1))))
 aA))
theorem wO:iH gj=gq:=⋯
noncomputable def iS:CS:=(ak (bH 64 (cz [66,65] (.one 50) (jV (aa (aB (cV (.bi .len)) (aa (af 65) aj) ay) aj)) (cC true) (g1 (aD (aD (aD (af 66) .add (cV (.int 1))) .mul (aS (cJ (af 65) (cV .none) (af 50) (cV .none)) .count (aa (cV (.str [40])) aj) ay)) .sub (aD (af 66) .mul (aS (cJ (af 65) (cV .none) (af 50) (cV .none)) .count (aa (cV (.str [41])) aj) ay))))))
 (ak (bH 67 sS)
 (ak (jd (.one 50) (jV (aa (aD (aD (af 66) .mul (af 66)) .add (af 66)) aj)) (ak (iC (lS (bV (aY (af 50) .Fo (af 64))) (lS (bV (aY (aD (af 50) .sub (af 66)) .Fo (af 67))) (lS (bV (aY (aD (aD (af 50) .sub (af 66)) .sub (cV (.int 1))) .Fo (af 67))) (cC false)))) (ak (cD (aS (af 67) .append (aa (af 50) aj) ay))
 aA) aA)
 aA))
 (ak (dI (iB (aa (af 64) (aa (af 67) aj))))
 aA))))
theorem sX:iH eT=iS:=⋯
noncomputable def lY:CS:=(ak (gh [68,69] (iB (aa (aB (cV (.fn 21)) aj ay) (aa (cV (.int 0)) aj))))
 (ak (jd (.one 71) (iV (af 65)) (ak (iC (bV (aY (af 71) .eq (cV (.str [40])))) (ak (jd (.one 72) (jV (aa (aD (af 69) .sub (af 66)) (aa (fZ (cV (.int 1))) (aa (fZ (af 66)) aj)))) (ak (cD (aS (af 68) .Av (aa (dH (cV (.str [97,98,99,100,101,102,103,104,105,106,107,108,109,110,111,112,113,114,115,116])) (af 72)) (aa (aB (cV (.bi .str)) (aa (af 69) aj) ay) aj)) ay))
 aA))
 (ak (qX 69 .add (aD (af 66) .add (cV (.int 1))))
 aA)) (ak (qX 69 .sub (af 66))
 (ak (jd (.one 72) (jV (aa (aD (aD (af 69) .sub (af 66)) .sub (cV (.int 1))) (aa (fZ (cV (.int 1))) (aa (aD (fZ (af 66)) .sub (cV (.int 1))) aj)))) (ak (cD (aS (af 68) .Av (aa (dH (cV (.str [65,66,67,68,69,70,71,72,73,74,75,76,77,78,79,80,81,82,83,84])) (af 72)) (aa (aB (cV (.bi .str)) (aa (af 69) aj) ay) aj)) ay))
 aA))
 aA)))
 aA))
 (ak (dI (af 68))
 aA)))
theorem yG:iH iu=lY:=⋯
noncomputable def lZ:CS:=(ak (bH 74 sS)
 (ak (jd (.one 37) (iV (af 75)) (ak (iC (bV (aY (af 37) .Fo (cV (.str [97,98,99,100,101,102,103,104,105,106,107,108,109,110,111,112,113,114,115,116])))) (ak (cD (aB (cV (.fn 0)) (aa (af 74) (aa (af 37) aj)) (jq 0 (cV (.lam 0)) ay)))
 aA) (ak (cD (aB (cV (.fn 2)) (aa (af 74) (aa (af 37) aj)) (jq 0 (cV (.lam 1)) ay)))
 aA))
 aA))
 (ak (dI (af 74))
 aA)))
theorem yH:iH iw=lZ:=⋯
noncomputable def l5:CS:=(ak (bH 79 (cV (.str [])))
 (ak (jd (.one 72) (jV (aa (aB (cV (.bi .max)) (aa (aD (n6 (aa (cV (.int 0)) aj)) .add (af 81)) aj) ay) (aa (cV (.int 0)) (aa (fZ (cV (.int 1))) aj)))) (ak (iC (bV (aY (af 72) .Fo (af 81))) (ak (qX 79 .add (aD (aD (cV (.str [46])) .add (dH (cV (.str [97,98,99,100,101,102,103,104,105,106,107,108,109,110,111,112,113,114,115,116])) (af 72))) .add (dH (af 82) (aD (af 72) .mod (aB (cV (.bi .len)) (aa (af 82) aj) ay)))))
 aA) (ak (iC (bV (aD (aD (af 72) .add (af 83)) .mod (cV (.int 2)))) (ak (bH 79 (aB (cV (.fn 7)) (aa (af 79) aj) ay))
 aA) (ak (bH 79 (aS (aB (cV (.fn 8)) (aa (aS (aB (cV (.fn 9)) (aa (af 79) aj) ay) .encode (aa (cV (.str [117,116,102,45,56])) aj) ay) aj) ay) .decode (aa (cV (.str [117,116,102,45,56])) aj) ay))
 aA))
 aA))
 aA))
 (ak (dI (aB (cV (.fn 9)) (aa (af 79) aj) ay))
 aA)))
theorem yI:iH iy=l5:=⋯
noncomputable def jG:CS:=(ak (gh [69,60] (iB (aa (cV (.int 0)) (aa sS aj))))
 (ak (jd (.one 89) (jV (aa (aD (aD (cV (.int 2)) .mul (af 66)) .add (cV (.int 1))) aj)) (ak (bH 90 (OU (aY (af 69) .ge (af 66)) (aY (aD (af 69) .sub (af 66)) .Fp (af 81))))
 (ak (cD (aS (af 60) .append (aa (nZ (bV (af 90)) (cV (.str [41])) (cV (.str [40]))) aj) ay))
 (ak (qX 69 .add (nZ (bV (af 90)) (fZ (af 66)) (aD (af 66) .add (cV (.int 1)))))
 aA))))
 (ak (dI (af 60))
 aA)))
theorem uH:iH fD=jG:=⋯
noncomputable def yJ:CS:=(gh [91,66] (iB (aa (cJ (af 92) (cV .none) (cV (.int 60)) (cV .none)) (aa (aD (cV (.int 4)) .add (aB (cV (.bi .min)) (aa (cV (.int 1)) (aa (aD (aB (cV (.bi .len)) (aa (af 92) aj) ay) .fdiv (cV (.int 3))) aj)) ay)) aj))))
theorem Ui:(bk[0]?).map cS=some yJ:=⋯
noncomputable def yK:CS:=(bH 93 (n6 (aa (cV (.int 34)) (aa (cV (.int 58)) (aa (cV (.int 17)) (aa (cV (.int 41)) (aa (cV (.int 101)) (aa (cV (.int 31)) (aa (cV (.int 38)) (aa (cV (.int 61)) (aa (cV (.int 160)) (aa (cV (.int 82)) (aa (cV (.int 7)) aj)))))))))))))
theorem Uj:(bk[1]?).map cS=some yK:=⋯
noncomputable def yL:CS:=(bH 94 (cz [93,91] (.one 50) (jV (aa (aD (aD (cV (.int 2)) .mul (af 66)) .add (cV (.int 1))) aj)) (cC true) (g1 (aD (aD (dH (af 93) (af 50)) .add (aB (cV (.bi .sum)) (aa (cJ (af 91) (af 50) (cV .none) (cV (.int 11))) aj) ay)) .mod (aD (cV (.int 10)) .pow (cV (.int 6)))))))
theorem Uk:(bk[2]?).map cS=some yL:=⋯
noncomputable def yM:CS:=(gh [96,82] (iB (aa (n6 (aa (cV (.str [])) (aa (cV (.str [])) (aa (cV (.str [])) (aa (cV (.str [])) (aa (cV (.str [34,92,34,41,34])) (aa (cV (.str [92,40])) (aa (cV (.str [34,40,41,40,34])) (aa (cV (.str [92,92])) aj))))))))) (aa (cz [] (.one 4) (iV (af 94)) (cC true) (g1 (dH (n6 (aa (cV (.str [10])) (aa (cV (.str [13,10])) (aa (cV (.str [13])) aj)))) (aD (aD (af 4) .fdiv (cV (.int 16))) .mod (cV (.int 3)))))) aj))))
theorem Ul:(bk[3]?).map cS=some yM:=⋯
noncomputable def yN:CS:=(gh [97,98,83] (iB (aa (cV (.str [97,98,99,100,101,102,103,104,105,106,107,108,109,110,111,112,113,114,115,116])) (aa (cV (.str [65,66,67,68,69,70,71,72,73,74,75,76,77,78,79,80,81,82,83,84])) (aa (aB (cV (.bi .sum)) (aa (af 94) aj) ay) aj)))))
theorem Um:(bk[4]?).map cS=some yN:=⋯
noncomputable def yO:CS:=(gh [60,79] (iB (aa sS (aa sS aj))))
theorem Un:(bk[5]?).map cS=some yO:=⋯
noncomputable def yP:CS:=(jd (.one 4) (iV (af 94)) (ak (bH 99 (aS (af 60) .count (aa (cV (.str [40])) aj) ay))
 (ak (cD (aS (af 60) .append (aa (nZ (jU (bV (aY (af 99) .lt (af 66))) (jU (lS (bV (aY (aD (af 4) .mod (cV (.int 2))) .eq (cV (.int 0)))) (lS (bV (aY (aD (aB (cV (.bi .len)) (aa (af 60) aj) ay) .sub (af 99)) .gt (af 66))) (cC false))) (cC true))) (cV (.str [40])) (cV (.str [41]))) aj) ay))
 (ak (cD (aS (af 79) .append (aa (aD (dH (af 60) (fZ (cV (.int 1)))) .add (dH (af 96) (aD (aD (af 4) .fdiv (cV (.int 2))) .mod (cV (.int 8))))) aj) ay))
 aA))))
theorem Uo:(bk[6]?).map cS=some yP:=⋯
noncomputable def yQ:CS:=(gh [69,100] (iB (aa (aB (cV (.fn 15)) (aa (af 60) aj) ay) (aa (cJ (af 60) (cV .none) (cV .none) (fZ (cV (.int 1)))) aj))))
theorem Up:(bk[7]?).map cS=some yQ:=⋯
noncomputable def yR:CS:=(bH 102 (cz [79] (.one 50) (jV (aa (aB (cV (.bi .len)) (aa (af 60) aj) ay) aj)) (cC true) (g1 (aS (cV (.str [])) .join (aa (cJ (aD (cJ (af 79) (af 50) (cV .none) (cV .none)) .add (cJ (af 79) (cV .none) (af 50) (cV .none))) (cV .none) (fZ (cV (.int 1))) (cV .none)) aj) ay))))
theorem Uq:(bk[8]?).map cS=some yR:=⋯
noncomputable def yS:CS:=(bH 103 (dH (af 102) (aD (af 69) .mod (aB (cV (.bi .len)) (aa (af 60) aj) ay))))
theorem Ur:(bk[9]?).map cS=some yS:=⋯
noncomputable def tW:CS:=(iC (bV (aY (aB (cV (.fn 6)) (aa (aD (af 102) .add (n6 (aa (aD (cV (.str [40])) .add (af 103)) aj))) aj) ay) .ne (aD (cz [60,69,102] (.one 50) (jV (aa (aB (cV (.bi .len)) (aa (af 60) aj) ay) aj)) (cC true) (g1 (nZ (bV (aY (af 50) .eq (aD (af 69) .mod (aB (cV (.bi .len)) (aa (af 60) aj) ay)))) (dH (af 102) (af 50)) (cV (.str [40,39,39,44,32,39,39,41]))))) .add (n6 (aa (cV (.str [40,39,39,44,32,39,39,41])) aj))))) (ak (dI (cV (.bool false)))
 aA) aA)
theorem RK:(bk[10]?).map cS=some tW:=⋯
noncomputable def tY:CS:=(iC (lS (bV (aY (aB (cV (.fn 5)) (aa (af 103) aj) ay) .Fj (cV (.bool true)))) (lS (bV (aY (aB (cV (.fn 5)) (aa (dH (af 102) (aD (af 69) .sub (cV (.int 1)))) aj) ay) .Fj (cV (.bool false)))) (lS (bV (aY (aB (cV (.fn 5)) (aa (aD (cV (.str [40])) .add (af 103)) aj) ay) .Fj (cV (.bool false)))) (cC false)))) (ak (dI (cV (.bool false)))
 aA) aA)
theorem RL:(bk[11]?).map cS=some tY:=⋯
noncomputable def tZ:CS:=(gh [65,105] (iB (aa (aD (cJ (af 60) (af 69) (cV .none) (cV .none)) .add (cJ (af 60) (cV .none) (af 69) (cV .none))) (aa (aB (cV (.fn 15)) (aa (af 100) aj) ay) aj))))
theorem RM:(bk[12]?).map cS=some tZ:=⋯
noncomputable def t6:CS:=(gh [64,67] (aB (cV (.fn 16)) (aa (af 65) (aa (af 66) aj)) ay))
theorem RN:(bk[13]?).map cS=some t6:=⋯
noncomputable def t7:CS:=(bH 107 (dH (aB (cV (.fn 16)) (aa (aD (cJ (af 100) (af 105) (cV .none) (cV .none)) .add (cJ (af 100) (cV .none) (af 105) (cV .none))) (aa (af 66) aj)) ay) (cV (.int 1))))
theorem RO:(bk[14]?).map cS=some t7:=⋯
noncomputable def oZ:CS:=(gh [81,108] (iB (aa (cz [67] (.one 50) (jV (aa (aD (af 66) .mul (af 66)) aj)) (jU (bV (aY (af 50) .Fp (af 67))) (cC true)) (g1 (af 50))) (aa (cz [107] (.one 50) (jV (aa (aD (af 66) .mul (af 66)) aj)) (jU (bV (aY (af 50) .Fp (af 107))) (cC true)) (g1 (af 50))) aj))))
theorem RP:(bk[15]?).map cS=some oZ:=⋯
noncomputable def o4:CS:=(bH 68 (aB (cV (.fn 17)) (aa (af 65) (aa (af 66) aj)) ay))
theorem RQ:(bk[16]?).map cS=some o4:=⋯
noncomputable def o5:CS:=(bH 110 (aS (af 68) .items aj ay))
theorem RS:(bk[17]?).map cS=some o5:=⋯
noncomputable def o6:CS:=(cD (aS (af 110) .append (aa (iB (aa (cV (.str [117])) (aa (cV (.str [48])) aj))) aj) ay))
theorem RT:(bk[18]?).map cS=some o6:=⋯
noncomputable def o7:CS:=(iC (lS (bV (aY (aB (cV (.fn 18)) (aa (aS (af 68) .keys aj ay) aj) ay) .ne (cz [98,97] (.one 72) (iV (af 81)) (cC true) (g2 (.one 75) (iV (iB (aa (af 98) (aa (af 97) aj)))) (cC true) (g1 (dH (af 75) (af 72))))))) (lS (bV (aY (aS (af 68) .getAll (aa (dH (af 98) (cV (.int 0))) aj) ay) .ne sS)) (cC false))) (ak (dI (cV (.bool false)))
 aA) aA)
theorem RU:(bk[19]?).map cS=some o7:=⋯
noncomputable def o8:CS:=(jd (.one 72) (iV (af 81)) (ak (gh [114,115] (cz [72,67] (.one 116) (iV (iB (aa (af 66) (aa (aD (af 66) .add (cV (.int 1))) aj)))) (cC true) (g1 (aB (cV (.bi .min)) (aa (cz [72,116] (.one 77) (iV (af 67)) (jU (bV (aY (aD (af 77) .mod (af 116)) .eq (aD (af 72) .mod (af 116)))) (cC true)) (g1 (af 77))) aj) ay))))
 (ak (bH 117 (aB (cV (.bi .sorted)) (aa (n6 (aa (iB (aa (aS (af 64) .index (aa (af 114) aj) ay) (aa (aB (cV (.bi .str)) (aa (af 114) aj) ay) aj))) (aa (iB (aa (aD (aS (af 64) .index (aa (af 115) aj) ay) .sub (cV (.int 1))) (aa (aB (cV (.bi .str)) (aa (af 115) aj) ay) aj))) aj))) aj) ay))
 (ak (iC (bV (aY (aS (af 68) .getAll (aa (dH (dH (iB (aa (af 97) (aa (af 98) aj))) (aD (aD (af 72) .add (af 83)) .mod (cV (.int 2)))) (af 72)) aj) ay) .ne (cz [] (.two 119 77) (iV (af 117)) (cC true) (g1 (af 77))))) (ak (dI (cV (.bool false)))
 aA) aA)
 aA))))
theorem RV:(bk[20]?).map cS=some o8:=⋯
noncomputable def o9:CS:=(CA (ak (cD (aS (af 68) .Av (aa (dH (af 97) (cV (.int 1))) (aa (af 83) aj)) ay))
 (ak (dI (cV (.bool false)))
 aA)) 41 120 (ak (iC (lS (bV (aY (aB (cV (.bi .str)) (aa (af 120) aj) ay) .ne (aD (aD (cV (.str [72,101,97,100,101,114,32,110,97,109,101,115,47,118,97,108,117,101,115,32,109,117,115,116,32,98,101,32,111,102,32,116,121,112,101,32,115,116,114,32,40,103,111,116,32])) .add (aB (cV (.bi .str)) (aa (af 83) aj) ay)) .add (cV (.str [41]))))) (lS (bV (aY (aS (af 68) .items aj ay) .ne (cJ (af 110) (cV .none) (fZ (cV (.int 1))) (cV .none)))) (cC false))) (ak (dI (cV (.bool false)))
 aA) aA)
 aA))
theorem RW:(bk[21]?).map cS=some o9:=⋯
noncomputable def pg:CS:=(gh [121,122] (iB (aa (aS (aB (cV (.fn 19)) (aa (af 81) (aa (af 82) (aa (af 83) aj))) ay) .split (aa (cV (.str [13,10])) aj) ay) (aa sS aj))))
theorem RX:(bk[22]?).map cS=some pg:=⋯
noncomputable def pq:CS:=(jd (.one 125) (iV (cJ (af 121) (cV .none) (fZ (cV (.int 1))) (cV .none))) (ak (cD (nZ (bV (aD (af 83) .mod (cV (.int 2)))) (aB (cV (.fn 2)) (aa (af 122) (aa (af 125) (aa (cV (.int 0)) (aa (cV (.int 0)) aj)))) (jq 0 (cV (.lam 2)) ay)) (aB (cV (.fn 0)) (aa (af 122) (aa (af 125) (aa (cV (.int 0)) (aa (cV (.int 0)) aj)))) ay)))
 aA))
theorem RY:(bk[23]?).map cS=some pq:=⋯
noncomputable def pA:CS:=(bH 126 (cz [] (.one 125) (iV (af 122)) (cC true) (g1 (aD (aB (cV (.bi .len)) (aa (af 125) aj) ay) .sub (cV (.int 1))))))
theorem RZ:(bk[24]?).map cS=some pA:=⋯
noncomputable def pB:CS:=(iC (lS (bV (aY (af 121) .ne (aD (cJ (cz [97] (.two 77 72) (OW (af 126) (af 81)) (cC true) (g1 (aD (aD (cV (.str [46])) .mul (af 77)) .add (dH (af 97) (af 72))))) (cV .none) (cV .none) (fZ (cV (.int 1)))) .add (n6 (aa (cV (.str [])) aj))))) (lS (bV (aY (aB (cV (.fn 20)) (aa (cz [] (.two 50 77) (D7 (af 126)) (cC true) (g1 (aD (af 77) .add (af 50)))) (aa (af 66) aj)) ay) .ne (af 65))) (cC false))) (ak (dI (cV (.bool false)))
 aA) aA)
theorem R0:(bk[25]?).map cS=some pB:=⋯
noncomputable def pC:CS:=(gh [130,131] (iB (aa (aD (aD (cJ (af 122) (cV .none) (cV .none) (fZ (cV (.int 1)))) .add (af 122)) .add (cJ (af 122) (cV .none) (cV .none) (fZ (cV (.int 1))))) (aa (aB (cV (.bi .len)) (aa (af 122) aj) ay) aj))))
theorem R1:(bk[26]?).map cS=some pC:=⋯
noncomputable def pD:CS:=(bH 132 (cz [126,130,131] (.one 133) (jV (aa (aB (cV (.bi .max)) (aa (aD (n6 (aa (cV (.int 0)) aj)) .add (af 126)) aj) ay) aj)) (cC true) (g1 (nZ (bV (aY (aD (af 133) .mod (cV (.int 3))) .eq (cV (.int 1)))) (aB (cV (.fn 1)) (aa (af 126) (aa (af 133) aj)) ay) (aD (nZ (bV (aD (af 133) .mod (cV (.int 3)))) (aB (cV (.fn 1)) (aa (af 130) (aa (aD (af 133) .add (cV (.int 1))) (aa (af 131) (aa (aD (cV (.int 2)) .mul (af 131)) aj)))) (jq 0 (cV (.lam 3)) ay)) (aB (cV (.fn 3)) (aa (af 130) (aa (aD (af 133) .add (cV (.int 2))) (aa (af 131) (aa (aD (cV (.int 2)) .mul (af 131)) aj)))) (jq 0 (cV (.lam 4)) ay))) .sub (af 131))))))
theorem R2:(bk[27]?).map cS=some pD:=⋯
noncomputable def pF:CS:=(gh [134,135] (iB (aa (cJ (af 126) (cV .none) (cV .none) (fZ (cV (.int 1)))) (aa (cz [126] (.one 77) (iV (af 132)) (cC true) (g1 (aD (aB (cV (.bi .len)) (aa (af 126) aj) ay) .sub (af 77)))) aj))))
theorem R3:(bk[28]?).map cS=some pF:=⋯
noncomputable def pG:CS:=(CA (ak (cD (nZ (bV (aD (af 83) .mod (cV (.int 2)))) (aB (cV (.fn 2)) (aa (af 126) (aa (cV (.int 0)) (aa (aD (fZ (af 83)) .sub (cV (.int 1))) aj))) ay) (aB (cV (.fn 0)) (aa (af 126) (aa (cV (.int 0)) (aa (aD (fZ (af 83)) .sub (cV (.int 1))) aj))) ay)))
 (ak (dI (cV (.bool false)))
 aA)) 7 120 (ak (iC (lS (bV (aY (aB (cV (.bi .str)) (aa (af 120) aj) ay) .ne (cV (.str [108,111,32,109,117,115,116,32,98,101,32,110,111,110,45,110,101,103,97,116,105,118,101])))) (lS (bV (aY (cJ (af 126) (cV .none) (cV .none) (fZ (cV (.int 1)))) .ne (af 134))) (cC false))) (ak (dI (cV (.bool false)))
 aA) aA)
 aA))
theorem R4:(bk[29]?).map cS=some pG:=⋯
noncomputable def pH:CS:=(bH 136 (cz [135,134] (.one 137) (jV (aa (aB (cV (.bi .len)) (aa (af 134) aj) ay) aj)) (cC true) (g2 (.one 133) (jV (aa (dH (af 134) (af 137)) aj)) (cC true) (g1 (aD (aD (aD (aD (dH (af 134) (af 137)) .sub (af 133)) .add (dH (af 135) (af 133))) .sub (af 137)) .sub (cV (.int 1)))))))
theorem R5:(bk[30]?).map cS=some pH:=⋯
noncomputable def pI:CS:=(iC (bV (aY (aB (cV (.bi .sorted)) (aa (af 136) aj) ay) .ne (aB (cV (.bi .sorted)) (aa (cz [67] (.one 72) (iV (af 81)) (cC true) (g2 (.one 77) (iV (af 67)) (jU (bV (aY (af 77) .lt (af 72))) (cC true)) (g1 (aD (af 72) .sub (af 77))))) aj) ay))) (ak (dI (cV (.bool false)))
 aA) aA)
theorem R6:(bk[31]?).map cS=some pI:=⋯
noncomputable def pJ:CS:=(dI (aY (aB (cV (.fn 19)) (aa (af 108) (aa (cJ (af 82) (cV .none) (cV .none) (fZ (cV (.int 1)))) (aa (aD (af 83) .add (cV (.int 1))) aj))) ay) .eq (aS (cV (.str [])) .join (aa (cz [126,97] (.two 133 72) (D7 (cJ (af 108) (cV .none) (cV .none) (fZ (cV (.int 1))))) (cC true) (g1 (aD (aD (aD (cV (.str [46])) .mul (aB (cV (.bi .len)) (aa (cz [133] (.one 77) (iV (af 126)) (jU (bV (aY (af 77) .gt (af 133))) (cC true)) (g1 (af 77))) aj) ay)) .add (dH (af 97) (af 72))) .add (cV (.str [13,10]))))) aj) ay)))
theorem R7:(bk[32]?).map cS=some pJ:=⋯
end
noncomputable section
structure O2 where
 params:List Nat
 kwonly:List Nat
 Va:aR
 kwarg:Option Nat
 code:CS
noncomputable def jH:aR:=[(1,.int 0),(5,.none),(0,.none)]
noncomputable def LW:List O2:=[
 ⟨[3,4,1,5],[0],jH,none,iO⟩,
 ⟨[3,4,1,5],[0],jH,none,iP⟩,
 ⟨[3,4,1,5],[0],jH,none,jD⟩,
 ⟨[3,4,1,5],[0],jH,none,jE⟩,
 ⟨[11],[],[],none,bl⟩,
 ⟨[11],[],[],none,cB⟩,
 ⟨[24],[],[],none,bR⟩,
 ⟨[30],[],[],none,lU⟩,
 ⟨[32],[],[],none,gQ⟩,
 ⟨[30],[],[],none,lV⟩,
 ⟨[44,34],[37],[],none,dg⟩,
 ⟨[44,37],[],[],none,lW⟩,
 ⟨[44],[],[],none,uG⟩,
 ⟨[44],[],[],none,qY⟩,
 ⟨[44,57,52],[],[],some 53,iR⟩,
 ⟨[60],[],[],none,gq⟩,
 ⟨[65,66],[],[],none,iS⟩,
 ⟨[65,66],[],[],none,lY⟩,
 ⟨[75],[],[],none,lZ⟩,
 ⟨[81,82,83],[],[],none,l5⟩,
 ⟨[81,66],[],[],none,jG⟩]
noncomputable def O3:List (Nat×CE):=[
 (77,aS (af 77) .lower aj ay),
 (77,aS (af 77) .lower aj ay),
 (77,af 77),
 (125,aB (cV (.bi .len)) (aa (af 125) aj) ay),
 (125,aB (cV (.bi .len)) (aa (af 125) aj) ay)]
noncomputable def O4(l:List Nat):List V→Option aR:=
 @aaB Nat (fun _=>List V→Option aR) (fun m=>@aaB V (fun _=>Option aR) (some []) (fun _ _ _=>none) m)
  (fun x _ ih m=>@aaB V (fun _=>Option aR) (some []) (fun v t _=>aT (ih t) fun r=>some ((x,v)::r)) m) l
noncomputable def Vb(x:Nat)(l:List Nat):Bool:=@aaB Nat (fun _=>Bool) false (fun y _ ih=>az (aap x y) true ih) l
noncomputable def N1(names:List Nat)(l:aR):aR→Option aR:=
 @aaB (Nat×V) (fun _=>aR→Option aR) (fun g=>some g) (fun p _ ih g=>az (Vb p.1 names) (match aK p.1 g with
  |none=>ih (au g [p])
  |some _=>none) none) l
noncomputable def HZ(given Va:aR)(l:List Nat):Option aR:=
 @aaB Nat (fun _=>Option aR) (some []) (fun x _ ih=>aT ih fun r=>match aK x given with
  |some v=>some ((x,v)::r)
  |none=>aT (aK x Va) fun v=>some ((x,v)::r)) l
noncomputable def uI(f:O2)(pos:List V)(kws:aR):Option aR:=
 aT (O4 f.params pos) fun g=>aT (N1 f.kwonly kws g) fun g=>
  aT (HZ g f.Va (au f.params f.kwonly)) fun r=>match f.kwarg with
   |some x=>some (au r [(x,.dct)])
   |none=>some r
noncomputable def yT(r:R Fl):R V:=match r with
 |.ok f H=>match f with
  |.on _=>.ok .none H
  |.back v=>.ok v H
 |.exc c m H=>.exc c m H
 |.bad=>.bad
noncomputable def H8(C:Cx)(p:Nat×CE)(pos:List V)(kws:aR)(H:HP):R V:=match pos,kws with
 |[v],[]=>match p.2 C [(p.1,v)] H with
  |.ok w H=>.ok w H
  |_=>.bad
 |_,_=>.bad
noncomputable def xu(C:Cx)(k:Nat)(pos:List V)(kws:aR)(H:HP):R V:=match jR LW k with
 |some d=>match uI d pos kws with
  |some r=>yT (d.code C r H)
  |none=>.bad
 |none=>az (aap k 21) (match pos,kws with
  |[],[]=>az (bh b9 C.lk) (.ok (.inst (aC H)) (au H [[]])) .bad
  |_,_=>.bad)
  (match jR O3 (k - 100) with
   |some p=>H8 C p pos kws H
   |none=>.bad)
noncomputable def iD(par:Bool)(n:Nat):Nat→List V→aR→List Nat→HP→R V:=
 ach (fun _ _ _ _ _=>.bad) (fun _ p k pos kws lk H=>xu ⟨par,p,lk⟩ k pos kws H) n
noncomputable def cx(par:Bool):Cx:=⟨par,iD par 6,[]⟩
noncomputable def uJ:List CS→CS
 |[]=>aA
 |s::l=>ak s (uJ l)
noncomputable def XK:List CS:=[yJ,yK,yL,yM,yN,yO,yP,yQ,yR,yS,tW,tY,tZ,t6,t7,oZ,o4,o5,o6,o7,o8,o9,pg,pq,pA,pB,pC,pD,pF,pG,pH,pI,pJ]
noncomputable def Us:CS:=uJ [t6,t7,oZ,o4,o5,o6,o7,o8,o9,pg,pq,pA,pB,pC,pD,pF,pG,pH,pI,pJ]
end
noncomputable def bu(l:List Nat):Str:=⟨l.toArray⟩
noncomputable def nm(x:Nat):Str:=HY.getD x (bu [])
noncomputable def aJ(sc:List (Nat×aam)):Scope:=⟨.function,sc.map fun p=>(nm p.1,p.2),false,false,[]⟩
noncomputable def dT:T→Expr
 |.one x p=>.Name (nm x) p
 |.two x px y py p=>.Tuple [.Name (nm x) px,.Name (nm y) py] 0 p
noncomputable def ku(x:Nat)(px:Pos):Arguments:=⟨[],[⟨nm x,none,px⟩],none,[],[],none,[]⟩
mutual
noncomputable def dE:E→Expr
 |.kN p=>.Constant .none 0 p
 |.kB b p=>.Constant (.bool b) 0 p
 |.kI i p=>.Constant (.int i) 0 p
 |.kS s p=>.Constant (.str (bu s)) 0 p
 |.kY b p=>.Constant (.bytes b) 0 p
 |.nm x p=>.Name (nm x) p
 |.gl x p=>.Name (nm x) p
 |.As c l p=>.BoolOp (match c with|true=>.And|false=>.Or) (fT l) p
 |.bin a o b p=>.BinOp (dE a) o.py (dE b) p
 |.neg a p=>.UnaryOp .USub (dE a) p
 |.nt a p=>.UnaryOp .Not (dE a) p
 |.lam _ x px b sc p=>.Lambda (ku x px) (dE b) (aJ sc) p
 |.ite t a b p=>.IfExp (dE t) (dE a) (dE b) p
 |.cmp a o b p=>.Compare (dE a) [o.py] [dE b] p
 |.lst l p=>.List (fT l) p
 |.tup l p=>.Tuple (fT l) 0 p
 |.comp e gs sc p=>.ListComp (dE e) (N7 gs) (aJ sc) p
 |.call f as ks p=>.Call (dE f) (fT as) (rX ks) p
 |.bA o n ap as ks p=>.Call (.Attribute (dE o) (nm n) ap) (fT as) (rX ks) p
 |.attr o n p=>.Attribute (dE o) (nm n) p
 |.sub o i p=>.Subscript (dE o) (dE i) p
 |.slc o l u s sp p=>.Subscript (dE o) (.Slice (dO l) (dO u) (dO s) sp) p
noncomputable def fT:List E→List Expr
 |[]=>[]
 |e::l=>dE e::fT l
noncomputable def dO:Option E→Option Expr
 |none=>none
 |some e=>some (dE e)
noncomputable def rX:List K→List Keyword
 |[]=>[]
 |k::l=>dK k::rX l
noncomputable def dK:K→Keyword
 |.mk x e p=>⟨some (nm x),dE e,p⟩
noncomputable def N7:List G→List Comprehension
 |[]=>[]
 |g::l=>dG g::N7 l
noncomputable def dG:G→Comprehension
 |.mk t it ifs=>⟨dT t,dE it,fT ifs,0⟩
end
mutual
noncomputable def dS:S→Stmt
 |.expr e p=>.Expr (dE e) p
 |.asg x px e p=>.Assign [.Name (nm x) px] (dE e) p
 |.kj xs pt e p=>.Assign [.Tuple (xs.map fun q=>.Name (nm q.1) q.2) 0 pt] (dE e) p
 |.aug x px o e p=>.AugAssign (.Name (nm x) px) o.py (dE e) p
 |.ifs t b o p=>.If (dE t) (gR b) (gR o) p
 |.Cv t b p=>.While (dE t) (gR b) [] p
 |.lO t it b p=>.For (dT t) (dE it) (gR b) [] p
 |.ret e p=>.Return (some (dE e)) p
 |.Cw e p=>.Raise (some (dE e)) none p
 |.Cy b ty x hb hp p=>.Try (gR b) [.ExceptHandler (some (dE ty)) (some (nm x)) (gR hb) hp] [] [] p
noncomputable def gR:List S→List Stmt
 |[]=>[]
 |s::l=>dS s::gR l
end
noncomputable def fdOf:Stmt→Arguments×List Stmt×Scope
 |.FunctionDef _ a b _ _ _ sc _ _ _=>(a,b,sc)
 |_=>(⟨[],[],none,[],[],none,[]⟩,[],⟨.module,[],false,false,[]⟩)
noncomputable def aq(i:Nat):Arguments×List Stmt×Scope:=fdOf ((PySem.Challenge.pw_ta0097_01.main.body[i]?).getD (.Pass ⟨0,0,0,0⟩))
noncomputable def aW(i:Nat):Arguments×List Stmt×Scope:=fdOf (((match PySem.Challenge.pw_ta0097_01.main.body[25]? with|some (Stmt.ClassDef _ _ _ b _ _ _ _ _ _ _)=>b|_=>([]:List Stmt))[i]?).getD (.Pass ⟨0,0,0,0⟩))
theorem sY:gR eH=(aq 3).2.1:=⋯
theorem sZ:gR eN=(aq 4).2.1:=⋯
theorem uK:gR fB=(aq 5).2.1:=⋯
theorem uL:gR fC=(aq 6).2.1:=⋯
theorem iT:gR bF=(aq 9).2.1:=⋯
theorem lF:gR cA=(aq 10).2.1:=⋯
theorem jI:gR bQ=(aq 11).2.1:=⋯
theorem yU:gR ie=(aq 17).2.1:=⋯
theorem pK:gR dJ=(aq 18).2.1:=⋯
theorem yV:gR ig=(aq 19).2.1:=⋯
theorem wQ:gR gj=(aq 27).2.1:=⋯
theorem s8:gR eT=(aq 28).2.1:=⋯
theorem yW:gR iu=(aq 29).2.1:=⋯
theorem yX:gR iw=(aq 30).2.1:=⋯
theorem yY:gR iy=(aq 31).2.1:=⋯
theorem uM:gR fD=(aq 32).2.1:=⋯
theorem O5:gR bk=(aq 33).2.1:=⋯
theorem jf:gR bK=(aW 1).2.1:=⋯
theorem yZ:gR ir=(aW 7).2.1:=⋯
theorem Fy:gR lT=(aW 9).2.1:=⋯
theorem CF:gR jW=(aW 11).2.1:=⋯
theorem s9:gR eO=(aW 16).2.1:=⋯
open PySem.W PyProof.Rows
structure Th where
 T:Int
 en:Nat→List Nat
noncomputable def Th.fG(Θ:Th)(c:Nat):List Nat:=
 if c<1114112 then[c] else if c=1114112 then(Z9 (toString Θ.T)).cps.toList else Θ.en (c - 1114113)
noncomputable def Th.expand(Θ:Th)(l:List Nat):List Nat:=l.flatMap Θ.fG
noncomputable def fH(l:List Nat):Array UInt8:=(l.map fun c=>aer c).toArray
noncomputable def fu(k:Nat):Addr:=[47,56,65,74,88,95,102,124,131,138,183,221,234,246,279,291,296,303,310,317,324,282].getD k 0
noncomputable def kD:Pt→Addr
 |.dot=>107|.xm=>117|.qT=>112|.rU=>148|.Au=>153
noncomputable def xw:Bi→aac
 |.len=>.builtin "len"|.type=>.type "type"|.str=>.type "str"|.repr=>.builtin "repr"|.min=>.builtin "min"|.max=>.builtin "max"
 |.sum=>.builtin "sum"|.sorted=>.builtin "sorted"|.OJ=>.type "ValueError"|.OL=>.type "AssertionError"|.int=>.type "int"
noncomputable def dz(c:Nat):String:=if c=7 then "ValueError" else "AssertionError"
noncomputable def hdr:Str:=Z9 "_headers"
noncomputable def jX:List (Nat×Pos×E×List (Nat×aam)):=[
 (77,ps 241 48 241 51,.bA (.nm 77 (ps 241 53 241 56)) 46 (ps 241 53 241 62) [] [] (ps 241 53 241 64),[(77,.local)]),
 (77,ps 243 47 243 50,.bA (.nm 77 (ps 243 52 243 55)) 46 (ps 243 52 243 61) [] [] (ps 243 52 243 63),[(77,.local)]),
 (77,ps 303 7 303 10,.nm 77 (ps 303 12 303 15),[(77,.local)]),
 (125,ps 309 7 309 10,.call (.gl 8 (ps 309 12 309 15)) [.nm 125 (ps 309 16 309 19)] [] (ps 309 12 309 20),[(125,.local),(8,.globalImplicit)]),
 (125,ps 310 7 310 10,.call (.gl 8 (ps 310 12 310 15)) [.nm 125 (ps 310 16 310 19)] [] (ps 310 12 310 20),[(125,.local),(8,.globalImplicit)])]
theorem Fz:jX.map (fun p=>(p.1,cE p.2.2.1))=O3:=rfl
structure N8(k:Nat)(fd:FuncData)(q:Nat×Pos×E×List (Nat×aam)):Prop where
 at_:jX[k]?=some q
 params:fd.params=ku q.1 q.2.1
 body:fd.body=.expr (dE q.2.2.1)
 scope:fd.scope=aJ q.2.2.2
 closure:fd.closure=[]
 globals:fd.globals=mainGlobals
 builtins:fd.builtins=builtinsNs
 defaults:fd.defaults=.none
 kwdefaults:fd.kwdefaults=.none
noncomputable def LstAt(h:aal)(a:Addr)(items:Array aac):Prop:=∃n,h.get? a=some {cls:=.type "list",dict:=none,data:=.seq items n,slots:=#[]}
theorem LstAt.isList{h:aal}{a:Addr}{items:Array aac}(x:LstAt h a items):h.IsList a items:=by obtain⟨n,e⟩:=x;exact⟨_,e,rfl,n,rfl⟩
theorem LstAt.get{h:aal}{a:Addr}{items:Array aac}(x:LstAt h a items):∃o,h.get? a=some o:=by obtain⟨_,e⟩:=x;exact⟨_,e⟩
theorem wR{h:aal}{a:Addr}{P:Obj→Prop}(x:∃o,h.get? a=some o∧P o):∃o,h.get? a=some o:=by obtain⟨o,e,_⟩:=x;exact⟨o,e⟩
inductive VNone:aac→Prop
 |none:VNone .none
inductive VBool(b:Bool):aac→Prop
 |bool:VBool b (.bool b)
inductive VInt(i:Int):aac→Prop
 |int(t:Tok):VInt i (.int i t)
inductive VStr(l:List Nat):aac→Prop
 |str(t:Tok):VStr l (.str (bu l) t)
inductive VByt(l:List Nat):aac→Prop
 |m7(t:Tok):VByt l (.bytes (fH l) t)
inductive VTup(P:List aac→Prop)(h:aal)(X:List Addr):aac→Prop
 |tup{a:Addr}{xs:List aac}(ha:h.IsTuple a xs.toArray)(hX:a∉X)(hl:P xs):VTup P h X (.ref a)
inductive VLst(P:List aac→Prop)(h:aal)(X:List Addr):aac→Prop
 |lst{a:Addr}{xs:List aac}(ha:LstAt h a xs.toArray)(hX:a∉X)(hl:P xs):VLst P h X (.ref a)
inductive VRef(μ:List Addr)(n:Nat):aac→Prop
 |ref{a:Addr}(hn:μ[n]?=some a):VRef μ n (.ref a)
inductive VInst(h:aal)(μ X:List Addr)(n:Nat):aac→Prop
 |inst{a dx r:Addr}{es:List DictEntry}{k:Nat}(hn:μ[n]?=some r)(ha:h.get? a=some {cls:=.ref 282,dict:=some dx,data:=.plain,slots:=#[]})
  (hx:h.get? dx=some (adk es k)) (hv:∀name,getL name es=some (if name=hdr then some (.ref r) else none)) (hX:a∉X) (tn:dx∉X):VInst h μ X n (.ref a)
inductive VFn(k:Nat):aac→Prop
 |fn(hk:k<22):VFn k (.ref (fu k))
inductive VLam(h:aal)(X:List Addr)(k:Nat):aac→Prop
 |lam{a c:Addr}{o oc:Obj}{vs:Array aac}{t:Tok}{fd:FuncData}{q:Nat×Pos×E×List (Nat×aam)}(ha:h.get? a=some o)(hd:o.data=.func fd)(hf:N8 k fd q)
  (hk:fd.code=.ref c) (hc:h.get? c=some oc) (hcd:oc.data=.fields vs) (hq:vs[1]?=some (.str fd.qualname t)) (hX:a∉X) (tn:c∉X):VLam h X k (.ref a)
inductive VPat(p:Pt):aac→Prop
 |pat:VPat p (.ref (kD p))
inductive VBi(b:Bi):aac→Prop
 |bi:VBi b (xw b)
inductive VDct(h:aal)(X:List Addr):aac→Prop
 |dct{a:Addr}{n:Nat}(ha:h.get? a=some {cls:=.type "dict",dict:=none,data:=.dict #[] n,slots:=#[]}) (hs:(a==sysModules)=false) (hX:a∉X):VDct h X (.ref a)
inductive VTot(Θ:Th)(k:Int):aac→Prop
 |tot(t:Tok):VTot Θ k (.int (Θ.T+k) t)
inductive VNtot(Θ:Th)(k:Int):aac→Prop
 |lD(t:Tok):VNtot Θ k (.int (-Θ.T+k) t)
inductive VSym(Θ:Th)(l:List Nat):aac→Prop
 |sym(t:Tok):VSym Θ l (.str (bu (Θ.expand l)) t)
inductive VErr(P:aac→Prop)(h:aal)(X:List Addr)(c:Nat):aac→Prop
 |err{e ta:Addr}{o:Obj}{vs:Array aac}{x:aac}(he:h.get? e=some o)(hc:o.cls=.type (dz c))(hd:o.data=.fields vs)(h0:vs[0]?=some (.ref ta))(ht:h.IsTuple ta #[x]) (hm:P x)
  (hX:e∉X) (tn:ta∉X):VErr P h X c (.ref e)
inductive VNil:List aac→Prop
 |nil:VNil []
inductive VCons(p:aac→Prop)(ps:List aac→Prop):List aac→Prop
 |cons{x:aac}{xs:List aac}(hv:p x)(hl:ps xs):VCons p ps (x::xs)
noncomputable def VR(Θ:Th)(h:aal)(μ X:List Addr)(v:V):aac→Prop:=@V.rec (fun _=>aac→Prop) (fun _=>List aac→Prop) VNone VBool VInt VStr VByt (fun _ p=>VTup p h X) (fun _ p=>VLst p h X) (VRef μ) (VInst h μ X) VFn (VLam h X) VPat VBi (VDct h X) (VTot Θ) (VNtot Θ) (VSym Θ) (fun c _ p=>VErr p h X c) VNil (fun _ _ p ps=>VCons p ps) v
noncomputable def VRs(Θ:Th)(h:aal)(μ X:List Addr)(l:List V):List aac→Prop:=@V.rec_1 (fun _=>aac→Prop) (fun _=>List aac→Prop) VNone VBool VInt VStr VByt (fun _ p=>VTup p h X) (fun _ p=>VLst p h X) (VRef μ) (VInst h μ X) VFn (VLam h X) VPat VBi (VDct h X) (VTot Θ) (VNtot Θ) (VSym Θ) (fun c _ p=>VErr p h X c) VNil (fun _ _ p ps=>VCons p ps) l
section
variable{Θ:Th}{h:aal}{μ X:List Addr}
theorem VR.none:VR Θ h μ X .none .none:=VNone.none
theorem VR.bool(b:Bool):VR Θ h μ X (.bool b) (.bool b):=VBool.bool
theorem VR.int(i:Int)(t:Tok):VR Θ h μ X (.int i) (.int i t):=VInt.int t
theorem VR.str(l:List Nat)(t:Tok):VR Θ h μ X (.str l) (.str (bu l) t):=VStr.str t
theorem VR.m7(l:List Nat)(t:Tok):VR Θ h μ X (.m7 l) (.bytes (fH l) t):=VByt.m7 t
theorem VR.tup{l:List V}{a:Addr}{xs:List aac}(ha:h.IsTuple a xs.toArray)(hX:a∉X)(hl:VRs Θ h μ X l xs):VR Θ h μ X (.tup l) (.ref a):=VTup.tup ha hX hl
theorem VR.lst{l:List V}{a:Addr}{xs:List aac}(ha:LstAt h a xs.toArray)(hX:a∉X)(hl:VRs Θ h μ X l xs):VR Θ h μ X (.lst l) (.ref a):=VLst.lst ha hX hl
theorem VR.ref{n:Nat}{a:Addr}(hn:μ[n]?=some a):VR Θ h μ X (.ref n) (.ref a):=VRef.ref hn
theorem VR.inst{n:Nat}{a dx r:Addr}{es:List DictEntry}{k:Nat}(hn:μ[n]?=some r)(ha:h.get? a=some {cls:=.ref 282,dict:=some dx,data:=.plain,slots:=#[]}) (hx:h.get? dx=some (adk es k)) (hv:∀name,getL name es=some (if name=hdr then some (.ref r) else ahA)) (hX:a∉X) (tn:dx∉X):VR Θ h μ X (.inst n) (.ref a):=VInst.inst hn ha hx hv hX tn
theorem VR.fn(k:Nat)(hk:k<22):VR Θ h μ X (.fn k) (.ref (fu k)):=VFn.fn hk
theorem VR.lam{k:Nat}{a c:Addr}{o oc:Obj}{vs:Array aac}{t:Tok}{fd:FuncData}{q:Nat×Pos×E×List (Nat×aam)}(ha:h.get? a=some o)(hd:o.data=.func fd)(hf:N8 k fd q)(hk:fd.code=.ref c)(hc:h.get? c=some oc)(hcd:oc.data=.fields vs)(hq:vs[1]?=some (.str fd.qualname t))(hX:a∉X)(tn:c∉X):VR Θ h μ X (.lam k) (.ref a):=VLam.lam ha hd hf hk hc hcd hq hX tn
theorem VR.pat(p:Pt):VR Θ h μ X (.pat p) (.ref (kD p)):=VPat.pat
theorem VR.bi(b:Bi):VR Θ h μ X (.bi b) (xw b):=VBi.bi
theorem VR.dct{a:Addr}{n:Nat}(ha:h.get? a=some {cls:=.type "dict",dict:=ahA,data:=.dict #[] n,slots:=#[]}) (hs:(a==sysModules)=false) (hX:a∉X):VR Θ h μ X .dct (.ref a):=VDct.dct ha hs hX
theorem VR.tot(k:Int)(t:Tok):VR Θ h μ X (.tot k) (.int (Θ.T+k) t):=VTot.tot t
theorem VR.lD(k:Int)(t:Tok):VR Θ h μ X (.lD k) (.int (-Θ.T+k) t):=VNtot.lD t
theorem VR.sym(l:List Nat)(t:Tok):VR Θ h μ X (.sym l) (.str (bu (Θ.expand l)) t):=VSym.sym t
theorem VR.err{c:Nat}{m:V}{e ta:Addr}{o:Obj}{vs:Array aac}{x:aac}(he:h.get? e=some o)(hc:o.cls=.type (dz c))(hd:o.data=.fields vs)(h0:vs[0]?=some (.ref ta))(ht:h.IsTuple ta #[x]) (hm:VR Θ h μ X m x) (hX:e∉X) (tn:ta∉X):VR Θ h μ X (.err c m) (.ref e):=VErr.err he hc hd h0 ht hm hX tn
theorem VRs.nil:VRs Θ h μ X [] []:=VNil.nil
theorem VRs.cons{v:V}{x:aac}{l:List V}{xs:List aac}(hv:VR Θ h μ X v x)(hl:VRs Θ h μ X l xs):VRs Θ h μ X (v::l) (x::xs):=VCons.cons hv hl
end
noncomputable def Vc(Θ:Th)(h:aal)(μ X:List Addr)(v:V):aac→Prop:=match v with
 |.none=>VNone
 |.bool b=>VBool b
 |.int i=>VInt i
 |.str l=>VStr l
 |.m7 l=>VByt l
 |.tup l=>VTup (VRs Θ h μ X l) h X
 |.lst l=>VLst (VRs Θ h μ X l) h X
 |.ref n=>VRef μ n
 |.inst n=>VInst h μ X n
 |.fn k=>VFn k
 |.lam k=>VLam h X k
 |.pat p=>VPat p
 |.bi b=>VBi b
 |.dct=>VDct h X
 |.tot k=>VTot Θ k
 |.lD k=>VNtot Θ k
 |.sym l=>VSym Θ l
 |.err c m=>VErr (VR Θ h μ X m) h X c
theorem VR.inv{Θ:Th}{h:aal}{μ X:List Addr}{v:V}{u:aac}(q:VR Θ h μ X v u):Vc Θ h μ X v u:=by
 cases v<;>exact q
noncomputable def R8(Θ:Th)(h:aal)(μ X:List Addr)(l:List V):List aac→Prop:=match l with
 |[]=>VNil
 |v::l=>VCons (VR Θ h μ X v) (VRs Θ h μ X l)
theorem VRs.inv{Θ:Th}{h:aal}{μ X:List Addr}{l:List V}{xs:List aac}(q:VRs Θ h μ X l xs):R8 Θ h μ X l xs:=by
 cases l<;>exact q
section
variable{Θ:Th}{h:aal}{μ X:List Addr}{v:V}{l:List V}{us:List aac}
theorem VRs.more(q:VRs Θ h μ X (v::l) us):∃u ut,us=u::ut∧VR Θ h μ X v u∧VRs Θ h μ X l ut:=by
 cases q.inv with
 |cons q1 q2=>exact⟨_,_,rfl,q1,q2⟩
theorem VRs.zero(q:VRs Θ h μ X [] us):us=[]:=by cases q.inv;rfl
theorem VRs.one(q:VRs Θ h μ X [v] us):∃u,us=[u]∧VR Θ h μ X v u:=by
 obtain⟨u,ut,rfl,q1,q2⟩:=q.more
 exact⟨u,congrArg _ q2.zero,q1⟩
theorem VRs.two{v':V}(q:VRs Θ h μ X [v,v'] us):∃u u',us=[u,u']∧VR Θ h μ X v u∧VR Θ h μ X v' u':=by
 obtain⟨u,ut,rfl,q1,q2⟩:=q.more
 obtain⟨u',rfl,q2⟩:=q2.one
 exact⟨u,u',rfl,q1,q2⟩
end
noncomputable def Grows(h:aal)(μ aG:List Addr):Prop:=∃ν,aG=μ++ν∧∀a∈ν,h.get? a=none
theorem Grows.refl{h:aal}{μ:List Addr}:Grows h μ μ:=⟨[],by simp,by simp⟩
theorem Grows.at{h:aal}{μ aG:List Addr}(g:Grows h μ aG){n:Nat}{a:Addr}(e:μ[n]?=some a):aG[n]?=some a:=by
 obtain⟨ν,rfl,_⟩:=g
 rw[aci (aay.mp e).1];exact e
theorem Grows.sub{h:aal}{μ aG:List Addr}(g:Grows h μ aG){a:Addr}(e:a∈μ):a∈aG:=by
 obtain⟨ν,rfl,_⟩:=g
 exact aaT _ e
theorem Grows.gS{h:aal}{μ aG:List Addr}(g:Grows h μ aG){a:Addr}{o:Obj}(ha:h.get? a=some o)(hm:a∉μ):a∉aG:=by
 obtain⟨ν,rfl,hf⟩:=g
 intro h'
 rcases aaW.mp h' with x|x
 ·exact hm x
 ·rw[hf a x] at ha;cases ha
theorem Grows.back{h:aal}{μ aG:List Addr}(g:Grows h μ aG){n:Nat}{a:Addr}{o:Obj}(ha:h.get? a=some o)(e:aG[n]?=some a):μ[n]?=some a:=by
 obtain⟨ν,rfl,hf⟩:=g
 by_cases hn:n<μ.length
 ·rwa[aci hn] at e
 ·rw[abA (abt.mp hn)] at e
  rw[hf a (aaU e)] at ha;cases ha
theorem Grows.one{h:aal}{μ:List Addr}{a:Addr}(ha:h.get? a=none):Grows h μ (μ++[a]):=⟨[a],rfl,by simpa using ha⟩
theorem Grows.trans{h h':aal}{μ aG bZ:List Addr}(g:Grows h μ aG)(k:∀a o,h.get? a=some o→∃o',h'.get? a=some o')(g':Grows h' aG bZ):Grows h μ bZ:=by
 obtain⟨ν,rfl,hf⟩:=g
 obtain⟨Vd,rfl,hf'⟩:=g'
 refine⟨ν++Vd,by simp,fun a ha=>?_⟩
 rcases aaW.mp ha with x|x
 ·exact hf a x
 ·cases e:h.get? a with
  |none=>rfl
  |some o=>obtain⟨o',e'⟩:=k a o e;rw[hf' a x] at e';cases e'
theorem bW{h h':aal}{a:Addr}{vs:Array aac}(x:h.IsTuple a vs)(k:∀o,h.get? a=some o→h'.get? a=some o):h'.IsTuple a vs:=
 by obtain⟨o,e,r⟩:=x;exact⟨o,k o e,r⟩
theorem bS{h h':aal}{a:Addr}{vs:Array aac}(x:LstAt h a vs)(k:∀o,h.get? a=some o→h'.get? a=some o):LstAt h' a vs:=
 by obtain⟨n,e⟩:=x;exact⟨n,k _ e⟩
theorem VR.map{Θ:Th}{h h':aal}{μ aG X X':List Addr}(K:∀a o,h.get? a=some o→a∉X→h'.get? a=some o)(g:∀{n:Nat}{a:Addr},μ[n]?=some a→aG[n]?=some a)(gX:∀{a:Addr}{o:Obj},h.get? a=some o→a∉X→a∉X'){v:V}{x:aac}(r:VR Θ h μ X v x):VR Θ h' aG X' v x:=by
 revert r
 revert x
 refine@V.rec (fun v=>∀x,VR Θ h μ X v x→VR Θ h' aG X' v x) (fun l=>∀xs,VRs Θ h μ X l xs→VRs Θ h' aG X' l xs) (fun _ q=>q) (fun _ _ q=>q) (fun _ _ q=>q) (fun _ _ q=>q) (fun _ _ q=>q) (fun l ih x q=>?_) (fun l ih x q=>?_) (fun n x q=>?_) (fun n x q=>?_)
  (fun _ _ q=>q) (fun k x q=>?_) (fun _ _ q=>q) (fun _ _ q=>q) (fun x q=>?_) (fun _ _ q=>q) (fun _ _ q=>q) (fun _ _ q=>q) (fun c m ih x q=>?_) (fun _ q=>q) (fun v l i1 i2 xs q=>?_) v
 ·cases q.inv with
  |tup ha hX hl=>exact .tup (bW ha fun o e=>K _ o e hX) ((wR ha).elim fun _ e=>gX e hX) (ih _ hl)
 ·cases q.inv with
  |lst ha hX hl=>exact .lst (bS ha fun o e=>K _ o e hX) (ha.get.elim fun _ e=>gX e hX) (ih _ hl)
 ·cases q.inv with
  |ref hn=>exact .ref (g hn)
 ·cases q.inv with
  |inst hn ha hx hv hX tn=>exact .inst (g hn) (K _ _ ha hX) (K _ _ hx tn) hv (gX ha hX) (gX hx tn)
 ·cases q.inv with
  |lam ha hd hf hk hc hcd hq hX tn=>exact .lam (K _ _ ha hX) hd hf hk (K _ _ hc tn) hcd hq (gX ha hX) (gX hc tn)
 ·cases q.inv with
  |@dct a n ha hs hX=>exact .dct (K a _ ha hX) hs (gX ha hX)
 ·cases q.inv with
  |err he hc hd h0 ht hm hX tn=>exact .err (K _ _ he hX) hc hd h0 (bW ht fun o e=>K _ o e tn) (ih _ hm) (gX he hX) ((wR ht).elim fun _ e=>gX e tn)
 ·cases q.inv with
  |cons hv hl=>exact .cons (i1 _ hv) (i2 _ hl)
theorem VRs.map{Θ:Th}{h h':aal}{μ aG X X':List Addr}(f:∀{v:V}{x:aac},VR Θ h μ X v x→VR Θ h' aG X' v x){l:List V}{xs:List aac}(r:VRs Θ h μ X l xs):VRs Θ h' aG X' l xs:=by
 induction l generalizing xs with
 |nil=>cases r.inv;exact .nil
 |cons v l ih=>cases r.inv with
  |cons hv hl=>exact .cons (f hv) (ih hl)
theorem VR.mono{Θ:Th}{h h':aal}{μ aG X X':List Addr}(K:∀a o,h.get? a=some o→a∉X→h'.get? a=some o)(g:Grows h μ aG)(gX:Grows h X X'){v:V}{x:aac}(r:VR Θ h μ X v x):VR Θ h' aG X' v x:=r.map K g.at gX.gS
theorem VRs.mono{Θ:Th}{h h':aal}{μ aG X X':List Addr}(K:∀a o,h.get? a=some o→a∉X→h'.get? a=some o)(g:Grows h μ aG)(gX:Grows h X X'){l:List V}{xs:List aac}(r:VRs Θ h μ X l xs):VRs Θ h' aG X' l xs:=r.map (VR.map K g.at gX.gS)
theorem VRs.length{Θ:Th}{h:aal}{μ X:List Addr}{l:List V}{xs:List aac}(q:VRs Θ h μ X l xs):xs.length=l.length:=by
 induction l generalizing xs with
 |nil=>cases q.inv;rfl
 |cons v l ih=>cases q.inv with
  |cons hv hl=>exact congrArg (· +1) (ih hl)
theorem VRs.get{Θ:Th}{h:aal}{μ X:List Addr}{l:List V}{xs:List aac}(q:VRs Θ h μ X l xs){i:Nat}{v:V}(e:l[i]?=some v):∃x,xs[i]?=some x∧VR Θ h μ X v x:=by
 induction l generalizing xs i with
 |nil=>simp at e
 |cons u l ih=>cases q.inv with
  |cons hv hl=>cases i with
   |zero=>simp at e;subst e;exact⟨_,rfl,hv⟩
   |succ i=>simpa using ih hl (by simpa using e)
theorem VRs.append{Θ:Th}{h:aal}{μ X:List Addr}{l l':List V}{xs xs':List aac}(q:VRs Θ h μ X l xs)(q':VRs Θ h μ X l' xs'):VRs Θ h μ X (l++l') (xs++xs'):=by
 induction l generalizing xs with
 |nil=>cases q.inv;exact q'
 |cons v l ih=>cases q.inv with
  |cons hv hl=>exact .cons hv (ih hl)
noncomputable def tabs:List (Addr×Addr):=[(309,305),(328,326)]
noncomputable def ao:List Addr:=[305,326]
noncomputable def Wr(lk:List Nat)(μ:List Addr)(a:Addr):Prop:=a∈ao∨∃n,μ[n]?=some a∧n∉lk
noncomputable def fL(P:Addr→Prop)(h h':aal):Prop:=(∀a o,h.get? a=some o→¬P a→h'.get? a=some o)∧∀a o,h.get? a=some o→∃o',h'.get? a=some o'
theorem fL.refl{P:Addr→Prop}{h:aal}:fL P h h:=⟨fun _ _ e _=>e,fun _ o e=>⟨o,e⟩⟩
theorem fL.jJ{P:Addr→Prop}{h h':aal}(k:∀a o,h.get? a=some o→h'.get? a=some o):fL P h h':=⟨fun a o e _=>k a o e,fun a o e=>⟨o,k a o e⟩⟩
theorem fL.mono{P Q:Addr→Prop}{h h':aal}(k:fL P h h')(q:∀a o,h.get? a=some o→P a→Q a):fL Q h h':=⟨fun a o e n=>k.1 a o e fun p=>n (q a o e p),k.2⟩
theorem fL.trans{P:Addr→Prop}{h h' h'':aal}(k:fL P h h')(k':fL P h' h''):fL P h h'':=
 ⟨fun a o e n=>k'.1 a o (k.1 a o e n) n,fun a o e=>(k.2 a o e).elim fun _ e'=>k'.2 a _ e'⟩
theorem fL.trans'{P Q:Addr→Prop}{h h' h'':aal}(k:fL P h h')(k':fL Q h' h'')(q:∀a o,h.get? a=some o→Q a→P a):fL P h h'':=
 ⟨fun a o e n=>k'.1 a o (k.1 a o e n) fun x=>n (q a o e x),fun a o e=>(k.2 a o e).elim fun _ e'=>k'.2 a _ e'⟩
theorem Wr.back{lk:List Nat}{h:aal}{μ aG:List Addr}(g:Grows h μ aG){a:Addr}{o:Obj}(ha:h.get? a=some o)(x:Wr lk aG a):Wr lk μ a:=by
 rcases x with x|⟨n,e,hn⟩
 ·exact .inl x
 ·exact .inr ⟨n,g.back ha e,hn⟩
noncomputable def bL(P:Params)(x:String)(t:Tok)(v:aac):DictEntry:=⟨PyData.keyHash P (Z9 x),.str (Z9 x) t,v⟩
noncomputable def iF(n q:String)(p:Arguments×List Stmt×Scope)(df kw md cd:aac):Data:=.func ⟨Z9 n,Z9 q,p.1,.stmts p.2.1,p.2.2,3,[],df,kw,.none,md,none,cd,.none,0⟩
noncomputable def iG(n q:String)(t:Tok)(l ac kw fl:Int)(r8 XM XN XO XQ:aac)(tx:Int)(tf:Tok):Data:=
 .fields [.str (Z9 n) t,.str (Z9 q) (t+1),.str (Z9 "/claim/cut.py") (t+2),.int l 0,.int ac 0,.int 0 0,.int kw 0,.int fl 0,r8,.bool true,.int 276 0,XM,.none,XN,XO,XQ,.int tx 0,.int l 0,.str (Z9 "/claim/cut.py") tf].toArray
noncomputable def Kp(P:Params):Frag:=[
 (3,⟨.type "dict",none,.dict [bL P "__name__" 165 (.str (Z9 "law_ta0097_01") 750),bL P "__doc__" 166 (.none),bL P "__package__" 167 (.none),bL P "__loader__" 168 (.builtin "__main__.__loader__#opaque"),bL P "__spec__" 169 (.none),bL P "__annotations__" 170 (.ref 6),bL P "__builtins__" 171 (.ref 4),bL P "__file__" 173 (.str (Z9 "/claim/cut.py") 172),bL P "__cached__" 174 (.none),bL P "_sre" 275 (.ref 12),bL P "_wall" 288 (.ref 38),bL P "insort_right" 303 (.ref 47),bL P "bisect_right" 317 (.ref 56),bL P "insort_left" 330 (.ref 65),bL P "bisect_left" 344 (.ref 74),bL P "_iter_escaped_chars" 356 (.ref 81),bL P "_strip_quoted_realnames" 368 (.ref 88),bL P "_check_parenthesis" 378 (.ref 95),bL P "_pre_parse_validation" 387 (.ref 102),bL P "_twin_re_1" 405 (.ref 107),bL P "_twin_re_2" 421 (.ref 112),bL P "_twin_re_3" 463 (.ref 117),bL P "CRLF" 465 (.str (Z9 "\x0d\n") 464),bL P "quotedata" 472 (.ref 124),bL P "_quote_periods" 479 (.ref 131),bL P "_fix_eols" 486 (.ref 138),bL P "tspecials" 522 (.ref 143),bL P "_name_disallowed_re" 548 (.ref 148),bL P "_value_disallowed_re" 582 (.ref 153),bL P "_formatparam" 592 (.ref 161),bL P "Headers" 749 (.ref 282),bL P "_law_start" 757 (.ref 291),bL P "_law_heights" 763 (.ref 296),bL P "_law_hung" 775 (.ref 303),bL P "_law_laid" 784 (.ref 310),bL P "_law_mail" 795 (.ref 317),bL P "_law_walked" 807 (.ref 324),bL P "law" 813 (.ref 329)].toArray 38,[].toArray⟩),
 (4,⟨.type "module",(some 0),.plain,[].toArray⟩),
 (39,⟨.type "tuple",none,.seq [.int 0 291,.none].toArray 0,[].toArray⟩),
 (40,⟨.type "dict",none,.dict [bL P "key" 292 (.none)].toArray 1,[].toArray⟩),
 (46,⟨.type "code",none,iG "insort_right" "insort_right" 293 6 4 1 3 (.ref 41) (.ref 42) (.ref 43) (.ref 44) (.ref 45) 301 302,[].toArray⟩),
 (47,⟨.type "function",none,iF "insort_right" "insort_right" (aq 3) (.ref 39) (.ref 40) (.str (Z9 "cpy313.bisect") 289) (.ref 46),[].toArray⟩),
 (48,⟨.type "tuple",none,.seq [.int 0 304,.none].toArray 0,[].toArray⟩),
 (49,⟨.type "dict",none,.dict [bL P "key" 305 (.none)].toArray 1,[].toArray⟩),
 (55,⟨.type "code",none,iG "bisect_right" "bisect_right" 306 12 4 1 3 (.ref 50) (.ref 51) (.ref 52) (.ref 53) (.ref 54) 315 316,[].toArray⟩),
 (56,⟨.type "function",none,iF "bisect_right" "bisect_right" (aq 4) (.ref 48) (.ref 49) (.str (Z9 "cpy313.bisect") 289) (.ref 55),[].toArray⟩),
 (57,⟨.type "tuple",none,.seq [.int 0 318,.none].toArray 0,[].toArray⟩),
 (58,⟨.type "dict",none,.dict [bL P "key" 319 (.none)].toArray 1,[].toArray⟩),
 (64,⟨.type "code",none,iG "insort_left" "insort_left" 320 32 4 1 3 (.ref 59) (.ref 60) (.ref 61) (.ref 62) (.ref 63) 328 329,[].toArray⟩),
 (65,⟨.type "function",none,iF "insort_left" "insort_left" (aq 5) (.ref 57) (.ref 58) (.str (Z9 "cpy313.bisect") 289) (.ref 64),[].toArray⟩),
 (66,⟨.type "tuple",none,.seq [.int 0 331,.none].toArray 0,[].toArray⟩),
 (67,⟨.type "dict",none,.dict [bL P "key" 332 (.none)].toArray 1,[].toArray⟩),
 (73,⟨.type "code",none,iG "bisect_left" "bisect_left" 333 38 4 1 3 (.ref 68) (.ref 69) (.ref 70) (.ref 71) (.ref 72) 342 343,[].toArray⟩),
 (74,⟨.type "function",none,iF "bisect_left" "bisect_left" (aq 6) (.ref 66) (.ref 67) (.str (Z9 "cpy313.bisect") 289) (.ref 73),[].toArray⟩),
 (80,⟨.type "code",none,iG "_iter_escaped_chars" "_iter_escaped_chars" 347 59 1 0 35 (.ref 75) (.ref 76) (.ref 77) (.ref 78) (.ref 79) 354 355,[].toArray⟩),
 (81,⟨.type "function",none,iF "_iter_escaped_chars" "_iter_escaped_chars" (aq 8) (.none) (.none) (.str (Z9 "cpy313.email.utils") 345) (.ref 80),[].toArray⟩),
 (87,⟨.type "code",none,iG "_strip_quoted_realnames" "_strip_quoted_realnames" 357 72 1 0 3 (.ref 82) (.ref 83) (.ref 84) (.ref 85) (.ref 86) 366 367,[].toArray⟩),
 (88,⟨.type "function",none,iF "_strip_quoted_realnames" "_strip_quoted_realnames" (aq 9) (.none) (.none) (.str (Z9 "cpy313.email.utils") 345) (.ref 87),[].toArray⟩),
 (94,⟨.type "code",none,iG "_check_parenthesis" "_check_parenthesis" 369 90 1 0 3 (.ref 89) (.ref 90) (.ref 91) (.ref 92) (.ref 93) 376 377,[].toArray⟩),
 (95,⟨.type "function",none,iF "_check_parenthesis" "_check_parenthesis" (aq 10) (.none) (.none) (.str (Z9 "cpy313.email.utils") 345) (.ref 94),[].toArray⟩),
 (101,⟨.type "code",none,iG "_pre_parse_validation" "_pre_parse_validation" 379 101 1 0 3 (.ref 96) (.ref 97) (.ref 98) (.ref 99) (.ref 100) 385 386,[].toArray⟩),
 (102,⟨.type "function",none,iF "_pre_parse_validation" "_pre_parse_validation" (aq 11) (.none) (.none) (.str (Z9 "cpy313.email.utils") 345) (.ref 101),[].toArray⟩),
 (106,⟨.type "tuple",none,.seq [.int 14 0,.int 4 0,.int 0 0,.int 1 0,.int 1 0,.int 6 0,.int 1 0,.int 16 0,.int 46 0,.int 1 0].toArray 0,[].toArray⟩),
 (107,⟨.type "re.Pattern",none,.fields [.str (Z9 "(?m)^\\.") 391,.int 40 404,.int 0 0,.none,.none,.ref 106,.int 0 0].toArray,[].toArray⟩),
 (111,⟨.type "tuple",none,.seq [.int 14 0,.int 4 0,.int 0 0,.int 1 0,.int 1 0,.int 6 0,.int 1 0,.int 16 0,.int 46 0,.int 1 0].toArray 0,[].toArray⟩),
 (112,⟨.type "re.Pattern",none,.fields [.bytes (fH [40,63,109,41,94,92,46]) 407,.int 8 420,.int 0 0,.none,.none,.ref 111,.int 1 0].toArray,[].toArray⟩),
 (116,⟨.type "tuple",none,.seq [.int 14 0,.int 9 0,.int 4 0,.int 1 0,.int 2 0,.int 16 0,.int 10 0,.int 16 0,.int 13 0,.int 0 0,.int 7 0,.int 7 0,.int 16 0,.int 13 0,.int 16 0,.int 10 0,.int 15 0,.int 18 0,.int 5 0,.int 16 0,.int 10 0,.int 15 0,.int 13 0,.int 11 0,.int 16 0,.int 13 0,.int 5 0,.int 5 0,.int 0 0,.int 16 0,.int 10 0,.int 1 0,.int 15 0,.int 2 0,.int 0 0,.int 1 0].toArray 0,[].toArray⟩),
 (117,⟨.type "re.Pattern",none,.fields [.str (Z9 "(?:\\r\\n|\\n|\\r(?!\\n))") 423,.int 32 462,.int 0 0,.none,.none,.ref 116,.int 0 0].toArray,[].toArray⟩),
 (123,⟨.type "code",none,iG "quotedata" "quotedata" 466 113 1 0 3 (.ref 118) (.ref 119) (.ref 120) (.ref 121) (.ref 122) 470 471,[].toArray⟩),
 (124,⟨.type "function",none,iF "quotedata" "quotedata" (aq 17) (.none) (.none) (.str (Z9 "cpy313.smtplib") 388) (.ref 123),[].toArray⟩),
 (130,⟨.type "code",none,iG "_quote_periods" "_quote_periods" 473 115 1 0 3 (.ref 125) (.ref 126) (.ref 127) (.ref 128) (.ref 129) 477 478,[].toArray⟩),
 (131,⟨.type "function",none,iF "_quote_periods" "_quote_periods" (aq 18) (.none) (.none) (.str (Z9 "cpy313.smtplib") 388) (.ref 130),[].toArray⟩),
 (137,⟨.type "code",none,iG "_fix_eols" "_fix_eols" 480 117 1 0 3 (.ref 132) (.ref 133) (.ref 134) (.ref 135) (.ref 136) 484 485,[].toArray⟩),
 (138,⟨.type "function",none,iF "_fix_eols" "_fix_eols" (aq 19) (.none) (.none) (.str (Z9 "cpy313.smtplib") 388) (.ref 137),[].toArray⟩),
 (147,⟨.type "tuple",none,.seq [.int 14 0,.int 10 0,.int 4 0,.int 1 0,.int 1 0,.int 22 0,.int 0 0,.int 31 0,.int 16 0,.int 127 0,.int 0 0,.int 13 0,.int 7 0,.int 22 0,.int 0 0,.int 31 0,.int 16 0,.int 127 0,.int 0 0,.int 1 0].toArray 0,[].toArray⟩),
 (148,⟨.type "re.Pattern",none,.fields [.str (Z9 "[\\x00-\\x1F\\x7F]") 524,.int 32 547,.int 0 0,.none,.none,.ref 147,.int 0 0].toArray,[].toArray⟩),
 (152,⟨.type "tuple",none,.seq [.int 14 0,.int 14 0,.int 4 0,.int 1 0,.int 1 0,.int 9 0,.int 4294966783 0,.int 0 0,.int 0 0,.int 2147483648 0,.int 0 0,.int 0 0,.int 0 0,.int 0 0,.int 0 0,.int 13 0,.int 11 0,.int 9 0,.int 4294966783 0,.int 0 0,.int 0 0,.int 2147483648 0,.int 0 0,.int 0 0,.int 0 0,.int 0 0,.int 0 0,.int 1 0].toArray 0,[].toArray⟩),
 (153,⟨.type "re.Pattern",none,.fields [.str (Z9 "[\\x00-\\x08\\x0A-\\x1F\\x7F]") 550,.int 32 581,.int 0 0,.none,.none,.ref 152,.int 0 0].toArray,[].toArray⟩),
 (169,⟨.type "tuple",none,.seq [.none].toArray 0,[].toArray⟩),
 (175,⟨.type "code",none,iG "__init__" "Headers.__init__" 605 134 2 0 3 (.ref 170) (.ref 171) (.ref 172) (.ref 173) (.ref 174) 612 613,[].toArray⟩),
 (176,⟨.type "function",none,iF "__init__" "Headers.__init__" (aW 0) (.ref 169) (.none) (.str (Z9 "cpy313.wsgiref.headers") 487) (.ref 175),[].toArray⟩),
 (182,⟨.type "code",none,iG "_convert_string_type" "Headers._convert_string_type" 615 144 2 1 3 (.ref 177) (.ref 178) (.ref 179) (.ref 180) (.ref 181) 622 623,[].toArray⟩),
 (183,⟨.type "function",none,iF "_convert_string_type" "Headers._convert_string_type" (aW 1) (.none) (.none) (.str (Z9 "cpy313.wsgiref.headers") 487) (.ref 182),[].toArray⟩),
 (220,⟨.type "code",none,iG "get_all" "Headers.get_all" 663 169 2 0 3 (.ref 217) (.ref 218) (.none) (.none) (.ref 219) 666 667,[].toArray⟩),
 (221,⟨.type "function",none,iF "get_all" "Headers.get_all" (aW 7) (.none) (.none) (.str (Z9 "cpy313.wsgiref.headers") 487) (.ref 220),[].toArray⟩),
 (233,⟨.type "code",none,iG "keys" "Headers.keys" 680 180 1 0 3 (.ref 230) (.ref 231) (.none) (.none) (.ref 232) 683 684,[].toArray⟩),
 (234,⟨.type "function",none,iF "keys" "Headers.keys" (aW 9) (.none) (.none) (.str (Z9 "cpy313.wsgiref.headers") 487) (.ref 233),[].toArray⟩),
 (245,⟨.type "code",none,iG "items" "Headers.items" 692 186 1 0 3 (.ref 240) (.ref 241) (.ref 242) (.ref 243) (.ref 244) 696 697,[].toArray⟩),
 (246,⟨.type "function",none,iF "items" "Headers.items" (aW 11) (.none) (.none) (.str (Z9 "cpy313.wsgiref.headers") 487) (.ref 245),[].toArray⟩),
 (278,⟨.type "code",none,iG "add_header" "Headers.add_header" 728 201 3 0 11 (.ref 273) (.ref 274) (.ref 275) (.ref 276) (.ref 277) 738 739,[].toArray⟩),
 (279,⟨.type "function",none,iF "add_header" "Headers.add_header" (aW 16) (.none) (.none) (.str (Z9 "cpy313.wsgiref.headers") 487) (.ref 278),[].toArray⟩),
 (281,⟨.type "dict",none,.dict [bL P "__module__" 600 (.str (Z9 "cpy313.wsgiref.headers") 487),bL P "__firstlineno__" 604 (.int 132 603),bL P "__init__" 614 (.ref 176),bL P "_convert_string_type" 624 (.ref 183),bL P "__len__" 631 (.ref 190),bL P "__setitem__" 640 (.ref 197),bL P "__delitem__" 646 (.ref 202),bL P "__getitem__" 654 (.ref 209),bL P "__contains__" 662 (.ref 216),bL P "get_all" 668 (.ref 221),bL P "get" 679 (.ref 229),bL P "keys" 685 (.ref 234),bL P "values" 691 (.ref 239),bL P "items" 698 (.ref 246),bL P "__repr__" 705 (.ref 253),bL P "__str__" 711 (.ref 258),bL P "__bytes__" 718 (.ref 265),bL P "setdefault" 727 (.ref 272),bL P "add_header" 740 (.ref 279),bL P "__static_attributes__" 742 (.ref 280),bL P "__dict__" 744 (.ref 283),bL P "__weakref__" 746 (.ref 284),bL P "__doc__" 747 (.none)].toArray 4,[].toArray⟩),
 (282,⟨.type "type",none,.cls ⟨(Z9 "Headers"),[.type "object"],[.ref 282,.type "object"],281,(Z9 "Headers"),true,[],[],false,none,false⟩,[none,none,some (.str (Z9 "Headers") 593),some (.str (Z9 "Headers") 601),some (.builtin "object.__new__"),some (.bool true)].toArray⟩),
 (290,⟨.type "code",none,iG "_law_start" "_law_start" 752 215 1 0 3 (.ref 287) (.ref 288) (.none) (.none) (.ref 289) 755 756,[].toArray⟩),
 (291,⟨.type "function",none,iF "_law_start" "_law_start" (aq 27) (.none) (.none) (.str (Z9 "law_ta0097_01") 750) (.ref 290),[].toArray⟩),
 (295,⟨.type "code",none,iG "_law_heights" "_law_heights" 758 218 2 0 3 (.ref 292) (.ref 293) (.none) (.none) (.ref 294) 761 762,[].toArray⟩),
 (296,⟨.type "function",none,iF "_law_heights" "_law_heights" (aq 28) (.none) (.none) (.str (Z9 "law_ta0097_01") 750) (.ref 295),[].toArray⟩),
 (302,⟨.type "code",none,iG "_law_hung" "_law_hung" 764 225 2 0 3 (.ref 297) (.ref 298) (.ref 299) (.ref 300) (.ref 301) 773 774,[].toArray⟩),
 (303,⟨.type "function",none,iF "_law_hung" "_law_hung" (aq 29) (.none) (.none) (.str (Z9 "law_ta0097_01") 750) (.ref 302),[].toArray⟩),
 (309,⟨.type "code",none,iG "_law_laid" "_law_laid" 776 237 1 0 3 (.ref 304) (.ref 305) (.ref 306) (.ref 307) (.ref 308) 782 783,[].toArray⟩),
 (310,⟨.type "function",none,iF "_law_laid" "_law_laid" (aq 30) (.none) (.none) (.str (Z9 "law_ta0097_01") 750) (.ref 309),[].toArray⟩),
 (316,⟨.type "code",none,iG "_law_mail" "_law_mail" 785 245 3 0 3 (.ref 311) (.ref 312) (.ref 313) (.ref 314) (.ref 315) 793 794,[].toArray⟩),
 (317,⟨.type "function",none,iF "_law_mail" "_law_mail" (aq 31) (.none) (.none) (.str (Z9 "law_ta0097_01") 750) (.ref 316),[].toArray⟩),
 (323,⟨.type "code",none,iG "_law_walked" "_law_walked" 796 255 2 0 3 (.ref 318) (.ref 319) (.ref 320) (.ref 321) (.ref 322) 805 806,[].toArray⟩),
 (324,⟨.type "function",none,iF "_law_walked" "_law_walked" (aq 32) (.none) (.none) (.str (Z9 "law_ta0097_01") 750) (.ref 323),[].toArray⟩),
 (328,⟨.type "code",none,iG "law" "law" 808 262 1 0 3 (.ref 325) (.ref 326) (.none) (.none) (.ref 327) 811 812,[].toArray⟩),
 (329,⟨.type "function",none,iF "law" "law" (aq 33) (.none) (.none) (.str (Z9 "law_ta0097_01") 750) (.ref 328),[].toArray⟩)]
noncomputable def Kt:Frag:=[(305,tabObj #[]),(326,tabObj #[])]
noncomputable def WJ:List Addr:=[3,4,39,40,46,47,48,49,55,56,57,58,64,65,66,67,73,74,80,81,87,88,94,95,101,102,106,107,111,112,116,117,123,124,130,131,137,138,147,148,152,153,169,175,176,182,183,220,221,233,234,245,246,278,279,281,282,290,291,295,296,302,303,309,310,316,317,323,324,328,329,305,326]
theorem O6:∀P,WJ=(Kp P++Kt).map (·.1):=fun _=>⋯
noncomputable def hk:Hook:=kHook (fun P=>Kp P++Kt) WJ O6
end Internal
set_option maxHeartbeats 0
set_option Elab.async false
namespace Internal
open PySem PySem.W PyProof.Rows
noncomputable def LX:List Nat:=[0,1,8,9,10,11,13,14,15,16,17,18,19,21,22,23,25,27,28,29,30,31,32,33]
noncomputable def vw:Program:=view ab1 LX
noncomputable def y9:List Str:=["insort_right","bisect_right","insort_left","bisect_left","_twin_re_1","_twin_re_2","_twin_re_3","tspecials","_name_disallowed_re","_value_disallowed_re","_formatparam"]
theorem left:LeftO ab1 vw y9 (fun s=>xlAt vw [] s&&recOk [] s) (Hook.obs hk) (Hook.val hk) 3838:=by
 intro w
 kernel_rfl
end Internal
set_option maxHeartbeats 8000000
namespace Internal
open PySem PySem.W PyProof.Rows
noncomputable def l6:DefRec:=⟨Z9 "law",(aq 33).1,(aq 33).2.1,(aq 33).2.2,match PySem.Challenge.pw_ta0097_01.main.body[33]? with|some (PySem.Stmt.FunctionDef _ _ _ _ _ _ _ _ _ p)=>p|_=>default⟩
theorem hd1:defOf vw PySem.Challenge.rw_ta0097_01.row.toRowW.name=some (l6,[]):=⋯
theorem hd2:PySem.Challenge.pw_ta0097_01.theDef PySem.Challenge.rw_ta0097_01.row.toRowW.name=some (l6.params,l6.body,l6.scope):=⋯
theorem XR:kwWritten? l6.params.kwonlyargs l6.params.kw_defaults=some []:=⋯
theorem Ve:(chainsOk vw&&opensWell ab1&&(frees PySem.Challenge.rw_ta0097_01.row.toRowW&&PySem.Challenge.rw_ta0097_01.row.within.isEmpty))=true:=⋯
theorem LY:PySem.Challenge.rw_ta0097_01.wellSaid=true:=⋯
theorem LZ(call:WalkO vw y9 (XL vw []) (ahh hk) PySem.Challenge.rw_ta0097_01.row.toRowW l6 [] fun f vs=>agR f vs):PySem.Challenge.rw_ta0097_01.Holds:=by
 refine holds_law LY fun said=>?_
 refine holds_open (q:=vw) (loose:=y9) (Xt:=fun s=>xlAt vw [] s&&recOk [] s) (XP:=XL vw []) (Yf:=Hook.obs hk) (Ya:=Hook.val hk) (YP:=ahh hk) (N:=3838) left (Hook.of hk) (Hook.keeps hk) (fun s e=>xl_of s (aa1.mp e).1) XL.keeps hd1 hd2 XR (fun s e=>recFacts_of (aa1.mp e).2) rfl (by assumption) Ve ⟨rfl,rfl,rfl,rfl,rfl,by decide+kernel⟩ ?hw call
 case hw=>w_witness2
abbrev pw:Program:=ab1
theorem eU{α:Type}:∀(l:List α)(n:Nat),jR l n=l[n]?
 |[],_=>by simp[jR]
 |a::l,0=>rfl
 |a::l,n+1=>by
  show jR l n=_
  rw[eU l n];simp
theorem aO{α:Type}:∀(l m:List α),au l m=l++m
 |[],_=>rfl
 |a::l,m=>congrArg (a::·) (aO l m)
theorem aN{α:Type}:∀(l:List α),aC l=l.length
 |[]=>rfl
 |a::l=>congrArg acC (aN l)
theorem jr{α β:Type}(f:α→β):∀(l:List α),lmap f l=l.map f
 |[]=>rfl
 |a::l=>congrArg (f a::·) (jr f l)
theorem pL{α:Type}:∀(l:List α)(n:Nat)(a:α),setAt l n a=l.set n a
 |[],_,_=>by simp[setAt]
 |b::l,0,a=>rfl
 |b::l,n+1,a=>congrArg (b::·) (pL l n a)
theorem c8{α:Type}(x y:α):az true x y=x:=rfl
theorem eZ{α:Type}(x y:α):az false x y=y:=rfl
noncomputable def kF(c:Addr):Str:=if c=309 then Z9 "_law_laid.<locals>.<lambda>" else Z9 "law.<locals>.<lambda>"
structure Ea(h:aal)(X:List Addr)(c P:Addr):Prop where
 hd:CodeHd h c P
 cX:c∉X
 ent:∃vs,h.get? P=some (tabObj vs)∧TriplesOk vs.toList∧∀pos cv,codeAmong pos vs.toList=some cv→∃c' oc ws t,cv=.ref c'∧h.get? c'=some oc∧oc.data=.fields ws∧ws[1]?=some (.str (kF c) t)∧c'∉X
structure St(hB:aal)(Θ:Th)(h:aal)(μ X:List Addr)(H:HP):Prop where
 base:∀a o,hB.get? a=some o→h.get? a=some o
 gK:∀a∈X,hB.get? a=none
 lG:∀a∈ao,a∈X
 wH:∀a∈μ,a∈X
 old:∀a∈X,∃o,h.get? a=some o
 nodup:μ.Nodup
 len:μ.length=H.length
 obj:∀(n:Nat)(l:List V),H[n]?=some l→∃a xs,μ[n]?=some a∧LstAt h a xs.toArray∧VRs Θ h μ X l xs
 tab:∀p∈tabs,Ea h X p.1 p.2
noncomputable def GG(a b:Array GenState):Prop:=(∀i,i<a.size→b[i]?=a[i]?)∧a.size≤b.size∧∀i y,a.size≤i→b[i]?=some y→y.bare=true
theorem GG.refl(a:Array GenState):GG a a:=⟨fun _ _=>rfl,aaA _,fun i y h e=>by rw[aeV h] at e;exact no1 e⟩
theorem GG.trans{a b c:Array GenState}(x:GG a b)(y:GG b c):GG a c:=
 ⟨fun i h=>(y.1 i (aaX h x.2.1)).trans (x.1 i h),aah x.2.1 y.2.1,fun i z h e=>by
  by_cases q:i<b.size
  ·exact x.2.2 i z h ((y.1 i q).symm.trans e)
  ·exact y.2.2 i z (abt.mp q) e⟩
section
variable{hB:aal}{Θ:Th}{lk:List Nat}{s s' s'':aad}{μ aG bZ X X' gJ:List Addr}{H H' iz:HP}
structure Goes(hB:aal)(Θ:Th)(lk:List Nat)(s:aad)(μ X:List Addr)(H':HP)(s':aad)(aG X':List Addr):Prop where
 st:St hB Θ s'.heap aG X' H'
 gm:Grows s.heap μ aG
 gx:Grows s.heap X X'
 keep:fL (Wr lk μ) s.heap s'.heap
 os:s'.os=s.os
 gens:GG s.gens s'.gens
theorem Goes.refl(S:St hB Θ s.heap μ X H):Goes hB Θ lk s μ X H s μ X:=⟨S,.refl,.refl,.refl,rfl,.refl _⟩
theorem Goes.tok(S:St hB Θ s.heap μ X H)(t:Nat):Goes hB Θ lk s μ X H {s with toks:=t} μ X:=⟨S,.refl,.refl,.refl,rfl,.refl _⟩
theorem Goes.trans(x:Goes hB Θ lk s μ X H' s' aG X')(y:Goes hB Θ lk s' aG X' iz s'' bZ gJ):Goes hB Θ lk s μ X iz s'' bZ gJ:=
 ⟨y.st,x.gm.trans x.keep.2 y.gm,x.gx.trans x.keep.2 y.gx,x.keep.trans' y.keep fun _ _ e q=>q.back x.gm e,y.os.trans x.os,x.gens.trans y.gens⟩
theorem Wr.L0(S:St hB Θ s.heap μ X H){a:Addr}(q:Wr lk μ a):a∈X:=by
 rcases q with q|⟨n,e,_⟩
 ·exact S.lG a q
 ·exact S.wH a (aaU e)
theorem Goes.vr(S:St hB Θ s.heap μ X H)(x:Goes hB Θ lk s μ X H' s' aG X'){v:V}{u:aac}(r:VR Θ s.heap μ X v u):VR Θ s'.heap aG X' v u:=
 r.mono (fun a o e hX=>x.keep.1 a o e fun q=>hX (q.L0 S)) x.gm x.gx
theorem Goes.Eb(S:St hB Θ s.heap μ X H)(x:Goes hB Θ lk s μ X H' s' aG X'){v:List V}{u:List aac}(r:VRs Θ s.heap μ X v u):VRs Θ s'.heap aG X' v u:=
 r.mono (fun a o e hX=>x.keep.1 a o e fun q=>hX (q.L0 S)) x.gm x.gx
theorem Goes.unlock{N9:List Nat}(x:Goes hB Θ N9 s μ X H' s' aG X')(h:∀n∈lk,n∈N9):Goes hB Θ lk s μ X H' s' aG X':=
 ⟨x.st,x.gm,x.gx,x.keep.mono fun _ _ _ q=>q.imp id fun q=>by obtain⟨n,e,hn⟩:=q;exact⟨n,e,fun m=>hn (h n m)⟩,x.os,x.gens⟩
inductive QG{α β:Type}(Rel:aal→List Addr→List Addr→α→β→Prop)(hB:aal)(Θ:Th)(lk:List Nat)(s:aad)(μ X:List Addr)(res:R α)(x:β)(s':aad):Prop
 |mk(v:α)(H':HP)(aG X':List Addr)(hr:res=.ok v H')(go:Goes hB Θ lk s μ X H' s' aG X')(rel:Rel s'.heap aG X' v x)
inductive R9(hF:aal)(Θ:Th)(h:aal)(μ X:List Addr)(c:Nat)(m:V)(e:Addr):Prop
 |mk(o:Obj)(vs:Array aac)(ta:Addr)(x:aac)(h1:h.get? e=some o)(h2:o.cls=.type (dz c))(h3:o.data=.fields vs)(h4:vs[0]?=some (.ref ta))(h5:h.IsTuple ta #[x]) (h6:VR Θ h μ X m x) (h7:e∈X) (h8:ta∉X) (h9:hF.get? e=none)
  (hT:vs[1]?=some .none∨∃T oT ts,vs[1]?=some (.ref T)∧hF.get? T=none∧T≠e∧T∈X∧h.get? T=some oT∧oT.data=.fields ts∧ts[3]?=some .none)
structure ExcAt(hF:aal)(Θ:Th)(h:aal)(μ X:List Addr)(c:Nat)(m:V)(e:Addr):Prop where
 ex:R9 hF Θ h μ X c m e
theorem ExcAt.back{hF Vf:aal}{Θ:Th}{h:aal}{μ X:List Addr}{c:Nat}{m:V}{e:Addr}(x:ExcAt Vf Θ h μ X c m e)(k:∀a o,hF.get? a=some o→∃o',Vf.get? a=some o'):ExcAt hF Θ h μ X c m e:=by
 have nn:∀a,Vf.get? a=none→hF.get? a=none:=fun a q=>by
  cases e:hF.get? a with
  |none=>rfl
  |some o=>obtain⟨o',e'⟩:=k a o e;rw[q] at e';exact no1 e'
 obtain⟨o,vs,ta,x,a,b,c,d,f,g,h1,h2,h3,h4⟩:=x.ex
 exact⟨o,vs,ta,x,a,b,c,d,f,g,h1,h2,nn _ h3,h4.imp id fun q=>by obtain⟨T,oT,ts,p1,p2,p3⟩:=q;exact⟨T,oT,ts,p1,nn _ p2,p3⟩⟩
noncomputable def nP(A:aav)(a:Addr):Prop:=∃l env,A.frames=some l∧env∈l∧env.frame=some a
inductive EG{α:Type}(hB:aal)(Θ:Th)(A:aav)(lk:List Nat)(s:aad)(μ X:List Addr)(res:R α)(x:aac)(s':aad):Prop
 |mk(c:Nat)(m:V)(H':HP)(aG X':List Addr)(e:Addr)(h1:res=.exc c m H')(h2:x=.ref e)(h3:St hB Θ s'.heap aG X' H')(h4:Grows s.heap μ aG)(h5:Grows s.heap X X')(h6:fL (fun a=>Wr lk μ a∨nP A a) s.heap s'.heap)
  (h7:∀a o,nP A a→s.heap.get? a=some o→∃sl,s'.heap.get? a=some {o with slots:=sl}) (h8:s'.os=s.os) (h9:GG s.gens s'.gens) (Rv:ExcAt s.heap Θ s'.heap aG X' c m e)
structure jg(hB:aal)(A:aav)(h:aal)(μ X:List Addr):Prop where
 fr:∃l,A.frames=some l∧∀env∈l,env.scope.kind≠.module∧∃L m,env.frame=some L∧L∈X∧L∉ao∧L∉μ∧h.Ns L m
abbrev Kinds:=Nat→Option aam
structure FR(hB:aal)(Θ:Th)(ks:Kinds)(env:Env)(r:aR)(h:aal)(μ X:List Addr):Prop where
 kind:env.scope.kind=.function
 code:(ks 200=some .local→env.code=.ref 309∧env.qual=Z9 "_law_laid.<locals>.")∧(ks 201=some .local→env.code=.ref 328∧env.qual=Z9 "law.<locals>.")
 glob:env.globals=mainGlobals
 HJ:env.builtins=builtinsNs
 kinds:∀x,x<138→env.kindOf (nm x)=ks x
 loc:∃m,h.Ns env.locals m∧∀x v,aK x r=some v→ks x=some .local→∃u,m (nm x)=some u∧VR Θ h μ X v u
 AI:∀x,x<138→(ks x=some .cell∨ks x=some .free)→∃c vo,env.cells.lookup (nm x)=some c∧h.IsCell c vo∧c∈X∧∀v,aK x r=some v→∃u,vo=some u∧VR Θ h μ X v u
 inj:∀x y c,x<138→y<138→(ks x=some .cell∨ks x=some .free)→(ks y=some .cell∨ks y=some .free)→env.cells.lookup (nm x)=some c→env.cells.lookup (nm y)=some c→x=y
 dom:∀x v,aK x r=some v→x<138∧(ks x=some .local∨ks x=some .cell∨ks x=some .free)
 kG:env.locals∈X
structure tu(Θ:Th)(n:Nat)(C:Cx)(A:aav):Prop where
 par:C.par=decide (Θ.T%2=1)
 ph:C.iD=iD C.par n
 hh:bh b9 C.lk=true→A.handled=none
 depth:A.depth+n≤600
 units:A.units+20*n≤9000
end
section
variable{w:aaC}{K:Frag}{hB hF:aal}{O W:Addr→Prop}{N0:Nat}{Θ:Th}{A:aav}{lk:List Nat}{s s0 s' s'' s1:aad}{μ j4 aG bZ X X0 X' gJ aZ X1:List Addr}{H H0 H' iz H1:HP}{n:Nat}{C:Cx}{env cenv:Env}{outer:List Env}{r r0 r' r1:aR}{ks:Kinds}{Ex:aac→aad→Prop}{D:Addr}{av:List V}
theorem L4:∀a∈ao,∃p∈tabs,p.2=a:=by decide
theorem St.tabAt{h:aal}(S:St hB Θ h μ X H){a:Addr}(ha:a∈ao):∃vs,h.get? a=some (tabObj vs):=by
 obtain⟨p,hp,rfl⟩:=L4 a ha
 exact(S.tab p hp).ent.imp fun _ e=>e.1
theorem St.H9{h:aal}(S:St hB Θ h μ X H){a:Addr}{o:Obj}(ho:h.get? a=some o)(hd:∀xs n,o.data≠.seq xs n):a∉μ:=fun hm=>by
 obtain⟨i,hi,e⟩:=List.getElem_of_mem hm
 have hl:i<H.length:=S.len▸hi
 obtain⟨a',xs,e1,⟨k,e2⟩,_⟩:=S.obj i _ (aax hl)
 obtain rfl:=e.symm.trans (Z8 ((aax hi).symm.trans e1))
 exact hd _ _ (congrArg agS (Z8 (ho.symm.trans e2)))
theorem St.Ia{h:aal}(S:St hB Θ h μ X H){a:Addr}{o:Obj}(ho:h.get? a=some o)(hd:∀vs,o.data≠.fields vs):a∉ao:=fun ht=>by
 obtain⟨vs,e⟩:=S.tabAt ht
 exact hd _ (congrArg agS (Z8 (ho.symm.trans e)))
theorem St.n8{h:aal}(S:St hB Θ h μ X H){a:Addr}{o:Obj}{vs:Array aac}(ho:h.get? a=some o)(hd:o.data=.fields vs):a∉μ:=S.H9 ho fun _ _ e=>by cases hd.symm.trans e
theorem St.AJ(S:St hB Θ s.heap μ X H){a:Addr}{m:Str→Option aac}(hn:s.heap.Ns a m):a∉ao∧a∉μ:=by
 obtain⟨o,es,ep,ho,hd,_⟩:=hn
 exact⟨S.Ia ho fun _ e=>(by cases hd.symm.trans e),S.H9 ho fun _ _ e=>(by cases hd.symm.trans e)⟩
theorem St.n9(S:St hB Θ s.heap μ X H){a:Addr}{v:Option aac}(hn:s.heap.IsCell a v):a∉ao∧a∉μ:=by
 obtain⟨o,ho,hd⟩:=hn
 exact⟨S.Ia ho fun _ e=>(by cases hd.symm.trans e),S.H9 ho fun _ _ e=>(by cases hd.symm.trans e)⟩
theorem Ec{h:aal}{L a:Addr}{m:Str→Option aac}{o:Obj}(hn:h.Ns L m)(ho:h.get? a=some o)(hd:∀es ep,o.data≠.dict es ep):a≠L:=fun e=>by
 subst e
 obtain⟨o',es,ep,ho',hd',_⟩:=hn
 exact hd es ep ((congrArg agS (Z8 (ho.symm.trans ho'))).trans hd')
theorem pM{h:aal}{L a:Addr}{m:Str→Option aac}{v:Option aac}(hn:h.Ns L m)(hc:h.IsCell a v):a≠L:=by
 obtain⟨o,ho,hd⟩:=hc
 exact Ec hn ho fun _ _ e=>by cases hd.symm.trans e
theorem qZ{h:aal}{L:Addr}{m:Str→Option aac}(hn:h.Ns L m):∃o,h.get? L=some o:=by
 obtain⟨o,_,_,e,_⟩:=hn
 exact⟨o,e⟩
theorem uN{h h':aal}{L:Addr}{m:Str→Option aac}(hn:h.Ns L m)(k:∀o,h.get? L=some o→∃sl,h'.get? L=some {o with slots:=sl}):h'.Ns L m:=by
 obtain⟨o,es,ep,e,rest⟩:=hn
 obtain⟨sl,q⟩:=k o e
 exact⟨_,es,ep,q,rest⟩
theorem l7{a:Addr}(h:a∉ao∧a∉μ):¬Wr lk μ a:=fun q=>q.elim h.1 fun q=>q.elim fun _ q=>h.2 (aaU q.1)
theorem jg.at_{h:aal}(B:jg hB A h μ X){L:Addr}(hL:nP A L):L∈X∧L∉ao∧L∉μ∧∃m,h.Ns L m:=by
 obtain⟨l,env,e,he,hf⟩:=hL
 obtain⟨l',e',hl⟩:=B.fr
 obtain rfl:=Z8 (e.symm.trans e')
 obtain⟨_,L',m,hf',hX,ht,hm,hn⟩:=hl env he
 obtain rfl:=Z8 (hf.symm.trans hf')
 exact⟨hX,ht,hm,m,hn⟩
theorem jg.move{h h':aal}(B:jg hB A h μ X)(k:∀L m,nP A L→h.Ns L m→L∈X→L∉μ→L∉ao→L∈X'∧L∉aG∧∃m',h'.Ns L m'):jg hB A h' aG X':=by
 obtain⟨l,e,hl⟩:=B.fr
 refine⟨l,e,fun env he=>?_⟩
 obtain⟨hk,L,m,hf,hX,ht,hm,hn⟩:=hl env he
 obtain⟨a,b,m',c⟩:=k L m ⟨l,env,e,he,hf⟩ hn hX hm ht
 exact⟨hk,L,m',hf,a,ht,b,c⟩
theorem jg.go(B:jg hB A s.heap μ X)(g:Goes hB Θ lk s μ X H' s' aG X'):jg hB A s'.heap aG X':=
 B.move fun L m _ hn hX hm ht=>⟨g.gx.sub hX,(qZ hn).elim fun o e=>g.gm.gS e hm,m,hn.at' fun o e=>g.keep.1 L o e (l7 ⟨ht,hm⟩)⟩
theorem FR.move{h h':aal}{r':aR}(F:FR hB Θ ks env r h μ X)(vr:∀x v,aK x r'=some v→∃v0,aK x r=some v0∧∀u,VR Θ h μ X v0 u→VR Θ h' aG X' v u)
 (ns:∀m,h.Ns env.locals m→∃m',h'.Ns env.locals m'∧∀x v,aK x r'=some v→m' (nm x)=m (nm x)) (ce:∀x c vo,x<138→(ks x=some .cell∨ks x=some .free)→env.cells.lookup (nm x)=some c→h.IsCell c vo→c∈X→h'.IsCell c vo∧c∈X') (lX:env.locals∈X'):FR hB Θ ks env r' h' aG X' where
 kind:=F.kind
 code:=F.code
 glob:=F.glob
 HJ:=F.HJ
 kinds:=F.kinds
 loc:=by
  obtain⟨m,hn,hh⟩:=F.loc
  obtain⟨m',hn',em⟩:=ns m hn
  refine⟨m',hn',fun x v e k=>?_⟩
  obtain⟨v0,e0,q⟩:=vr x v e
  exact(hh x v0 e0 k).imp fun u p=>⟨(em x v e).trans p.1,q u p.2⟩
 AI:=fun x hx k=>by
  obtain⟨c,vo,e1,e2,e3,e4⟩:=F.AI x hx k
  obtain⟨c1,c2⟩:=ce x c vo hx k e1 e2 e3
  refine⟨c,vo,e1,c1,c2,fun v e=>?_⟩
  obtain⟨v0,e0,q⟩:=vr x v e
  exact(e4 v0 e0).imp fun u p=>⟨p.1,q u p.2⟩
 inj:=F.inj
 dom:=fun x v e=>(vr x v e).elim fun v0 p=>F.dom x v0 p.1
 kG:=lX
theorem FR.keep{h h':aal}(F:FR hB Θ ks env r h μ X)(vr:∀v u,VR Θ h μ X v u→VR Θ h' aG X' v u)(ns:∀m,h.Ns env.locals m→h'.Ns env.locals m)
 (ce:∀x c vo,x<138→(ks x=some .cell∨ks x=some .free)→env.cells.lookup (nm x)=some c→h.IsCell c vo→c∈X→h'.IsCell c vo∧c∈X') (lX:env.locals∈X'):FR hB Θ ks env r h' aG X':=
 F.move (fun _ v e=>⟨v,e,fun u=>vr v u⟩) (fun m hn=>⟨m,ns m hn,fun _ _ _=>rfl⟩) ce lX
theorem jt{h h':aal}{c:Addr}{v:Option aac}(x:h.IsCell c v)(k:∀o,h.get? c=some o→h'.get? c=some o):h'.IsCell c v:=by
 obtain⟨o,ho,hd⟩:=x
 exact⟨o,k o ho,hd⟩
theorem FR.go(S:St hB Θ s.heap μ X H)(F:FR hB Θ ks env r s.heap μ X)(g:Goes hB Θ lk s μ X H' s' aG X'):FR hB Θ ks env r s'.heap aG X':=
 F.keep (fun _ _ q=>g.vr S q) (fun m hn=>hn.at' fun o e=>g.keep.1 _ o e (l7 (S.AJ hn))) (fun x c vo _ _ _ hc hX=>⟨jt hc fun o e=>g.keep.1 _ o e (l7 (S.n9 hc)),g.gx.sub hX⟩) (g.gx.sub F.kG)
structure Ready(hB:aal)(Θ:Th)(n:Nat)(ks:Kinds)(C:Cx)(A:aav)(env:Env)(r:aR)(s:aad)(μ X:List Addr)(H:HP):Prop where
 cx:tu Θ n C A
 ja:jg hB A s.heap μ X
 fr:FR hB Θ ks env r s.heap μ X
 st:St hB Θ s.heap μ X H
theorem Ready.go(R:Ready hB Θ n ks C A env r s μ X H)(g:Goes hB Θ lk s μ X H' s' aG X'):Ready hB Θ n ks C A env r s' aG X' H':=
 ⟨R.cx,R.ja.go g,R.fr.go R.st g,g.st⟩
theorem EG.trans{α:Type}{res:R α}{x:aac}(B:jg hB A s.heap μ X)(g:Goes hB Θ lk s μ X H' s' aG X')(e:EG hB Θ A lk s' aG X' res x s''):EG hB Θ A lk s μ X res x s'':=by
 obtain⟨c,m,iz,bZ,gJ,ea,e1,e2,e3,e4,e5,e6,e7,e8,e9,FA⟩:=e
 refine⟨c,m,iz,bZ,gJ,ea,e1,e2,e3,g.gm.trans g.keep.2 e4,g.gx.trans g.keep.2 e5,(g.keep.mono fun _ _ _ q=>Or.inl q).trans' e6 fun a o ho q=>?_,fun a o ha ho=>?_,e8.trans g.os,g.gens.trans e9,FA.back g.keep.2⟩
 ·exact q.imp (fun q=>q.back g.gm ho) id
 ·exact e7 a o ha (g.keep.1 a o ho (l7 ⟨(B.at_ ha).2.1,(B.at_ ha).2.2.1⟩))
theorem EG.cast{α β:Type}{res:R α}{res':R β}{x:aac}(h:∀c m H,res=.exc c m H→res'=.exc c m H)(e:EG hB Θ A lk s μ X res x s'):EG hB Θ A lk s μ X res' x s':=by
 obtain⟨c,m,iz,bZ,gJ,ea,e1,e2,e3,e4,e5,e6,e7,e8,e9,FA⟩:=e
 exact⟨c,m,iz,bZ,gJ,ea,h _ _ _ e1,e2,e3,e4,e5,e6,e7,e8,e9,FA⟩
theorem R.Ut{α β:Type}{a:α}{h:HP}{f:α→HP→R β}:(R.ok a h).bind f=f a h:=rfl
theorem R.Sa{α β:Type}{c:Nat}{m:V}{h:HP}{f:α→HP→R β}:(R.exc c m h:R α).bind f=.exc c m h:=rfl
theorem R.Sb{α β:Type}{f:α→HP→R β}:(R.bad:R α).bind f=.bad:=rfl
theorem R.m8{α β:Type}{x:R α}{f:α→HP→R β}(h:x.bind f≠.bad):x≠.bad:=fun e=>h (by rw[e];rfl)
theorem Sd{α β γ δ:Type}{Rel:aal→List Addr→List Addr→α→γ→Prop}{Rel':aal→List Addr→List Addr→β→δ→Prop}{res:R α}{f:α→HP→R β}{m:Sem γ}{k:γ→Sem δ}(B:jg hB A s.heap μ X)
 (hne:res.bind f≠.bad) (hm:res≠.bad→aai (model pw w) A m (QG Rel hB Θ lk s μ X res) (EG hB Θ A lk s μ X res) s)
 (hk:∀v H' u s' aG X',res=.ok v H'→Goes hB Θ lk s μ X H' s' aG X'→Rel s'.heap aG X' v u→f v H'≠.bad→
  aai (model pw w) A (k u) (QG Rel' hB Θ lk s' aG X' (f v H')) (EG hB Θ A lk s' aG X' (f v H')) s'):
 aai (model pw w) A (m>>=k) (QG Rel' hB Θ lk s μ X (res.bind f)) (EG hB Θ A lk s μ X (res.bind f)) s:=by
 refine aab (aas (hm (R.m8 hne)) (fun u s' h=>?_) fun e s' h=>?_)
 ·obtain⟨v,H',aG,X',rfl,g,q⟩:=h
  refine aas (hk v H' u s' aG X' rfl g q hne) (fun x s'' h'=>?_) fun e s'' h'=>h'.trans B g
  obtain⟨v',iz,bZ,gJ,e,g',q'⟩:=h'
  exact⟨v',iz,bZ,gJ,e,g.trans g',q'⟩
 ·exact h.cast fun c m H e=>by rw[e];rfl
theorem aV{α γ:Type}{Rel:aal→List Addr→List Addr→α→γ→Prop}{res:R α}{u:γ}{v:α}(he:res=.ok v H')(g:Goes hB Θ lk s μ X H' s' aG X')(q:Rel s'.heap aG X' v u):
 QG Rel hB Θ lk s μ X res u s':=⟨v,H',aG,X',he,g,q⟩
noncomputable def aX(w:aaC)(hB:aal)(Θ:Th)(n:Nat)(ks:Kinds)(c:CE)(e:Expr):Prop:=∀C A env r s μ X H,Ready hB Θ n ks C A env r s μ X H→c C r H≠.bad→
 aai (model pw w) A (eval e env) (QG (VR Θ) hB Θ C.lk s μ X (c C r H)) (EG hB Θ A C.lk s μ X (c C r H)) s
noncomputable def lH(w:aaC)(hB:aal)(Θ:Th)(n:Nat)(ks:Kinds)(c:CB)(e:Expr):Prop:=∀C A env r s μ X H,Ready hB Θ n ks C A env r s μ X H→c C r H≠.bad→
 aai (model pw w) A (isTrue e env (eval e env)) (QG (fun _ _ _ b b'=>b'=b) hB Θ C.lk s μ X (c C r H)) (EG hB Θ A C.lk s μ X (c C r H)) s
noncomputable def uO(w:aaC)(hB:aal)(Θ:Th)(n:Nat)(ks:Kinds)(c:CL)(l:List Expr):Prop:=∀C A env r s μ X H,Ready hB Θ n ks C A env r s μ X H→c C r H≠.bad→∀pos,
 aai (model pw w) A (spliced (backTo pos (starEach l env))) (QG (VRs Θ) hB Θ C.lk s μ X (c C r H)) (EG hB Θ A C.lk s μ X (c C r H)) s
theorem Se{x:Nat}:aK x []=none:=rfl
theorem cZ{x y:Nat}{v:V}{r:aR}:aK x ((y,v)::r)=if x=y then some v else aK x r:=by
 show@abQ (fun _=>Option V) (aK x r) (some v) (aap x y)=_
 by_cases h:x=y
 ·subst h;simp[abn]
 ·have:aap x y=false:=by
   cases e:aap x y with
   |false=>rfl
   |true=>exact absurd (aan e) h
  rw[this];simp[h]
theorem O7{p:Pos}:aX w hB Θ n ks (cV .none) (.Constant .none 0 p):=fun _ _ _ _ _ _ _ _ R _=>
 aft (aV rfl (.refl R.st) .none)
theorem O8{b:Bool}{p:Pos}:aX w hB Θ n ks (cV (.bool b)) (.Constant (.bool b) 0 p):=fun _ _ _ _ _ _ _ _ R _=>
 ab3 (aV rfl (.refl R.st) (.bool b))
theorem O9{i:Int}{p:Pos}:aX w hB Θ n ks (cV (.int i)) (.Constant (.int i) 0 p):=fun _ _ _ _ _ _ _ _ R _=>
 afM (aV rfl (.tok R.st _) (.int i _))
theorem Pa{l:List Nat}{p:Pos}:aX w hB Θ n ks (cV (.str l)) (.Constant (.str (bu l)) 0 p):=fun _ _ _ _ _ _ _ _ R _=>
 ad3 (aV rfl (.tok R.st _) (.str l _))
theorem VR.bE{h h':aal}(K:∀a o,h.get? a=some o→h'.get? a=some o){v:V}{x:aac}(r:VR Θ h μ X v x):VR Θ h' μ X v x:=r.mono (fun a o e _=>K a o e) .refl .refl
theorem VRs.bE{h h':aal}(K:∀a o,h.get? a=some o→h'.get? a=some o){v:List V}{x:List aac}(r:VRs Θ h μ X v x):VRs Θ h' μ X v x:=r.mono (fun a o e _=>K a o e) .refl .refl
theorem za:∀p∈tabs,p.2∈ao:=by decide
theorem L5:∀p∈tabs,∀q∈tabs,p.2=q.2→p.1=q.1:=by decide
theorem CodeHd.Oa{h h':aal}{c P:Addr}(x:CodeHd h c P)(K:∀o,h.get? c=some o→h'.get? c=some o):CodeHd h' c P:=by
 obtain⟨o,vs,file,tf,flags,tg,WK,text,tt,e,r⟩:=x
 exact⟨o,vs,file,tf,flags,tg,WK,text,tt,K _ e,r⟩
theorem CodeHd.get{h:aal}{c P:Addr}(x:CodeHd h c P):∃o,h.get? c=some o:=by
 obtain⟨o,vs,file,tf,flags,tg,WK,text,tt,e,r⟩:=x
 exact⟨o,e⟩
theorem Ea.go{h h':aal}{X':List Addr}{c P:Addr}(t:Ea h X c P)(K:∀a o,h.get? a=some o→a∉X→h'.get? a=some o∧a∉X')(KP:∀o,h.get? P=some o→h'.get? P=some o):Ea h' X' c P:=by
 obtain⟨o,e⟩:=CodeHd.get t.hd
 obtain⟨vs,e1,ok,q⟩:=t.ent
 refine⟨CodeHd.Oa t.hd fun o e=>(K _ o e t.cX).1,(K _ o e t.cX).2,vs,KP _ e1,ok,fun pos cv e'=>?_⟩
 obtain⟨c',oc,ws,tt,a,b,c,d,f⟩:=q pos cv e'
 exact⟨c',oc,ws,tt,a,(K _ _ b f).1,c,d,(K _ _ b f).2⟩
theorem St.Vg{h:aal}(S:St hB Θ h μ X H){a:Addr}{o:Obj}(e:hB.get? a=some o):a∉X:=fun q=>no2 (e.symm.trans (S.gK a q))
theorem St.move{h h':aal}{X':List Addr}(S:St hB Θ h μ X H)(K:∀a o,h.get? a=some o→a∉X→h'.get? a=some o∧a∉X')(KP:∀a o,h.get? a=some o→a∈μ∨a∈ao→h'.get? a=some o)
 (mX:∀a∈μ,a∈X') (tX:∀a∈ao,a∈X') (bX:∀a∈X',hB.get? a=none) (oX:∀a∈X',∃o,h'.get? a=some o):St hB Θ h' μ X' H where
 base a o e:=(K a o (S.base a o e) (S.Vg e)).1
 gK:=bX
 lG:=tX
 wH:=mX
 old:=oX
 nodup:=S.nodup
 len:=S.len
 obj n l e:=by
  obtain⟨a,xs,e1,e2,e3⟩:=S.obj n l e
  exact⟨a,xs,e1,bS e2 fun o e=>KP a o e (.inl (aaU e1)),VRs.map (VR.map (fun a o e q=>(K a o e q).1) (fun e=>e) fun e q=>(K _ _ e q).2) e3⟩
 tab p hp:=(S.tab p hp).go K fun o e=>KP _ o e (.inr (za p hp))
theorem St.bE{h h':aal}(S:St hB Θ h μ X H)(K:∀a o,h.get? a=some o→h'.get? a=some o):St hB Θ h' μ X H:=
 S.move (fun a o e q=>⟨K a o e,q⟩) (fun a o e _=>K a o e) S.wH S.lG S.gK fun a ha=>(S.old a ha).imp fun o e=>K a o e
theorem Goes.bE(S:St hB Θ s.heap μ X H)(K:∀a o,s.heap.get? a=some o→s'.heap.get? a=some o)(ho:s'.os=s.os:=by rfl)(hg:s'.gens=s.gens:=by rfl):Goes hB Θ lk s μ X H s' μ X:=
 ⟨S.bE K,.refl,.refl,.jJ K,ho,by rw[hg];exact .refl _⟩
theorem bx{h:aal}(o:Obj):∀a x,h.get? a=some x→(h.push o).get? a=some x:=fun _ _ e=>aat o e
theorem St.fresh{h:aal}(S:St hB Θ h μ X H){a:Addr}(e:h.get? a=none):a∉X:=fun hx=>by
 obtain⟨o,e'⟩:=S.old a hx;rw[e] at e';exact no1 e'
theorem aF(h:aal):h.get? h.objs.size=none:=by
 cases e:h.get? h.objs.size with
 |none=>rfl
 |some o=>exact absurd (aa7 e) (aeD _)
theorem jY{h:aal}{ν:List Addr}(hf:∀a∈ν,h.get? a=none){a:Addr}{o:Obj}(e:h.get? a=some o)(hX:a∉X):a∉X++ν:=fun hm=>by
 rcases aaW.mp hm with x|x
 ·exact hX x
 ·rw[hf a x] at e;exact no1 e
theorem St.frame{h h':aal}(S:St hB Θ h μ X H){P:Addr→Prop}(K:fL P h h')(hP:∀a o,h.get? a=some o→P a→a∈X∧a∉μ∧a∉ao)(ν:List Addr)(jh:∀a∈ν,h.get? a=none∧∃o,h'.get? a=some o):St hB Θ h' μ (X++ν) H:=
 S.move (fun a o e hX=>⟨K.1 a o e fun q=>hX (hP a o e q).1,jY (fun a ha=>(jh a ha).1) e hX⟩) (fun a o e hm=>K.1 a o e fun q=>hm.elim (hP a o e q).2.1 (hP a o e q).2.2) (fun a ha=>aaT _ (S.wH a ha)) (fun a ha=>aaT _ (S.lG a ha))
  (fun a ha=>(aaW.mp ha).elim (S.gK a) fun x=>by
   cases e:hB.get? a with
   |none=>rfl
   |some o=>exact no2 ((S.base a o e).symm.trans (jh a x).1))
  fun a ha=>(aaW.mp ha).elim (fun x=>(S.old a x).elim fun o e=>K.2 a o e) fun x=>(jh a x).2
theorem fL.put{h h':aal}{a:Addr}(hs:acE a h h')(hex:∃o,h'.get? a=some o):fL (fun b=>b=a) h h':=⟨fun b o e hb=>(hs.2 b hb).trans e,fun b o e=>by
 by_cases hb:b=a
 ·subst hb;exact hex
 ·exact⟨o,(hs.2 b hb).trans e⟩⟩
theorem St.put{h h':aal}(S:St hB Θ h μ X H){a:Addr}(hs:acE a h h')(hX:a∈X)(hm:a∉μ)(ht:a∉ao)(hex:∃o,h'.get? a=some o):St hB Θ h' μ X H:=
 S.move (fun b o e q=>⟨(hs.2 b fun hb=>q (hb▸hX)).trans e,q⟩) (fun b o e q=>(hs.2 b fun hb=>by subst hb;exact q.elim hm ht).trans e) S.wH S.lG S.gK fun b hb=>(S.old b hb).elim ((fL.put hs hex).2 b)
theorem VR.put{h h':aal}{a:Addr}(hs:acE a h h')(hX:a∈X){v:V}{u:aac}(q:VR Θ h μ X v u):VR Θ h' μ X v u:=q.mono (fun b o e hb=>(hs.2 b (fun q=>hb (q▸hX))).trans e) .refl .refl
theorem St.l8{h h':aal}(S:St hB Θ h μ X H)(K:∀a o,h.get? a=some o→h'.get? a=some o){a:Addr}(hn:h.get? a=none){l:List V}{xs:List aac}(ha:LstAt h' a xs.toArray)(q:VRs Θ h μ X l xs):
 St hB Θ h' (μ++[a]) (X++[a]) (au H [l]):=by
 have hf:∀b∈[a],h.get? b=none:=fun b hb=>by rw[aaq.mp hb];exact hn
 have hx:∀b∈[a],h.get? b=none∧∃o,h'.get? b=some o:=fun b hb=>by rw[aaq.mp hb];exact⟨hn,ha.get⟩
 have S1:=S.frame (P:=fun _=>False) (.mono (.jJ K) fun _ _ _ x=>x) (fun _ _ _ x=>x.elim) [a] hx
 have gm:Grows h μ (μ++[a]):=.one hn
 have gX:Grows h X (X++[a]):=.one hn
 have XS:a∉μ:=fun hm=>by obtain⟨o,e⟩:=S.old a (S.wH a hm);rw[hn] at e;exact no1 e
 rw[aO]
 exact{
  base:=S1.base
  gK:=S1.gK
  lG:=S1.lG
  wH:=fun b hb=>by
   rcases aaW.mp hb with x|x
   ·exact S1.wH b x
   ·exact aau _ x
  old:=S1.old
  nodup:=aes.mpr ⟨S.nodup,abE.mpr ⟨aaM,afb⟩,fun b hb c hc e=>XS ((aaq.mp hc)▸e▸hb)⟩
  len:=by rw[aao,aao,S.len];rfl
  obj:=fun n m e=>by
   rcases ahl n H.length with hlt|hge
   ·rw[aci hlt] at e
    obtain⟨b,ys,e1,e2,e3⟩:=S.obj n m e
    exact⟨b,ys,gm.at e1,bS e2 (K b),e3.mono (fun a o e _=>K a o e) gm gX⟩
   ·have hn:n=H.length:=Nat.le_antisymm (af2 (by have:=(aay.mp e).1;rwa[aao] at this)) hge
    subst hn
    rw[abA (aaA _),aeW] at e
    obtain rfl:=Z8 e
    exact⟨a,xs,by rw[←S.len,abA (aaA _),aeW];rfl,ha,q.mono (fun a o e _=>K a o e) gm gX⟩
  tab:=S1.tab}
theorem Goes.l8(S:St hB Θ s.heap μ X H)(K:∀a o,s.heap.get? a=some o→s'.heap.get? a=some o){a:Addr}(hn:s.heap.get? a=none){l:List V}{xs:List aac}(ha:LstAt s'.heap a xs.toArray)(q:VRs Θ s.heap μ X l xs)
 (ho:s'.os=s.os:=by rfl) (hg:s'.gens=s.gens:=by rfl):Goes hB Θ lk s μ X (au H [l]) s' (μ++[a]) (X++[a]):=
 ⟨S.l8 K hn ha q,.one hn,.one hn,.jJ K,ho,by rw[hg];exact .refl _⟩
theorem VR.l8(S:St hB Θ s.heap μ X H){h:aal}{a:Addr}{X':List Addr}:VR Θ h (μ++[a]) X' (.ref (aC H)) (.ref a):=.ref (by rw[aN,←S.len];simp)
theorem Goes.ja(g:Goes hB Θ lk s μ X H' s' aG X')(B:jg hB A s.heap μ X):jg hB A s'.heap aG X':=B.go g
theorem Ib{α β γ:Type}{Rel:aal→List Addr→List Addr→α→γ→Prop}{res:R α}{f:α→HP→R β}{whole:R β}{m:Sem γ}{Q:γ→aad→Prop}(B:jg hB A s.heap μ X)
 (g:Goes hB Θ lk s μ X H1 s1 aZ X1) (hw:whole=res.bind f) (hne:whole≠.bad)
 (hm:res≠.bad→aai (model pw w) A m (QG Rel hB Θ lk s1 aZ X1 res) (EG hB Θ A lk s1 aZ X1 res) s1)
 (hk:∀v H' u s' aG X',Goes hB Θ lk s μ X H' s' aG X'→Goes hB Θ lk s1 aZ X1 H' s' aG X'→Rel s'.heap aG X' v u→whole=f v H'→Q u s'):
 aai (model pw w) A m Q (EG hB Θ A lk s μ X whole) s1:=by
 refine aas (hm (R.m8 (hw▸hne))) (fun u s' h=>?_) fun e s' h=>?_
 ·obtain⟨v,H',aG,X',e,g',q⟩:=h
  exact hk v H' u s' aG X' (g.trans g') g' q (by rw[hw,e];rfl)
 ·exact(h.cast fun c m H e=>by rw[hw,e];rfl).trans B g
inductive lq(hB:aal)(Θ:Th)(lk:List Nat)(s:aad)(μ X:List Addr)(H:HP)(v:V)(u:aac)(s':aad):Prop
 |mk(aG X':List Addr)(go:Goes hB Θ lk s μ X H s' aG X')(vr:VR Θ s'.heap aG X' v u)
theorem QG.rY{v:V}{whole:R V}{u:aac}(g:Goes hB Θ lk s μ X H1 s1 aZ X1)(hw:whole=.ok v H')(h:lq hB Θ lk s1 aZ X1 H' v u s'):QG (VR Θ) hB Θ lk s μ X whole u s':=by
 obtain⟨aG,X',g',q⟩:=h
 exact⟨v,H',aG,X',hw,g.trans g',q⟩
theorem lq.tok{v:V}{u:aac}(S:St hB Θ s.heap μ X H)(t:Nat)(q:VR Θ s.heap μ X v u):lq hB Θ lk s μ X H v u {s with toks:=t}:=⟨μ,X,.tok S t,q⟩
theorem lq.same{v:V}{u:aac}(S:St hB Θ s.heap μ X H)(q:VR Θ s.heap μ X v u):lq hB Θ lk s μ X H v u s:=⟨μ,X,.refl S,q⟩
theorem lq.keep{v:V}{u:aac}(S:St hB Θ s.heap μ X H)(K:∀a o,s.heap.get? a=some o→s'.heap.get? a=some o)(q:VR Θ s'.heap μ X v u)(ho:s'.os=s.os:=by rfl)(hg:s'.gens=s.gens:=by rfl):lq hB Θ lk s μ X H v u s':=
 ⟨μ,X,.bE S K ho hg,q⟩
theorem fM(a b:Int):jS a b=decide (a<b):=by
 unfold jS
 have:aaK b (acz a)=b - a:=rfl
 rw[this]
 rcases e:b - a with k|k
 ·show aba 0 k=_
  by_cases h:a<b
  ·have:0<k:=by simp only [acn] at e;omega
   simp[h,aba,this]
   omega
  ·have:k=0:=by simp only [acn] at e;omega
   subst this;simp[h];rfl
 ·show false=_
  have:¬a<b:=by omega
  simp[this]
theorem Ic(a b:Int):Q9 a b=decide (a≤b):=by
 unfold Q9
 have:aaK b (acz a)=b - a:=rfl
 rw[this]
 rcases e:b - a with k|k
 ·show true=_
  have:a≤b:=by simp only [acn] at e;omega
  simp[this]
 ·show false=_
  have:¬a≤b:=by omega
  simp[this]
theorem kH(a b:Int):uz a b=decide (a=b):=by
 unfold uz
 have:aaK b (acz a)=b - a:=rfl
 rw[this]
 rcases e:b - a with k|k
 ·show aap k 0=_
  by_cases h:a=b
  ·have:k=0:=by simp only [acn] at e;omega
   subst this;simp[h]
  ·have:k≠0:=by simp only [acn] at e;omega
   simp[h]
   cases k with
   |zero=>exact absurd rfl this
   |succ k=>rfl
 ·show false=_
  have:¬a=b:=by omega
  simp[this]
theorem ju:∀a b:List Nat,gP a b=decide (a=b)
 |[],[]=>rfl
 |[],_::_=>rfl
 |_::_,[]=>rfl
 |a::x,b::y=>by
  show@abQ (fun _=>Bool) false (gP x y) (aap a b)=_
  cases e:aap a b with
  |false=>have:¬a=b:=fun h=>by rw[h,abn] at e;exact nb2 e
          simp[this]
  |true=>have:=aan e
         simp[this,ju x y]
theorem zb:∀a b:List Nat,HR a b=decide (a<b)
 |[],[]=>rfl
 |[],_::_=>by simp[HR]
 |_::_,[]=>rfl
 |a::x,b::y=>by
  show@abQ (fun _=>Bool) (aba a b) (HR x y) (aap a b)=_
  cases e:aap a b with
  |false=>have h:¬a=b:=fun h=>by rw[h,abn] at e;exact nb2 e
          show aba a b=_
          rw[abF]
          simp[ae7,h]
  |true=>have h:=aan e
         show HR x y=_
         rw[zb x y,abF]
         simp[ae7,h]
theorem uP{i:Int}(h:i.natAbs<1000000):i<(2^63:Int):=acd afH (aeX (abK.mpr h) (by decide))
theorem zc{i:Int}(h:i.natAbs<1000000):-(2^63:Int)≤i:=Int.neg_le_of_neg_le (adS (uP (agT i▸h)))
end
end Internal
set_option linter.unusedVariables false
namespace Internal
open PySem
theorem fE{α:Type}{l m:List α}(h:fit l=some m):m=l∧l.length≤4000:=by
 unfold fit short at h
 rw[aN] at h
 cases e:aa5 l.length 4000 with
 |false=>rw[e] at h;exact no1 h
 |true=>rw[e] at h;obtain rfl:=Z8 h;exact⟨rfl,aak e⟩
theorem ah{α β:Type}{o:Option α}{f:α→Option β}{b:β}(h:aT o f=some b):∃a,o=some a∧f a=some b:=by
 cases o with
 |none=>exact no1 h
 |some a=>exact⟨a,rfl,h⟩
theorem aM{α:Type}{b:Bool}{x:Option α}{y:α}(h:az b x none=some y):b=true∧x=some y:=by
 cases b with
 |false=>exact no1 h
 |true=>exact⟨rfl,h⟩
theorem nB{P:Prop}{α:Type}(h:(R.bad:R α)≠.bad):P:=absurd rfl h
theorem R.AK{α:Type}{o:Option α}{H:HP}(h:R.lift o H≠.bad):∃a,o=some a:=by
 cases o with
 |none=>exact nB h
 |some a=>exact⟨a,rfl⟩
theorem R.dB{α:Type}{o:Option α}{H:HP}(h:R.lift o H≠.bad):∃a,o=some a∧R.lift o H=.ok a H:=by
 cases o with
 |none=>exact nB h
 |some a=>exact⟨a,rfl,rfl⟩
theorem L6{α:Type}{b:Bool}{x:R α}(h:az b x .bad≠.bad):b=true∧x≠.bad:=by
 cases b with
 |false=>exact nB h
 |true=>exact⟨rfl,h⟩
theorem bY{α:Type}{b:Bool}{x:R α}(h:az b x .bad≠.bad):b=true∧x≠.bad∧az b x .bad=x:=by
 cases b with
 |false=>exact nB h
 |true=>exact⟨rfl,h,rfl⟩
theorem as0{F:R V}{as:List V}(h:(match as with|[]=>F|_=>.bad)≠.bad):as=[]∧F≠.bad:=by
 cases as with
 |nil=>exact⟨rfl,h⟩
 |cons _ _=>exact nB h
theorem HK{α:Type}{F:V→R α}{as:List V}(h:(match as with|[v]=>F v|_=>.bad)≠.bad):∃v,as=[v]∧F v≠.bad:=by
 cases as with
 |nil=>exact nB h
 |cons v t=>
  cases t with
  |nil=>exact⟨v,rfl,h⟩
  |cons _ _=>exact nB h
theorem WL{F:V→V→R V}{as:List V}(h:(match as with|[v,u]=>F v u|_=>.bad)≠.bad):∃v u,as=[v,u]∧F v u≠.bad:=by
 cases as with
 |nil=>exact nB h
 |cons v t=>
  cases t with
  |nil=>exact nB h
  |cons u t=>
   cases t with
   |nil=>exact⟨v,u,rfl,h⟩
   |cons _ _=>exact nB h
theorem Vh{F:V→R V}{G:V→V→R V}{as:List V}(h:(match as with|[v]=>F v|[v,u]=>G v u|_=>.bad)≠.bad):(∃v,as=[v]∧F v≠.bad)∨∃v u,as=[v,u]∧G v u≠.bad:=by
 cases as with
 |nil=>exact nB h
 |cons v t=>
  cases t with
  |nil=>exact .inl ⟨v,rfl,h⟩
  |cons u t=>
   cases t with
   |nil=>exact .inr ⟨v,u,rfl,h⟩
   |cons _ _=>exact nB h
theorem kJ{a b:List Nat}(h:gP a b=true):a=b:=by rw[ju] at h;exact of_decide_eq_true h
section
variable{a b v:V}{H:HP}{c:Bool}{l:List V}{par:Bool}
theorem ne_str{F:List Nat→R V}(h:(match v with|.str u=>F u|_=>.bad)≠.bad):∃u,v=.str u∧F u≠.bad:=by
 have N:∀v:V,(R.bad:R V)≠.bad→∃u,v=.str u∧F u≠.bad:=fun _=>nB
 revert h
 cases v with
 |str u=>exact fun h=>⟨u,rfl,h⟩
 |_=>exact N _
theorem Pb{F:List Nat→R V}(h:(match v with|.sym u=>F u|_=>.bad)≠.bad):∃u,v=.sym u∧F u≠.bad:=by
 have N:∀v:V,(R.bad:R V)≠.bad→∃u,v=.sym u∧F u≠.bad:=fun _=>nB
 revert h
 cases v with
 |sym u=>exact fun h=>⟨u,rfl,h⟩
 |_=>exact N _
theorem q9(h:isRef v=true):∃k,v=.ref k:=by
 have N:∀v:V,false=true→∃k,v=.ref k:=fun _=>nb1
 revert h
 cases v with
 |ref k=>exact fun _=>⟨k,rfl⟩
 |_=>exact N _
theorem iI(h:isStr v=true):∃l,v=.str l:=by
 have N:∀v:V,false=true→∃l,v=.str l:=fun _=>nb1
 revert h
 cases v with
 |str k=>exact fun _=>⟨k,rfl⟩
 |_=>exact N _
theorem xx(h:HV v=true):∃l,v=.m7 l:=by
 have N:∀v:V,false=true→∃l,v=.m7 l:=fun _=>nb1
 revert h
 cases v with
 |m7 k=>exact fun _=>⟨k,rfl⟩
 |_=>exact N _
theorem rg(h:D6 v=true):∃p,v=.pat p:=by
 have N:∀v:V,false=true→∃p,v=.pat p:=fun _=>nb1
 revert h
 cases v with
 |pat k=>exact fun _=>⟨k,rfl⟩
 |_=>exact N _
theorem iU(h:qW v=true):∃n,v=.inst n:=by
 have N:∀v:V,false=true→∃p,v=.inst p:=fun _=>nb1
 revert h
 cases v with
 |inst k=>exact fun _=>⟨k,rfl⟩
 |_=>exact N _
theorem FD(h:AD v=true):(∃k,v=.ref k)∨∃l,v=.lst l:=by
 have N:∀v:V,false=true→(∃k,v=.ref k)∨∃l,v=.lst l:=fun _=>nb1
 revert h
 cases v with
 |ref k=>exact fun _=>.inl ⟨k,rfl⟩
 |lst l=>exact fun _=>.inr ⟨l,rfl⟩
 |_=>exact N _
@[elab_as_elim] theorem sj{α:Type}{a b:α}{P:α→Prop}(h:some a=some b)(k:P a):P b:=Z8 h▸k
theorem nN{α:Type}{o:Option α}{x:α}{P:Prop}(e:o=none)(h:o=some x):P:=no1 (e.symm.trans h)
theorem dP{α:Type}{f:Int→Option α}{x:α}(h:(match v with|.int i=>f i|_=>none)=some x):∃i,v=.int i∧f i=some x:=by
 have N:∀v:V,none=some x→∃i,v=.int i∧f i=some x:=fun _=>no1
 revert h
 cases v with
 |int i=>exact fun h=>⟨i,rfl,h⟩
 |_=>exact N _
theorem jK{α:Type}{f:List Nat→Option α}{x:α}(h:(match v with|.str i=>f i|_=>none)=some x):∃i,v=.str i∧f i=some x:=by
 have N:∀v:V,none=some x→∃i,v=.str i∧f i=some x:=fun _=>no1
 revert h
 cases v with
 |str i=>exact fun h=>⟨i,rfl,h⟩
 |_=>exact N _
theorem Pc{α:Type}{f:List Nat→Option α}{x:α}(h:(match v with|.sym i=>f i|_=>none)=some x):∃i,v=.sym i∧f i=some x:=by
 have N:∀v:V,none=some x→∃i,v=.sym i∧f i=some x:=fun _=>no1
 revert h
 cases v with
 |sym i=>exact fun h=>⟨i,rfl,h⟩
 |_=>exact N _
inductive Ed(H:HP)(l:List V):V→Prop
 |lst:Ed H l (.lst l)
 |ref(n:Nat)(h:jR H n=some l):Ed H l (.ref n)
theorem xy(h:items H a=some l):Ed H l a:=by
 have N:∀a:V,none=some l→Ed H l a:=fun _=>no1
 revert h
 cases a with
 |lst m=>exact fun h=>sj h .lst
 |ref n=>exact .ref n
 |_=>exact N _
inductive Ie:V→V→Bool→Prop
 |int(i j:Int):Ie (.int i) (.int j) (uz i j)
 |str(s t:List Nat):Ie (.str s) (.str t) (gP s t)
 |sym(s t:List Nat)(h:gP s t=true):Ie (.sym s) (.sym t) true
theorem uQ(h:lP a b=some c):Ie a b c:=by
 have N:∀a:V,none=some c→Ie a b c:=fun _=>no1
 revert h
 cases a with
 |int i=>intro h;obtain⟨j,rfl,h⟩:=dP (f:=fun j=>some (uz i j)) h;obtain rfl:=Z8 h;exact .int i j
 |str s=>intro h;obtain⟨t,rfl,h⟩:=jK (f:=fun t=>some (gP s t)) h;obtain rfl:=Z8 h;exact .str s t
 |sym s=>intro h;obtain⟨t,rfl,h⟩:=Pc (f:=fun t=>az (gP s t) (some true) none) h;obtain⟨e,h⟩:=aM h;obtain rfl:=Z8 h;exact .sym s t e
 |_=>exact N _
inductive Uu:V→V→Bool→Prop
 |tup(l m:List V){c:Bool}(hl:aap (aC l) (aC m)=true)(h:lQ lP l m=some c):Uu (.tup l) (.tup m) c
 |pl{a b:V}{c:Bool}(h:lP a b=some c):Uu a b c
theorem t9(h:uA a b=some c):Uu a b c:=by
 revert h
 cases a with
 |tup l=>
  have N:∀b:V,none=some c→Uu (.tup l) b c:=fun _=>no1
  cases b with
  |tup m=>intro h;obtain⟨e,h⟩:=aM (show az (aap (aC l) (aC m)) (lQ lP l m) none=some c from h);exact .tup l m e h
  |_=>exact N _
 |_=>exact fun h=>.pl h
inductive oh(H:HP):V→V→V→Prop
 |ii(i j:Int):oh H (.int i) (.int j) (.int (aaK i j))
 |it(i k:Int):oh H (.int i) (.tot k) (.tot (aaK k i))
 |ti(k j:Int):oh H (.tot k) (.int j) (.tot (aaK k j))
 |ss(s t:List Nat)(h:(s++t).length≤4000):oh H (.str s) (.str t) (.str (s++t))
 |sy(s t:List Nat)(ha:ascii s=true)(h:(s++t).length≤4000):oh H (.str s) (.sym t) (.sym (s++t))
 |ys(s t:List Nat)(ha:ascii t=true)(h:(s++t).length≤4000):oh H (.sym s) (.str t) (.sym (s++t))
 |yy(s t:List Nat)(h:(s++t).length≤4000):oh H (.sym s) (.sym t) (.sym (s++t))
 |ll(a b:V)(l m:List V)(ha:items H a=some l)(hb:items H b=some m)(h:(l++m).length≤4000):oh H a b (.lst (l++m))
theorem AL{α:Type}{l m u:List α}(h:fit (au l m)=some u):u=l++m∧(l++m).length≤4000:=by
 rw[aO] at h;exact fE h
theorem xA(h:(aT (items H a) fun l=>aT (items H b) fun m=>aT (fit (au l m)) fun u=>some (V.lst u))=some v):oh H a b v:=by
 obtain⟨l,ha,h⟩:=ah h
 obtain⟨m,hb,h⟩:=ah h
 obtain⟨u,hu,h⟩:=ah h
 obtain rfl:=Z8 h
 obtain⟨rfl,hl⟩:=AL hu
 exact .ll a b l m ha hb hl
theorem m9{β γ:Type}{l m:List β}{f:List β→γ}{x:γ}(h:aT (fit (au l m)) (fun u=>some (f u))=some x):f (l++m)=x∧(l++m).length≤4000:=by
 obtain⟨u,hu,h⟩:=ah h
 obtain⟨rfl,hl⟩:=AL hu
 exact⟨Z8 h,hl⟩
theorem AM(h:LP H a b=some v):oh H a b v:=by
 have N:∀a:V,none=some v→oh H a b v:=fun _=>no1
 revert h
 cases a with
 |int i=>
  clear N
  have N:∀b:V,none=some v→oh H (.int i) b v:=fun _=>no1
  cases b with
  |int j=>exact fun h=>sj h (.ii i j)
  |tot k=>exact fun h=>sj h (.it i k)
  |_=>exact N _
 |str s=>
  clear N
  have N:∀b:V,none=some v→oh H (.str s) b v:=fun _=>no1
  cases b with
  |str t=>intro h;obtain⟨e,hl⟩:=m9 (f:=V.str) h;subst e;exact .ss s t hl
  |sym t=>intro h;obtain⟨ha,h⟩:=aM h;obtain⟨e,hl⟩:=m9 (f:=V.sym) h;subst e;exact .sy s t ha hl
  |_=>exact N _
 |sym s=>
  clear N
  have N:∀b:V,none=some v→oh H (.sym s) b v:=fun _=>no1
  cases b with
  |str t=>intro h;obtain⟨ha,h⟩:=aM h;obtain⟨e,hl⟩:=m9 (f:=V.sym) h;subst e;exact .ys s t ha hl
  |sym t=>intro h;obtain⟨e,hl⟩:=m9 (f:=V.sym) h;subst e;exact .yy s t hl
  |_=>exact N _
 |tot k=>intro h;obtain⟨j,rfl,h⟩:=dP (α:=V) (v:=b) (f:=fun j=>some (V.tot (aaK k j))) h;exact sj h (.ti k j)
 |lst l=>exact fun h=>xA h
 |ref l=>exact fun h=>xA h
 |_=>exact N _
inductive AN:V→V→V→Prop
 |ii(i j:Int):AN (.int i) (.int j) (.int (aaK i (acz j)))
 |ni(k j:Int):AN (.lD k) (.int j) (.lD (aaK k (acz j)))
theorem xB(h:D5 a b=some v):AN a b v:=by
 have N:∀a:V,none=some v→AN a b v:=fun _=>no1
 revert h
 cases a with
 |int i=>intro h;obtain⟨j,rfl,h⟩:=dP (α:=V) (v:=b) (f:=fun j=>some (V.int (aaK i (acz j)))) h;obtain rfl:=Z8 h;exact .ii i j
 |lD i=>intro h;obtain⟨j,rfl,h⟩:=dP (α:=V) (v:=b) (f:=fun j=>some (V.lD (aaK i (acz j)))) h;obtain rfl:=Z8 h;exact .ni i j
 |_=>exact N _
inductive L7:V→V→V→Prop
 |ii(i j:Int)(h1:bJ i=true)(h2:bJ j=true):L7 (.int i) (.int j) (.int (ah2 i j))
 |si(s:List Nat)(j:Int)(h2:bJ j=true)(h:(rep s (abu j)).length≤4000):L7 (.str s) (.int j) (.str (rep s (abu j)))
theorem Ig(h:LQ a b=some v):L7 a b v:=by
 obtain⟨j,rfl,h⟩:=dP (α:=V) (v:=b) (f:=fun j=>match(generalizing:=false) a with
  |.int i=>az (bJ i) (az (bJ j) (some (V.int (ah2 i j))) none) none
  |.str s=>az (bJ j) (aT (fit (rep s (abu j))) fun u=>some (V.str u)) none
  |_=>none) h
 have N:∀a:V,none=some v→L7 a (.int j) v:=fun _=>no1
 replace h:LQ a (.int j)=some v:=h
 revert h
 cases a with
 |int i=>intro h;obtain⟨h1,h⟩:=aM h;obtain⟨h2,h⟩:=aM h;exact sj h (.ii i j h1 h2)
 |str s=>intro h;obtain⟨h2,h⟩:=aM h;obtain⟨u,hu,h⟩:=ah h;obtain⟨rfl,hl⟩:=fE hu;exact sj h (.si s j h2 hl)
 |_=>exact N _
theorem FE(h:HT a b=some v):∃i j,a=.int i∧b=.int j∧jS 0 j=true∧bJ j=true∧v=.int (i/j):=by
 obtain⟨i,rfl,h⟩:=dP (α:=V) (v:=a) (f:=fun i=>match(generalizing:=false) b with|.int j=>az (jS 0 j) (az (bJ j) (some (V.int (i/j))) none) none|_=>none) h
 obtain⟨j,rfl,h⟩:=dP (α:=V) (v:=b) (f:=fun j=>az (jS 0 j) (az (bJ j) (some (V.int (i/j))) none) none) h
 obtain⟨h1,h⟩:=aM h;obtain⟨h2,h⟩:=aM h
 exact⟨i,j,rfl,rfl,h1,h2,(Z8 h).symm⟩
inductive L8(par:Bool)(j:Int):V→V→Prop
 |ii(i:Int):L8 par j (.int i) (.int (abj i j))
 |ti(k:Int)(h:uz j 2=true):L8 par j (.tot k) (.int (abj (aaK k (az par 1 0)) 2))
theorem Ih(h:LR par a b=some v):∃j,b=.int j∧jS 0 j=true∧L8 par j a v:=by
 obtain⟨j,rfl,h⟩:=dP (α:=V) (v:=b) (f:=fun j=>LR par a (.int j)) h
 obtain⟨h1,h⟩:=aM h
 refine⟨j,rfl,h1,?_⟩
 have N:∀a:V,none=some v→L8 par j a v:=fun _=>no1
 replace h:RA par j a=some v:=h
 revert h
 cases a with
 |int i=>exact fun h=>sj h (.ii i)
 |tot k=>intro h;obtain⟨h2,h⟩:=aM h;exact sj h (.ti k h2)
 |_=>exact N _
theorem Ii(h:ON a b=some v):∃(i:Int)(n:Nat),a=.int i∧b=.int (aaa n)∧bJ i=true∧aba n 20=true∧v=.int (i^n):=by
 obtain⟨i,rfl,h⟩:=dP (α:=V) (v:=a) (f:=fun i=>match(generalizing:=false) b with|.int j=>@ac8 (fun _=>Option V) (fun n=>az (bJ i) (az (aba n 20) (some (V.int (i^n))) none) none) (fun _=>none) j|_=>none) h
 obtain⟨j,rfl,h⟩:=dP (α:=V) (v:=b) (f:=fun j=>@ac8 (fun _=>Option V) (fun n=>az (bJ i) (az (aba n 20) (some (V.int (i^n))) none) none) (fun _=>none) j) h
 rcases j with n|n
 ·obtain⟨h1,h⟩:=aM (b:=bJ i) h;obtain⟨h2,h⟩:=aM h
  exact⟨i,n,rfl,rfl,h1,h2,(Z8 h).symm⟩
 ·exact no1 h
inductive Sf:V→V→Bool→Prop
 |ii(i j:Int):Sf (.int i) (.int j) (jS i j)
 |ss(s t:List Nat):Sf (.str s) (.str t) (HR s t)
 |ni(k j:Int)(h1:uz j 0=true)(h2:jS k 0=true):Sf (.lD k) (.int j) true
theorem Ma(h:ltV a b=some c):Sf a b c:=by
 have N:∀a:V,none=some c→Sf a b c:=fun _=>no1
 revert h
 cases a with
 |int i=>intro h;obtain⟨j,rfl,h⟩:=dP (f:=fun j=>some (jS i j)) h;obtain rfl:=Z8 h;exact .ii i j
 |str s=>intro h;obtain⟨j,rfl,h⟩:=jK (f:=fun j=>some (HR s j)) h;obtain rfl:=Z8 h;exact .ss s j
 |lD k=>
  intro h
  obtain⟨j,rfl,h⟩:=dP (f:=fun j=>az (uz j 0) (az (jS k 0) (some true) none) none) h
  obtain⟨h1,h⟩:=aM h;obtain⟨h2,h⟩:=aM h;obtain rfl:=Z8 h;exact .ni k j h1 h2
 |_=>exact N _
theorem Mb(h:WH a b=some c):∃i j,a=.int i∧b=.int j∧jS j i=c:=by
 obtain⟨i,rfl,h⟩:=dP (f:=fun i=>match(generalizing:=false) b with|.int j=>some (jS j i)|_=>none) h
 obtain⟨j,rfl,h⟩:=dP (f:=fun j=>some (jS j i)) h
 exact⟨i,j,rfl,rfl,Z8 h⟩
theorem Ef(h:U6 a b=some c):∃i j,a=.int i∧b=.int j∧Q9 i j=c:=by
 obtain⟨i,rfl,h⟩:=dP (f:=fun i=>match(generalizing:=false) b with|.int j=>some (Q9 i j)|_=>none) h
 obtain⟨j,rfl,h⟩:=dP (f:=fun j=>some (Q9 i j)) h
 exact⟨i,j,rfl,rfl,Z8 h⟩
inductive Rb:V→V→Bool→Prop
 |none(a:V):Rb a .none (yx a)
 |bool(d e:Bool):Rb (.bool d) (.bool e) (az e d (az d false true))
 |ss:Rb (.bi .str) (.bi .str) true
 |is:Rb (.bi .int) (.bi .str) false
theorem Mc(h:Ue a b=some c):Rb a b c:=by
 have N:∀a b:V,none=some c→Rb a b c:=fun _ _=>no1
 revert h
 cases b with
 |none=>exact fun h=>sj h (.none a)
 |bool e=>
  cases a with
  |bool d=>exact fun h=>sj h (.bool d e)
  |_=>exact N _ _
 |bi k=>
  cases a with
  |bi j=>
   cases j with
   |str=>
    cases k with
    |str=>exact fun h=>sj h (.ss)
    |_=>exact N _ _
   |int=>
    cases k with
    |str=>exact fun h=>sj h (.is)
    |_=>exact N _ _
   |_=>exact N _ _
  |_=>exact N _ _
 |_=>exact N _ _
inductive Sg(H:HP)(a:V):V→Bool→Prop
 |ss(d:Nat)(t:List Nat)(ha:a=.str [d]):Sg H a (.str t) (Az d t)
 |ll(b:V){c:Bool}(l:List V)(hb:items H b=some l)(h:isIn a l=some c):Sg H a b c
theorem Mf(h:OO H a b=some c):Sg H a b c:=by
 have L:∀b,(aT (items H b) fun l=>isIn a l)=some c→Sg H a b c:=fun b h=>by
  obtain⟨l,hb,h⟩:=ah h;exact .ll b l hb h
 have N:∀b:V,none=some c→Sg H a b c:=fun _=>no1
 revert h
 cases b with
 |str t=>
  intro h
  obtain⟨s,rfl,h⟩:=jK (v:=a) (f:=fun s=>OO H (.str s) (.str t)) h
  cases s with
  |nil=>exact no1 h
  |cons d s=>
   cases s with
   |nil=>obtain rfl:=Z8 h;exact .ss d t rfl
   |cons _ _=>exact no1 h
 |lst l=>exact fun h=>L _ h
 |ref n=>exact fun h=>L _ h
 |_=>exact N _
theorem uR{o:Option Bool}(h:wL o=some c):∃d,o=some d∧c=!d:=by
 obtain⟨d,h1,h⟩:=ah h
 obtain rfl:=Z8 h
 exact⟨d,h1,by cases d<;>rfl⟩
inductive Tr:V→Bool→Prop
 |none:Tr .none false
 |bool(b:Bool):Tr (.bool b) b
 |int(i:Int):Tr (.int i) (az (uz i 0) false true)
theorem Pd(h:tr a=some c):Tr a c:=by
 have N:∀a:V,none=some c→Tr a c:=fun _=>no1
 revert h
 cases a with
 |none=>exact fun h=>sj h (.none)
 |bool b=>exact fun h=>sj h (.bool b)
 |int i=>exact fun h=>sj h (.int i)
 |_=>exact N _
inductive Ij(H:HP)(i:Int)(v:V):V→Prop
 |str(s:List Nat)(k c:Nat)(h1:index (aC s) i=some k)(h2:jR s k=some c)(hv:v=.str [c]):Ij H i v (.str s)
 |tup(l:List V)(k:Nat)(h1:index (aC l) i=some k)(h2:jR l k=some v):Ij H i v (.tup l)
 |ll(o:V)(l:List V)(k:Nat)(ho:items H o=some l)(h1:index (aC l) i=some k)(h2:jR l k=some v):Ij H i v o
theorem Ik(h:wM H a b=some v):∃i,b=.int i∧bJ i=true∧Ij H i v a:=by
 obtain⟨i,rfl,h⟩:=dP (α:=V) (v:=b) (f:=fun i=>wM H a (.int i)) h
 obtain⟨h1,h⟩:=aM h
 refine⟨i,rfl,h1,?_⟩
 have N:∀a,(aT (items H a) fun l=>aT (index (aC l) i) fun k=>jR l k)=some v→Ij H i v a:=fun a h=>by
  obtain⟨l,ho,h⟩:=ah h;obtain⟨k,h1,h⟩:=ah h;exact .ll a l k ho h1 h
 replace h:RC H i a=some v:=h
 revert h
 cases a with
 |str s=>intro h;obtain⟨k,h1,h⟩:=ah h;obtain⟨c,h2,h⟩:=ah h;exact .str s k c h1 h2 (Z8 h).symm
 |tup l=>intro h;obtain⟨k,h1,h⟩:=ah h;exact .tup l k h1 h
 |_=>exact fun h=>N _ h
inductive Bound(n d:Nat):V→Nat→Prop
 |none:Bound n d .none d
 |int(i:Int):Bound n d (.int i) (@ac8 (fun _=>Nat) (fun k=>az (aa5 k n) k n) (fun k=>n - (k+1)) i)
theorem xC{n d k:Nat}(h:bound n d a=some k):Bound n d a k:=by
 have N:∀a:V,none=some k→Bound n d a k:=fun _=>no1
 revert h
 cases a with
 |none=>exact fun h=>sj h (.none)
 |int i=>exact fun h=>sj h (.int i)
 |_=>exact N _
theorem Pe{α:Type}{f:List V→Option α}{x:α}(h:(match v with|.tup i=>f i|_=>none)=some x):∃i,v=.tup i∧f i=some x:=by
 have N:∀v:V,none=some x→∃i,v=.tup i∧f i=some x:=fun _=>no1
 revert h
 cases v with
 |tup i=>exact fun h=>⟨i,rfl,h⟩
 |_=>exact N _
theorem of_two{α:Type}{f:V→V→Option α}{x:α}(h:(match l with|[p,q]=>f p q|_=>none)=some x):∃p q,l=[p,q]∧f p q=some x:=by
 cases l with
 |nil=>exact no1 h
 |cons p t=>
  cases t with
  |nil=>exact no1 h
  |cons q t=>
   cases t with
   |nil=>exact⟨p,q,rfl,h⟩
   |cons _ _=>exact no1 h
theorem uS{i:Int}{t:List Nat}(h:oV v=some (i,t)):v=.tup [.int i,.str t]:=by
 obtain⟨l,rfl,h⟩:=Pe (f:=fun l=>oV (.tup l)) h
 obtain⟨p,q,rfl,h⟩:=of_two (f:=fun p q=>oV (.tup [p,q])) h
 obtain⟨i,rfl,h⟩:=dP (f:=fun i=>oV (.tup [.int i,q])) h
 obtain⟨s,rfl,h⟩:=jK (f:=fun s=>oV (.tup [.int i,.str s])) h
 obtain⟨rfl,rfl⟩:=ahB (Z8 h)
 rfl
theorem iJ{i:Int}(h:oU v=some i):v=.int i:=by
 obtain⟨j,rfl,h⟩:=dP (f:=some) h
 exact congrArg V.int (Z8 h)
inductive Mg(H:HP):V→V→Prop
 |str(s:List Nat)(hl:s.length≤4000):Mg H (.str s) (.int (aaa s.length))
 |ll(v:V)(l:List V)(hi:items H v=some l)(hl:l.length≤4000):Mg H v (.int (aaa l.length))
theorem Il(h:OQ H a=some v):Mg H a v:=by
 have N:∀a,(aT (items H a) fun l=>aT (fit l) fun l=>some (V.int (aaa (aC l))))=some v→Mg H a v:=fun a h=>by
  obtain⟨l,hi,h⟩:=ah h
  obtain⟨l',hf,h⟩:=ah h
  obtain⟨rfl,hl⟩:=fE hf
  rw[aN] at h
  exact sj h (.ll a _ hi hl)
 revert h
 cases a with
 |str s=>
  intro h
  obtain⟨l',hf,h⟩:=ah h
  obtain⟨rfl,hl⟩:=fE hf
  rw[aN] at h
  exact sj h (.str _ hl)
 |_=>exact fun h=>N _ h
inductive Mh:V→V→Prop
 |str(l:List Nat):Mh (.str l) (.bi .str)
 |tot(k:Int):Mh (.tot k) (.bi .int)
theorem Im(h:OR a=some v):Mh a v:=by
 have N:∀a:V,none=some v→Mh a v:=fun _=>no1
 revert h
 cases a with
 |str l=>exact fun h=>sj h (.str l)
 |tot k=>exact fun h=>sj h (.tot k)
 |_=>exact N _
inductive Io:V→V→Prop
 |str(l:List Nat):Io (.str l) (.str l)
 |sym(l:List Nat):Io (.sym l) (.sym l)
theorem Ip(h:RD a=some v):Io a v:=by
 have N:∀a:V,none=some v→Io a v:=fun _=>no1
 revert h
 cases a with
 |str l=>exact fun h=>sj h (.str l)
 |sym l=>exact fun h=>sj h (.sym l)
 |_=>exact N _
theorem AO{k:Int}(h:az (uz k 0) (some (V.sym [1114112])) none=some v):k=0∧v=.sym [1114112]:=by
 obtain⟨h1,h⟩:=aM h
 rw[kH] at h1
 exact⟨of_decide_eq_true h1,(Z8 h).symm⟩
inductive Iq:V→V→Prop
 |int(i:Int)(s:List Nat)(h:dec i=some s):Iq (.int i) (.str s)
 |tot:Iq (.tot 0) (.sym [1114112])
 |err(c:Nat){m v:V}(h:Io m v):Iq (.err c m) v
theorem Ir(h:OS a=some v):Iq a v:=by
 have N:∀a:V,none=some v→Iq a v:=fun _=>no1
 revert h
 cases a with
 |int i=>
  intro h
  obtain⟨s,hs,h⟩:=ah h
  exact sj h (.int i s hs)
 |tot k=>
  intro h
  obtain⟨rfl,rfl⟩:=AO h
  exact .tot
 |err c m=>exact fun h=>.err c (Ip h)
 |_=>exact N _
theorem Iu(h:OT a=some v):a=.tot 0∧v=.sym [1114112]:=by
 have N:∀a:V,none=some v→a=.tot 0∧v=.sym [1114112]:=fun _=>no1
 revert h
 cases a with
 |tot k=>
  intro h
  obtain⟨rfl,rfl⟩:=AO h
  exact⟨rfl,rfl⟩
 |_=>exact N _
inductive uT{α:Type}(xs:List α):V→V→V→List α→Prop
 |plain(l u:V)(a b:Nat)(ha:bound (aC xs) 0 l=some a)(hb:bound (aC xs) (aC xs) u=some b):uT xs l u .none (fS (dF xs b) a)
 |step(l:V)(c a:Nat)(h1:aa5 1 c=true)(ha:bound (aC xs) 0 l=some a):uT xs l .none (.int (aaa c)) ((sliceRange (aaa a) (aaa (aC xs)) (aaa c)).filterMap fun i=>xs[i]?)
 |rev:uT xs .none .none (.int (Int.negSucc 0)) (yv xs)
theorem of_none{α:Type}{f:Option α}{x:α}(h:(match v with|.none=>f|_=>none)=some x):v=.none∧f=some x:=by
 have N:∀v:V,none=some x→v=.none∧f=some x:=fun _=>no1
 revert h
 cases v with
 |none=>exact fun h=>⟨rfl,h⟩
 |_=>exact N _
theorem CG{α:Type}{xs ys:List α}{l u s:V}(h:cW xs l u s=some ys):uT xs l u s ys:=by
 have N:∀s:V,none=some ys→uT xs l u s ys:=fun _=>no1
 revert h
 cases s with
 |none=>
  intro h
  obtain⟨a,ha,h⟩:=ah h
  obtain⟨b,hb,h⟩:=ah h
  exact sj h (.plain l u a b ha hb)
 |int c=>
  intro h
  rcases c with c|c
  ·obtain⟨h1,h⟩:=aM (b:=aa5 1 c) h
   obtain⟨rfl,h⟩:=of_none (v:=u) (f:=aT (bound (aC xs) 0 l) fun a=>some ((sliceRange (aaa a) (aaa (aC xs)) (aaa c)).filterMap fun i=>xs[i]?)) h
   obtain⟨a,ha,h⟩:=ah h
   obtain rfl:=Z8 h
   exact .step l c a h1 ha
  ·obtain⟨h1,h⟩:=aM (b:=aap c 0) h
   obtain rfl:=aan h1
   clear h1
   obtain⟨rfl,h⟩:=of_none (v:=l) (f:=cW xs .none u (.int (.negSucc 0))) h
   obtain⟨rfl,h⟩:=of_none (v:=u) (f:=some (yv xs)) h
   exact sj h (.rev)
 |_=>exact N _
theorem zd{c:Bool}(h:(match v with|.none=>c|_=>false)=true):v=.none∧c=true:=by
 have N:∀v:V,false=true→v=.none∧c=true:=fun _=>nb1
 revert h
 cases v with
 |none=>exact fun h=>⟨rfl,h⟩
 |_=>exact N _
theorem AP{l u s:V}(h:isWhole l u s=true):l=.none∧u=.none∧s=.none:=by
 obtain⟨e1,h⟩:=zd (v:=l) h
 obtain⟨e2,h⟩:=zd (v:=u) h
 exact⟨e1,e2,(zd (v:=s) h).1⟩
inductive ze(H:HP)(o l u s:V):R V→Prop
 |str(xs zs:List Nat)(ho:o=.str xs)(hs:s=.none)(hl:xs.length≤4000)(hz:cW xs l u .none=some zs):ze H o l u s (.ok (.str zs) H)
 |whole(xs:List V)(hi:items H o=some xs)(hl:xs.length≤4000)(h1:l=.none)(h2:u=.none)(h3:s=.none):ze H o l u s (.ok (.ref (aC H)) (au H [xs]))
 |part(xs zs:List V)(hi:items H o=some xs)(hl:xs.length≤4000)(hz:cW xs l u s=some zs):ze H o l u s (.ok (.lst zs) H)
theorem di{α:Type}{l:List α}(h:short l=true):l.length≤4000:=by
 unfold short at h;rw[aN] at h;exact aak h
theorem uU{o l u s:V}{m:Option (List V)}(hm:items H o=m)(h:OP H l u s m≠R.bad):ze H o l u s (OP H l u s m):=by
 cases m with
 |none=>exact absurd rfl h
 |some xs=>
  obtain⟨hs,h⟩:=L6 h
  show ze H o l u s (az (short xs) _ _)
  rw[hs]
  cases hw:isWhole l u s with
  |true=>obtain⟨h1,h2,h3⟩:=AP hw;exact .whole xs hm (di hs) h1 h2 h3
  |false=>
   rw[hw] at h
   obtain⟨y,hy⟩:=R.AK h
   obtain⟨zs,hz,e⟩:=ah hy
   show ze H o l u s (R.lift (aT (cW xs l u s) fun y=>some (V.lst y)) H)
   rw[hz]
   exact .part xs zs hm (di hs) hz
theorem Iv{o l u s:V}(h:nY H o l u s≠.bad):ze H o l u s (nY H o l u s):=by
 have N:∀o,(R.bad:R V)≠.bad→ze H o l u s (nY H o l u s):=fun _ h=>absurd rfl h
 revert h
 cases o with
 |str xs=>
  clear N
  have N:∀s,(R.bad:R V)≠.bad→ze H (.str xs) l u s (nY H (.str xs) l u s):=fun _ h=>absurd rfl h
  cases s with
  |none=>
   intro h
   have e:nY H (.str xs) l u .none=R.lift (aT (fit xs) fun x=>aT (cW x l u .none) fun y=>some (.str y)) H:=rfl
   obtain⟨v,hv⟩:=R.AK (e▸h)
   rw[e,hv]
   obtain⟨x,hf,hv⟩:=ah hv
   obtain⟨rfl,hl⟩:=fE hf
   obtain⟨zs,hz,hv⟩:=ah hv
   exact sj hv (.str x zs rfl rfl hl hz)
  |_=>exact N _
 |lst xs=>exact fun h=>uU rfl h
 |ref n=>exact fun h=>uU rfl h
 |_=>exact N _
end
end Internal
set_option linter.unusedSimpArgs false
namespace Internal
open PySem PySem.W PyProof.Rows
structure ji(Θ:Th):Prop where
 lo:0≤Θ.T
 hi:Θ.T<100000000
 short:∀c,(Θ.fG c).length≤40
 xm:∀j,Θ.en j=[10]∨Θ.en j=[13]∨Θ.en j=[13,10]
section
variable{w:aaC}{hB:aal}{Θ:Th}{A:aav}{lk:List Nat}{s s' s'' s1:aad}{μ aG X X' aZ X1:List Addr}{H H' H1:HP}{n:Nat}{C:Cx}{env:Env}{r:aR}{ks:Kinds}{E:aac→aad→Prop}
theorem iW(l m:List Nat):Θ.expand (l++m)=Θ.expand l++Θ.expand m:=by simp[Th.expand]
theorem pN(c:Nat)(l:List Nat):Θ.expand (c::l)=Θ.fG c++Θ.expand l:=rfl
theorem gT(jb:ji Θ)(l:List Nat):(Θ.expand l).length≤40*l.length:=by
 induction l with
 |nil=>exact aaA _
 |cons c l ih=>
  rw[pN,aao,adT]
  exact ace ih (jb.short c)
theorem Eg{α:Type}(f:α→Bool)(l:List α):LN f l=l.all f:=by
 induction l with
 |nil=>rfl
 |cons a l ih=>
  show az (f a) (LN f l) false=_
  rw[ih,ag6]
  cases f a<;>rfl
theorem ff{l:List Nat}(h:ascii l=true):Θ.expand l=l:=by
 induction l with
 |nil=>rfl
 |cons c l ih=>
  replace h:az (aba c 128) (ascii l) false=true:=h
  cases hc:aba c 128 with
  |false=>rw[hc] at h;exact nb1 h
  |true=>
   rw[hc] at h
   rw[pN,ih h,show Θ.fG c=[c] from if_pos (aeY (aak hc) (by decide))];rfl
theorem kK(l m:List Nat):bu (l++m)=bu l++bu m:=by
 show(⟨(l++m).toArray⟩:Str)=⟨l.toArray++m.toArray⟩
 rw[acA]
theorem dQ(l:List Nat):(bu l).length=l.length:=rfl
theorem gU{i:Int}(h:bJ i=true):i.natAbs<1000000:=aak h
theorem Pf{α:Type}(l:List α)(n:Nat):rep l n=(abR n l).flatten:=by
 induction n with
 |zero=>rfl
 |succ n ih=>
  show au l (rep l n)=_
  rw[aO,ih,List.replicate_succ,abX]
theorem bI(S:St hB Θ s.heap μ X H){a:V}{x:aac}(q:VR Θ s.heap μ X a x){l:List V}(h:items H a=some l):∃p xs,x=.ref p∧LstAt s.heap p xs.toArray∧VRs Θ s.heap μ X l xs:=by
 cases xy h with
 |lst=>cases q.inv with
  |lst ha hX hl=>exact⟨_,_,rfl,ha,hl⟩
 |ref n h'=>
  rw[eU] at h'
  obtain⟨a,xs,e1,e2,e3⟩:=S.obj _ _ h'
  cases q.inv with
  |ref hn=>
   rw[hn] at e1;obtain rfl:=Z8 e1
   exact⟨_,_,rfl,e2,e3⟩
theorem CH{l b:Addr}{vs ws:List aac}{Q:aac→aad→Prop}(hl:s.heap.IsList l vs.toArray)(hb:s.heap.IsList b ws.toArray)
 (h:Q (.ref s.heap.objs.size) {s with heap:=s.heap.push {cls:=.type "list",data:=.seq (vs++ws).toArray}}) (hsz:vs.length+ws.length≤sizeLine):
 aai (model pw w) A (binaryOp .Add (.ref l) (.ref b)) Q E s:=by
 obtain⟨⟨cls,dd,data,sl⟩,ho,hc,n,hd⟩:=id hl
 obtain⟨⟨XT,dd2,data2,sl2⟩,ho2,hc2,n2,hd2⟩:=id hb
 simp only at hc hd hc2 hd2
 subst hc hd hc2 hd2
 have e:vs.toArray++ws.toArray=(vs++ws).toArray:=acA ..
 refine concat_meets ⟨_,ho,rfl⟩ ⟨_,ho2,rfl⟩ noFill_list_add seq_list_add PySem.F.slot_list_add PySem.F.entry_list_add (PySem.F.args_list_add_2 _ _) (list_addW l b vs.toArray ws.toArray n n2 dd dd2 sl sl2 hsz) ⟨ho,ho2,?_⟩
 rw[e]
 exact h
theorem lq.newList(S:St hB Θ s.heap μ X H){l:List V}{xs:List aac}(q:VRs Θ s.heap μ X l xs)(tk:Nat):lq hB Θ lk s μ X H (.lst l) (.ref s.heap.objs.size) {s with heap:=s.heap.push {cls:=.type "list",data:=.seq xs.toArray},toks:=tk}:=
 .keep S (bx _) (.lst ⟨_,aaw _ rfl⟩ (S.fresh (aF _)) (q.bE (bx _)))
theorem lq.newTuple(S:St hB Θ s.heap μ X H){l:List V}{xs:List aac}(q:VRs Θ s.heap μ X l xs)(tk:Nat):lq hB Θ lk s μ X H (.tup l) (.ref s.heap.objs.size) {s with heap:=s.heap.push {cls:=.type "tuple",data:=.seq xs.toArray},toks:=tk}:=
 .keep S (bx _) (.tup ⟨_,aaw _ rfl,rfl,_,rfl⟩ (S.fresh (aF _)) (q.bE (bx _)))
inductive Sh(Θ:Th)(h:aal)(μ X:List Addr)(H:HP)(a v:V)(x y:aac):Prop
 |int(m n:Int)(t t':Tok)(hx:x=.int m t)(hy:y=.int n t')(hv:∀t,VR Θ h μ X v (.int (m+n) t))
 |str(p q:Str)(t t':Tok)(hx:x=.str p t)(hy:y=.str q t')(hv:∀t,VR Θ h μ X v (.str (p++q) t))(hl:p.length+q.length≤sizeLine)
 |lst(p p':Addr)(xs ys:List aac)(l m:List V)(hx:x=.ref p)(hy:y=.ref p')(hp:LstAt h p xs.toArray)(FF:LstAt h p' ys.toArray)(q:VRs Θ h μ X (l++m) (xs++ys))(hv:v=.lst (l++m))(hl:xs.length+ys.length≤sizeLine)(ha:items H a=some l)
theorem ua{s t:List Nat}(h:(s++t).length≤4000){a b:Nat}(ha:a≤40*s.length)(hb:b≤40*t.length):a+b≤sizeLine:=
 aah (ace ha hb) (aah (abo (Nat.mul_add 40 s.length t.length).symm) (aah (acY 40 (aao▸h)) (by decide)))
theorem le_40{n:Nat}:n≤40*n:=Nat.le_mul_of_pos_left n (by decide)
theorem Iw(jb:ji Θ)(S:St hB Θ s.heap μ X H){a b v:V}{x y:aac}(qa:VR Θ s.heap μ X a x)(qb:VR Θ s.heap μ X b y)(h:oh H a b v):Sh Θ s.heap μ X H a v x y:=by
 cases h with
 |ii i j=>cases qa.inv;cases qb.inv;exact .int _ _ _ _ rfl rfl fun t=>.int _ t
 |it i k=>
  cases qa.inv;cases qb.inv
  exact .int _ _ _ _ rfl rfl fun t=>by rw[Int.add_left_comm,aeZ i k];exact .tot _ _
 |ti k j=>
  cases qa.inv;cases qb.inv
  exact .int _ _ _ _ rfl rfl fun t=>by rw[ag7];exact .tot _ _
 |ss s t h=>cases qa.inv;cases qb.inv;exact .str _ _ _ _ rfl rfl (fun t'=>by rw[←kK];exact .str _ _) (ua h le_40 le_40)
 |sy s t ha h=>cases qa.inv;cases qb.inv;exact .str _ _ _ _ rfl rfl (fun t'=>by rw[←kK,←ff (Θ:=Θ) ha,←iW,ff ha];exact .sym _ _) (ua h le_40 (gT jb t))
 |ys s t ha h=>cases qa.inv;cases qb.inv;exact .str _ _ _ _ rfl rfl (fun t'=>by rw[←kK,←ff (Θ:=Θ) ha,←iW,ff ha];exact .sym _ _) (ua h (gT jb s) le_40)
 |yy s t h=>cases qa.inv;cases qb.inv;exact .str _ _ _ _ rfl rfl (fun t'=>by rw[←kK,←iW];exact .sym _ _) (ua h (gT jb s) (gT jb t))
 |ll _ _ l m ha hb h=>
  obtain⟨p,xs,rfl,hl,ql⟩:=bI S qa ha
  obtain⟨p',ys,rfl,hm,qm⟩:=bI S qb hb
  exact .lst p p' xs ys l m rfl rfl hl hm (ql.append qm) rfl (by rw[ql.length,qm.length,←aao];exact aah h (by decide)) ha
theorem Mi(jb:ji Θ)(S:St hB Θ s.heap μ X H){a b v:V}{x y:aac}(qa:VR Θ s.heap μ X a x)(qb:VR Θ s.heap μ X b y)(h:LP H a b=some v):
 aai (model pw w) A (binaryOp .Add x y) (lq hB Θ lk s μ X H v) E s:=by
 cases Iw jb S qa qb (AM h) with
 |int m n t t' hx hy hv=>subst hx hy;exact add_int (.tok S _ (hv _))
 |str p q t t' hx hy hv hl=>subst hx hy;exact add_str (fun t' tk=>.tok S _ (hv _)) hl
 |lst p p' xs ys l m hx hy hl hm q hv hlen ha=>subst hx hy hv;exact CH hl.isList hm.isList (lq.newList S q _) hlen
theorem Iz(jb:ji Θ)(S:St hB Θ s.heap μ X H){a b v:V}{x y:aac}(qa:VR Θ s.heap μ X a x)(qb:VR Θ s.heap μ X b y)(ho:D8 a=true)(h:LP H a b=some v):
 aai (model pw w) A (inplaceOp .Add x y) (lq hB Θ lk s μ X H v) E s:=by
 cases Iw jb S qa qb (AM h) with
 |int m n t t' hx hy hv=>subst hx hy;exact ahw (.tok S _ (hv _))
 |str p q t t' hx hy hv hl=>subst hx hy;exact ahx (fun t' tk=>.tok S _ (hv _)) hl
 |lst p p' xs ys l m hx hy hl hm q hv hlen ha=>
  clear q hv h
  cases xy ha<;>exact nb1 ho
inductive Pg(Θ:Th)(h:aal)(μ X:List Addr)(v:V)(x y:aac):Prop
 |int(m n:Int)(t t':Tok)(hx:x=.int m t)(hy:y=.int n t')(hv:∀t,VR Θ h μ X v (.int (m - n) t))
theorem Eh{h:aal}{a b v:V}{x y:aac}(qa:VR Θ h μ X a x)(qb:VR Θ h μ X b y)(hs:AN a b v):Pg Θ h μ X v x y:=by
 cases hs with
 |ii i j=>cases qa.inv;cases qb.inv;exact .int _ _ _ _ rfl rfl fun t=>.int _ t
 |ni k j=>
  cases qa.inv;cases qb.inv
  exact .int _ _ _ _ rfl rfl fun t=>by rw[Int.sub_eq_add_neg,ag7];exact .lD _ _
theorem IA(S:St hB Θ s.heap μ X H){a b v:V}{x y:aac}(qa:VR Θ s.heap μ X a x)(qb:VR Θ s.heap μ X b y)(h:D5 a b=some v):
 aai (model pw w) A (binaryOp .Sub x y) (lq hB Θ lk s μ X H v) E s:=by
 cases Eh qa qb (xB h) with
 |int m n t t' hx hy hv=>subst hx hy;exact ahC (.tok S _ (hv _))
theorem IB(S:St hB Θ s.heap μ X H){a b v:V}{x y:aac}(qa:VR Θ s.heap μ X a x)(qb:VR Θ s.heap μ X b y)(h:D5 a b=some v):
 aai (model pw w) A (inplaceOp .Sub x y) (lq hB Θ lk s μ X H v) E s:=by
 cases Eh qa qb (xB h) with
 |int m n t t' hx hy hv=>subst hx hy;exact ahy (.tok S _ (hv _))
theorem IC{i j:Int}(h:bJ i=true):IntMulOk i j:=by
 refine .of_left ?_
 unfold ahM
 by_cases h0:(i==0)=true
 ·rw[if_pos h0];exact abk _
 ·rw[if_neg h0];exact(agF fun e=>h0 (beq_iff_eq.mpr (Int.natAbs_eq_zero.mp e))).mpr (aeY (gU h) (by decide))
theorem CJ{α:Type}(x:Array α)(xs:List (Array α)):(xs.foldl (· ++·) x).toList=x.toList++(xs.map af3).flatten:=by
 induction xs generalizing x with
 |nil=>simp
 |cons y ys ih=>rw[ab2,ih];simp
theorem Mj(S:St hB Θ s.heap μ X H){a b v:V}{x y:aac}(qa:VR Θ s.heap μ X a x)(qb:VR Θ s.heap μ X b y)(h:LQ a b=some v):
 aai (model pw w) A (binaryOp .Mult x y) (lq hB Θ lk s μ X H v) E s:=by
 cases Ig h with
 |ii i j h1 h2=>cases qa.inv;cases qb.inv;exact ahD (.tok S _ (.int _ _)) (IC h1)
 |si l j h2 hlen=>
  cases qa.inv;cases qb.inv
  have hj:=gU h2
  rw[Pf] at*
  have hlen':l.length*j.toNat≤4000:=by rw[List.length_flatten,afN,List.sum_replicate_nat,Nat.mul_comm] at hlen;exact hlen
  refine PySem.P.mul_str ?_ (fun h1 h3=>?_) (fun h1 h3=>?_) ?_
  ·rw[decide_eq_false (ad4.mpr (zc hj)),decide_eq_false (agU.mpr (uP hj))];rfl
  ·have hj1:0<j:=ad5 (by decide) (ad4.mp h1)
   refine ad4.mpr ((Int.le_ediv_iff_mul_le hj1).mpr (ahm (b:=4000) ?_ (by decide)))
   have:=af4.mpr hlen'
   rw[Int.natCast_mul,afu (adS hj1)] at this
   exact this
  ·exact decide_eq_false (abt.mpr (aah hlen' (by decide)))
  ·by_cases h1:j<1
   ·rw[if_pos h1,Int.toNat_eq_zero.mpr (Int.le_of_lt_add_one h1)]
    exact⟨abk _,.tok S _ (.str [] _)⟩
   ·rw[if_neg h1]
    by_cases h3:(j==1||(bu l).length==0)=true
    ·rw[if_pos h3]
     refine .same S ?_
     have:(abR j.toNat l).flatten=l:=by
      rcases aaQ.mp h3 with e|e
      ·obtain rfl:j=1:=eq_of_beq e
       exact aaO l
      ·obtain rfl:l=[]:=abS (eq_of_beq e)
       exact List.flatten_replicate_nil
     rw[this];exact .str _ _
    ·rw[if_neg h3]
     have e:(⟨(abR j.toNat (bu l).cps).foldl (· ++·) #[]⟩:Str)=bu ((abR j.toNat l).flatten):=by
      have:(abR j.toNat (bu l).cps).foldl (· ++·) #[]=((abR j.toNat l).flatten).toArray:=by
       apply ahW
       rw[CJ,afN];rfl
      rw[this];rfl
     rw[e]
     exact⟨aah hlen (by decide),.tok S _ (.str _ _)⟩
theorem ID(S:St hB Θ s.heap μ X H){a b v:V}{x y:aac}(qa:VR Θ s.heap μ X a x)(qb:VR Θ s.heap μ X b y)(h:HT a b=some v):
 aai (model pw w) A (binaryOp .FloorDiv x y) (lq hB Θ lk s μ X H v) E s:=by
 obtain⟨i,j,rfl,rfl,h1,h2,rfl⟩:=FE h
 cases qa.inv;cases qb.inv
 rw[fM] at h1
 have h1:=of_decide_eq_true h1
 have hj:=gU h2
 refine ag5 (ahn h1) ?_ (.inl (ae0 (aeY hj (by decide))))
 rw[Int.fdiv_eq_ediv_of_nonneg _ (adS h1)]
 exact .tok S _ (.int _ _)
theorem IE{T k:Int}{par:Bool}(hp:par=decide (T%2=1)):(T+k)%2=abj (aaK k (az par 1 0)) 2:=by
 subst hp
 show _=(k+_)%2
 rcases Int.emod_two_eq T with e|e
 ·rw[decide_eq_false (by rw[e];decide),aeZ T k,af5 k T,e]
  show(k%2+0)%2=(k+0)%2
  rw[adU,adU,Int.emod_emod]
 ·rw[decide_eq_true e,aeZ T k,af5 k T,e]
  exact(af5 k 1 2).symm
theorem Mk{par:Bool}(hp:par=decide (Θ.T%2=1))(S:St hB Θ s.heap μ X H){a b v:V}{x y:aac}(qa:VR Θ s.heap μ X a x)(qb:VR Θ s.heap μ X b y)(h:LR par a b=some v):
 aai (model pw w) A (binaryOp .Mod x y) (lq hB Θ lk s μ X H v) E s:=by
 obtain⟨j,rfl,h1,h⟩:=Ih h
 rw[fM] at h1
 have h1:0<j:=of_decide_eq_true h1
 cases qb.inv
 cases h with
 |ii i=>
  cases qa.inv
  refine afc (ahn h1) ?_
  rw[ad6 _ (adS h1)]
  exact .tok S _ (.int _ _)
 |ti k h2=>
  cases qa.inv
  rw[kH] at h2
  obtain rfl:=of_decide_eq_true h2
  refine afc (by decide) ?_
  rw[ad6 _ (by decide),IE hp]
  exact .tok S _ (.int _ _)
theorem Ml(S:St hB Θ s.heap μ X H){a b v:V}{x y:aac}(qa:VR Θ s.heap μ X a x)(qb:VR Θ s.heap μ X b y)(h:ON a b=some v):
 aai (model pw w) A (binaryOp .Pow x y) (lq hB Θ lk s μ X H v) E s:=by
 obtain⟨i,k,rfl,rfl,h1,h2,rfl⟩:=Ii h
 cases qa.inv;cases qb.inv
 have h1:=gU h1
 have h2:k<20:=aak h2
 exact agV (n:=(aaa k)) (abG k) (af4.mpr (aah (adl h2) (by decide))) (aeY h1 (by decide)) (.tok S _ (.int _ _))
theorem Mm{par:Bool}(hp:par=decide (Θ.T%2=1))(jb:ji Θ)(S:St hB Θ s.heap μ X H){o:Op}{a b v:V}{x y:aac}(qa:VR Θ s.heap μ X a x)(qb:VR Θ s.heap μ X b y)(h:Fq par H o a b=some v):
 aai (model pw w) A (binaryOp o.py x y) (lq hB Θ lk s μ X H v) E s:=by
 cases o with
 |add=>exact Mi jb S qa qb h
 |sub=>exact IA S qa qb h
 |mul=>exact Mj S qa qb h
 |fdiv=>exact ID S qa qb h
 |mod=>exact Mk hp S qa qb h
 |pow=>exact Ml S qa qb h
inductive Mn:V→V→Prop
 |int(i:Int):Mn (.int i) (.int (-i))
 |tot(k:Int):Mn (.tot k) (.lD (-k))
theorem IF{a:V}(h:Fv a H≠.bad):∃v,Fv a H=.ok v H∧Mn a v:=by
 have N:∀a:V,(R.bad:R V)≠.bad→∃v,Fv a H=.ok v H∧Mn a v:=fun _=>nB
 revert h
 cases a with
 |int i=>exact fun _=>⟨_,rfl,.int i⟩
 |tot k=>exact fun _=>⟨_,rfl,.tot k⟩
 |_=>exact N _
theorem Mp(S:St hB Θ s.heap μ X H){a:V}{x:aac}(qa:VR Θ s.heap μ X a x)(h:Fv a H≠.bad):∃v,Fv a H=.ok v H∧aai (model pw w) A (unaryOp .USub x) (lq hB Θ lk s μ X H v) E s:=by
 obtain⟨v,e,h⟩:=IF h
 refine⟨v,e,?_⟩
 clear e
 cases h with
 |int i=>cases qa.inv;exact afd (.tok S _ (.int _ _))
 |tot k=>cases qa.inv;exact afd (.tok S _ (by rw[Int.neg_add];exact .lD _ _))
end
open PySem.SeqAt
section
variable{w:aaC}{hB:aal}{Θ:Th}{A:aav}{lk:List Nat}{s s' s'' s1:aad}{μ aG X X' aZ X1:List Addr}{H H' H1:HP}{n:Nat}{C:Cx}{env:Env}{r:aR}{ks:Kinds}{E:aac→aad→Prop}
theorem Uv{l m:List Nat}(h:bu l=bu m):l=m:=by
 injection h with h
 exact congrArg af3 h
theorem zf(l m:List Nat):((bu l).cps.toList==(bu m).cps.toList)=decide (l=m):=by
 rw[abF,decide_eq_true_eq];exact beq_iff_eq
theorem Heap.IsTuple.same{h:aal}{a:Addr}{xs ys:List aac}(x:h.IsTuple a xs.toArray)(y:h.IsTuple a ys.toArray):xs=ys:=by
 obtain⟨o,e,_,n,d⟩:=x
 obtain⟨o',e',_,n',d'⟩:=y
 rw[e] at e';(first|(replace e':=(Z8 e').symm;subst e')|cases e')
 rw[d] at d'
 injection d' with h1 h2
 exact congrArg af3 h1
inductive XU(x y:aac)(c:Bool):Prop
 |int(i j:Int)(t t':Tok)(hx:x=.int i t)(hy:y=.int j t')(hc:c=decide (i=j))
 |str(p q:Str)(t t':Tok)(hx:x=.str p t)(hy:y=.str q t')(hc:c=(p.cps.toList==q.cps.toList))
theorem zg{a b:V}{x y:aac}{c:Bool}{h:aal}(qa:VR Θ h μ X a x)(qb:VR Θ h μ X b y)(e:lP a b=some c):XU x y c:=by
 cases uQ e with
 |int i j=>cases qa.inv;cases qb.inv;exact .int _ _ _ _ rfl rfl (kH i j)
 |str l m=>cases qa.inv;cases qb.inv;exact .str _ _ _ _ rfl rfl ((ju l m).trans (zf l m).symm)
 |sym l m e'=>
  cases qa.inv;cases qb.inv
  clear e
  have e:=e'
  rw[ju] at e
  obtain rfl:=of_decide_eq_true e
  exact .str _ _ _ _ rfl rfl (beq_self_eq_true _).symm
theorem Ei{a b:V}{x y:aac}{c:Bool}(qa:VR Θ s.heap μ X a x)(qb:VR Θ s.heap μ X b y)(h:lP a b=some c):EqAt A s x y c:=by
 cases zg qa qb h with
 |int i j t t' hx hy hc=>subst hx hy hc;exact(afe i j _ _).at A s
 |str p q t t' hx hy hc=>subst hx hy hc;exact(ae8 p q _ _).at A s
theorem FG{a b:V}{x:aac}{c:Bool}(qa:VR Θ s.heap μ X a x)(qb:VR Θ s.heap μ X b x)(h:lP a b=some c):c=true:=by
 cases zg qa qb h with
 |int i j t t' hx hy hc=>subst hc;rw[hx] at hy;cases hy;exact decide_eq_true rfl
 |str p q t t' hx hy hc=>subst hc;rw[hx] at hy;cases hy;exact beq_self_eq_true _
theorem Rc{f:V→V→Option Bool}{a b:V}{l m:List V}:lQ f (a::l) (b::m)=aT (f a b) fun c=>aT (lQ f l m) fun d=>some (az c d false):=rfl
theorem IG{f:V→V→Option Bool}{l m:List V}{c:Bool}(h:lQ f l m=some c)(hl:l.length≠m.length):c=false:=by
 induction l generalizing m c with
 |nil=>
  cases m with
  |nil=>exact absurd rfl hl
  |cons _ _=>exact(Z8 h).symm
 |cons a l ih=>
  cases m with
  |nil=>exact(Z8 h).symm
  |cons b m=>
   obtain⟨c1,h1,h⟩:=ah (o:=f a b) (f:=fun c=>aT (lQ f l m) fun d=>some (az c d false)) h
   obtain⟨c2,h2,h⟩:=ah h
   obtain rfl:=Z8 h
   rw[ih h2 fun e=>hl (congrArg acC e)]
   cases c1<;>rfl
theorem l9{f:V→V→Option Bool}{l m:List V}{c:Bool}(h:lQ f l m=some c)(hl:l.length=m.length):∃e:Nat→Bool,(∀(j:Nat)(a b:V),l[j]?=some a→m[j]?=some b→f a b=some (e j))∧(acF l.length).all e=c:=by
 induction l generalizing m c with
 |nil=>
  cases m with
  |nil=>exact⟨fun _=>true,fun _ _ _ e _=>no1 e,Z8 h⟩
  |cons _ _=>exact absurd hl (aeK _).symm
 |cons a l ih=>
  cases m with
  |nil=>exact absurd hl (aeK _)
  |cons b m=>
   obtain⟨c1,h1,h⟩:=ah (o:=f a b) (f:=fun c=>aT (lQ f l m) fun d=>some (az c d false)) h
   obtain⟨c2,h2,h⟩:=ah h
   obtain rfl:=Z8 h
   obtain⟨e,he,hall⟩:=ih h2 (af6 hl)
   refine⟨fun j=>Nat.casesOn j c1 e,fun j a' b' ha hb=>?_,?_⟩
   ·cases j with
    |zero=>rw[←Z8 ha,←Z8 hb];exact h1
    |succ j=>exact he j a' b' ha hb
   ·rw[aaD,List.range_succ_eq_map,ag6,af7]
    show(c1&&(acF l.length).all e)=_
    rw[hall];cases c1<;>rfl
theorem FH{l m:List V}{xs:List aac}{c:Bool}(ql:VRs Θ s.heap μ X l xs)(qm:VRs Θ s.heap μ X m xs)(hl:l.length=m.length)(h:lQ lP l m=some c):c=true:=by
 obtain⟨e,h1,h2⟩:=l9 h hl
 rw[←h2,aaG]
 intro j hj
 have hj:=adm.mp hj
 have g1:=aax hj
 have g2:=aax (hl▸hj:j<m.length)
 obtain⟨x,e1,q1⟩:=ql.get g1
 obtain⟨x',e2,q2⟩:=qm.get g2
 obtain rfl:=Z8 (e1.symm.trans e2)
 exact FG q1 q2 (h1 j _ _ g1 g2)
theorem VRs.at{l:List V}{xs:List aac}{h:aal}(q:VRs Θ h μ X l xs){j:Nat}(hj:j<xs.toArray.size):∃v,l[j]?=some v∧VR Θ h μ X v (xs.toArray[j]):=by
 have hl:j<l.length:=by rw[←q.length];exact hj
 obtain⟨x,e,q'⟩:=q.get (aax hl)
 refine⟨_,aax hl,?_⟩
 rw[show xs.toArray[j]=x from Z8 ((aax (l:=xs) hj).symm.trans e)];exact q'
theorem II(hu:A.units<cLine){a b:V}{x y:aac}{c:Bool}(qa:VR Θ s.heap μ X a x)(qb:VR Θ s.heap μ X b y)(h:uA a b=some c):EqAt A s x y c:=by
 cases t9 h with
 |pl h=>exact Ei qa qb h
 |tup l m hlen h=>
  rw[aN,aN] at hlen
  have hlen:=aan hlen
  cases qa.inv with
  |@tup p xs hp hX hl=>
   cases qb.inv with
   |@tup p' ys FF tn hm=>
    by_cases e:p=p'
    ·subst e
     have:=Heap.IsTuple.same hp FF
     subst this
     rw[FH hl hm hlen h]
     exact EqAt.same _
    ·refine EqAt.of_refs e ?_
     obtain⟨ee,h1,h2⟩:=l9 h hlen
     have:=RcAt.tuples (A:=A) (e:=ee) hp FF hu (fun j h3 h4=>by
      obtain⟨v,e1,q1⟩:=hl.at h3
      obtain⟨u,e2,q2⟩:=hm.at h4
      exact Ei q1 q2 (h1 j v u e1 e2))
     have e1:xs.toArray.size=l.length:=hl.length
     have e2:ys.toArray.size=l.length:=hlen▸hm.length
     rw[e1,e2,Nat.min_self,h2] at this
     simpa using this
theorem IJ(hu:A.units+1<cLine)(S:St hB Θ s.heap μ X H){a b:V}{x y:aac}{c:Bool}(qa:VR Θ s.heap μ X a x)(qb:VR Θ s.heap μ X b y)(h:Ra H a b=some c){Q:aac→aad→Prop}:
 (Q (.bool c) s→aai (model pw w) A (compareOp .Eq x y) Q E s)∧(Q (.bool (!c)) s→aai (model pw w) A (compareOp .NotEq x y) Q E s):=by
 unfold Ra at h
 cases ha:items H a with
 |some l=>
  rw[ha] at h
  obtain⟨m,hb,h⟩:=ah h
  obtain⟨p,xs,rfl,hp,hl⟩:=bI S qa ha
  obtain⟨p',ys,rfl,FF,hm⟩:=bI S qb hb
  have e1:xs.toArray.size=l.length:=hl.length
  have e2:ys.toArray.size=m.length:=hm.length
  have Uw:=Nat.lt_of_succ_lt hu
  by_cases hlen:l.length=m.length
  ·obtain⟨ee,h1,h2⟩:=l9 h hlen
   have hsz:xs.toArray.size=ys.toArray.size:=by rw[e1,e2,hlen]
   have he:∀j(h1:j<xs.toArray.size)(h2:j<ys.toArray.size),EqAt A.in1 s xs.toArray[j] ys.toArray[j] (ee j):=fun j h3 h4=>by
    obtain⟨v,e1,q1⟩:=hl.at h3
    obtain⟨u,e2,q2⟩:=hm.at h4
    exact II (A:=A.in1) hu q1 q2 (h1 j v u e1 e2)
   constructor
   ·intro hq
    refine eq_listAt hp.isList FF.isList hsz Uw he ?_
    rw[e1,h2];exact hq
   ·intro hq
    refine RcNeAt.lists hp.isList FF.isList hsz Uw he pw w E Q ?_
    rw[e1,h2];exact hq
  ·have hc:=IG h hlen
   subst hc
   have hsz:(xs.toArray.size !=ys.toArray.size)=true:=bne_iff_ne.mpr (by rw[e1,e2];exact hlen)
   exact⟨fun hq=>eq_list_lengthsAt hp.isList FF.isList hsz Uw hq,fun hq=>RcNeAt.lists_lengths hp.isList FF.isList hsz Uw pw w E Q hq⟩
 |none=>
  rw[ha] at h
  have h:lP a b=some c:=h
  cases zg qa qb h with
  |int i j t t' hx hy hc=>subst hx hy hc;exact⟨fun hq=>PySem.P.eq_int hq,fun hq=>PySem.P.ne_int hq⟩
  |str p q t t' hx hy hc=>subst hx hy hc;exact⟨fun hq=>agW hq,fun hq=>PySem.P.ne_str hq⟩
theorem Ph{a b:V}{x y:aac}{c:Bool}(jb:ji Θ)(qa:VR Θ s.heap μ X a x)(qb:VR Θ s.heap μ X b y)(h:ltV a b=some c){Q:aac→aad→Prop}(hq:Q (.bool c) s):
 aai (model pw w) A (compareOp .Lt x y) Q E s:=by
 cases Ma h with
 |ii i j=>cases qa.inv;cases qb.inv;rw[fM] at hq;exact afv hq
 |ss l m=>cases qa.inv;cases qb.inv;rw[zb] at hq;exact afw hq
 |ni k j h1 h2=>
  cases qa.inv;cases qb.inv
  rw[kH] at h1;rw[fM] at h2
  obtain rfl:=of_decide_eq_true h1
  refine afv ?_
  rw[decide_eq_true (acd (Int.add_le_add_right (Int.neg_nonpos_of_nonneg jb.lo) k) (by rw[Int.zero_add];exact of_decide_eq_true h2))]
  exact hq
theorem zh{x y:aac}{c:Bool}{Q:aac→aad→Prop}(hp:plainIs x y=true)(he:(x==y)=c):
 (Q (.bool c) s→aai (model pw w) A (compareOp .Is x y) Q E s)∧(Q (.bool (!c)) s→aai (model pw w) A (compareOp .IsNot x y) Q E s):=by
 subst he
 exact⟨fun hq=>wpAny_is_plain hp hq,fun hq=>af8 hp hq⟩
theorem Mq{a:V}{x:aac}{h:aal}(qa:VR Θ h μ X a x):(x==abd)=yx a:=by
 cases a with
 |none=>cases qa.inv;exact@rfl _ true
 |bi b=>cases qa.inv;cases b<;>exact@rfl _ false
 |_=>cases qa.inv;exact@rfl _ false
theorem IK{a b:V}{x y:aac}{c:Bool}(qa:VR Θ s.heap μ X a x)(qb:VR Θ s.heap μ X b y)(h:Ue a b=some c){Q:aac→aad→Prop}:
 (Q (.bool c) s→aai (model pw w) A (compareOp .Is x y) Q E s)∧(Q (.bool (!c)) s→aai (model pw w) A (compareOp .IsNot x y) Q E s):=by
 cases Mc h with
 |none=>cases qb.inv;rw[←Mq qa];exact⟨fun hq=>is_none hq,fun hq=>isNot_none hq⟩
 |bool d e=>cases qa.inv;cases qb.inv;exact zh rfl (by cases e<;>cases d<;>rfl)
 |ss=>cases qa.inv;cases qb.inv;exact zh rfl (by decide+kernel)
 |is=>cases qa.inv;cases qb.inv;exact zh rfl (by decide+kernel)
noncomputable def XW(x y:aac):Option Bool:=match x with
 |.int i _=>match y with
  |.int j _=>some (decide (i=j))
  |_=>none
 |.str p _=>match y with
  |.str q _=>some (p.cps.toList==q.cps.toList)
  |_=>none
 |_=>none
theorem AQ{a b:V}{x y:aac}{c:Bool}(qa:VR Θ s.heap μ X a x)(qb:VR Θ s.heap μ X b y)(h:lP a b=some c):XW x y=some c:=by
 cases zg qa qb h with
 |int i j t t' hx hy hc=>subst hx hy hc;rfl
 |str p q t t' hx hy hc=>subst hx hy hc;rfl
theorem AR{a a' b:V}{y z:aac}{c c':Bool}(q:VR Θ s.heap μ X a y)(q':VR Θ s.heap μ X a' y)(qb:VR Θ s.heap μ X b z)(h:lP a b=some c)(h':lP a' b=some c'):c=c':=
 Z8 ((AQ q qb h).symm.trans (AQ q' qb h'))
theorem IL{l l' m:List V}{xs ys:List aac}{c c':Bool}(q:VRs Θ s.heap μ X l xs)(q':VRs Θ s.heap μ X l' xs)(qm:VRs Θ s.heap μ X m ys)(hl:l.length=m.length)(hl':l'.length=m.length)(h:lQ lP l m=some c)(h':lQ lP l' m=some c'):c=c':=by
 obtain⟨e,h1,h2⟩:=l9 h hl
 obtain⟨e',Ux,h2'⟩:=l9 h' hl'
 rw[hl] at h2
 rw[hl'] at h2'
 have:(acF m.length).map e=(acF m.length).map e':=abD fun j hj=>by
  have hj:=adm.mp hj
  have g1:=aax (hl▸hj:j<l.length)
  have g2:=aax (hl'▸hj:j<l'.length)
  have g3:=aax hj
  obtain⟨x,e1,q1⟩:=q.get g1
  obtain⟨x',e2,q2⟩:=q'.get g2
  obtain⟨z,_,q3⟩:=qm.get g3
  obtain rfl:=Z8 (e1.symm.trans e2)
  exact AR q1 q2 q3 (h1 j _ _ g1 g3) (Ux j _ _ g2 g3)
 rw[←h2,←h2',←af7 (f:=e) (p:=id),this,af7];rfl
theorem Mr{a a' b:V}{y z:aac}{c c':Bool}(q:VR Θ s.heap μ X a y)(q':VR Θ s.heap μ X a' y)(qb:VR Θ s.heap μ X b z)(h:uA a b=some c)(h':uA a' b=some c'):c=c':=by
 cases t9 h with
 |pl h=>
  cases t9 h' with
  |pl h'=>exact AR q q' qb h h'
  |tup l m hl h'=>cases uQ h
 |tup l m hl h=>
  cases t9 h' with
  |pl h'=>cases uQ h'
  |tup l' _ hl' h'=>
   rw[aN,aN] at hl hl'
   cases q.inv with
   |tup hp hX hx=>
    cases q'.inv with
    |tup FF tn hx'=>
     cases qb.inv with
     |tup _ _ hb=>
     obtain rfl:=Heap.IsTuple.same hp FF
     exact IL hx hx' hb (aan hl) (aan hl') h h'
noncomputable def hit(x:V)(v:V):Bool:=uA v x==some true
theorem zj{x v:V}{c:Bool}(h:uA v x=some c):hit x v=c:=by unfold hit;rw[h];cases c<;>rfl
theorem CM(hu:A.units+1<cLine){l:List V}{ys:List aac}{x:V}{z:aac}(ql:VRs Θ s.heap μ X l ys)(qx:VR Θ s.heap μ X x z)(h:∀v∈l,∃b,uA v x=some b):
 ∃e:aac→Bool,(∀y∈ys,EqAt A.in1 s y z (e y))∧ys.map e=l.map (hit x):=by
 classical
 let e:aac→Bool:=fun y=>decide (∃v,VR Θ s.heap μ X v y∧uA v x=some true)
 have key:∀v y,VR Θ s.heap μ X v y→(∃b,uA v x=some b)→uA v x=some (e y):=by
  intro v y q hb
  obtain⟨b,hb⟩:=hb
  by_cases hv:∃v,VR Θ s.heap μ X v y∧uA v x=some true
  ·have:e y=true:=decide_eq_true hv
   obtain⟨v',q',h'⟩:=hv
   rw[hb,this,Mr q q' qx hb h']
  ·have:e y=false:=decide_eq_false hv
   rw[hb,this]
   cases b with
   |false=>rfl
   |true=>exact absurd ⟨v,q,hb⟩ hv
 refine⟨e,?_⟩
 induction l generalizing ys with
 |nil=>obtain rfl:=ql.zero;exact⟨nofun,rfl⟩
 |cons v l ih=>
  obtain⟨u,us,rfl,hv,hl⟩:=ql.more
  obtain⟨h0,h⟩:=aco.mp h
  obtain⟨i1,i2⟩:=ih hl h
  have k:=key _ _ hv h0
  exact⟨aco.mpr ⟨II (A:=A.in1) hu hv qx k,i1⟩,by rw[aaz,aaz,i2,zj k]⟩
theorem xD{x:V}{l:List V}{c:Bool}(h:isIn x l=some c):(∀v∈l,∃b,uA v x=some b)∧c=(l.map (hit x)).any id:=by
 induction l generalizing c with
 |nil=>exact⟨nofun,(Z8 h).symm⟩
 |cons y l ih=>
  obtain⟨c1,h1,h⟩:=ah (o:=uA y x) (f:=fun c=>aT (isIn x l) fun d=>some (az c true d)) h
  obtain⟨c2,h2,h⟩:=ah h
  obtain rfl:=Z8 h
  obtain⟨i1,rfl⟩:=ih h2
  exact⟨aco.mpr ⟨⟨_,h1⟩,i1⟩,by rw[aaz,List.any_cons,zj h1];cases c1<;>rfl⟩
theorem AS{x:V}{l:List V}{n:Nat}(h:kq x l=some n):(∀v∈l,∃b,uA v x=some b)∧n=(l.map (hit x)).countP id:=by
 induction l generalizing n with
 |nil=>exact⟨nofun,(Z8 h).symm⟩
 |cons y l ih=>
  obtain⟨c1,h1,h⟩:=ah (o:=uA y x) (f:=fun c=>aT (kq x l) fun n=>some (az c (acC n) n)) h
  obtain⟨c2,h2,h⟩:=ah h
  obtain rfl:=Z8 h
  obtain⟨i1,rfl⟩:=ih h2
  exact⟨aco.mpr ⟨⟨_,h1⟩,i1⟩,by rw[aaz,List.countP_cons,zj h1];cases c1<;>rfl⟩
theorem AU{x:V}{l:List V}{n:Nat}(h:nX x l=some n):(l.map (hit x))[n]?=some true∧∀m,m<n→(l.map (hit x))[m]?=some false:=by
 induction l generalizing n with
 |nil=>exact no1 h
 |cons y l ih=>
  obtain⟨c1,h1,h⟩:=ah (o:=uA y x) (f:=fun c=>az c (some 0) (aT (nX x l) fun n=>some (acC n))) h
  have e:=zj h1
  cases c1 with
  |true=>
   obtain rfl:=Z8 h
   exact⟨congrArg some e,fun m hm=>absurd hm (ae3 _)⟩
  |false=>
   obtain⟨k,h2,h⟩:=ah h
   obtain rfl:=Z8 h
   obtain⟨i1,i2⟩:=ih h2
   refine⟨i1,fun m hm=>?_⟩
   cases m with
   |zero=>exact congrArg some e
   |succ m=>exact i2 m (Nat.lt_of_succ_lt_succ hm)
theorem any_map(e:aac→Bool)(ys:List aac):ys.toArray.any e=(ys.map e).any id:=by
 rw[List.any_toArray,aho];rfl
theorem Ej(c:Nat)(l:List Nat):Az c l=decide (c∈l):=by
 induction l with
 |nil=>rfl
 |cons d l ih=>
  show az (aap c d) true (Az c l)=_
  rw[ih]
  cases e:aap c d with
  |true=>exact(decide_eq_true (aan e▸aae ..)).symm
  |false=>
   refine decide_eq_decide.mpr ⟨aaf _,fun h=>(aar.mp h).resolve_left fun q=>?_⟩
   subst q
   exact nb1 (e.symm.trans (abn c))
theorem IM(hu:A.units+1<cLine)(S:St hB Θ s.heap μ X H){a b:V}{x y:aac}{c:Bool}(qa:VR Θ s.heap μ X a x)(qb:VR Θ s.heap μ X b y)(h:OO H a b=some c){Q:aac→aad→Prop}:
 (Q (.bool c) s→aai (model pw w) A (compareOp .In x y) Q E s)∧(Q (.bool (!c)) s→aai (model pw w) A (compareOp .NotIn x y) Q E s):=by
 cases Mf h with
 |ll _ l hb h=>
  obtain⟨p,ys,rfl,hp,hl⟩:=bI S qb hb
  obtain⟨h1,h2⟩:=xD h
  obtain⟨e,e1,e2⟩:=CM hu hl qa h1
  refine⟨fun hq=>in_listAt e hp.isList (fun z hz=>e1 z (adz.mp hz)) ?_,fun hq=>notIn_listAt e hp.isList (fun z hz=>e1 z (adz.mp hz)) ?_⟩
  ·rw[any_map,e2,←h2];exact hq
  ·rw[any_map,e2,←h2];exact hq
 |ss d t ha=>
  subst ha
  cases qa.inv;cases qb.inv
  have:(!(ahi (bu t) (bu [d]) 0 (bu t).length 1).isEmpty)=Az d t:=by
   rw[show bu [d]=⟨#[d]⟩ from rfl,StrLaws.found_one,Ej]
   congr 1
  refine⟨fun hq=>ahN ?_,fun hq=>ahp ?_⟩
  ·rw[this];exact hq
  ·rw[this];exact hq
theorem Ek(hu:A.units+1<cLine)(jb:ji Θ)(S:St hB Θ s.heap μ X H){o:Cm}{a b:V}{x y:aac}{c:Bool}(qa:VR Θ s.heap μ X a x)(qb:VR Θ s.heap μ X b y)(h:Ft H o a b=some c){Q:aac→aad→Prop}(hq:Q (.bool c) s):
 aai (model pw w) A (compareOp o.py x y) Q E s:=by
 cases o with
 |eq=>exact(IJ hu S qa qb h).1 hq
 |ne=>obtain⟨d,h1,rfl⟩:=uR h;exact(IJ hu S qa qb h1).2 hq
 |lt=>exact Ph jb qa qb h hq
 |gt=>obtain⟨i,j,rfl,rfl,rfl⟩:=Mb h;cases qa.inv;cases qb.inv;rw[fM] at hq;exact ahO hq
 |le=>obtain⟨i,j,rfl,rfl,rfl⟩:=Ef h;cases qa.inv;cases qb.inv;rw[Ic] at hq;exact ahP hq
 |ge=>obtain⟨i,j,rfl,rfl,rfl⟩:=Ef h;cases qa.inv;cases qb.inv;rw[Ic] at hq;exact ahQ hq
 |is=>exact(IK qa qb h).1 hq
 |Fj=>obtain⟨d,h1,rfl⟩:=uR h;exact(IK qa qb h1).2 hq
 |Fo=>exact(IM hu S qa qb h).1 hq
 |Fp=>obtain⟨d,h1,rfl⟩:=uR h;exact(IM hu S qa qb h1).2 hq
theorem IP{a:V}{x:aac}{c:Bool}(qa:VR Θ s.heap μ X a x)(h:tr a=some c){Q:Bool→aad→Prop}(hq:Q c s):aai (model pw w) A (truthy x) Q E s:=by
 cases Pd h with
 |none=>cases qa.inv;exact truthy_none hq
 |bool b=>cases qa.inv;exact abY hq
 |int i=>
  cases qa.inv
  rw[kH] at hq
  refine ahj ?_
  have:(i !=0)=az (decide (i=0)) false true:=by
   by_cases e:i=0
   ·subst e;rfl
   ·rw[decide_eq_false e];exact bne_iff_ne.mpr e
  rw[this];exact hq
theorem tw{M:Model}{slice:Expr}{o i:aac}{Q:aac→aad→Prop}(h:aai M A (getItem o i) Q E s):aai M A (subscripted slice false o i) Q E s:=by
 induction slice using PySem.Expr.casesOn with
 |Slice a b c p=>
  cases c with
  |none=>exact ae4 h
  |some c=>exact ae4 h
 |_=>exact ae4 h
theorem nQ{value slice:Expr}{pos:Pos}{Q:aac→aad→Prop}
 (h:aai (model pw w) A (eval value env) (fun o s₁=>aai (model pw w) A (eval slice env) (fun i s₂=>SubscriptOn (model pw w) A o i Q E s₂) E s₁) E s):
 aai (model pw w) A (eval (.Subscript value slice pos) env) Q E s:=by
 rw[eval_Subscript]
 refine aab (aas h (fun o s₁ h₁=>aab (aaP (aas h₁ (fun i s₂ h₂=>aab (aa3 ?_)) fun _ _ x=>x)))
  fun _ _ x=>x)
 obtain⟨T,id,hl,hT,hg⟩:=h₂
 refine aab ?_
 rw[getitemInPython_of_ne hT.not_modules]
 refine aab (agK hT hl ?_)
 have fin:aai (model pw w) A (subscripted slice false o i) (fun r s₃=>aai (model pw w) A (letTemporaryGo value o r>>=fun _=>pure r) Q E s₃) E s₂:=
  tw (aas hg (fun r s₃ h₃=>aab (afg (aag h₃))) fun _ _ x=>x)
 first
  |exact aag (aab fin)
  |exact aab (aag (aab fin))
  |exact aab fin
theorem IQ{n k:Nat}{i:Int}(e:(if i<0 then i+(n:Int) else i)=(k:Int))(h:k<n):seqIndex? i n=some k:=by
 show(if(decide (0≤(if i<0 then i+(n:Int) else i))&&decide ((if i<0 then i+(n:Int) else i)<(n:Int)))=true then some (abu (if i<0 then i+(n:Int) else i)) else none)=_
 rw[e,if_pos (aa1.mpr ⟨decide_eq_true (abG k),decide_eq_true (abK.mpr h)⟩)];rfl
theorem oj{n:Nat}{i:Int}{k:Nat}(h:index n i=some k):seqIndex? i n=some k∧k<n:=by
 rcases i with j|j
 ·obtain⟨h1,h⟩:=aM (b:=aba j n) h
  have h:=Z8 h
  subst h
  have hj:=aak h1
  exact⟨IQ (if_neg (ad4.mpr (abG j))) hj,hj⟩
 ·obtain⟨h1,h⟩:=aM (b:=aba j n) h
  have h:=Z8 h
  subst h
  have hj:j<n:=aak h1
  obtain⟨m,rfl⟩:=adg hj
  rw[show j+m+1 - 1 - j=m from abh ..]
  have hk:m<j+m+1:=aet (agL ..)
  refine⟨IQ ((if_pos (Int.negSucc_lt_zero j)).trans ?_) hk,hk⟩
  show Int.subNatNat (j+m+1) (j+1)=(m:Int)
  rw[Int.subNatNat_of_le (adA (abb ..)),Nat.succ_sub_succ,abh]
theorem Ms{h:aal}{a:Addr}{xs:Array aac}(x:h.IsTuple a xs):IsTup h a xs:=x
theorem pO{i j:Int}{n k:Nat}(e:(if i<0 then i+(n:Int) else i)=j)(h:seqIndex? i n=some k):0≤j∧j.toNat=k:=by
 replace h:(if(decide (0≤(if i<0 then i+(n:Int) else i))&&decide ((if i<0 then i+(n:Int) else i)<(n:Int)))=true then some (abu (if i<0 then i+(n:Int) else i)) else none)=some k:=h
 rw[e] at h
 by_cases hc:(decide (0≤j)&&decide (j<(n:Int)))=true
 ·rw[if_pos hc] at h;exact⟨of_decide_eq_true (aa1.mp hc).1,Z8 h⟩
 ·rw[if_neg hc] at h;exact no1 h
theorem Mu(S:St hB Θ s.heap μ X H){o i v:V}{x y:aac}(qo:VR Θ s.heap μ X o x)(qi:VR Θ s.heap μ X i y)(h:wM H o i=some v):
 SubscriptOn (model pw w) A x y (lq hB Θ lk s μ X H v) E s:=by
 obtain⟨i,rfl,hs,hv⟩:=Ik h
 clear h
 cases qi.inv with
 |int t=>
 clear qi
 have hs:=gU hs
 cases hv with
 |str l k c hk hc hv=>
  subst hv
  cases qo.inv
  rw[aN] at hk
  rw[eU] at hc
  obtain⟨h1,h2⟩:=oj hk
  refine⟨"str",_,agq.lookup,acP ..,?_⟩
  refine ag8 (c:=c) ?_ ?_ (.tok S _ (.str [c] _))
  ·rw[decide_eq_false (ad4.mpr (zc hs)),decide_eq_false (agU.mpr (uP hs))];rfl
  ·rw[dQ,h1]
   exact(adv ..).trans hc
 |tup l k hk h=>
  cases qo.inv with
  |@tup a xs hp hX hq=>
  rw[aN] at hk
  rw[eU] at h
  obtain⟨h1,h2⟩:=oj hk
  obtain⟨z,hz,qz⟩:=hq.get h
  refine⟨"tuple",_,slot_tuple_getitem.lookup,hp.typeIs,?_⟩
  refine agX hp (zc hs) (uP hs) (j:=k) ?_ ((adv ..).trans hz) (lq.same S qz)
  rw[show xs.toArray.size=l.length from hq.length];exact h1
 |ll _ l k hl hk h=>
  obtain⟨p,xs,rfl,hp,hq⟩:=bI S qo hl
  rw[eU] at h
  obtain⟨z,hz,qz⟩:=hq.get h
  rw[aN] at hk
  obtain⟨h1,h2⟩:=oj hk
  refine⟨"list",_,adN,hp.isList.typeIs,?_⟩
  have hsz:xs.toArray.size=l.length:=hq.length
  have hz':xs.toArray[k]?=some z:=(adv ..).trans hz
  by_cases hneg:i<0
  ·obtain⟨g1,g2⟩:=pO (if_pos hneg) h1
   exact wpAny_getItem_list_neg hp.isList hneg (by rw[hsz];exact Int.le_of_sub_nonneg (by rw[agG];exact g1)) (zc hs) (by rw[hsz,g2];exact hz') (lq.same S qz)
  ·exact wpAny_getItem_list hp.isList (ad4.mp hneg) (uP hs) (by rw[(pO (if_neg hneg) h1).2];exact hz') (lq.same S qz)
theorem El(n:Nat)(i:Int):clipAt n i=@ac8 (fun _=>Nat) (fun k=>az (aa5 k n) k n) (fun k=>n - (k+1)) i:=by
 rcases i with j|j
 ·show clipAt n (j:Int)=az (aa5 j n) j n
  rw[clipAt_nat n j]
  cases e:aa5 j n with
  |true=>exact adJ (aak e)
  |false=>exact agr (adl (aeL fun h=>by rw[aaF h] at e;exact nb2 e))
 ·exact clipAt_neg n (j+1) (adV j)
theorem iX{Θ:Th}{h:aal}{n d:Nat}{v:V}{x:aac}{k:Nat}(q:VR Θ h μ X v x)(e:bound n d v=some k):∃o:Option (Int×Tok),x=partValue o∧(o.map (·.1)).elim d (clipAt n)=k∧(v=.none→o=none):=by
 cases xC e with
 |none=>cases q.inv;exact⟨none,rfl,rfl,fun _=>rfl⟩
 |int i=>cases q.inv with
  |int t=>exact⟨some (i,t),rfl,El n i,nofun⟩
theorem dM{α:Type}:∀(l:List α)(n:Nat),dF l n=l.take n
 |[],_=>by simp[dF]
 |a::l,0=>rfl
 |a::l,n+1=>congrArg (a::·) (dM l n)
theorem eV{α:Type}:∀(l:List α)(n:Nat),fS l n=l.drop n
 |[],_=>by simp[fS]
 |a::l,0=>rfl
 |a::l,n+1=>eV l n
theorem AV{α:Type}:∀(l r:List α),HQ l r=l.reverse++r
 |[],_=>rfl
 |a::l,r=>by
  show HQ l (a::r)=_
  rw[AV l (a::r)];simp
theorem uc{α:Type}(l:List α):yv l=l.reverse:=by unfold yv;rw[AV];simp
theorem VRs.take{Θ:Th}{h:aal}{l:List V}{xs:List aac}(q:VRs Θ h μ X l xs)(n:Nat):VRs Θ h μ X (l.take n) (xs.take n):=by
 induction l generalizing xs n with
 |nil=>cases q.inv;rw[ag9,ag9];exact .nil
 |cons v l ih=>
  cases q.inv with
  |cons hv hl=>
   cases n with
   |zero=>exact .nil
   |succ n=>exact .cons hv (ih hl n)
theorem VRs.drop{Θ:Th}{h:aal}{l:List V}{xs:List aac}(q:VRs Θ h μ X l xs)(n:Nat):VRs Θ h μ X (l.drop n) (xs.drop n):=by
 induction l generalizing xs n with
 |nil=>cases q.inv;rw[aha,aha];exact .nil
 |cons v l ih=>
  cases n with
  |zero=>exact q
  |succ n=>cases q.inv with
   |cons hv hl=>exact ih hl n
theorem VRs.reverse{Θ:Th}{h:aal}{l:List V}{xs:List aac}(q:VRs Θ h μ X l xs):VRs Θ h μ X l.reverse xs.reverse:=by
 induction l generalizing xs with
 |nil=>cases q.inv;exact .nil
 |cons v l ih=>cases q.inv with
  |cons hv hl=>
   rw[af9,af9]
   exact(ih hl).append (.cons hv .nil)
theorem VRs.none{Θ:Th}{h:aal}:∀{l:List V}{xs:List aac},VRs Θ h μ X l xs→∀{i:Nat},l[i]?=none→xs[i]?=none:=fun{l xs}q i e=>by
 rw[List.getElem?_eq_none_iff] at*;rw[q.length];exact e
theorem VRs.picks{Θ:Th}{h:aal}{l:List V}{xs:List aac}(q:VRs Θ h μ X l xs)(is:List Nat):VRs Θ h μ X (is.filterMap (l[·]?)) (is.filterMap (xs[·]?)):=by
 induction is with
 |nil=>exact .nil
 |cons i is ih=>
  cases e:l[i]? with
  |none=>rw[aeE e,aeE (q.none e)];exact ih
  |some v=>
   obtain⟨x,e',qv⟩:=q.get e
   rw[ac2 e,ac2 e']
   exact .cons qv ih
theorem zk{α:Type}{xs:List α}{l u:V}{ys:List α}(h:cW xs l u .none=some ys):∃a b,bound xs.length 0 l=some a∧bound xs.length xs.length u=some b∧ys=(xs.take b).drop a:=by
 unfold cW at h
 obtain⟨a,ha,h⟩:=ah h
 obtain⟨b,hb,h⟩:=ah h
 (first|(replace h:=(Z8 h).symm;subst h)|cases h)
 rw[aN] at ha hb
 rw[dM,eV]
 exact⟨a,b,ha,hb,rfl⟩
theorem mj(o:Option (Int×Tok)):IsPart (partValue o) (o.map (·.1)):=by
 cases o with
 |none=>exact .none
 |some p=>exact .int _ _
theorem IS(n:Nat):sliceRange ((n:Int) - 1) (-1) (-1)=(acF n).reverse:=by
 have Pj:(if(n:Int) - 1>-1 then((n:Int) - 1 - -1 - -1 - 1)/ - -1 else 0).toNat=n:=by
  cases n with
  |zero=>rfl
  |succ n=>
   rw[if_pos (by rw[ags,ad7];exact ad5 (by decide:(-1:Int)<0) (abG n)),Int.neg_neg,ahq,agG,agG,afO,ad7];rfl
 show(acF (abu (if(-1:Int)>0 then _ else if(n:Int) - 1>-1 then((n:Int) - 1 - -1 - -1 - 1)/ - -1 else 0))).map (fun k:Nat=>((n:Int) - 1+-1*(k:Int)).toNat)=_
 rw[if_neg (by decide),Pj,show(acF n).reverse=_ from(congrArg List.reverse List.range_eq_range').trans List.reverse_range']
 refine abD fun k hk=>?_
 obtain⟨m,rfl⟩:=adg (adm.mp hk)
 rw[abL,show k+m+1 - 1 - k=m from abh ..,ags,ad7,Int.natCast_add,Int.neg_one_mul,aeZ (k:Int),Int.add_neg_cancel_right];rfl
theorem FI(ys:List aac):(slicePick ys.toArray none none (some (-1))).toList=ys.reverse:=by
 unfold slicePick
 have hb:sliceBounds none none (some (-1)) ys.toArray.size=((ys.length:Int) - 1,-1,-1):=by
  simp[sliceBounds]
 rw[hb]
 simp only
 rw[IS,List.filterMap_reverse]
 congr 1
 have:=pick_run ys.toArray 0 ys.length
 simpa using this
theorem slice_list{Θ:Th}{h:aal}{xs:List V}{ys:List aac}{l u s:V}{vl vu vs:aac}{zs:List V}(q:VRs Θ h μ X xs ys)(ql:VR Θ h μ X l vl)(qu:VR Θ h μ X u vu)(qs:VR Θ h μ X s vs)(e:cW xs l u s=some zs):
 ∃lo hi st,IsPart vl lo∧IsPart vu hi∧IsPart vs st∧st≠some 0∧VRs Θ h μ X zs (slicePick ys.toArray lo hi st).toList:=by
 have hsz:ys.toArray.size=xs.length:=q.length
 cases CG e with
 |plain l u a b ha hb=>
  cases qs.inv
  rw[aN] at ha hb
  obtain⟨o1,rfl,e1,_⟩:=iX ql ha
  obtain⟨o2,rfl,e2,_⟩:=iX qu hb
  refine⟨_,_,none,mj o1,mj o2,.none,by simp,?_⟩
  rw[slicePick_plain,hsz]
  have:((ys.toArray.toList.drop ((o1.map (·.1)).elim 0 (clipAt xs.length))).take ((o2.map (·.1)).elim xs.length (clipAt xs.length) - (o1.map (·.1)).elim 0 (clipAt xs.length)))=(ys.take b).drop a:=by
   rw[e1,e2,acQ]
  rw[this,dM,eV]
  exact(q.take b).drop a
 |step l c a h1 ha=>
  cases qs.inv with
  |int t=>
  cases qu.inv
  have h1:=aak h1
  rw[aN] at ha
  obtain⟨o1,rfl,e1,_⟩:=iX ql ha
  refine⟨_,none,some c,mj o1,.none,.int _ _,fun h=>adW h1 (ahb (Z8 h)),?_⟩
  unfold slicePick
  have:sliceBounds (o1.map (·.1)) none (some (aaa c)) ys.toArray.size=((a:Int),(xs.length:Int),(c:Int)):=by
   rw[hsz,←e1]
   have hc:(aaa c)>0:=abK.mpr h1
   cases o1 with
   |none=>simp only [sliceBounds,Option.map_none,agt,hc,if_true];rfl
   |some p=>
    simp only [sliceBounds,ac9,agt,hc,if_true,agu,clipAt_cast]
    rfl
  have hc:(some ((c:Nat):Int))=some (aaa c):=rfl
  rw[hc,this]
  have:=q.picks (sliceRange (a:Int) (xs.length:Int) (c:Int))
  rw[aN]
  simpa using this
 |rev=>
  cases ql.inv;cases qu.inv;cases qs.inv
  refine⟨none,none,some (-1),.none,.none,.int _ _,by simp,?_⟩
  rw[FI,uc]
  exact q.reverse
theorem FJ(n:Nat)(i:Int):clipAt n i≤n:=Int.toNat_le.mpr (Int.max_le.mpr ⟨abG n,Int.min_le_right ..⟩)
theorem IT{v:V}{n k:Nat}{d:Nat}(hd:d≤n)(e:bound n d v=some k):k≤n:=by
 cases xC e with
 |none=>exact hd
 |int i=>rw[←El];exact FJ n i
theorem FL{l:List Nat}{x:Nat}{t:Tok}{o1 o2:Option (Int×Tok)}{a b:Nat}(e1:(o1.map (·.1)).elim 0 (clipAt l.length)=a)(e2:(o2.map (·.1)).elim l.length (clipAt l.length)=b):
 (slicePicked (bu l) o1 o2 none).filterMap ((bu l).cps[·]?)=(l.take b).drop a∧(slicePicked (bu l) o1 o2 none).length=b - a:=by
 have hp:slicePicked (bu l) o1 o2 none=(acF (b - a)).map (a+·):=by
  have:slicePicked (bu l) o1 o2 none=sliceRange (sliceBounds (o1.map (·.1)) (o2.map (·.1)) none l.length).1 (sliceBounds (o1.map (·.1)) (o2.map (·.1)) none l.length).2.1 1:=by
   rw[←dQ l]
   rfl
  rw[this,sliceBounds_plain]
  simp only
  rw[e1,e2,sliceRange_one]
 rw[hp]
 refine⟨?_,by simp⟩
 rw[pick_run]
 show List.take (b - a) (ad0 a l.toArray.toList)=_
 rw[acQ]
theorem Mv(S:St hB Θ s.heap μ X H){o l u st:V}{x vl vu vs:aac}{sl:Addr}(qo:VR Θ s.heap μ X o x)(ql:VR Θ s.heap μ X l vl)(qu:VR Θ s.heap μ X u vu)(qs:VR Θ s.heap μ X st vs)
 (hs:s.heap.IsSliceOf sl vl vu vs) (h:nY H o l u st≠.bad):∃v H',nY H o l u st=.ok v H'∧SubscriptOn (model pw w) A x (.ref sl) (lq hB Θ lk s μ X H' v) E s:=by
 have hv:=Iv h
 clear h
 generalize nY H o l u st=r at hv
 cases hv with
 |whole xs hi hlen h1 h2 h3=>
  subst h1 h2 h3
  obtain⟨p,ys,rfl,hp,hq⟩:=bI S qo hi
  have hsz:ys.toArray.size≤sizeLine:=aah (abo hq.length) (aah hlen (by decide))
  cases ql.inv;cases qu.inv;cases qs.inv
  refine⟨_,_,rfl,"list",_,adN,hp.isList.typeIs,?_⟩
  refine aeF (lo:=none) (hi:=none) (st:=none) hp.isList hs .none .none .none (by simp) ?_ hsz
  rw[slicePick_all]
  exact⟨_,_,Goes.l8 S (bx _) (aF _) ⟨_,aaw _ rfl⟩ hq,VR.l8 S⟩
 |part xs zs hi hlen hl=>
  obtain⟨p,ys,rfl,hp,hq⟩:=bI S qo hi
  have hsz:ys.toArray.size≤sizeLine:=aah (abo hq.length) (aah hlen (by decide))
  obtain⟨lo,hi,stp,p1,p2,p3,h0,qz⟩:=slice_list hq ql qu qs hl
  refine⟨_,_,rfl,"list",_,adN,hp.isList.typeIs,?_⟩
  refine aeF hp.isList hs p1 p2 p3 h0 ?_ hsz
  have:=lq.newList (lk:=lk) S qz s.toks
  simpa using this
 |str xs zs ho hst hlen hl=>
  subst ho hst
  cases qo.inv with
  |str t=>
  cases qs.inv
  obtain⟨a,b,ha,hb,rfl⟩:=zk hl
  obtain⟨o1,rfl,e1,_⟩:=iX ql ha
  obtain⟨o2,rfl,e2,_⟩:=iX qu hb
  have hbn:=IT (aaA _) hb
  obtain⟨k1,k2⟩:=FL (x:=0) (t:=t) e1 e2
  refine⟨_,_,rfl,"str",_,agq.lookup,acP ..,?_⟩
  refine wpAny_getItem_str_slice (l:=o1) (u:=o2) (st:=none) hs rfl ?_
  unfold sliceMade
  split
  ·rename_i hc
   have hc:(slicePicked (bu xs) o1 o2 none).length=(bu xs).length:=by
    have:=(aa1.mp hc).2
    simpa using this
   rw[k2,dQ] at hc
   have:(xs.take b).drop a=xs:=((List.drop_sublist a _).trans (aga b _)).eq_of_length (by rw[ab6,abH,adJ hbn];exact hc)
   rw[this]
   exact lq.same S (.str _ _)
  ·have e3:(⟨((slicePicked (bu xs) o1 o2 none).filterMap ((bu xs).cps[·]?)).toArray⟩:Str)=bu ((xs.take b).drop a):=by rw[k1];rfl
   rw[e3]
   refine⟨?_,.tok S _ (.str _ _)⟩
   rw[dQ,ab6,abH];exact aah (afP ..) (aah (aeM ..) (aah hlen (by decide)))
theorem FN(f:Nat):∀(fuel n:Nat)(ds:List Char),n<10^f→n<fuel→0<f→(agv 10 fuel n ds).map ad8=LO f n (ds.map ad8):=by
 have hc:∀m,m<10→(Nat.digitChar m).toNat=48+m:=by decide
 have step:∀n ds,(n%10).digitChar.toNat::ds.map ad8=(48+n%10)::List.map ad8 ds:=fun n ds=>by rw[hc _ (afQ _ (agw _))]
 induction f with
 |zero=>exact fun _ _ _ _ _ h=>absurd h (aeD _)
 |succ f ih=>
  intro fuel n ds hn hf _
  cases fuel with
  |zero=>exact absurd hf (ae3 _)
  |succ fuel=>
   rw[agv]
   show _=@ach (fun _=>List Nat) ((48+n)::ds.map ad8) (fun _ _=>LO f (n/10) ((48+n%10)::ds.map ad8)) (n/10)
   by_cases h0:n/10=0
   ·have hm:n%10=n:=Nat.mod_eq_of_lt (Nat.lt_of_div_eq_zero (agw _) h0)
    rw[h0,if_pos rfl,aaz,step,hm];rfl
   ·rw[if_neg h0]
    have XX:0<f:=afR fun e=>h0 (Nat.div_eq_of_lt (by subst e;exact hn))
    have hn0:0<n:=afR fun e=>h0 (by subst e;rfl)
    rw[ih fuel (n/10) _ (Nat.div_lt_of_lt_mul (Nat.pow_succ'▸hn)) (aaX (Nat.div_lt_self hn0 (by decide)) (af2 hf)) XX,aaz,step]
    cases e:n/10 with
    |zero=>exact absurd e h0
    |succ k=>rfl
theorem IU{i:Int}{l:List Nat}(h:dec i=some l):((toString i:String):Str)=bu l∧i.natAbs.log2<1920∧0≤i:=by
 rcases i with k|k
 ·obtain⟨h1,h⟩:=aM (b:=aba k 1000000) h
  (first|(replace h:=(Z8 h).symm;subst h)|cases h)
  have h1:k<1000000:=aak h1
  refine⟨?_,?_,abG k⟩
  ·have:(Z9 (toString (aaa k))).cps.toList=LO 7 k []:=by
    rw[signs_ofString]
    have e:toString (aaa k)=ahc (ahr 10 k):=rfl
    rw[e,afh]
    exact FN 7 (k+1) k [] (by omega) (by omega) (by omega)
   have e2:∀x:Str,x=⟨x.cps.toList.toArray⟩:=fun x=>by cases x;simp
   rw[e2 (Z9 _),this];rfl
  ·show(aaa k).natAbs.log2<1920
   by_cases h0:k=0
   ·subst h0;decide
   ·have:k.log2<20:=(agF h0).mpr (by omega)
    show k.log2<1920;omega
 ·exact no1 h
theorem AW(jb:ji Θ):((toString (Θ.T+0):String):Str)=bu (Θ.expand [1114112])∧(Θ.T+0).natAbs.log2<1920:=by
 have hlo:=jb.lo
 have hhi:=jb.hi
 refine⟨?_,?_⟩
 ·have e:Θ.expand [1114112]=(Z9 (toString Θ.T)).cps.toList:=by
   show List.flatMap Θ.fG [1114112]=_
   simp[Th.fG]
  rw[e,adU]
  show Z9 (toString Θ.T)=⟨(Z9 (toString Θ.T)).cps.toList.toArray⟩
  cases Z9 (toString Θ.T);simp
 ·rw[adU]
  by_cases h0:Θ.T.natAbs=0
  ·rw[h0];decide
  ·have:Θ.T.natAbs.log2<30:=(agF h0).mpr (by omega)
   omega
theorem zl{Θ:Th}{h:aal}{ns:List Int}{xs:List aac}(q:VRs Θ h μ X (ns.map V.int) xs):∃ps:List (Int×Tok),xs=ps.map (fun p=>acK p.1 p.2)∧ps.map (·.1)=ns:=by
 induction ns generalizing xs with
 |nil=>exact⟨[],q.zero,rfl⟩
 |cons i ns ih=>
  obtain⟨x,xs,rfl,hv,hl⟩:=q.more
  obtain⟨ps,rfl,rfl⟩:=ih hl
  cases hv.inv with
  |int t=>exact⟨(i,t)::ps,rfl,rfl⟩
theorem intsAre_of(ps:List (Int×Tok)):IntsAre (ps.map fun p=>acK p.1 p.2) (ps.map (·.1)):=by
 induction ps with
 |nil=>exact .nil
 |cons p ps ih=>exact .cons _ _ ih
theorem IV{Θ:Th}{h:aal}{xs:List aac}{ns:List Int}(q:IntsAre xs ns):VRs Θ h μ X (ns.map V.int) xs:=by
 induction q with
 |nil=>exact .nil
 |cons n t r ih=>exact .cons (.int n t) ih
theorem uV{f:Int→Int→Int}{l:List V}{a b:Int}(h:foldI f l a=some b):∃ns:List Int,l=ns.map V.int∧b=ns.foldl f a:=by
 induction l generalizing a with
 |nil=>exact⟨[],rfl,(Z8 h).symm⟩
 |cons v l ih=>
  obtain⟨i,hi,h⟩:=ah (o:=oU v) (f:=fun i=>foldI f l (f a i)) h
  obtain rfl:=iJ hi
  obtain⟨ns,rfl,rfl⟩:=ih h
  exact⟨i::ns,rfl,rfl⟩
theorem CN{f:Int→Int→Int}{l:List V}{b:Int}(h:uB f l=some b):∃(i:Int)(ns:List Int),l=(i::ns).map V.int∧b=ns.foldl f i:=by
 cases l with
 |nil=>exact no1 h
 |cons v l=>
  obtain⟨i,hi,h⟩:=ah h
  obtain rfl:=iJ hi
  obtain⟨ns,rfl,rfl⟩:=uV h
  exact⟨i,ns,rfl,rfl⟩
theorem rZ(ps:List (Int×Tok)):(ps.map fun p=>acK p.1 p.2).toArray=intItems ps.toArray:=by
 unfold intItems;simp
theorem numAt_eq(ps:List (Int×Tok))(i:Nat):numAt ps.toArray i=(ps.map (·.1)).getD i 0:=by
 unfold numAt
 simp[aaI]
theorem preSum_eq(ns:List Int):∀k,k≤ns.length→preSum (fun i=>ns.getD i 0) k=(ns.take k).foldl aaK 0
 |0,_=>rfl
 |k+1,h=>by
  show preSum _ k+ns.getD k 0=_
  rw[preSum_eq ns k (by omega),agb,agc]
  have:k<ns.length:=by omega
  simp[aaI,this]
theorem Em(f:Int→Int→Int)(bt:Int→Int→Bool)(hf:∀a i,f a i=if bt i a then i else a)(i:Int)(ns:List Int):∀k,k≤ns.length→
 ((i::ns).getD (argBest (fun a b=>bt ((i::ns).getD a 0) ((i::ns).getD b 0)) k) 0)=(ns.take k).foldl f i∧argBest (fun a b=>bt ((i::ns).getD a 0) ((i::ns).getD b 0)) k≤k
 |0,_=>⟨rfl,aaA _⟩
 |k+1,h=>by
  obtain⟨e,hle⟩:=Em f bt hf i ns k (by omega)
  have hk:k<ns.length:=by omega
  have e1:(i::ns).getD (k+1) 0=ns[k]:=by simp[aaI,hk]
  rw[agb,agc,←e]
  have e2:(ns[k]?.toList)=[ns[k]]:=by simp[hk]
  rw[e2]
  simp only [ab2,List.foldl_nil]
  rw[hf,argBest]
  simp only [e1]
  split
  ·exact⟨e1,aaA _⟩
  ·exact⟨rfl,by omega⟩
theorem uW{n:Nat}{l m:List Nat}(h:bh n (au l m)=true):bh n l=true∧bh n m=true:=by
 induction l with
 |nil=>exact⟨rfl,h⟩
 |cons a l ih=>
  replace h:az (aap n a) false (bh n (au l m))=true:=h
  show az (aap n a) false (bh n l)=true∧_
  cases e:aap n a with
  |true=>rw[e] at h;exact nb1 h
  |false=>rw[e] at h;exact ih h
theorem IW(ns:List Int)(i:Int):HS (.int i) (ns.map V.int)=some ((insI i ns).map V.int):=by
 induction ns with
 |nil=>rfl
 |cons j ns ih=>
  have h:HS (.int i) ((j::ns).map V.int)=az (jS j i) (aT (HS (.int i) (ns.map V.int)) fun r=>some (.int j::r)) (some (.int i::.int j::ns.map V.int)):=rfl
  have h2:insI i (j::ns)=if j<i then j::insI i ns else i::j::ns:=rfl
  rw[h,fM,ih,h2]
  by_cases hlt:j<i
  ·rw[decide_eq_true hlt,if_pos hlt];rfl
  ·rw[decide_eq_false hlt,if_neg hlt];rfl
theorem FO(ns:List Int):Ay (ns.map V.int)=some ((sortI ns).map V.int):=by
 induction ns with
 |nil=>rfl
 |cons i ns ih=>
  have h:Ay ((i::ns).map V.int)=aT (Ay (ns.map V.int)) (HS (.int i)):=rfl
  rw[h,ih]
  exact IW _ _
theorem FP{l:List V}{ns:List Int}(h:jn oU l=some ns):l=ns.map V.int:=by
 induction l generalizing ns with
 |nil=>obtain rfl:=Z8 h;rfl
 |cons v l ih=>
  obtain⟨i,hi,h⟩:=ah (o:=oU v) (f:=fun b=>aT (jn oU l) fun t=>some (b::t)) h
  obtain⟨t,ht,h⟩:=ah h
  obtain rfl:=Z8 h
  rw[iJ hi,ih ht];rfl
noncomputable def mq(w:aaC):Prop:=∀{A:aav}{E:aac→aad→Prop}{s:aad}{l a b:Addr}{i j:Int}{t u t' u':Tok}{p q:List Nat}{Q:aac→aad→Prop},A.units+6<cLine→s.heap.IsList l #[.ref a,.ref b]→s.heap.IsTuple a #[.int i t,.str (bu p) t']→s.heap.IsTuple b #[.int j u,.str (bu q) u']→
 (∀h' d tk,(∀a o,s.heap.get? a=some o→h'.get? a=some o)→s.heap.get? d=none→LstAt h' d (if HG (j,q) (i,p) then #[.ref b,.ref a] else #[.ref a,.ref b])→Q (.ref d) {s with heap:=h',toks:=tk})→
 aai (model pw w) A (call (.builtin "sorted") [.ref l]) Q E s
theorem lq.list(S:St hB Θ s.heap μ X H)(K:∀a o,s.heap.get? a=some o→s'.heap.get? a=some o){l:List V}{xs:List aac}{a:Addr}(hn:s.heap.get? a=none)(ha:LstAt s'.heap a xs.toArray)(q:VRs Θ s.heap μ X l xs)(ho:s'.os=s.os:=by rfl)(hg:s'.gens=s.gens:=by rfl):
 lq hB Θ lk s μ X H (.lst l) (.ref a) s':=.keep S K (.lst ha (S.fresh hn) (q.bE K)) ho hg
theorem Mw{ps:List (Int×Tok)}{L:List Int}(hps:ps.map (·.1)=L){k:Nat}{u:aac}(hu:(intItems ps.toArray)[k]?=some u)(hk:k<ps.length):∃t,u=.int (L.getD k 0) t:=by
 unfold intItems at hu
 subst hps
 simp[hk] at hu
 exact⟨ps[k].2,by rw[←hu];simp[aaI,hk]⟩
theorem En{Θ:Th}{h:aal}{i:Int}{a:List Nat}{x:aac}(q:VR Θ h μ X (.tup [.int i,.str a]) x):∃d t u,x=.ref d∧h.IsTuple d #[.int i t,.str (bu a) u]:=by
 cases q.inv with
 |tup hp hX hl=>
 obtain⟨u,u',rfl,h1,h2⟩:=hl.two
 cases h1.inv;cases h2.inv
 exact⟨_,_,_,rfl,hp⟩
noncomputable def tB(w:aaC)(hB:aal)(Θ:Th)(b:Bi):Prop:=∀{A:aav}{E:aac→aad→Prop}{lk:List Nat}{s:aad}{μ X:List Addr}{H:HP}{vs:List V}{xs:List aac},
 A.units+6<cLine→(bh b9 lk=true→A.handled=none)→St hB Θ s.heap μ X H→VRs Θ s.heap μ X vs xs→rV lk b vs H≠.bad→
  ∃v,rV lk b vs H=.ok v H∧aai (model pw w) A (call (xw b) xs) (lq hB Θ lk s μ X H v) E s
noncomputable def WM(w:aaC)(hB:aal)(Θ:Th)(b:Bi)(g:HP→V→Option V)(P:aav→Prop):Prop:=∀{A:aav}{E:aac→aad→Prop}{lk:List Nat}{s:aad}{μ X:List Addr}{H:HP}{v r:V}{x:aac},
 A.units+6<cLine→P A→St hB Θ s.heap μ X H→VR Θ s.heap μ X v x→g H v=some r→aai (model pw w) A (call (xw b) [x]) (lq hB Θ lk s μ X H r) E s
theorem mu{b:Bi}{g:HP→V→Option V}(e:∀lk vs H,rV lk b vs H=match vs with|[v]=>R.lift (g H v) H|_=>.bad)(k:WM w hB Θ b g fun _=>True):tB w hB Θ b:=fun hu hh S q h=>by
 obtain⟨v,rfl,h⟩:=HK (e _ _ _▸h)
 obtain⟨x,rfl,qv⟩:=q.one
 obtain⟨r,h1,h2⟩:=R.dB h
 exact⟨r,(e _ _ _).trans h2,k hu trivial S qv h1⟩
theorem Eo{b:Bi}{g:HP→V→Option V}(e:∀lk vs H,rV lk b vs H=match vs with|[v]=>az (bh b9 lk) (R.lift (g H v) H) .bad|_=>.bad)(k:WM w hB Θ b g fun A=>A.handled=none):tB w hB Θ b:=fun hu hh S q h=>by
 obtain⟨v,rfl,h⟩:=HK (e _ _ _▸h)
 obtain⟨x,rfl,qv⟩:=q.one
 obtain⟨h3,h,h4⟩:=bY h
 obtain⟨r,h1,h2⟩:=R.dB h
 exact⟨r,(e _ _ _).trans (h4.trans h2),k hu (hh h3) S qv h1⟩
theorem Ep{n:Nat}(h:n≤4000):(n:Int)<2^63:=acd (af4.mpr h) (by decide)
theorem FQ:tB w hB Θ .len:=mu (g:=OQ) (fun _ _ _=>rfl) fun hu _ S q h=>by
 cases Il h with
 |str l hl=>
  cases q.inv
  exact PySem.P.len_str (by rw[dQ];exact agU.mpr (Ep hl)) (by rw[dQ];exact .tok S _ (.int _ _))
 |ll v l hi hl=>
  obtain⟨p,ys,rfl,hp,hq⟩:=bI S q hi
  have hsz:ys.toArray.size=l.length:=hq.length
  exact Calls.call_len_list hp.isList (by rw[hsz];exact Ep hl) (by rw[hsz];exact .tok S _ (.int _ _))
theorem CP:tB w hB Θ .type:=mu (g:=fun _=>OR) (fun _ _ _=>rfl) fun hu _ S q h=>by
 cases Im h with
 |str l=>cases q.inv;exact agd (acP _ _ _) (by decide+kernel) (.same S (.bi .str))
 |tot k=>cases q.inv;exact agd (typeIs_int _ _ _) (by decide+kernel) (.same S (.bi .int))
theorem FT(jb:ji Θ):tB w hB Θ .str:=mu (g:=fun _=>OS) (fun _ _ _=>rfl) fun{A E lk s μ X H v r x}hu _ S q h=>by
 cases Ir h with
 |int i l hl=>
  cases q.inv
  obtain⟨d1,d2,d3⟩:=IU hl
  exact afS d2 (by rw[d1];exact .tok S _ (.str _ _))
 |tot=>
  cases q.inv
  obtain⟨d1,d2⟩:=AW jb
  exact afS d2 (by rw[d1];exact .tok S _ (.sym _ _))
 |err c hm=>
  cases q.inv with
  |@err e ta o XY y he hc hd h0 ht hq hX tn=>
  have hf:ExcStrFacts (dz c) (dz c):=by
   unfold dz
   by_cases e:c=7
   ·rw[if_pos e];exact PySem.F.excStr_ValueError
   ·rw[if_neg e];exact PySem.F.excStr_AssertionError
  have hx:s.heap.ExcAt e (dz c) (.ref ta):=⟨o,XY,he,hc,hd,h0⟩
  have hT:s.heap.TupAt ta [y]:=by obtain⟨o,a,b,n,d⟩:=ht;exact⟨o,n,a,b,d⟩
  have hu:A.units+2<cLine:=acf (acB (by decide) _) hu
  cases hm with
  |str l=>cases hq.inv;exact ae1 hf hu hx hT (.same S (.str _ _))
  |sym l=>cases hq.inv;exact ae1 hf hu hx hT (.same S (.sym _ _))
theorem CQ(jb:ji Θ):tB w hB Θ .repr:=mu (g:=fun _=>OT) (fun _ _ _=>rfl) fun hu _ S q h=>by
 obtain⟨rfl,rfl⟩:=Iu h
 cases q.inv
 obtain⟨d1,d2⟩:=AW jb
 exact PySem.P.repr_of_int d2 (by rw[d1];exact .tok S _ (.sym _ _))
theorem map_len{α β:Type}{f:α→β}{l:List α}{m:List β}(h:l.map f=m):l.length=m.length:=by rw[←h,aaj]
theorem xE{ps:List (Int×Tok)}{ns:List Int}(h:ps.map (·.1)=ns):numAt ps.toArray=fun a=>ns.getD a 0:=funext fun a=>by rw[numAt_eq,h]
theorem Er{f:Int→Int→Int}{bt:Int→Int→Bool}(hf:∀a i,f a i=if bt i a then i else a){ps:List (Int×Tok)}{i:Int}{ns:List Int}{u:aac}(hps:ps.map (·.1)=i::ns)(hu:(intItems ps.toArray)[argBest (fun a b=>bt (numAt ps.toArray a) (numAt ps.toArray b)) (ps.toArray.size - 1)]?=some u):∃t,u=.int (ns.foldl f i) t:=by
 have hsz:=map_len hps
 have hb:=Em f bt hf i ns ns.length (aaA _)
 rw[xE hps,abf,hsz,aaD,ad9] at hu
 obtain⟨t,rfl⟩:=Mw hps hu (by rw[hsz];exact aet hb.2)
 exact⟨t,by rw[hb.1,aa2 (aaA _)]⟩
theorem fold_list(S:St hB Θ s.heap μ X H){f:Int→Int→Int}{v r:V}{x:aac}(q:VR Θ s.heap μ X v x)(h:(aT (items H v) fun l=>aT (uB f l) fun i=>some (V.int i))=some r):∃(p:Addr)(ps:List (Int×Tok))(i:Int)(ns:List Int),x=.ref p∧s.heap.IsList p (intItems ps.toArray)∧ps.map (·.1)=i::ns∧0<ps.toArray.size∧r=.int (ns.foldl f i):=by
 obtain⟨l,hl,h⟩:=ah h
 obtain⟨b,hb,h⟩:=ah h
 obtain rfl:=Z8 h
 obtain⟨p,ys,rfl,hp,hq⟩:=bI S q hl
 obtain⟨i,ns,rfl,rfl⟩:=CN hb
 obtain⟨ps,rfl,hps⟩:=zl hq
 exact⟨p,ps,i,ns,rfl,rZ ps▸hp.isList,hps,by rw[abf,map_len hps];exact adV _,rfl⟩
theorem Es(a i:Int):Aw a i=if decide (i<a) then i else a:=by show az (jS i a) i a=_;rw[fM];cases decide (i<a)<;>rfl
theorem FU:tB w hB Θ .min:=fun hu hh S q h=>by
 rcases Vh h with⟨v,rfl,h⟩|⟨v,u,rfl,h⟩
 ·obtain⟨x,rfl,qv⟩:=q.one
  obtain⟨h1,h2,h3⟩:=bY h
  obtain⟨r,h4,h5⟩:=R.dB h2
  obtain⟨p,ps,i,ns,rfl,hp,hps,h0,rfl⟩:=fold_list S qv h4
  exact⟨_,h3.trans h5,min_intList (hh h1) hp h0 fun u h' tk hu K=>by
   obtain⟨t,rfl⟩:=Er (bt:=fun x y=>decide (x<y)) Es hps hu
   exact .keep S K (.int _ _)⟩
 ·obtain⟨x,y,rfl,qv,qu⟩:=q.two
  obtain⟨h1,h2,h3⟩:=bY h
  obtain⟨r,h4,h5⟩:=R.dB h2
  obtain⟨i,hi,h4⟩:=ah h4
  obtain⟨j,hj,h4⟩:=ah h4
  obtain rfl:=Z8 h4
  obtain rfl:=iJ hi
  obtain rfl:=iJ hj
  cases qv.inv;cases qu.inv
  refine⟨_,h3.trans h5,min_two_ints (hh h1) fun h' tk K=>?_⟩
  rw[Es]
  by_cases hc:j<i
  ·rw[if_pos hc,decide_eq_true hc];exact .keep S K (.int _ _)
  ·rw[if_neg hc,decide_eq_false hc];exact .keep S K (.int _ _)
theorem FW:tB w hB Θ .max:=Eo (g:=fun H v=>aT (items H v) fun l=>aT (uB Rz l) fun i=>some (.int i)) (fun _ _ _=>rfl) fun hu hh S q h=>by
 obtain⟨p,ps,i,ns,rfl,hp,hps,h0,rfl⟩:=fold_list S q h
 exact max_intList hh hp h0 fun u h' tk hu K=>by
  obtain⟨t,rfl⟩:=Er (bt:=fun x y=>decide (x>y)) (fun a i=>by show az (jS a i) i a=if decide (a<i)=true then _ else _;rw[fM];cases decide (a<i)<;>rfl) hps hu
  exact .keep S K (.int _ _)
theorem FY:tB w hB Θ .sum:=Eo (g:=fun H v=>aT (items H v) fun l=>aT (foldI aaK l 0) fun i=>some (.int i)) (fun _ _ _=>rfl) fun hu hh S q h=>by
 obtain⟨l,hl,h⟩:=ah h
 obtain⟨b,hb,h⟩:=ah h
 obtain rfl:=Z8 h
 obtain⟨p,ys,rfl,hp,hq⟩:=bI S q hl
 obtain⟨ns,rfl,rfl⟩:=uV hb
 obtain⟨ps,rfl,hps⟩:=zl hq
 refine sum_intListG hh (rZ ps▸hp.isList) fun h' tk t' K=>?_
 rw[abf,map_len hps,xE hps,preSum_eq ns _ (aaA _),aa2 (aaA _)]
 exact .keep S K (.int _ _)
theorem zm(PS:mq w):tB w hB Θ .sorted:=mu (g:=fun H v=>aT (items H v) fun l=>aT (yw l) fun m=>some (.lst m)) (fun _ _ _=>rfl) fun{A E lk s μ X H v r x}hu _ S q h=>by
 obtain⟨l,hl,h⟩:=ah h
 obtain⟨m,hm,h⟩:=ah h
 obtain rfl:=Z8 h
 obtain⟨p,ys,rfl,hp,hq⟩:=bI S q hl
 unfold yw at hm
 cases hi:jn oU l with
 |some ns=>
  rw[hi] at hm
  obtain⟨h64,hm⟩:=aM (b:=aba (aC l) 64) (x:=Ay l) hm
  obtain rfl:=FP hi
  rw[FO] at hm
  obtain rfl:=Z8 hm
  obtain⟨ps,rfl,hps⟩:=zl hq
  rw[aN,aaj,←map_len hps] at h64
  refine sorted_ints hp.isList (intsAre_of ps) (by rw[aaj];exact aak h64) fun out ns' hI Si Sj=>?_
  obtain rfl:ns'=sortI ns:=eq_sortI (by rw[←hps];exact Si) Sj
  obtain⟨e,he⟩:=sortedAll_at s.heap (ps.map fun p=>acK p.1 p.2) out
  have K:∀a o,s.heap.get? a=some o→(sortedAll s.heap (ps.map fun p=>acK p.1 p.2) out).get? a=some o:=fun a o e=>sortedAll_old e
  generalize sortedAll s.heap (ps.map fun p=>acK p.1 p.2) out=h' at he K ⊢
  exact .list S K (abT (aeu _)) (xs:=out.toList) ⟨e,by rw[he]⟩ (IV hI)
 |none=>
  rw[hi] at hm
  obtain⟨pa,pb,rfl,hm⟩:=of_two (f:=fun p q=>aT (oV p) fun a=>aT (oV q) fun b=>some (az (HG b a) [q,p] [p,q])) hm
  obtain⟨⟨i,a⟩,ha,hm⟩:=ah hm
  obtain⟨⟨j,b⟩,hb,hm⟩:=ah hm
  obtain rfl:=Z8 hm
  obtain rfl:=uS ha
  obtain rfl:=uS hb
  obtain⟨x1,x2,rfl,q1,q2⟩:=hq.two
  have Uy:=q1
  have Ob:=q2
  obtain⟨d1,t1,u1,rfl,k1⟩:=En q1
  obtain⟨d2,t2,u2,rfl,k2⟩:=En q2
  refine PS hu hp.isList k1 k2 fun h' d tk K hn hd=>?_
  cases hp:HG (j,b) (i,a) with
  |true=>
   rw[hp] at hd
   exact .list S K (xs:=[.ref d2,.ref d1]) hn hd (.cons Ob (.cons Uy .nil))
  |false=>
   rw[hp] at hd
   exact .list S K (xs:=[.ref d1,.ref d2]) hn hd (.cons Uy (.cons Ob .nil))
theorem IX(PS:mq w)(jb:ji Θ){b:Bi}:tB w hB Θ b:=by
 have N:∀b,(∀lk vs H,rV lk b vs H=.bad)→tB w hB Θ b:=fun b e=>fun _ _ _ _ h=>absurd (e _ _ _) h
 cases b with
 |len=>exact FQ
 |type=>exact CP
 |str=>exact FT jb
 |repr=>exact CQ jb
 |min=>exact FU
 |max=>exact FW
 |sum=>exact FY
 |sorted=>exact zm PS
 |_=>exact N _ fun _ _ _=>rfl
end
inductive GV:V→aac→Prop
 |fn(k:Nat)(hk:k<22):GV (.fn k) (.ref (fu k))
 |pat(p:Pt):GV (.pat p) (.ref (kD p))
 |bi(b:Bi):GV (.bi b) (xw b)
 |str(l:List Nat)(t:Tok):GV (.str l) (.str (bu l) t)
theorem GV.vr{Θ:Th}{h:aal}{μ X:List Addr}{v:V}{u:aac}(g:GV v u):VR Θ h μ X v u:=by
 cases g with
 |fn k hk=>exact .fn k hk
 |pat p=>exact .pat p
 |bi b=>exact .bi b
 |str l t=>exact .str l t
noncomputable def rj:List (Nat×aac):=[(59,.type "range"),(129,.type "enumerate"),(127,.type "zip"),(17,.ref 81)]
noncomputable def IY(x:Nat):Option aac:=HU x rj
structure xF(K:Frag)(hB:aal):Prop where
 Rd:K.In hB
 keeps:∀k,k<22→keepIn K (.ref (fu k))=true
 meths:∀n m k,yz n=some m→instMeth m=some k→k<22∧aeN K 282 (nm n)=true∧findIn K (.ref 282) (nm n)=some (some (.ref (fu k)))∧isFn K (.ref (fu k))=true∧nm n≠hdr
 Sk:aeN K 282 hdr=true∧hasDictIn K 282=true∧findIn K (.ref 282) hdr=some none
 glob:∃mg mb,hB.Ns mainGlobals mg∧hB.Ns builtinsNs mb∧(∀x v,LS x=some v→∃u,GV v u∧(mg (nm x)=some u∨(mg (nm x)=none∧mb (nm x)=some u)))∧
  (∀x u,IY x=some u→mg (nm x)=some u∨(mg (nm x)=none∧mb (nm x)=some u))∧
  ∃bm ob,mg ("__builtins__":Str)=some (.ref bm)∧bm≠builtinsNs∧bm≠mainGlobals∧hB.get? bm=some ob∧ob.cls=.type "module"∧ob.dict=some builtinsNs∧ob.data=.plain
 nolimit:hB.NoLimit
theorem pP(x:Nat):(nm x==("__debug__":Str))=false:=by
 have h:HY.all (fun y=>!(y==("__debug__":Str)))=true:=by decide+kernel
 unfold nm
 by_cases hx:x<HY.length
 ·rw[aaI,aax hx]
  have:=aaG.mp h _ (adB hx)
  simpa using this
 ·rw[aaI,adw (abt.mp hx)]
  decide+kernel
theorem pQ(x:Nat):(nm x==("__classdict__":Str))=false:=by
 have h:HY.all (fun y=>!(y==("__classdict__":Str)))=true:=by decide+kernel
 unfold nm
 by_cases hx:x<HY.length
 ·rw[aaI,aax hx]
  have:=aaG.mp h _ (adB hx)
  simpa using this
 ·rw[aaI,adw (abt.mp hx)]
  decide+kernel
section
variable{w:aaC}{K:Frag}{hB hF:aal}{O W:Addr→Prop}{N0:Nat}{Θ:Th}{A:aav}{lk:List Nat}{s s0 s' s'' s1:aad}{μ j4 aG bZ X X0 X' gJ aZ X1:List Addr}{H H0 H' iz H1:HP}{n:Nat}{C:Cx}{env cenv:Env}{outer:List Env}{r r0 r' r1:aR}{ks:Kinds}{Ex:aac→aad→Prop}{D:Addr}{av:List V}
theorem R.bind_assoc{α β γ:Type}(x:R α)(f:α→HP→R β)(g:β→HP→R γ):(x.bind f).bind g=x.bind fun v H=>(f v H).bind g:=by cases x<;>rfl
structure Fix(w:aaC)(K:Frag)(hB:aal)(Θ:Th):Prop where
 th:ji Θ
 base:xF K hB
 ps:mq w
theorem Ready.lookup(Y:Ready hB Θ n ks C A env r s μ X H){x:Nat}{v:V}(e:aK x r=some v){Q:aac→aad→Prop}(h:∀u,VR Θ s.heap μ X v u→Q u s){p:Pos}:
 aai (model pw w) A (eval (.Name (nm x) p) env) Q Ex s:=by
 refine ade ?_ (pP x)
 obtain⟨hx,hk⟩:=Y.fr.dom x v e
 rcases hk with hk|hk
 ·obtain⟨m,hn,hm⟩:=Y.fr.loc
  obtain⟨u,hu,q⟩:=hm x v e hk
  exact acR Y.fr.kind ((Y.fr.kinds x hx).trans hk) hn hu (h u q)
 ·obtain⟨c,vo,h1,h2,h3,h4⟩:=Y.fr.AI x hx hk
  obtain⟨u,rfl,q⟩:=h4 v e
  rcases hk with hk|hk
  ·exact afx Y.fr.kind ((Y.fr.kinds x hx).trans hk) h1 h2 (h u q)
  ·exact afy Y.fr.kind ((Y.fr.kinds x hx).trans hk) h1 h2 (h u q) (pQ x)
theorem zo{x:Nat}{p:Pos}:aX w hB Θ n ks (af x) (.Name (nm x) p):=fun C A env r s μ X H Y hne=>by
 obtain⟨v,e,e2⟩:=R.dB hne
 exact Y.lookup e fun u q=>aV e2 (.refl Y.st) q
theorem IZ(F:Fix w K hB Θ){x:Nat}{p:Pos}(hx:x<138)(hk:ks x=some .globalImplicit):aX w hB Θ n ks (CC x) (.Name (nm x) p):=fun C A env r s μ X H Y hne=>by
 unfold CC at hne ⊢
 cases e:LS x with
 |none=>rw[e] at hne;exact absurd rfl hne
 |some v=>
  obtain⟨mg,mb,hg,hb,hv,_⟩:=F.base.glob
  obtain⟨u,gv,hu⟩:=hv x v e
  refine ade (acG Y.fr.kind ((Y.fr.kinds x hx).trans hk) ?_) (pP x)
  have hg':s.heap.Ns env.globals mg:=by rw[Y.fr.glob];exact hg.at' fun o q=>Y.st.base _ o q
  have hb':s.heap.Ns env.builtins mb:=by rw[Y.fr.HJ];exact hb.at' fun o q=>Y.st.base _ o q
  rcases hu with hu|⟨h1,h2⟩
  ·exact adh hg' hu (aV rfl (.refl Y.st) gv.vr)
  ·exact abM hg' h1 hb' h2 (aV rfl (.refl Y.st) gv.vr)
theorem tu.uX(c:tu Θ n C A):A.units+6<cLine:=by have:=c.units;unfold cLine;omega
theorem Ready.step{α β γ:Type}(Y:Ready hB Θ n ks C A env r s μ X H){Rel:aal→List Addr→List Addr→α→γ→Prop}{res:R α}{f:α→HP→R β}{whole:R β}{m:Sem γ}{Q:γ→aad→Prop}
 (g:Goes hB Θ C.lk s μ X H1 s1 aZ X1) (hw:whole=res.bind f) (hne:whole≠.bad)
 (hm:Ready hB Θ n ks C A env r s1 aZ X1 H1→res≠.bad→aai (model pw w) A m (QG Rel hB Θ C.lk s1 aZ X1 res) (EG hB Θ A C.lk s1 aZ X1 res) s1)
 (hk:∀v H' u s' aG X',Goes hB Θ C.lk s μ X H' s' aG X'→Goes hB Θ C.lk s1 aZ X1 H' s' aG X'→Rel s'.heap aG X' v u→whole=f v H'→Q u s'):
 aai (model pw w) A m Q (EG hB Θ A C.lk s μ X whole) s1:=Ib Y.ja g hw hne (hm (Y.go g)) hk
theorem Mx(F:Fix w K hB Θ){ca cb:CE}{a b:Expr}{o:Op}{p:Pos}(ha:aX w hB Θ n ks ca a)(hb:aX w hB Θ n ks cb b):aX w hB Θ n ks (aD ca o cb) (.BinOp a o.py b p):=fun C A env r s μ X H Y hne=>by
 refine wpAny_BinOp (Y.step (.refl Y.st) rfl hne (fun Y'=>ha C A env r s μ X H Y') fun v H1 u s1 aZ X1 g _ q hw=>?_)
 refine Y.step g hw hne (fun Y'=>hb C A env r s1 aZ X1 H1 Y') fun v2 H2 u2 s2 nc X2 g2 oR q2 hw=>?_
 have q:=oR.vr g.st q
 obtain⟨v3,e,e2⟩:=R.dB (hw▸hne)
 exact aas (Mm Y.cx.par F.th g2.st q q2 e) (fun u3 s3 h=>QG.rY g2 (hw.trans e2) h) fun _ _ x=>x
theorem My{ca:CE}{a:Expr}{p:Pos}(ha:aX w hB Θ n ks ca a):aX w hB Θ n ks (fZ ca) (.UnaryOp .USub a p):=fun C A env r s μ X H Y hne=>by
 refine wpAny_UnaryOp (Y.step (.refl Y.st) rfl hne (fun Y'=>ha C A env r s μ X H Y') fun v H1 u s1 aZ X1 g _ q hw=>?_)
 obtain⟨v2,e,hr⟩:=Mp (w:=w) (A:=A) (lk:=C.lk) (E:=EG hB Θ A C.lk s μ X (fZ ca C r H)) g.st q (hw▸hne)
 exact aas hr (fun u3 s3 h=>QG.rY g (hw.trans e) h) fun _ _ x=>x
theorem Mz(F:Fix w K hB Θ){ca cb:CE}{a b:Expr}{o:Cm}{p:Pos}(ha:aX w hB Θ n ks ca a)(hb:aX w hB Θ n ks cb b)(hm:behindInMarks o.py b=false):aX w hB Θ n ks (aY ca o cb) (.Compare a [o.py] [b] p):=fun C A env r s μ X H Y hne=>by
 refine wpAny_Compare1 (Y.step (.refl Y.st) rfl hne (fun Y'=>ha C A env r s μ X H Y') fun v H1 u s1 aZ X1 g _ q hw=>?_) hm
 refine Y.step g hw hne (fun Y'=>hb C A env r s1 aZ X1 H1 Y') fun v2 H2 u2 s2 nc X2 g2 oR q2 hw=>?_
 have q:=oR.vr g.st q
 obtain⟨v3,e,e2⟩:=R.dB (hw▸hne)
 obtain⟨c,e3,e4⟩:=ah e
 (first|(replace e4:=(Z8 e4).symm;subst e4)|cases e4)
 have hu:=Y.cx.uX
 exact Ek (by omega) F.th g2.st q q2 e3 (aV (hw.trans e2) g2 (.bool c))
theorem I0(F:Fix w K hB Θ){ca cb:CE}{a b:Expr}{o:Cm}{p:Pos}(ha:aX w hB Θ n ks ca a)(hb:aX w hB Θ n ks cb b)(hm:behindInMarks o.py b=false):lH w hB Θ n ks (bV (aY ca o cb)) (.Compare a [o.py] [b] p):=fun C A env r s μ X H Y hne=>by
 have hw0:bV (aY ca o cb) C r H=((ca C r H).bind fun x H=>((cb C r H).bind fun y H=>(R.lift (aT (Ft H o x y) fun c=>some (.bool c)) H).bind fun v H=>R.lift (tr v) H)):=by
  show((ca C r H).bind fun x H=>(cb C r H).bind fun y H=>R.lift (aT (Ft H o x y) fun c=>some (.bool c)) H).bind (fun v H=>R.lift (tr v) H)=_
  rw[R.bind_assoc]
  refine congrArg _ (funext fun x=>funext fun H=>?_)
  rw[R.bind_assoc]
 refine acL (Y.step (.refl Y.st) hw0 hne (fun Y'=>ha C A env r s μ X H Y') fun v H1 u s1 aZ X1 g _ q hw=>?_) hm
 refine Y.step g hw hne (fun Y'=>hb C A env r s1 aZ X1 H1 Y') fun v2 H2 u2 s2 nc X2 g2 oR q2 hw=>?_
 have q:=oR.vr g.st q
 have hne':=hw▸hne
 obtain⟨v3,e,e2⟩:=R.dB (R.m8 hne')
 obtain⟨c,e3,e4⟩:=ah e
 (first|(replace e4:=(Z8 e4).symm;subst e4)|cases e4)
 have hu:=Y.cx.uX
 refine Ek (by omega) F.th g2.st q q2 e3 (abY (aV ?_ g2 rfl))
 rw[hw,e2];rfl
theorem kM{ca:CE}{a:Expr}(ha:aX w hB Θ n ks ca a)(he:∀env whole,isTrue a env whole=(do let v←whole;standAt a.pos;holding [v] (truthy v))):lH w hB Θ n ks (bV ca) a:=fun C A env r s μ X H Y hne=>by
 refine aea (Y.step (.refl Y.st) rfl hne (fun Y'=>ha C A env r s μ X H Y') fun v H1 u s1 aZ X1 g _ q hw=>?_) (he _ _)
 obtain⟨c,e,e2⟩:=R.dB (hw▸hne)
 exact IP q e (aV (hw.trans e2) g rfl)
theorem MA{ca:CB}{a:Expr}{p:Pos}(ha:lH w hB Θ n ks ca a):lH w hB Θ n ks (OV ca) (.UnaryOp .Not a p):=fun C A env r s μ X H Y hne=>by
 refine wpAny_isTrue_Not (Y.step (.refl Y.st) rfl hne (fun Y'=>ha C A env r s μ X H Y') fun v H1 u s1 aZ X1 g _ q hw=>?_)
 refine aV hw g ?_
 rw[q];cases v<;>rfl
theorem MB{ct:CB}{ca cb:CE}{t a b:Expr}{p:Pos}(ht:lH w hB Θ n ks ct t)(ha:aX w hB Θ n ks ca a)(hb:aX w hB Θ n ks cb b):aX w hB Θ n ks (nZ ct ca cb) (.IfExp t a b p):=fun C A env r s μ X H Y hne=>by
 refine wpAny_IfExp (Y.step (.refl Y.st) rfl hne (fun Y'=>ht C A env r s μ X H Y') fun v H1 u s1 aZ X1 g _ q hw=>?_)
 subst q
 cases u with
 |true=>
  refine Y.step (f:=fun v H=>.ok v H) g (hw.trans ?_) hne (fun Y'=>ha C A env r s1 aZ X1 H1 Y') fun v2 H2 u2 s2 nc X2 g2 oR q2 hw=>aV hw g2 q2
  show ca C r H1=_
  cases ca C r H1<;>rfl
 |false=>
  refine Y.step (f:=fun v H=>.ok v H) g (hw.trans ?_) hne (fun Y'=>hb C A env r s1 aZ X1 H1 Y') fun v2 H2 u2 s2 nc X2 g2 oR q2 hw=>aV hw g2 q2
  show cb C r H1=_
  cases cb C r H1<;>rfl
theorem R.gV{α:Type}(x:R α):x=x.bind fun v H=>.ok v H:=by cases x<;>rfl
theorem r9(e:E)(l:List Expr)(env:Env):starEach (dE e::l) env=(false,eval (dE e) env)::starEach l env:=by cases e<;>rfl
theorem bw:∀(l:List E)(env:Env)(pos:Pos),(backTo pos (starEach (fT l) env)).any (·.1)=false
 |[],_,_=>rfl
 |e::l,env,pos=>by
  show(backTo pos (starEach (dE e::fT l) env)).any (·.1)=false
  rw[r9]
  show(false||(backTo pos (starEach (fT l) env)).any (·.1))=false
  rw[bw l env pos];rfl
theorem g8{x:Sem aac}{rest:List (Bool×Sem aac)}{M:Model}{Q:List aac→aad→Prop}
 (h:aai M A x (fun v s₁=>aai M A (spliced rest) (fun vs s₂=>Q (v::vs) s₂) Ex s₁) Ex s):aai M A (spliced ((false,x)::rest)) Q Ex s:=by
 unfold spliced
 refine aab (aas h (fun v s₁ h₁=>?_) fun _ _ x=>x)
 exact aab (aag (aab (aaP (aas h₁ (fun vs s₂ h₂=>aag h₂) fun _ _ x=>x))))
theorem mw:uO w hB Θ n ks aj (fT []):=fun C A env r s μ X H Y hne pos=>aag (aV rfl (.refl Y.st) .nil)
theorem iK{c:CE}{cl:CL}{e:E}{l:List E}(he:aX w hB Θ n ks c (dE e))(hl:uO w hB Θ n ks cl (fT l)):uO w hB Θ n ks (aa c cl) (fT (e::l)):=fun C A env r s μ X H Y hne pos=>by
 show aai _ _ (spliced (backTo pos (starEach (dE e::fT l) env))) _ _ _
 rw[r9]
 refine g8 (Y.step (.refl Y.st) rfl hne (fun Y'=>he C A env r s μ X H Y') fun v H1 u s1 aZ X1 g _ q hw=>?_)
 refine Y.step g hw hne (fun Y' h=>hl C A env r s1 aZ X1 H1 Y' h pos) fun vs H2 us s2 nc X2 g2 oR q2 hw=>?_
 exact aV hw g2 (.cons (oR.vr g.st q) q2)
theorem MC{cl:CL}{l:List E}{p:Pos}(hl:uO w hB Θ n ks cl (fT l)):aX w hB Θ n ks (n6 cl) (.List (fT l) p):=fun C A env r s μ X H Y hne=>by
 refine agY (Y.step (.refl Y.st) rfl hne (fun Y' h=>hl C A env r s μ X H Y' h p) fun vs H1 us s1 aZ X1 g _ q hw=>?_)
 obtain⟨h1,_,h3⟩:=bY (hw▸hne)
 have:=di h1
 refine⟨by rw[q.length];unfold sizeLine;omega,QG.rY g (hw.trans h3) (lq.newList g.st q _)⟩
theorem Et{cl:CL}{l:List E}{k:Nat}{p:Pos}(hl:uO w hB Θ n ks cl (fT l)):aX w hB Θ n ks (iB cl) (.Tuple (fT l) k p):=fun C A env r s μ X H Y hne=>by
 refine wpAny_Tuple (Y.step (.refl Y.st) rfl hne (fun Y' h=>hl C A env r s μ X H Y' h p) fun vs H1 us s1 aZ X1 g _ q hw=>?_)
 obtain⟨h1,_,h3⟩:=bY (hw▸hne)
 have:=di h1
 refine⟨by rw[q.length];unfold sizeLine;omega,QG.rY g (hw.trans h3) (lq.newTuple g.st q _)⟩
theorem MD{p:Pos}:aX w hB Θ n ks sS (.List (fT []) p):=fun C A env r s μ X H Y hne=>by
 refine agY (aag ⟨abk _,?_⟩)
 exact⟨_,_,_,_,rfl,Goes.l8 Y.st (bx _) (aF _) (xs:=[]) ⟨_,aaw _ rfl⟩ .nil,VR.l8 Y.st⟩
theorem ME{ca cb:CE}{a b:Expr}{p:Pos}(ha:aX w hB Θ n ks ca a)(hb:aX w hB Θ n ks cb b):aX w hB Θ n ks (OU ca cb) (.BoolOp .And [a,b] p):=fun C A env r s μ X H Y hne=>by
 refine wpAny_And2 (Y.step (.refl Y.st) rfl hne (fun Y'=>ha C A env r s μ X H Y') fun v H1 u s1 aZ X1 g _ q hw=>?_)
 cases ht:tr v with
 |none=>rw[ht] at hw;exact absurd hw hne
 |some c=>
  rw[ht] at hw
  refine IP q ht ?_
  cases c with
  |false=>exact aV hw g q
  |true=>
   refine Y.step (f:=fun v H=>.ok v H) g (hw.trans (R.gV (cb C r H1))) hne (fun Y'=>hb C A env r s1 aZ X1 H1 Y') fun v2 H2 u2 s2 nc X2 g2 oR q2 hw=>aV hw g2 q2
theorem Pk{ca cb:CE}{a b:Expr}{p:Pos}(ha:aX w hB Θ n ks ca a)(hb:aX w hB Θ n ks cb b):aX w hB Θ n ks (WI ca cb) (.BoolOp .Or [a,b] p):=fun C A env r s μ X H Y hne=>by
 refine wpAny_Or2 (Y.step (.refl Y.st) rfl hne (fun Y'=>ha C A env r s μ X H Y') fun v H1 u s1 aZ X1 g _ q hw=>?_)
 cases ht:tr v with
 |none=>rw[ht] at hw;exact absurd hw hne
 |some c=>
  rw[ht] at hw
  refine IP q ht ?_
  cases c with
  |true=>exact aV hw g q
  |false=>
   refine Y.step (f:=fun v H=>.ok v H) g (hw.trans (R.gV (cb C r H1))) hne (fun Y'=>hb C A env r s1 aZ X1 H1 Y') fun v2 H2 u2 s2 nc X2 g2 oR q2 hw=>aV hw g2 q2
noncomputable def sd(w:aaC)(hB:aal)(Θ:Th)(n:Nat)(ks:Kinds)(c:CB)(op:BoolOp)(l:List Expr):Prop:=∀C A env r s μ X H,Ready hB Θ n ks C A env r s μ X H→c C r H≠.bad→
 aai (model pw w) A (allTrue op l env) (QG (fun _ _ _ b b'=>b'=b) hB Θ C.lk s μ X (c C r H)) (EG hB Θ A C.lk s μ X (c C r H)) s
theorem zp:sd w hB Θ n ks (cC true) .And []:=fun C A env r s μ X H Y hne=>wpAny_allTrue_And_nil (aV rfl (.refl Y.st) rfl)
theorem AX:sd w hB Θ n ks (cC false) .Or []:=fun C A env r s μ X H Y hne=>wpAny_allTrue_Or_nil (aV rfl (.refl Y.st) rfl)
theorem FZ{ca cb:CB}{a:Expr}{l:List Expr}(ha:lH w hB Θ n ks ca a)(hb:sd w hB Θ n ks cb .And l):sd w hB Θ n ks (jU ca cb) .And (a::l):=fun C A env r s μ X H Y hne=>by
 refine wpAny_allTrue_And_cons (Y.step (.refl Y.st) rfl hne (fun Y'=>ha C A env r s μ X H Y') fun v H1 u s1 aZ X1 g _ q hw=>?_)
 subst q
 cases u with
 |false=>exact aV (Rel:=fun _ _ _ b b'=>b'=b) hw g rfl
 |true=>exact Y.step (f:=fun v H=>.ok v H) g (hw.trans (R.gV (cb C r H1))) hne (fun Y'=>hb C A env r s1 aZ X1 H1 Y') fun v2 H2 u2 s2 nc X2 g2 oR q2 hw=>aV hw g2 q2
theorem I1{ca cb:CB}{a:Expr}{l:List Expr}(ha:lH w hB Θ n ks ca a)(hb:sd w hB Θ n ks cb .Or l):sd w hB Θ n ks (lS ca cb) .Or (a::l):=fun C A env r s μ X H Y hne=>by
 refine wpAny_allTrue_Or_cons (Y.step (.refl Y.st) rfl hne (fun Y'=>ha C A env r s μ X H Y') fun v H1 u s1 aZ X1 g _ q hw=>?_)
 subst q
 cases u with
 |true=>exact aV (Rel:=fun _ _ _ b b'=>b'=b) hw g rfl
 |false=>exact Y.step (f:=fun v H=>.ok v H) g (hw.trans (R.gV (cb C r H1))) hne (fun Y'=>hb C A env r s1 aZ X1 H1 Y') fun v2 H2 u2 s2 nc X2 g2 oR q2 hw=>aV hw g2 q2
theorem AY{c:CB}{op:BoolOp}{l:List Expr}{p:Pos}(h:sd w hB Θ n ks c op l):lH w hB Θ n ks c (.BoolOp op l p):=fun C A env r s μ X H Y hne=>
 wpAny_isTrue_BoolOp (h C A env r s μ X H Y hne)
theorem MF{co ci:CE}{o i:Expr}{p:Pos}(ho:aX w hB Θ n ks co o)(hi:aX w hB Θ n ks ci i):aX w hB Θ n ks (dH co ci) (.Subscript o i p):=fun C A env r s μ X H Y hne=>by
 refine nQ (Y.step (.refl Y.st) rfl hne (fun Y'=>ho C A env r s μ X H Y') fun v H1 u s1 aZ X1 g _ q hw=>?_)
 refine Y.step g hw hne (fun Y'=>hi C A env r s1 aZ X1 H1 Y') fun v2 H2 u2 s2 nc X2 g2 oR q2 hw=>?_
 obtain⟨v3,e,e2⟩:=R.dB (hw▸hne)
 obtain⟨T,id,h1,h2,h3⟩:=Mu (w:=w) (A:=A) (lk:=C.lk) (E:=EG hB Θ A C.lk s μ X (dH co ci C r H)) g2.st (oR.vr g.st q) q2 e
 exact⟨T,id,h1,h2,aas h3 (fun u3 s3 h=>QG.rY g2 (hw.trans e2) h) fun _ _ x=>x⟩
noncomputable def F0(w:aaC)(hB:aal)(Θ:Th)(n:Nat)(ks:Kinds)(c:CE)(e:Option Expr):Prop:=∀C A env r s μ X H,Ready hB Θ n ks C A env r s μ X H→c C r H≠.bad→
 aai (model pw w) A (evalPart e env) (QG (VR Θ) hB Θ C.lk s μ X (c C r H)) (EG hB Θ A C.lk s μ X (c C r H)) s
theorem I2:F0 w hB Θ n ks (cV .none) none:=fun C A env r s μ X H Y hne=>aag (aV rfl (.refl Y.st) .none)
theorem I3{c:CE}{e:Expr}(h:aX w hB Θ n ks c e):F0 w hB Θ n ks c (some e):=h
theorem MG{co cl cu cs:CE}{o:Expr}{l u st:Option Expr}{sp p:Pos}(ho:aX w hB Θ n ks co o)(hl:F0 w hB Θ n ks cl l)(hu:F0 w hB Θ n ks cu u)(hs:F0 w hB Θ n ks cs st):
 aX w hB Θ n ks (cJ co cl cu cs) (.Subscript o (.Slice l u st sp) p):=fun C A env r s μ X H Y hne=>by
 refine nQ (Y.step (.refl Y.st) rfl hne (fun Y'=>ho C A env r s μ X H Y') fun v H1 u1 s1 aZ X1 g _ q hw=>?_)
 refine wpAny_Slice (Y.step g hw hne (fun Y'=>hl C A env r s1 aZ X1 H1 Y') fun v2 H2 u2 s2 nc X2 g2 oR q2 hw=>?_)
 refine Y.step g2 hw hne (fun Y'=>hu C A env r s2 nc X2 H2 Y') fun v3 H3 u3 s3 wU X3 g3 I4 q3 hw=>?_
 refine Y.step g3 hw hne (fun Y'=>hs C A env r s3 wU X3 H3 Y') fun v4 H4 u4 s4 Uz X4 g4 Vi q4 hw=>?_
 have K:=bx (h:=s4.heap) {cls:=.type "slice",data:=.fields #[u2,u3,u4]}
 have gp:Goes hB Θ C.lk s4 Uz X4 H4 {s4 with heap:=s4.heap.push {cls:=.type "slice",data:=.fields #[u2,u3,u4]}} Uz X4:=.bE g4.st K
 have g5:=g4.trans gp
 have XZ:=(Vi.vr g3.st q3).bE K
 have Ob:=(Vi.vr g3.st (I4.vr g2.st q2)).bE K
 have Uy:=(Vi.vr g3.st (I4.vr g2.st (oR.vr g.st q))).bE K
 have X8:=q4.bE K
 obtain⟨v5,H5,e,T,id,h1,h2,h3⟩:=Mv (w:=w) (A:=A) (lk:=C.lk) (E:=EG hB Θ A C.lk s μ X (cJ co cl cu cs C r H)) g5.st Uy Ob XZ X8 (ahX _ _ _ _) (hw▸hne)
 exact⟨T,id,h1,h2,aas h3 (fun u5 s5 h=>QG.rY g5 (hw.trans e) h) fun _ _ x=>x⟩
noncomputable def uY(w:aaC)(hB:aal)(Θ:Th)(n:Nat):Prop:=∀(C:Cx)(A:aav)(s:aad)(μ X:List Addr)(H:HP)(g:V)(as:List V)(kr:aR)(f:aac)(xs kvs:List aac),
 tu Θ n C A→jg hB A s.heap μ X→St hB Θ s.heap μ X H→VR Θ s.heap μ X g f→VRs Θ s.heap μ X as xs→VRs Θ s.heap μ X (kr.map (·.2)) kvs→eF C g as kr H≠.bad→
 aai (model pw w) A (call f xs (((kr.map (·.1)).map nm).zip kvs)) (QG (VR Θ) hB Θ C.lk s μ X (eF C g as kr H)) (EG hB Θ A C.lk s μ X (eF C g as kr H)) s
noncomputable def jL(M:Model)(f:aac)(h:aal):Prop:=∃k,(k=Keeper.frame∨k=Keeper.machine∨k=Keeper.boundFrame)∧Looks M h (keeperOf f) k
theorem Eu(F:Fix w K hB Θ)(S:St hB Θ s.heap μ X H){k:Nat}(hk:k<22):jL (model pw w) (.ref (fu k)) s.heap:=
 keeps_K (F.base.keeps k hk) _ (F.base.Rd.keeps S.base)
theorem xG{M:Model}{h:aal}{a:Addr}{o:Obj}{fd:FuncData}(e:h.get? a=some o)(hd:o.data=.func fd):jL M (.ref a) h:=by
 refine⟨.frame,.inl rfl,?_⟩
 unfold keeperOf
 refine(Looks.ld (part:=none) e).andThen ?_
 rw[hd]
 exact ahk
theorem MH(F:Fix w K hB Θ)(S:St hB Θ s.heap μ X H){g:V}{f:aac}{as:List V}{kr:aR}(q:VR Θ s.heap μ X g f)(h:eF C g as kr H1≠.bad):jL (model pw w) f s.heap:=by
 cases g with
 |fn k=>replace q:=q.inv;cases q with|fn hk=>exact Eu F S hk
 |lam k=>replace q:=q.inv;cases q with|lam ha hd hf hk hc hcd hq hX tn=>exact xG ha hd
 |bi b=>
  (replace q:=q.inv;cases q)
  refine⟨.machine,.inr (.inl rfl),?_⟩
  cases b<;>exact ahk
 |_=>exact absurd rfl h
theorem fh{f:aac}{args:List (Bool×Sem aac)}{kws:List (Option Str×Sem aac)}{M:Model}{Q:Args→aad→Prop}(hp:args.any (·.1)=false)(hall:kws.all (·.1.isSome)=true)
 (h:aai M A (spliced args) (fun vs s₁=>aai M A (evalAll (kws.map (·.2))) (fun ks s₂=>Q ⟨vs,(kws.filterMap (·.1)).zip ks⟩ s₂) Ex s₁) Ex s):aai M A (evalArgs f true args kws) Q Ex s:=by
 cases args with
 |nil=>
  unfold evalArgs
  show aai M A (spliced []>>=_) Q Ex s
  refine aab (aas h (fun vs s' h'=>?_) fun _ _ x=>x)
  refine aab (aag ?_)
  refine aaP ?_
  simp only [hall,if_true]
  refine aab (aas h' (fun ks s₂ h₂=>?_) fun _ _ x=>x)
  exact aab (aag (aag h₂))
 |cons x l=>
  obtain⟨b,x⟩:=x
  cases b with
  |true=>exact nb2 hp
  |false=>exact evalArgs_kw hall h
theorem ng:∀(l:List Internal.K)(env:Env)(pos:Pos),(backToKw pos (keywordEach (rX l) env)).all (·.1.isSome)=true
 |[],_,_=>rfl
 |.mk x e _::l,env,pos=>by
  show(true&&(backToKw pos (keywordEach (rX l) env)).all (·.1.isSome))=true
  rw[ng l env pos];rfl
theorem uZ:∀(l:List Internal.K)(env:Env)(pos:Pos),(backToKw pos (keywordEach (rX l) env)).any (·.1.isNone)=false
 |[],_,_=>rfl
 |.mk x e _::l,env,pos=>by
  show(false||(backToKw pos (keywordEach (rX l) env)).any (·.1.isNone))=false
  rw[uZ l env pos];rfl
noncomputable def Sl:Internal.K→Nat
 |.mk x _ _=>x
theorem u9:∀(l:List Internal.K)(env:Env)(pos:Pos),(backToKw pos (keywordEach (rX l) env)).filterMap (·.1)=(l.map Sl).map nm
 |[],_,_=>rfl
 |.mk x e _::l,env,pos=>by
  show nm x::(backToKw pos (keywordEach (rX l) env)).filterMap (·.1)=_
  rw[u9 l env pos];rfl
noncomputable def KR(Θ:Th)(l:List Internal.K)(h:aal)(μ X:List Addr)(r:aR)(ks:List aac):Prop:=VRs Θ h μ X (r.map (·.2)) ks∧r.map (·.1)=l.map Sl
noncomputable def CR(w:aaC)(hB:aal)(Θ:Th)(n:Nat)(ks:Kinds)(c:CK)(l:List Internal.K):Prop:=∀C A env r s μ X H,Ready hB Θ n ks C A env r s μ X H→c C r H≠.bad→∀pos,
 aai (model pw w) A (evalAll ((backToKw pos (keywordEach (rX l) env)).map (·.2))) (QG (KR Θ l) hB Θ C.lk s μ X (c C r H)) (EG hB Θ A C.lk s μ X (c C r H)) s
theorem I5:CR w hB Θ n ks ay []:=fun C A env r s μ X H Y hne pos=>aag (aV rfl (.refl Y.st) ⟨.nil,rfl⟩)
theorem F1{c:CE}{cl:CK}{x:Nat}{e:E}{p:Pos}{l:List Internal.K}(he:aX w hB Θ n ks c (dE e))(hl:CR w hB Θ n ks cl l):CR w hB Θ n ks (jq x c cl) (.mk x e p::l):=fun C A env r s μ X H Y hne pos=>by
 refine wpAny_evalAll_cons ?_
 refine aab (Y.step (.refl Y.st) rfl hne (fun Y'=>he C A env r s μ X H Y') fun v H1 u s1 aZ X1 g _ q hw=>?_)
 refine aab (aa3 (aag ?_))
 refine Y.step g hw hne (fun Y' h=>hl C A env r s1 aZ X1 H1 Y' h pos) fun vs H2 us s2 nc X2 g2 oR q2 hw=>?_
 exact aV hw g2 ⟨.cons (oR.vr g.st q) q2.1,by rw[aaz,q2.2];rfl⟩
theorem wV(F:Fix w K hB Θ)(CO:uY w hB Θ n){cl:CL}{ck:CK}{as:List E}{kl:List Internal.K}{pos:Pos}(ha:uO w hB Θ n ks cl (fT as))(hk:CR w hB Θ n ks ck kl)
 {g:V} {f:aac} (Y:Ready hB Θ n ks C A env r s μ X H) (g1:Goes hB Θ C.lk s μ X H1 s1 aZ X1) (q:VR Θ s1.heap aZ X1 g f) {whole:R V} (hne:whole≠.bad)
 (hw:whole=(cl C r H1).bind fun as H=>(ck C r H).bind fun ks H=>eF C g as ks H):
 aai (model pw w) A (callWith pos f [] (backTo pos (starEach (fT as) env)) (backToKw pos (keywordEach (rX kl) env))) (QG (VR Θ) hB Θ C.lk s μ X whole) (EG hB Θ A C.lk s μ X whole) s1:=by
 refine aev (P:=jL (model pw w) f) (by rw[bw,uZ];rfl) (fun h p=>p) ?_
 refine fh (bw _ _ _) (ng _ _ _) ?_
 refine Y.step g1 hw hne (fun Y' h=>ha C A env r s1 aZ X1 H1 Y' h pos) fun vs H2 us s2 nc X2 g2 oR q2 hw=>?_
 refine Y.step g2 hw hne (fun Y' h=>hk C A env r s2 nc X2 H2 Y' h pos) fun kr H3 kvs s3 wU X3 g3 I4 q3 hw=>?_
 have q':=I4.vr g2.st (oR.vr g1.st q)
 refine⟨MH F g3.st q' (hw▸hne),?_⟩
 rw[u9,←q3.2]
 have Y3:=Y.go g3
 refine Y.step (f:=fun v H=>.ok v H) g3 (hw.trans (R.gV _)) hne (fun Y' h=>CO C A s3 wU X3 H3 g vs kr f us kvs Y'.cx Y'.ja Y'.st q' (I4.Eb g2.st q2) q3.1 h) fun v H4 u s4 Uz X4 g4 _ q4 hw=>aV hw g4 q4
theorem AZ(F:Fix w K hB Θ)(CO:uY w hB Θ n){cf:CE}{cl:CL}{ck:CK}{x:Nat}{np:Pos}{as:List E}{kl:List Internal.K}{pos:Pos}(hf:aX w hB Θ n ks cf (.Name (nm x) np))(ha:uO w hB Θ n ks cl (fT as))(hk:CR w hB Θ n ks ck kl):
 aX w hB Θ n ks (aB cf cl ck) (.Call (.Name (nm x) np) (fT as) (rX kl) pos):=fun C A env r s μ X H Y hne=>by
 refine aew (Y.step (.refl Y.st) rfl hne (fun Y'=>hf C A env r s μ X H Y') fun v H1 u s1 aZ X1 g _ q hw=>?_)
 exact wV F CO ha hk Y g q hne hw
theorem CT{lk:List Nat}{n:Nat}(h:bh n lk=true):n∉lk:=by
 induction lk with
 |nil=>exact aaM
 |cons m l ih=>
  replace h:az (aap n m) false (bh n l)=true:=h
  cases hb:aap n m with
  |true=>rw[hb] at h;exact nb1 h
  |false=>
   rw[hb] at h
   exact fun q=>(aar.mp q).elim (fun e=>nb2 ((abn n).symm.trans ((congrArg _ e).trans hb))) (ih h)
noncomputable def jZ(w:aaC)(hB:aal)(Θ:Th)(m:Me)(id:String):Prop:=∀⦃A:aav⦄⦃E:aac→aad→Prop⦄⦃lk:List Nat⦄⦃s:aad⦄⦃μ X:List Addr⦄⦃H:HP⦄⦃o:V⦄⦃x:aac⦄⦃as:List V⦄⦃xs:List aac⦄,
 A.units+10<cLine→St hB Θ s.heap μ X H→VR Θ s.heap μ X o x→VRs Θ s.heap μ X as xs→n7 o m=true→uC lk o m as H≠.bad→
  ∃v H',uC lk o m as H=.ok v H'∧aai (model pw w) A (call (.builtin id) (x::xs)) (lq hB Θ lk s μ X H' v) E s
theorem xH{l:List Addr}(h:l.Nodup){i j:Nat}(hi:i<l.length)(hj:j<l.length)(e:l[i]=l[j]):i=j:=by
 have:=aek.mp h
 rcases age i j with q|q|q
 ·exact absurd e (this i j hi hj q)
 ·exact q
 ·exact absurd e.symm (this j i hj hi q)
theorem om{h:aal}{a:Addr}{xs:List aac}{n:Nat}{f:Array aac→Array aac}(hj:h.get? a=some {cls:=.type "list",dict:=none,data:=.seq xs.toArray n,slots:=#[]}) {ys:List aac} (hf:f xs.toArray=ys.toArray):
 LstAt (h.update a (aa4 f)) a ys.toArray:=by
 have:∃n',aa4 f {cls:=.type "list",dict:=none,data:=.seq xs.toArray n,slots:=#[]}={cls:=.type "list",dict:=none,data:=.seq (f xs.toArray) n',slots:=#[]}:=⟨_,rfl⟩
 obtain⟨n',e⟩:=this
 refine⟨n',?_⟩
 rw[abe _ hj (by rw[e];rfl),e,hf]
theorem Goes.write(S:St hB Θ s.heap μ X H){k:Nat}{a:Addr}(ha:μ[k]?=some a)(hlk:bh k lk=true){m:List V}{ys:List aac}{l0:List V}(h0:H[k]?=some l0)
 (hs:∀b o,b≠a→s.heap.get? b=some o→s'.heap.get? b=some o) (hl:LstAt s'.heap a ys.toArray) (q:VRs Θ s.heap μ X m ys) (ho:s'.os=s.os:=by rfl) (hg:s'.gens=s.gens:=by rfl):
 Goes hB Θ lk s μ X (setAt H k m) s' μ X:=by
 have X9:a∈X:=S.wH a (aaU ha)
 have KX:∀b o,s.heap.get? b=some o→b∉X→s'.heap.get? b=some o:=fun b o e hX=>hs b o (fun h=>hX (h▸X9)) e
 have hat:a∉ao:=fun ht=>by
  obtain⟨l,e1,e2,e3⟩:=S.obj k l0 h0
  obtain⟨vs,e⟩:=S.tabAt ht
  rw[ha] at e2;(first|(replace e2:=(Z8 e2).symm;subst e2)|cases e2)
  obtain⟨⟨j,e4⟩,_⟩:=e3
  rw[e] at e4;(first|(replace e4:=(Z8 e4).symm;subst e4)|cases e4)
 have kp:fL (Wr lk μ) s.heap s'.heap:=⟨fun b o e hb=>hs b o (fun h=>hb (.inr ⟨k,h▸ha,CT hlk⟩)) e,fun b o e=>by
  by_cases hb:b=a
  ·subst hb;exact hl.get
  ·exact⟨o,hs b o hb e⟩⟩
 refine⟨?_,.refl,.refl,kp,ho,by rw[hg];exact .refl _⟩
 rw[pL]
 exact{
  base:=fun b o e=>KX b o (S.base b o e) (S.Vg e)
  gK:=S.gK
  lG:=S.lG
  wH:=S.wH
  old:=fun b hb=>by obtain⟨o,e⟩:=S.old b hb;exact kp.2 b o e
  nodup:=S.nodup
  len:=by rw[List.length_set];exact S.len
  obj:=fun j l e=>by
   by_cases hj:j=k
   ·subst hj
    have hlt:=(aay.mp h0).1
    rw[List.getElem?_set_self hlt] at e
    (first|(replace e:=(Z8 e).symm;subst e)|cases e)
    exact⟨a,ys,ha,hl,q.mono KX .refl .refl⟩
   ·rw[List.getElem?_set_ne (acp hj)] at e
    obtain⟨b,zs,e1,e2,e3⟩:=S.obj j l e
    have hne:b≠a:=fun hb=>by
     subst hb
     have h1:=(aay.mp e1)
     have h2:=(aay.mp ha)
     obtain⟨l1,g1⟩:=h1
     obtain⟨l2,g2⟩:=h2
     exact hj (xH S.nodup l1 l2 (g1.trans g2.symm))
    exact⟨b,zs,e1,bS e2 fun o e=>hs b o hne e,e3.mono KX .refl .refl⟩
  tab:=fun p hp=>(S.tab p hp).go (fun a o e q=>⟨KX a o e q,q⟩) fun o e=>hs _ _ (fun h=>hat (h▸za p hp)) e}
noncomputable def MI:Me→String
 |.append=>"list.append"|.insert=>"list.insert"|.count=>"list.count"|.index=>"list.index"|.join=>"str.join"|.split=>"str.split"|.lower=>"str.lower"|.encode=>"str.encode"
 |.decode=>"bytes.decode"|.format=>"str.format"|.sub=>"re.Pattern.sub"|.search=>"re.Pattern.search"|_=>""
theorem Sm{o:Option (List V)}{F:List V→R V}(h:(match o with|some l=>F l|none=>.bad)≠.bad):∃l,o=some l∧F l≠.bad:=by
 cases o with
 |none=>exact nB h
 |some l=>exact⟨l,rfl,h⟩
theorem se{k:Nat}{f:List V→Option (List V)}(h:qV lk k f H≠.bad):∃l m,bh k lk=true∧H[k]?=some l∧l.length≤4000∧f l=some m∧qV lk k f H=.ok .none (setAt H k m):=by
 obtain⟨h1,h2,h3⟩:=bY h
 obtain⟨l,e,h2⟩:=Sm h2
 obtain⟨m,e2,_⟩:=Sm h2
 obtain⟨l',h5,h6⟩:=ah e2
 obtain⟨rfl,h7⟩:=fE h5
 refine⟨_,m,h1,by rw[←eU];exact e,h7,h6,h3.trans ?_⟩
 rw[e]
 show(match aT (fit _) f with|some m=>_|none=>_)=_
 rw[e2]
theorem xJ{l:List V}{zs:List aac}(q:VRs Θ s.heap μ X l zs)(h:l.length≤4000):zs.toArray.size≤sizeLine:=aah (abo q.length) (aah h (by decide))
theorem F8:jZ w hB Θ .append "list.append":=fun A E lk s μ X H o x as xs hu S qo q hk h=>by
 obtain⟨k,rfl⟩:=q9 hk
 obtain⟨v,rfl,h⟩:=HK h
 obtain⟨y,rfl,qv⟩:=q.one
 cases qo.inv with
 |ref hn=>
 obtain⟨l,m,h1,h2,h3,h4,h5⟩:=se h
 obtain rfl:=Z8 h4
 obtain⟨a,zs,e1,⟨j,hj⟩,e3⟩:=S.obj _ _ h2
 obtain rfl:=Z8 (e1.symm.trans hn)
 refine⟨_,_,h5,?_⟩
 have hz:=xJ e3 h3
 refine acT ac3 (LstAt.isList ⟨j,hj⟩).typeIs ael ?_ (aeb _ _)
 show aai _ _ (updateSeq _ (·.push y)>>=fun _=>ret .none) _ _ s
 refine aab (ae5 hj rfl (aag ⟨.none,rfl,μ,X,?_,.none⟩) hz (by rw[agM];exact adA hz))
 exact Goes.write S hn h1 h2 (fun b o hb e=>by rw[adO _ _ _ _ hb];exact e) (om hj (aex ..)) (aO l [v]▸e3.append (.cons qv .nil))
theorem Ba{l:Addr}{zs:List aac}{n:Nat}{i:Int}{t:Tok}{y:aac}{Q:aac→aad→Prop}(hj:s.heap.get? l=some {cls:=.type "list",dict:=none,data:=.seq zs.toArray n,slots:=#[]}) (h0:0≤i) (h1:i<1000000) (hz:zs.toArray.size≤sizeLine)
 (h:Q .none {s with heap:=s.heap.update l (aa4 fun xs=>(xs.extract 0 (min i.toNat xs.size)).push y++xs.extract (min i.toNat xs.size))}):aai (model pw w) A (call (.builtin "list.insert") [.ref l,.int i t,y]) Q Ex s:=by
 have hfit:¬(!acS i)=true:=by
  have:acS i=true:=by
   unfold acS
   simp;omega
  rw[this];simp
 have g:=AutoSeq1.list_insert_list_int_val_1 l zs.toArray n i t y hfit hz
 refine acu aeG (LstAt.isList ⟨n,hj⟩).typeIs PySem.F.entry_list_insert (PySem.F.args_list_insert_3 _ _ _) g ⟨hj,?_⟩
 have hn:¬i<0:=by omega
 simp only [hn,if_false]
 exact h
theorem I6{α:Type}(l:List α)(j n:Nat)(e:n=l.length):l.take j=l.take (min j n)∧l.drop j=l.drop (min j n):=by
 subst e
 rcases Nat.le_total j l.length with h|h
 ·rw[adJ h];exact⟨rfl,rfl⟩
 ·rw[agr h,aa2 h,aa2 (aaA _),acH h,acH (aaA _)];exact⟨rfl,rfl⟩
theorem CU(zs:List aac)(y:aac)(j:Nat):((zs.toArray.extract 0 (min j zs.toArray.size)).push y++zs.toArray.extract (min j zs.toArray.size))=(zs.take (min j zs.length)++y::zs.drop (min j zs.length)).toArray:=by
 apply ahW
 simp
 exact aa2 (by simp)
theorem F9:jZ w hB Θ .insert "list.insert":=fun A E lk s μ X H o x as xs hu S qo q hk h=>by
 obtain⟨k,rfl⟩:=q9 hk
 obtain⟨i,v,rfl,h⟩:=WL h
 obtain⟨z,y,rfl,qi,qv⟩:=q.two
 cases qo.inv with
 |@ref ad hn=>
 obtain⟨l,m,h1,h2,h3,h4,h5⟩:=se h
 obtain⟨j,hj,h6⟩:=ah h4
 obtain⟨hs,h7⟩:=aM (b:=bJ j) h6
 obtain rfl:=iJ hj
 cases qi.inv with
 |int tj=>
 clear h4 h6 hj
 cases j with
 |negSucc j=>exact no1 h7
 |ofNat j=>
  obtain rfl:=Z8 h7
  obtain⟨a,zs,e1,⟨n,hj⟩,e3⟩:=S.obj _ _ h2
  obtain rfl:=Z8 (e1.symm.trans hn)
  refine⟨_,_,h5,Ba hj (i:=aaa j) (abG j) (abK.mpr (gU hs)) (xJ e3 h3) ⟨μ,X,?_,.none⟩⟩
  obtain⟨e4,e5⟩:=I6 l j zs.length e3.length
  have q':VRs Θ s.heap μ X (au (dF l j) (v::fS l j)) (zs.take (min j zs.length)++y::zs.drop (min j zs.length)):=by
   rw[aO,dM,eV,e4,e5]
   exact(e3.take _).append (.cons qv (e3.drop _))
  exact Goes.write S hn h1 h2 (fun b o hb e=>by rw[adO _ _ _ _ hb];exact e) (om hj (CU zs y j)) q'
theorem I7:jZ w hB Θ .count "list.count":=fun A E lk s μ X H o x as xs hu S qo q hk h=>by
 obtain⟨v,rfl,h⟩:=HK h
 obtain⟨y,rfl,qv⟩:=q.one
 obtain⟨v',e1,e2⟩:=R.dB h
 obtain⟨l,hl,e1⟩:=ah e1
 obtain⟨n,hn,e1⟩:=ah e1
 obtain rfl:=Z8 e1
 obtain⟨p,zs,rfl,⟨k,ho⟩,hq⟩:=bI S qo hl
 obtain⟨h1,rfl⟩:=AS hn
 obtain⟨e,e3,e4⟩:=CM (acf (acB (by decide) _) hu) hq qv h1
 refine⟨_,_,e2,acu aeO ⟨_,ho,rfl⟩ PySem.F.entry_list_count (PySem.F.args_list_count_2 _ _) (list_countAt p zs.toArray k none #[] y e) ⟨ho,fun z hz=>e3 z (adz.mp hz),?_⟩⟩
 rw[←e4,List.countP_map]
 exact .tok S _ (.int _ _)
theorem I8:jZ w hB Θ .index "list.index":=fun A E lk s μ X H o x as xs hu S qo q hk h=>by
 obtain⟨v,rfl,h⟩:=HK h
 obtain⟨y,rfl,qv⟩:=q.one
 obtain⟨v',e1,e2⟩:=R.dB h
 obtain⟨l,hl,e1⟩:=ah e1
 obtain⟨l',hf,e1⟩:=ah e1
 obtain⟨b,hb,e1⟩:=ah e1
 obtain⟨n,hn,e1⟩:=ah e1
 obtain rfl:=Z8 e1
 obtain⟨rfl,hlen⟩:=fE hf
 obtain⟨p,zs,rfl,⟨k,ho⟩,hq⟩:=bI S qo hl
 obtain⟨h1,_⟩:=xD hb
 obtain⟨h2,h3⟩:=AU hn
 obtain⟨e,e3,e4⟩:=CM (acf (acB (by decide) _) hu) hq qv h1
 rw[←e4] at h2 h3
 have hlt:n<zs.length:=by have:=(aay.mp h2).1;rwa[aaj] at this
 refine⟨_,_,e2,acu aeP ⟨_,ho,rfl⟩ PySem.F.entry_list_index (PySem.F.args_list_index_2 _ _)
  (list_indexAt p zs.toArray k none #[] y e n hlt (ad5 (abK.mpr (aaX hlt (aah (abo hq.length) hlen))) (by decide)) ?_ ?_) ⟨ho,fun z hz=>e3 z (adz.mp hz),.tok S _ (.int _ _)⟩⟩
 ·simpa [hlt] using h2
 ·intro m hm hmn
  have:=h3 m hmn
  have Yb:m<zs.length:=hm
  simpa [Yb] using this
theorem Ga{v:V}{b:List Nat}(h:Ax v=some b):v=.str b:=by
 obtain⟨j,rfl,h⟩:=jK (f:=some) h
 exact congrArg V.str (Z8 h)
theorem CV{α β:Type}{f:α→Option β}{v:α}{l:List α}{ts:List β}(h:jn f (v::l)=some ts):∃b t,f v=some b∧jn f l=some t∧ts=b::t:=by
 obtain⟨b,hb,h⟩:=ah (o:=f v) (f:=fun b=>aT (jn f l) fun t=>some (b::t)) h
 obtain⟨t,ht,h⟩:=ah h
 exact⟨b,t,hb,ht,(Z8 h).symm⟩
theorem MJ{Θ:Th}{h:aal}{l:List V}{ts:List (List Nat)}{xs:List aac}(q:VRs Θ h μ X l xs)(e:jn Ax l=some ts):∃ps:List (Str×Tok),xs=strValues ps∧ps.map (·.1)=ts.map bu:=by
 induction l generalizing ts xs with
 |nil=>obtain rfl:=Z8 e;exact⟨[],q.zero,rfl⟩
 |cons v l ih=>
  obtain⟨b,t,hb,ht,rfl⟩:=CV e
  obtain rfl:=Ga hb
  obtain⟨x,xs,rfl,hv,hl⟩:=q.more
  obtain⟨ps,rfl,hps⟩:=ih hl ht
  cases hv.inv with
  |str tk=>exact⟨(bu b,tk)::ps,rfl,by rw[aaz,aaz,hps]⟩
theorem kO(sep s:List Nat)(t:List (List Nat)):jo sep (s::t)=s++(match t with|[]=>[]|_::_=>sep++jo sep t):=by
 show au s _=_
 rw[aO]
 cases t with
 |nil=>rfl
 |cons a t=>show s++au sep _=_;rw[aO];rfl
theorem I9(sep:List Nat)(t:List (List Nat)):∀acc:List Nat,((t.map bu).foldl (fun acc p=>acc++(bu sep).cps++p.cps) acc.toArray)=(acc++(match t with|[]=>[]|_::_=>sep++jo sep t)).toArray:=by
 induction t with
 |nil=>intro acc;rw[aaO];rfl
 |cons a t ih=>
  intro acc
  rw[aaz,ab2]
  have:acc.toArray++(bu sep).cps++(bu a).cps=(acc++sep++a).toArray:=by rw[←acA,←acA];rfl
  rw[this,ih,kO,aaE,aaE]
theorem join_eq(sep:List Nat)(ts:List (List Nat)):Txt.join (bu sep) (ts.map bu)=bu (jo sep ts):=by
 show agf _ _=_
 unfold agf
 cases ts with
 |nil=>rfl
 |cons a t=>
  simp only [aaz,List.drop_succ_cons,adn,List.headD_cons]
  have:(bu a).cps=a.toArray:=rfl
  rw[this,I9,kO];rfl
theorem Gb(sep:List Nat)(ts:List (List Nat)):∀k,ts.foldl (fun n t=>n+t.length+sep.length) k≤k+((jo sep ts).length+sep.length):=by
 induction ts with
 |nil=>exact fun k=>abb ..
 |cons a t ih=>
  intro k
  rw[ab2,kO,aao]
  cases t with
  |nil=>exact abo (abN ..)
  |cons b t=>
   refine aah (ih _) (abo ?_)
   show _=k+(a.length+(sep++jo sep (b::t)).length+sep.length)
   rw[aao]
   simp only [abN]
theorem Ja{sep:List Nat}{ts:List (List Nat)}(h:(jo sep ts).length+sep.length≤sizeLine):JoinOk (bu sep) (ts.map bu)=true:=by
 have h2:(ts.map bu).toArray.foldl (fun n(t:Str)=>n+t.length+(bu sep).length) 0=ts.foldl (fun n t=>n+t.length+sep.length) 0:=by
  rw[aec,List.foldl_map]
  congr 1
 have h3:ahR ((ts.map bu).toArray.foldl (fun n(t:Str)=>n+t.length+(bu sep).length) 0)=false:=by
  rw[h2]
  exact decide_eq_false (abt.mpr (aah (Gb sep ts 0) (aah (abo (abL _)) h)))
 exact congrArg (!·) h3
theorem ML:jZ w hB Θ .join "str.join":=fun A E lk s μ X H o x as xs hu S qo q hk h=>by
 obtain⟨sep,rfl⟩:=iI hk
 obtain⟨v,rfl,h⟩:=HK h
 obtain⟨y,rfl,qv⟩:=q.one
 cases qo.inv
 obtain⟨v',e1,e2⟩:=R.dB h
 obtain⟨sep',Ew,e1⟩:=ah e1
 obtain⟨l,hl,e1⟩:=ah e1
 obtain⟨ts,ht,e1⟩:=ah e1
 obtain⟨u,hf,e1⟩:=ah e1
 obtain rfl:=Z8 e1
 obtain⟨rfl,hlen⟩:=fE hf
 obtain⟨rfl,hsl⟩:=fE Ew
 obtain⟨p,zs,rfl,hp,hq⟩:=bI S qv hl
 obtain⟨ps,rfl,hps⟩:=MJ hq ht
 refine⟨_,_,e2,ahd hp.isList hps ?_ fun t' k=>by rw[join_eq];exact .tok S _ (.str _ _)⟩
 exact Ja (aah (ace hlen hsl) (by decide))
theorem Pn{c:Nat}:low c=lo1 c:=by
 unfold low lo1
 cases e1:aa5 65 c with
 |false=>
  have:¬65≤c:=fun h=>by rw[aaF h] at e1;exact nb2 e1
  simp[az,this]
 |true=>
  have h1:=aak e1
  cases e2:aa5 c 90 with
  |false=>
   have:¬c≤90:=fun h=>by rw[aaF h] at e2;exact nb2 e2
   simp[az,this,h1]
  |true=>
   have h2:=aak e2
   simp[az,h1,h2]
theorem nh{l:List Nat}(h:ascii l=true):∀c∈l,c<128:=by
 unfold ascii at h
 rw[Eg] at h
 intro c hc
 exact aak (aaG.mp h c hc)
theorem Jb:jZ w hB Θ .lower "str.lower":=fun A E lk s μ X H o x as xs hu S qo q hk h=>by
 obtain⟨l,rfl⟩:=iI hk
 obtain⟨rfl,h⟩:=as0 h
 obtain rfl:=q.zero
 cases qo.inv
 obtain⟨h1,h2,h3⟩:=bY h
 obtain⟨h4,_,h5⟩:=bY h2
 have e:Txt.lower (bu l)=bu (lmap low l):=by
  rw[lower_ascii (by simpa [bu] using nh h1),jr]
  have:l.map low=l.map lo1:=abD fun c _=>Pn
  rw[this];simp[bu]
 refine⟨_,_,h3.trans h5,PySem.SC.lower ?_ ?_⟩
 ·rw[e,dQ,jr,aaj];exact decide_eq_false (abt.mpr (aah (di h4) (by decide)))
 ·rw[e];exact .tok S _ (.str _ _)
end
structure mz(w:aaC)(hB:aal)(Θ:Th):Prop where
 split:jZ w hB Θ .split "str.split"
 encode:jZ w hB Θ .encode "str.encode"
 decode:jZ w hB Θ .decode "bytes.decode"
 format:jZ w hB Θ .format "str.format"
 sub:jZ w hB Θ .sub "re.Pattern.sub"
 search:jZ w hB Θ .search "re.Pattern.search"
 Sn:∀p:Pt,∃o,hB.get? (kD p)=some o∧o.cls=.type "re.Pattern"∧o.dict=none
namespace PF
theorem mC:PlainAttrs "re.Pattern":=
 ⟨⟨"object.__getattribute__",by rw[acj,abv];kernel_rfl,by decide+kernel⟩,by rw[acj,abv];kernel_rfl⟩
theorem kQ:Slot "re.Pattern" "sub" "re.Pattern.sub":=
 .of (owner:="re.Pattern") (n:="sub") (by rw[acj,abv];kernel_rfl) (by decide+kernel) (by decide+kernel) (by decide+kernel)
  (by first|exact .inl (by decide+kernel)|exact .inr (by decide+kernel)) (by rw[ado];kernel_rfl)
theorem zq:typeOf (.builtin "re.Pattern.sub")=pure (.type "method_descriptor"):=by show builtinType _=_;rw[afz];kernel_rfl
theorem lu:Slot "re.Pattern" "search" "re.Pattern.search":=
 .of (owner:="re.Pattern") (n:="search") (by rw[acj,abv];kernel_rfl) (by decide+kernel) (by decide+kernel) (by decide+kernel)
  (by first|exact .inl (by decide+kernel)|exact .inr (by decide+kernel)) (by rw[ado];kernel_rfl)
theorem tC:typeOf (.builtin "re.Pattern.search")=pure (.type "method_descriptor"):=by show builtinType _=_;rw[afz];kernel_rfl
end PF
section
variable{w:aaC}{K:Frag}{hB hF:aal}{O W:Addr→Prop}{N0:Nat}{Θ:Th}{A:aav}{lk:List Nat}{s s0 s' s'' s1:aad}{μ j4 aG bZ X X0 X' gJ aZ X1:List Addr}{H H0 H' iz H1:HP}{n:Nat}{C:Cx}{env cenv:Env}{outer:List Env}{r r0 r' r1:aR}{ks:Kinds}{Ex:aac→aad→Prop}{D:Addr}{av:List V}
noncomputable def So:Me→String
 |.append=>"list"|.insert=>"list"|.count=>"list"|.index=>"list"|.join=>"str"|.split=>"str"|.lower=>"str"|.encode=>"str"|.format=>"str"|.decode=>"bytes"|.sub=>"re.Pattern"|.search=>"re.Pattern"|_=>""
noncomputable def Yc:Me→Str
 |.append=>"append"|.insert=>"insert"|.count=>"count"|.index=>"index"|.join=>"join"|.split=>"split"|.lower=>"lower"|.encode=>"encode"|.decode=>"decode"|.format=>"format"|.sub=>"sub"|.search=>"search"|m=>nm (Ug m)
theorem Sp(m:Me):nm (Ug m)=Yc m:=by cases m<;>first|rfl|decide+kernel
theorem Jc{x:Nat}{m:Me}(h:yz x=some m)(hb:instMeth m=none):PlainAttrs (So m)∧Slot (So m) (nm x) (MI m)∧typeOf (.builtin (MI m))=pure (.type "method_descriptor"):=by
 rw[U8 h,Sp]
 clear h
 cases m with
 |append=>exact⟨acD,ac3,PySem.F.type_list_append⟩
 |insert=>exact⟨acD,aeG,PySem.F.type_list_insert⟩
 |count=>exact⟨acD,aeO,PySem.F.type_list_count⟩
 |index=>exact⟨acD,aeP,PySem.F.type_list_index⟩
 |join=>exact⟨ab4,PySem.F.slot_str_join,PySem.F.type_str_join⟩
 |split=>exact⟨ab4,acI,PySem.F.type_str_split⟩
 |lower=>exact⟨ab4,PySem.F.slot_str_lower,PySem.F.type_str_lower⟩
 |encode=>exact⟨ab4,aeQ,PySem.F.type_str_encode⟩
 |decode=>exact⟨FB.plainAttrs_bytes,afi,FB.type_bytes_decode⟩
 |format=>exact⟨ab4,aem,PySem.F.type_str_format_m⟩
 |sub=>exact⟨PF.mC,PF.kQ,PF.zq⟩
 |search=>exact⟨PF.mC,PF.lu,PF.tC⟩
 |_=>exact no2 hb
theorem Jd(MR:mz w hB Θ){m:Me}(hb:instMeth m=none):jZ w hB Θ m (MI m):=by
 have N:∀m(k:Nat),some k=none→jZ w hB Θ m (MI m):=fun _ _=>no2
 revert hb
 cases m with
 |append=>exact fun _=>F8
 |insert=>exact fun _=>F9
 |count=>exact fun _=>I7
 |index=>exact fun _=>I8
 |join=>exact fun _=>ML
 |split=>exact fun _=>MR.split
 |lower=>exact fun _=>Jb
 |encode=>exact fun _=>MR.encode
 |decode=>exact fun _=>MR.decode
 |format=>exact fun _=>MR.format
 |sub=>exact fun _=>MR.sub
 |search=>exact fun _=>MR.search
 |_=>exact fun h=>N _ _ h
inductive MK:V→String→Prop
 |ref(n:Nat):MK (.ref n) "list"
 |lst(l:List V):MK (.lst l) "list"
 |str(l:List Nat):MK (.str l) "str"
 |m7(l:List Nat):MK (.m7 l) "bytes"
 |pat(p:Pt):MK (.pat p) "re.Pattern"
theorem Ey{o:V}(h:isRef o=true):MK o "list":=by obtain⟨n,rfl⟩:=q9 h;exact .ref n
theorem Ez{o:V}(h:AD o=true):MK o "list":=by
 rcases FD h with⟨n,rfl⟩|⟨n,rfl⟩
 ·exact .ref n
 ·exact .lst n
theorem pR{o:V}(h:isStr o=true):MK o "str":=by obtain⟨n,rfl⟩:=iI h;exact .str n
theorem MM{o:V}(h:HV o=true):MK o "bytes":=by obtain⟨n,rfl⟩:=xx h;exact .m7 n
theorem EA{o:V}(h:D6 o=true):MK o "re.Pattern":=by obtain⟨n,rfl⟩:=rg h;exact .pat n
theorem Je{o:V}{m:Me}(h:n7 o m=true)(hb:instMeth m=none):MK o (So m):=by
 cases m with
 |append=>exact Ey h
 |insert=>exact Ey h
 |count=>exact Ez h
 |index=>exact Ez h
 |decode=>exact MM h
 |sub=>exact EA h
 |search=>exact EA h
 |join=>exact pR h
 |split=>exact pR h
 |lower=>exact pR h
 |encode=>exact pR h
 |format=>exact pR h
 |_=>exact no2 hb
theorem Bb(MR:mz w hB Θ)(S:St hB Θ s.heap μ X H){o:V}{m:Me}{x:aac}(qo:VR Θ s.heap μ X o x)(hk:n7 o m=true)(hb:instMeth m=none):
 s.TypeIs x (So m)∧∀a,x=.ref a→∃ob,s.heap.get? a=some ob∧ob.dict=none:=by
 have lst:∀{p:Addr}{xs:Array aac},LstAt s.heap p xs→s.TypeIs (.ref p) "list"∧∀a,aaH p=.ref a→∃ob,s.heap.get? a=some ob∧ob.dict=none:=
  fun hp=>⟨hp.isList.typeIs,fun a e=>by obtain⟨k,e'⟩:=hp;exact⟨_,(ahe e)▸e',rfl⟩⟩
 have k:=Je hk hb
 generalize So m=t at k
 clear hk hb
 cases k with
 |ref n=>
  cases qo.inv with
  |ref hn=>
  have hk:n<H.length:=by rw[←S.len];exact(aay.mp hn).1
  obtain⟨a,xs,e1,e2,_⟩:=S.obj n _ (aax hk)
  rw[hn] at e1
  exact lst (Z8 e1▸e2)
 |lst l=>cases qo.inv with
  |lst ha hX hl'=>exact lst ha
 |str l=>cases qo.inv;exact⟨acP _ _ _,nofun⟩
 |m7 l=>cases qo.inv;exact⟨adp _ _ _,nofun⟩
 |pat p=>
  cases qo.inv
  obtain⟨ob,e,h1,h2⟩:=MR.Sn p
  exact⟨⟨ob,S.base _ _ e,h1⟩,fun a e'=>⟨ob,(ahe e')▸S.base _ _ e,h2⟩⟩
noncomputable def baseOk:E→Bool
 |.call _ as ks _=>!(as.isEmpty&&ks.isEmpty)
 |_=>true
theorem zu{o:E}(h:baseOk o=true)(attr:Str)(env:Env)(whole:Sem aac):attributeBase (dE o) attr env whole=whole:=by
 cases o with
 |call f as ks p=>
  cases as with
  |cons a l=>clear h;cases f<;>exact@rfl _ whole
  |nil=>
   cases ks with
   |nil=>exact nb1 h
   |cons k l=>cases k;clear h;cases f<;>exact@rfl _ whole
 |bA o n ap as ks p=>clear h;cases as<;>cases ks<;>exact@rfl _ whole
 |_=>exact@rfl _ whole
theorem ud:∀l:List E,(fT l).length=l.length
 |[]=>rfl
 |e::l=>congrArg (· +1) (ud l)
theorem EB:∀l:List Internal.K,(rX l).length=l.length
 |[]=>rfl
 |e::l=>congrArg (· +1) (EB l)
theorem MN{l:List (Bool×Sem aac)}(h:l.any (·.1)=false):l.all (!·.1)=true:=by
 simpa using h
theorem MO{as:List E}{kl:List Internal.K}{pos:Pos}(h:as.length+kl.length<29):methodCallForm ((fT as).length+(rX kl).length) (backTo pos (starEach (fT as) env)) (backToKw pos (keywordEach (rX kl) env))=true:=by
 unfold methodCallForm
 rw[MN (bw _ _ _),ng,ud,EB]
 have:as.length+kl.length+(if(backToKw pos (keywordEach (rX kl) env)).isEmpty=true then 0 else 1)<30:=by split<;>omega
 simpa using this
theorem Jf{o:E}{name:Str}{apos pos:Pos}{as:List E}{kl:List Internal.K}{Q:aac→aad→Prop}(hb:baseOk o=true)(hline:(apos.endLine==pos.line)=true)(hlen:as.length+kl.length<29)
 (h:aai (model pw w) A (eval (dE o) env) (fun ov s₁=>∀pl,aai (model pw w) A (getMethod ov name pl) (fun fx s₂=>aai (model pw w) A (callWith pos fx.1 fx.2 (backTo pos (starEach (fT as) env)) (backToKw pos (keywordEach (rX kl) env))) Q Ex s₂) Ex s₁) Ex s):
 aai (model pw w) A (eval (.Call (.Attribute (dE o) name apos) (fT as) (rX kl) pos) env) Q Ex s:=by
 rw[arm_eval_Call,zu hb]
 refine aab (aas h (fun ov s₁ h₁=>?_) fun _ _ e=>e)
 refine aab (aa3 ?_)
 have hpos:methodCallPos true (dE o) env apos pos=pure pos:=by unfold methodCallPos;simp[hline]
 unfold methodCall
 rw[MO hlen]
 refine aab (aaP (aas (h₁ _) (fun fx s₂ h₂=>?_) fun _ _ e=>e))
 exact aab (aaN hpos h₂)
theorem Gd{o:V}{m:Me}{k:Nat}(h:n7 o m=true)(hb:instMeth m=some k):∃a,o=.inst a:=by
 have N:∀o:V,none=some k→∃a,o=.inst a:=fun _=>no1
 revert h hb
 cases m with
 |conv=>exact fun h _=>iU h
 |getAll=>exact fun h _=>iU h
 |keys=>exact fun h _=>iU h
 |items=>exact fun h _=>iU h
 |Av=>exact fun h _=>iU h
 |_=>exact fun _=>N _
theorem CW{o:V}{m:Me}(h:n7 o m=true)(hb:instMeth m=none){a:Nat}:o≠.inst a:=by
 have N:∀k:Nat,some k=none→False:=fun _=>no2
 rintro rfl
 revert h hb
 cases m<;>first|exact fun _ h=>nb1 h|exact fun h=>(N _ h).elim
noncomputable def Jg(kr:aR)(x:R V):R V:=match kr with|[]=>x|_=>.bad
theorem CX{o:V}(m:Me)(as:List V)(kr:aR)(H:HP):(∃a,o=.inst a)∨nO C o m as kr H=Jg kr (uC C.lk o m as H):=by
 have N:∀o,nO C o m as kr H=Jg kr (uC C.lk o m as H)→(∃a,o=.inst a)∨nO C o m as kr H=Jg kr (uC C.lk o m as H):=fun _=>.inr
 cases o with
 |inst a=>exact .inl ⟨a,rfl⟩
 |_=>exact N _ rfl
theorem CY{o:V}{m:Me}{as:List V}{kr:aR}(hn:∀{a},o≠.inst a)(h:nO C o m as kr H≠.bad):kr=[]∧nO C o m as kr H=uC C.lk o m as H:=by
 rcases CX (o:=o) m as kr H with⟨a,e⟩|e
 ·exact absurd e hn
 ·cases kr with
  |nil=>exact⟨rfl,e⟩
  |cons _ _=>exact absurd e h
theorem Jh(F:Fix w K hB Θ)(MR:mz w hB Θ)(CO:uY w hB Θ n){co:CE}{cl:CL}{ck:CK}{o:E}{x:Nat}{m:Me}{as:List E}{kl:List Internal.K}{apos pos:Pos}(hm:yz x=some m)
 (hb:baseOk o=true) (hline:(apos.endLine==pos.line)=true) (hlen:as.length+kl.length<29) (ho:aX w hB Θ n ks co (dE o)) (ha:uO w hB Θ n ks cl (fT as)) (hk:CR w hB Θ n ks ck kl):
 aX w hB Θ n ks (aS co m cl ck) (.Call (.Attribute (dE o) (nm x) apos) (fT as) (rX kl) pos):=fun C A env r s μ X H Y hne=>by
 refine Jf hb hline hlen (Y.step (.refl Y.st) rfl hne (fun Y'=>ho C A env r s μ X H Y') fun v H1 u s1 aZ X1 g _ q hw=>?_)
 intro pl
 obtain⟨h1,h2,h3⟩:=bY (hw▸hne)
 have hw:=hw.trans h3
 cases hi:instMeth m with
 |none=>
  obtain⟨f1,f2,f3⟩:=Jc hm hi
  obtain⟨t1,t2⟩:=Bb MR g.st q h1 hi
  refine getMethod_builtin t1 f1 f2 f3 t2 ?_
  refine aev (P:=fun _=>True) (by rw[bw,uZ];rfl) (fun h _=>⟨.machine,.inr (.inl rfl),ahk⟩) ?_
  refine fh (bw _ _ _) (ng _ _ _) ?_
  refine Y.step g hw hne (fun Y' h=>ha C A env r s1 aZ X1 H1 Y' h pos) fun vs H2 us s2 nc X2 g2 oR q2 hw=>?_
  refine Y.step g2 hw hne (fun Y' h=>hk C A env r s2 nc X2 H2 Y' h pos) fun kr H3 kvs s3 wU X3 g3 I4 q3 hw=>?_
  refine⟨trivial,?_⟩
  obtain⟨e1,e2⟩:=CY (CW h1 hi) (hw▸hne)
  subst e1
  obtain⟨q4,q5⟩:=q3
  have e3:kvs=[]:=by(replace q4:=q4.inv;cases q4);rfl
  subst e3
  rw[List.zip_nil_right]
  have hu:=Y.cx.units
  obtain⟨v4,H4,e4,h4⟩:=Jd MR hi (A:=A) (lk:=C.lk) (E:=EG hB Θ A C.lk s μ X (aS co m cl ck C r H)) (by unfold cLine;omega) g3.st (I4.vr g2.st (oR.vr g.st q)) (I4.Eb g2.st q2) h1 (by rw[←e2,←hw];exact hne)
  exact aas h4 (fun u4 s4 h=>QG.rY g3 (hw.trans (e2.trans e4)) h) fun _ _ x=>x
 |some k=>
  obtain⟨a,rfl⟩:=Gd h1 hi
  obtain⟨Sq,p1,p2,p3,p4⟩:=F.base.meths x m k hm hi
  have X0:K.In s1.heap:=F.base.Rd.keeps g.st.base
  have q':=q
  replace q:=q.inv;cases q with
  |@inst ad dx rr es kk hn hat hx hv hX tn=>
  have I:agZ s1.heap ad _ 282 (some (adk es kk)):=⟨hat,rfl,rfl,hx⟩
  refine method_fn X0 I (agH p1).1 (agH p1).2 p2 (beq_iff_eq.mp p3) (by show(lookIn (nm x) (adk es kk)).map _=_;rw[lookIn_dict,hv,if_neg p4];rfl) ?_
  refine aev (P:=jL (model pw w) (.ref (fu k))) (by rw[bw,uZ];rfl) (fun h p=>p) ?_
  refine fh (bw _ _ _) (ng _ _ _) ?_
  refine Y.step g hw hne (fun Y' h=>ha C A env r s1 aZ X1 H1 Y' h pos) fun vs H2 us s2 nc X2 g2 oR q2 hw=>?_
  refine Y.step g2 hw hne (fun Y' h=>hk C A env r s2 nc X2 H2 Y' h pos) fun kr H3 kvs s3 wU X3 g3 I4 q3 hw=>?_
  refine⟨Eu F g3.st Sq,?_⟩
  rw[u9,←q3.2]
  have e5:nO C (.inst a) m vs kr H3=eF C (.fn k) (.inst a::vs) kr H3:=by
   unfold nO eF
   simp only [hi]
  have hw:=hw.trans e5
  refine Y.step (f:=fun v H=>.ok v H) g3 (hw.trans (R.gV _)) hne (fun Y' h=>CO C A s3 wU X3 H3 (.fn k) (.inst a::vs) kr (.ref (fu k)) (.ref ad::us) kvs Y'.cx Y'.ja Y'.st (.fn k Sq)
   (.cons (I4.vr g2.st (oR.vr g.st q')) (I4.Eb g2.st q2)) q3.1 h) fun v H4 u s4 Uz X4 g4 _ q4 hw=>aV hw g4 q4
theorem MP(F:Fix w K hB Θ){co:CE}{o:E}{p:Pos}(hb:baseOk o=true)(ho:aX w hB Θ n ks co (dE o)):aX w hB Θ n ks (Cz co) (.Attribute (dE o) hdr p):=fun C A env r s μ X H Y hne=>by
 show aai _ _ (attributeBase (dE o) hdr env (eval (dE o) env)>>=_) _ _ _
 rw[zu hb]
 refine aab (Y.step (.refl Y.st) rfl hne (fun Y'=>ho C A env r s μ X H Y') fun v H1 u s1 aZ X1 g _ q hw=>?_)
 refine aab (aa3 ?_)
 cases v with
 |inst a=>
  have X0:K.In s1.heap:=F.base.Rd.keeps g.st.base
  obtain⟨p1,p2,p3⟩:=F.base.Sk
  replace q:=q.inv;cases q with
  |@inst ad dx rr es kk hn hat hx hv hX tn=>
  have I:agZ s1.heap ad _ 282 (some (adk es kk)):=⟨hat,rfl,rfl,hx⟩
  refine aab (aaP (get_value X0 I (agH p1).1 (findObj_own p2 p3 (by rfl) (by rw[lookIn_dict,hv,if_pos rfl])) (by rfl) ?_))
  refine aab (afg (aag ?_))
  exact⟨_,_,aZ,X1,hw,g.trans (.tok g.st _),.ref hn⟩
 |_=>exact absurd hw hne
end
end Internal
namespace Internal
open PySem PySem.W PyProof.Rows PySem.SeqAt PySem.StrLaws PySem.Builtin.Str
noncomputable def fm:List Nat→Nat→List Nat
 |[],_=>[]
 |13::10::l,i=>i::fm l (i+2)
 |c::l,i=>fm l (i+1)
noncomputable abbrev crlf:Str:=bu [13,10]
theorem Ge(pre r:List Nat):subAt (bu (pre++r)) crlf pre.length=decide (r.take 2=[13,10]):=by
 unfold subAt
 rw[abF,beq_iff_eq,decide_eq_true_eq]
 have e:((bu (pre++r)).cps.extract pre.length (pre.length+(crlf:Str).length)).toList=r.take 2:=by
  show((pre++r).toArray.extract pre.length (pre.length+2)).toList=_
  simp[Array.toList_extract,acW]
 constructor
 ·intro h;rw[←e,h];rfl
 ·intro h;apply Array.toList_inj.mp;rw[e,h];rfl
theorem rm(r:List Nat)(i:Nat):fm (13::10::r) i=i::fm r (i+2):=by rw[fm]
theorem mD(c:Nat)(r:List Nat)(i:Nat)(h:(c::r).take 2≠[13,10]):fm (c::r) i=fm r (i+1):=by
 rw[fm]
 intro l e1 e2
 subst e1;subst e2;simp at h
theorem rq:∀(r:List Nat)(i:Nat),(fm r i).length≤r.length
 |[],_=>aaA _
 |[c],i=>by rw[mD c [] i (by simp)];exact abk _
 |c::d::r,i=>by
  by_cases h:(c::d::r).take 2=[13,10]
  ·simp at h
   obtain⟨rfl,rfl⟩:=h
   rw[rm]
   have:=rq r (i+2)
   simp;omega
  ·rw[mD c _ i h]
   have:=rq (d::r) (i+1)
   simp at this ⊢;omega
theorem Bc(lim:Nat):∀(r pre:List Nat)(acc:Array Nat)(free:Nat),(free≤pre.length∨(free=pre.length+1∧r.head?=some 10))→acc.size+r.length<lim→
 (forIn (aaL pre.length (r.length+1)) (acc,free) (occBody (bu (pre++r)) crlf (pre.length+r.length) lim)).run.fst.toList=acc.toList++fm (if free≤pre.length then r else r.tail) (if free≤pre.length then pre.length else pre.length+1)
 |[],pre,acc,free,hf,hl=>by
  have hf:free≤pre.length:=hf.elim id fun h=>by cases h.2
  rw[if_pos hf,ada,abL,List.range'_one,ab0]
  unfold occBody
  rw[if_neg (fun h=>by have h2:=h.1.2;have:(crlf:Str).length=2:=rfl;omega)]
  simp[fm]
 |c::r,pre,acc,free,hf,hl=>by
  rw[aaD,acU,ab0]
  have sub:=Ge pre (c::r)
  have next:∀(acc':Array Nat)(vc:Nat),(vc≤pre.length+1∨(vc=pre.length+1+1∧r.head?=some 10))→acc'.size+r.length<lim→
   (forIn (aaL (pre.length+1) (r.length+1)) (acc',vc) (occBody (bu (pre++c::r)) crlf (pre.length+(r.length+1)) lim)).run.fst.toList=acc'.toList++fm (if vc≤pre.length+1 then r else r.tail) (if vc≤pre.length+1 then pre.length+1 else pre.length+1+1):=by
   intro acc' vc h1 h2
   have:=Bc lim r (pre++[c]) acc' vc (by simpa using h1) h2
   simpa [abN,adT,Nat.add_left_comm] using this
  rw[aaD] at hl
  by_cases hc:free≤pre.length∧(c::r).take 2=[13,10]
  ·obtain⟨h1,h2⟩:=hc
   obtain⟨d,r',rfl⟩:∃d r',r=d::r':=by
    cases r with
    |nil=>simp at h2
    |cons d r'=>exact⟨d,r',rfl⟩
   simp at h2
   obtain⟨rfl,rfl⟩:=h2
   have hb:occBody (bu (pre++13::10::r')) crlf (pre.length+((10::r').length+1)) lim pre.length (acc,free)=pure (.yield (acc.push pre.length,pre.length+2)):=by
    unfold occBody
    rw[if_pos ⟨⟨⟨by show acc.size<lim;omega,h1⟩,by have:(crlf:Str).length=2:=rfl;simp[this]⟩,by rw[sub];simp⟩]
    rfl
   rw[hb]
   refine Eq.trans (next (acc.push pre.length) (pre.length+2) (.inr ⟨rfl,rfl⟩) (by simp at hl ⊢;omega)) ?_
   rw[if_neg (by omega),if_neg (by omega),if_pos h1,if_pos h1,rm]
   simp
  ·have hb:occBody (bu (pre++c::r)) crlf (pre.length+(r.length+1)) lim pre.length (acc,free)=pure (.yield (acc,free)):=by
    unfold occBody
    rw[if_neg]
    intro h
    refine hc ⟨h.1.1.2,?_⟩
    have:=h.2
    rw[sub] at this
    exact of_decide_eq_true this
   rw[hb]
   refine Eq.trans (next acc free (.inl (by omega)) (by omega)) ?_
   rcases hf with hf|⟨hf,hh⟩
   ·rw[if_pos (by omega),if_pos (by omega),if_pos hf,if_pos hf,mD c r _ (fun h=>hc ⟨hf,h⟩)]
   ·rw[if_pos (by omega),if_pos (by omega),if_neg (by omega),if_neg (by omega)]
    rfl
theorem Ji(l:List Nat):occurrences (bu l) crlf 0 (bu l).length ((bu l).length+1)=fm l 0:=by
 rw[occ_eq,dQ]
 have:=Bc (l.length+1) l [] #[] 0 (.inl (aaA _)) (by simp)
 simpa using this
theorem kR:∀r:List Nat,bU r≠[]
 |[]=>by simp[bU]
 |c::r=>by
  unfold bU
  split
  ·simp
  ·simp
  ·split<;>simp
theorem CZ(c:Nat)(r:List Nat)(h:(c::r).take 2≠[13,10]):bU (c::r)=(c::(bU r).head (kR r))::(bU r).tail:=by
 rw[bU]
 ·have:∀(z:List (List Nat))(hn:z≠[]),(match(generalizing:=false) z with|[]=>[[c]]|r::t=>(c::r)::t)=(c::z.head hn)::z.tail:=fun z hn=>by
   cases z with
   |nil=>exact absurd rfl hn
   |cons a t=>rfl
  exact this _ (kR r)
 ·intro l e1 e2
  subst e1;subst e2;simp at h
theorem Jj(n:Nat):∀(r pre mid:List Nat),r.length≤n→((pre.length::(fm r (pre.length+mid.length)).map (· +2)).zip (fm r (pre.length+mid.length)++[(pre++mid++r).length])).map (fun p=>strSub (bu (pre++mid++r)) p.1 p.2)=
 bu (mid++(bU r).head (kR r))::(bU r).tail.map bu:=by
 have sub:∀(pre mid r:List Nat),strSub (bu (pre++mid++r)) pre.length (pre.length+mid.length)=bu mid:=by
  intro pre mid r
  unfold strSub bu
  simp[acW]
 induction n with
 |zero=>
  intro r pre mid h
  obtain rfl:r=[]:=abS (by omega)
  have:=sub pre mid []
  simp[fm,bU] at this ⊢
  exact this
 |succ n ih=>
  intro r pre mid h
  cases r with
  |nil=>exact ih [] pre mid (abk _)
  |cons c r=>
   by_cases hc:(c::r).take 2=[13,10]
   ·obtain⟨d,r',rfl⟩:∃d r',r=d::r':=by
     cases r with
     |nil=>simp at hc
     |cons d r'=>exact⟨d,r',rfl⟩
    simp at hc
    obtain⟨rfl,rfl⟩:=hc
    have i1:=ih r' (pre++mid++[13,10]) [] (by simp at h;omega)
    have e:pre++mid++[13,10]++[]++r'=pre++mid++13::10::r':=by simp
    rw[e] at i1
    have l1:(pre++mid++[13,10]).length=pre.length+mid.length+2:=by simp[abN]
    rw[l1] at i1
    rw[rm]
    have s1:bU (13::10::r')=[]::bU r':=by rw[bU]
    simp only [s1,aaz,abc,List.zip_cons_cons,ag0,ag1,aaO,sub pre mid (13::10::r')]
    simp only [ada,ahs,aaZ] at i1
    rw[i1,←aaz,afA]
   ·have i1:=ih r pre (mid++[c]) (by simp at h;omega)
    have e:pre++(mid++[c])++r=pre++mid++c::r:=by simp
    rw[e] at i1
    rw[mD c r _ hc]
    have l1:pre.length+(mid++[c]).length=pre.length+mid.length+1:=by simp[abN]
    rw[l1] at i1
    simp only [CZ c r hc,ag0,ag1]
    rw[i1]
    simp
theorem vd(l:List Nat):partsBetween (bu l) (fm l 0) 2=(bU l).map bu:=by
 have:=Jj l.length l [] [] (aaA _)
 unfold partsBetween
 simp only [ada,ahs,aaZ] at this
 rw[dQ]
 refine this.trans ?_
 rw[←aaz,afA]
section
variable{w:aaC}{hB:aal}{Θ:Th}{A:aav}{lk:List Nat}{s:aad}{μ X:List Addr}{H:HP}{E:aac→aad→Prop}
theorem Bd{h:aal}:∀(ts:List (List Nat))(tk:Nat),VRs Θ h μ X (ts.map V.str) (strsFrom tk (ts.map bu))
 |[],_=>.nil
 |t::ts,tk=>.cons (.str t tk) (Bd ts (tk+1))
theorem ve{l:List Nat}(h:fm l 0=[]):bU l=[l]:=by
 have e:=vd l
 rw[h] at e
 have:partsBetween (bu l) [] 2=[bu l]:=by
  unfold partsBetween strSub
  rw[dQ]
  unfold bu
  simp
 rw[this] at e
 cases hs:bU l with
 |nil=>exact absurd hs (kR l)
 |cons a t=>
  rw[hs] at e
  simp only [aaz,List.cons.injEq] at e
  obtain⟨e1,e2⟩:=e
  have:t=[]:=by simpa using e2.symm
  rw[this]
  have e1:l.toArray=a.toArray:=by injection e1
  rw[show l=a by simpa using e1]
theorem Jk:acZ crlf=1:=by decide+kernel
theorem Jl:jZ w hB Θ .split "str.split":=fun A E lk s μ X H o x as xs hu S qo q hk h=>by
 obtain⟨l,rfl⟩:=iI hk
 obtain⟨v,rfl,h⟩:=HK h
 obtain⟨u,rfl,h⟩:=ne_str h
 obtain⟨y,rfl,q1⟩:=q.one
 cases qo.inv with
 |str t=>
 cases q1.inv with
 |str t'=>
 obtain⟨h1,h2,h3⟩:=bY h
 obtain⟨h4,_,h5⟩:=bY h2
 obtain rfl:=kJ h1
 have hs:=di h4
 refine⟨_,_,h3.trans h5,?_⟩
 rw[jr]
 have hself:bU l=[l]→lq hB Θ lk s μ X H (.lst ((bU l).map V.str)) (.ref s.heap.objs.size) {s with heap:=s.heap.push {cls:=.type "list",data:=.seq [abI (bu l) t].toArray}}:=fun e=>by
  rw[e]
  exact .list S (fun a o e=>aat _ e) (aF _) (xs:=[abI (bu l) t]) ⟨0,aaw _ rfl⟩ (.cons (.str _ _) .nil)
 by_cases hk:(decide ((bu l).length<(crlf:Str).length)||decide (acZ (bu l)<acZ crlf))=true
 ·refine acu acI (acP _ _ _) adi (ac4 _ _) (meets_str_split_cannot_occur _ _ t t' hk) ?_
  refine hself (ve ?_)
  rw[Jk] at hk
  simp only [adK,decide_eq_true_eq] at hk
  rcases hk with hk|hk
  ·rw[dQ] at hk
   have:(crlf:Str).length=2:=rfl
   match l,hk with
   |[],_=>simp[fm]
   |[c],_=>rw[mD c [] 0 (by simp)];simp[fm]
   |_::_::_,hk=>simp at hk;omega
  ·exfalso;revert hk;unfold acZ;split<;>(try split)<;>omega
 ·rw[Bool.not_eq_true] at hk
  have hc:=Ji l
  by_cases hf:(fm l 0)=[]
  ·refine acu acI (acP _ _ _) adi (ac4 _ _) (meets_str_split_not_found _ _ t t' hk rfl (by rw[hc,hf];rfl)) ?_
   exact hself (ve hf)
  ·have hp:=vd l
   have hn:((bU l).map bu).length≤sizeLine:=by
    rw[←hp]
    have:=rq l 0
    unfold partsBetween
    simp only [aaj,List.length_zip,aaD,aao,ada]
    unfold sizeLine;omega
   refine acu acI (acP _ _ _) adi (ac4 _ _) (meets_str_split_sep _ _ t t' hk rfl (by rw[hc];cases e:fm l 0 with|nil=>exact absurd e hf|cons _ _=>rfl) (by rw[dQ];unfold sizeLine;omega) (by rw[hc,show(crlf:Str).length=2 from rfl,hp];exact hn)) ?_
   rw[hc,show(crlf:Str).length=2 from rfl,hp]
   exact .list S (fun a o e=>aat _ e) (aF _) (xs:=strsFrom s.toks ((bU l).map bu)) ⟨0,aaw _ rfl⟩ (Bd _ _)
end
end Internal
namespace Internal
open PySem PySem.W PyProof.Rows PySem.SeqAt
section
variable{w:aaC}{hB:aal}{Θ:Th}{A:aav}{lk:List Nat}{s:aad}{μ X:List Addr}{H:HP}{E:aac→aad→Prop}
theorem wW{y:Nat}(h:y<128):Builtin._codecs.utf8Codec.bytesOf y=[y.toUInt8]:=by
 show Str.utf8Of y=_
 unfold Str.utf8Of
 rw[if_pos h]
theorem xK{y:Nat}(h:y<128):Builtin._codecs.utf8Codec.bad y=false:=by
 show agN y=false
 unfold agN
 simp;omega
theorem Be:∀(l:List Nat)(acc:Array UInt8),(∀c∈l,c<128)→(l.foldl (fun acc y=>acc++(Builtin._codecs.utf8Codec.bytesOf y).toArray) acc)=acc++(l.map fun c=>c.toUInt8).toArray
 |[],acc,_=>by simp
 |c::l,acc,h=>by
  rw[ab2,wW (h c (by simp)),Be l _ fun x hx=>h x (by simp[hx])]
  simp
theorem oq{M:Model}{l:List Nat}(h:∀c∈l,c<128)(hl:l.length≤sizeLine){self:aac}{Q:Array UInt8→aad→Prop}(q:Q (fH l) s):aai M A (Builtin._codecs.encodeNarrow "str.encode" Builtin._codecs.utf8Codec none self (bu l)) Q E s:=by
 refine Rx (n:=(bu l).length) fun P g hP hg=>?_
 rw[dQ]
 cases l with
 |nil=>exact aag (hP _ _ (aag q))
 |cons c l=>
  rw[aaD,acU]
  refine NY fun P1 hd hy=>hg _ _ _ _ (U1 (c:=(!Builtin._codecs.utf8Codec.bad c)=true) (by rw[xK (h c (aae ..))];rfl) (aag (hy _ _ ?_)))
  have e2:(bu (c::l)).cps.extract 0 (bu (c::l)).cps.size=(c::l).toArray:=by
   show(c::l).toArray.extract 0 (c::l).toArray.size=_
   rw[afT]
  have e3:Array.findIdx? Builtin._codecs.utf8Codec.bad (c::l).toArray=none:=by
   rw[Array.findIdx?_eq_none_iff]
   intro x hx
   exact xK (h x (by simpa using hx))
  rw[e2,e3]
  have e4:(0+(none:Option Nat).getD (c::l).toArray.size)=l.length+1:=by simp
  have e5:ahE (fun acc y=>acc++(Builtin._codecs.utf8Codec.bytesOf y).toArray) #[] ((c::l).toArray.extract 0 ((none:Option Nat).getD (c::l).toArray.size))=fH (c::l):=by
   rw[show(c::l).toArray.extract 0 ((none:Option Nat).getD (c::l).toArray.size)=(c::l).toArray from afT,aec,Be _ _ h]
   simp[fH]
  rw[e4,e5]
  cases l with
  |nil=>exact aag (hP _ _ (aag q))
  |cons d l=>
   rw[aaD,acU]
   have e6:(fH (c::d::l)).size=l.length+2:=by simp[fH]
   refine NY fun P1 hd hy=>hg _ _ _ _ (U3 (by rw[e6];exact abt.mpr hl) ?_)
   rw[show(bu (c::d::l)).cps[l.length+1+1]?=none by simp[bu]]
   exact aag (hd _ _ (hP _ _ (aag q)))
noncomputable abbrev pS:Str:=bu [117,116,102,45,56]
theorem wY{M:Model}{t':Tok}{Q:Option Str→aad→Prop}(q:Q (some pS) s):aai M A (afj "str.encode" "encode" "'encoding'" (some (.str pS t'))) Q E s:=by
 unfold afj
 dsimp only
 refine aab (aaN (a:=pS) rfl ?_)
 rw[show(pS.cps.any fun x=>decide (x≥128))=false by decide+kernel,show pS.cps.contains 0=false by decide+kernel]
 exact aag q
theorem zv{l:List Nat}(h:∀c∈l,c<128)(hl:l.length≤sizeLine)(t t':Tok):
 Meets (Builtin.«str.encode» ⟨[.str (bu l) t,.str (bu [117,116,102,45,56]) t'],[]⟩) (fun _ R s=>R (.ok (.ret (.bytes (fH l) s.toks))) {s with toks:=s.toks+1}):=by
 refine Meets.of_wp fun prog w A R s q=>?_
 unfold Builtin.«str.encode»
 refine aab (aaN (a:=(abI (bu l) t,bu l,[abI (bu [117,116,102,45,56]) t'])) rfl ?_)
 refine aab (aaN (a:=[some (abI (bu [117,116,102,45,56]) t'),none]) rfl ?_)
 refine aab (wY ?_)
 refine aab (aaN (a:=none) rfl ?_)
 refine aab ?_
 unfold Builtin._codecs.encodeRoad
 rw[show(Builtin._codecs.normalName ((some pS).getD (Z9 "utf-8"))).toString="utf_8" by decide+kernel]
 refine aab (oq h hl ?_)
 refine afI ?_ (by unfold fH;simpa using hl)
 exact aag ⟨_,rfl,q⟩
theorem Gf:jZ w hB Θ .encode "str.encode":=fun A E lk s μ X H o x as xs hu S qo q hk h=>by
 obtain⟨l,rfl⟩:=iI hk
 obtain⟨v,rfl,h⟩:=HK h
 obtain⟨u,rfl,h⟩:=ne_str h
 obtain⟨y,rfl,q1⟩:=q.one
 cases qo.inv with
 |str t=>
 cases q1.inv with
 |str t'=>
 obtain⟨h1,h2,h3⟩:=bY h
 obtain⟨h4,h5,h6⟩:=bY h2
 obtain⟨h7,_,h8⟩:=bY h5
 obtain rfl:=kJ h1
 have hs:=di h7
 refine⟨_,_,h3.trans (h6.trans h8),?_⟩
 refine acu aeQ (acP _ _ _) PySem.F.entry_str_encode (PySem.F.args_str_encode_2 _ _) (zv (fun c hc=>?_) (aah hs (by decide)) t t') ?_
 ·exact nh h4 c hc
 ·exact .tok S _ (.m7 _ _)
theorem Po{l:List Nat}(h:∀c∈l,c<128){p:Nat}(hp:p<l.length):Builtin._codecs.utf8Decoder.find true (fH l) p=.char l[p] (p+1):=by
 have e:(fH l).getD p 0=aer l[p]:=by
  unfold fH
  simp[afU,hp]
 have hc:l[p]<128:=h _ (adB hp)
 have e2:(aer l[p]).toNat=l[p]:=by
  rw[afV];omega
 show(match afk (fH l) p with|(.char c,next)=>Builtin._codecs.Found.char c next|(.bad _ stop reason,_)=>_)=_
 unfold afk
 rw[e,e2,if_pos hc]
theorem sr{β:Type}{f:Nat→β→Sem (ForInStep β)}(g:Nat→β)(n:Nat)(h:∀i,i<n→f i (g i)=pure (.yield (g (i+1)))):∀(k i:Nat),i+k=n→forIn (aaL i k) (g i) f=(pure (g n):Sem β)
 |0,i,e=>by rw[←e];rfl
 |k+1,i,e=>by
  rw[acU,ab0,h i (by omega)]
  exact sr g n h k (i+1) (by omega)
theorem rt{l:List Nat}(h:∀c∈l,c<128)(hl:l.length≤sizeLine)(id:String):Builtin._codecs.runDecoder id Builtin._codecs.utf8Decoder none true (fH l) 0 []=pure ((bu l).cps,l.length):=by
 unfold Builtin._codecs.runDecoder
 have hs:(fH l).size=l.length:=by simp[fH]
 dsimp only
 rw[afl,hs]
 rw[show((0,#[],{}):Nat×Array Nat×Builtin._codecs.Faults)=(fun i=>(i,(l.take i).toArray,({held:=[]}:Builtin._codecs.Faults))) 0 from rfl]
 rw[sr (fun i=>(i,(l.take i).toArray,({held:=[]}:Builtin._codecs.Faults))) l.length ?_ l.length 0 (by omega)]
 ·rw[acV];rfl
 ·intro i hi
  have h1:(l.take i).toArray.size≤sizeLine:=by
   have:=ac0 i l
   simp;omega
  rw[if_neg (by omega),if_neg (by omega),Po h hi]
  show pure (ack (_,_,_))=_
  simp
theorem Gg(c:Nat)(l:List Nat)(t t':Tok):Builtin.«bytes.decode» ⟨[.bytes (fH (c::l)) t,.str pS t'],[]⟩=(mkStr (Z9 "utf-8")>>=fun _=>mkStr (Z9 "utf-8")>>=fun e=>mkStr (Z9 "bytes.decode")>>=fun d=>
 call (.builtin "_codecs.decode.text") [.bytes (fH (c::l)) t,e,.none,d]>>=fun v=>ret v):=⋯
theorem C0(t t':Tok):Builtin.«bytes.decode» ⟨[.bytes (fH []) t,.str pS t'],[]⟩=(rule "bytes.decode.empty">>=fun _=>PySem.retStr agO):=⋯
theorem args_bytes_decode_2(a b:aac):argsOk "bytes.decode" ⟨[a,b],[]⟩:=by
 unfold argsOk;rw[signature?_of (id:="bytes.decode") (n:=['e', 'd', 'o', 'c', 'e', 'd']) (o:=['s', 'e', 't', 'y', 'b']) ⋯ FB.owner_bytes];kernel_rfl
theorem Gh{l:List Nat}(h:∀c∈l,c<128)(hl:l.length≤sizeLine)(t t':Tok):
 Meets (Builtin.«bytes.decode» ⟨[.bytes (fH l) t,.str pS t'],[]⟩) (fun _ R s=>∀t' k,R (.ok (.ret (.str (bu l) t'))) {s with toks:=k}):=by
 refine .of_wp fun prog w A R s q=>?_
 cases l with
 |nil=>
  rw[C0]
  exact aab (aed (aab (aey (aag ⟨_,rfl,q _ _⟩) (by decide))))
 |cons c l=>
  rw[Gg]
  refine aab (aey ?_ (by decide))
  refine aab (aey ?_ (by decide))
  refine aab (aey ?_ (by decide))
  exact aab (call_function_meets KBd.kind_text KBd.plain_text KBd.entry_text (KBd.args_text _ _ _ _) (KBd.meets_text fun id=>rt h hl id) ⟨by rw[dQ];exact hl,aag ⟨_,rfl,q _ _⟩⟩)
theorem Gi:jZ w hB Θ .decode "bytes.decode":=fun A E lk s μ X H o x as xs hu S qo q hk h=>by
 obtain⟨l,rfl⟩:=xx hk
 obtain⟨v,rfl,h⟩:=HK h
 obtain⟨u,rfl,h⟩:=ne_str h
 obtain⟨y,rfl,q1⟩:=q.one
 cases qo.inv with
 |m7 t=>
 cases q1.inv with
 |str t'=>
 obtain⟨h1,h2,h3⟩:=bY h
 obtain⟨h4,h5,h6⟩:=bY h2
 obtain⟨h7,_,h8⟩:=bY h5
 obtain rfl:=kJ h1
 have hs:=di h7
 refine⟨_,_,h3.trans (h6.trans h8),?_⟩
 exact acu afi (adp _ _ _) FB.entry_bytes_decode (args_bytes_decode_2 _ _) (Gh (nh h4) (aah hs (by decide)) t t') fun _ _=>.tok S _ (.str _ _)
end
end Internal
namespace Internal
open PySem PySem.W PyProof.Rows PySem.SeqAt PySem.Builtin.Str
section
variable{w:aaC}{hB:aal}{Θ:Th}{A:aav}{lk:List Nat}{s:aad}{μ X:List Addr}{H:HP}{E:aac→aad→Prop}
theorem mk1:nextMarkup AA=.ok (AB,some {name:=[48]},[41]):=⋯
theorem mk2:nextMarkup [41]=.ok ([41],none,[]):=⋯
theorem Vj{v:aac}{byName:agx→Sem aac}:fieldObject "str.format" (some #[v]) byName [48] .unset=pure (v,.manual):=⋯
theorem zw{x:agx}(hx:x.length≤1000000)(t t':Tok):
 Meets (Builtin.«str.format» ⟨[.str (bu AA) t,.str x t'],[]⟩) (fun _ R s=>∀t' k,R (.ok (.ret (.str (bu AB++x++bu [41]) t'))) {s with toks:=k}):=by
 apply KPc.meets_of
 intro prog w A s Q E q
 refine aab (aaN (a:=(_,_,_)) rfl ?_)
 refine aab ?_
 refine aab ?_
 rw[afl]
 refine KFm.start ?_
 intro w1 g1
 refine ag2 ?_
 kpc_if
 kpc_check
 rw[show nextMarkup (bu AA).cps.toList=_ from mk1]
 refine aab (aaN Vj ?_)
 refine aab (aaP (aaN (a:=_) rfl ?_))
 refine aab (aag ?_)
 refine aab (aaP (aaN (KFm.formatOf_str _ _) ?_))
 refine aab (aaN (a:=some _) rfl ?_)
 refine aag ?_
 have g2:=agg (agg g1 (x:=⟨AB.toArray⟩) (o:=if(AB.length==(bu AA).cps.toList.length)=true then some (abI (bu AA) t) else none) (agh (if_neg (by decide+kernel)))) (x:=x) (o:=if([41]:List Nat).isEmpty=true then some (abI x t') else none) (agh (if_neg (by decide)))
 generalize(w1.add _ _).add _ _=w2 at g2 ⊢
 have g2:=KPc.good_mono g2 (K:=1000100) (by have:(⟨AB.toArray⟩:agx).length≤60:=(by decide);have:(agO).length=0:=rfl;omega)
 refine ag2 ?_
 kpc_if
 kpc_check
 rw[mk2]
 refine aag ?_
 have g3:=agg g2 (x:=⟨[41].toArray⟩) (o:=if(([41]:List Nat).length==(bu AA).cps.toList.length)=true then some (abI (bu AA) t) else none) (agh (if_neg (by decide+kernel)))
 generalize w2.add _ _=w3 at g3 ⊢
 refine ag2 ?_
 refine aag ?_
 refine aag ?_
 refine KPc.finish_ok g3 (by decide) ?_ q
 rfl
theorem Gj(jb:ji Θ):jZ w hB Θ .format "str.format":=fun A E lk s μ X H o x as xs hu S qo q hk h=>by
 obtain⟨l,rfl⟩:=iI hk
 obtain⟨v,rfl,h⟩:=HK h
 obtain⟨u,rfl,h⟩:=Pb h
 obtain⟨y,rfl,q1⟩:=q.one
 cases qo.inv with
 |str t=>
 cases q1.inv with
 |sym t'=>
 obtain⟨h1,h2,h3⟩:=bY h
 obtain⟨h4,_,h5⟩:=bY h2
 obtain rfl:=kJ h1
 have hs:=di h4
 refine⟨_,_,h3.trans h5,?_⟩
 have hx:(bu (Θ.expand u)).length≤1000000:=by rw[dQ];have:=gT jb u;omega
 refine acu aem (acP _ _ _) PySem.F.entry_str_format_m (KFm.args_2 _ _) (zw hx t t') fun t' k=>.tok S _ ?_
 rw[aO,aO,←aaE,←kK,←kK,←ff (Θ:=Θ) (l:=AB) ⋯,←iW,←ff (Θ:=Θ) (l:=[41]) ⋯,←iW,ff (Θ:=Θ) (l:=AB) ⋯,ff (Θ:=Θ) (l:=[41]) ⋯]
 exact .sym _ _
end
end Internal
namespace Internal
open PySem PySem.W PyProof.Rows PySem.Sre
noncomputable def nj(n:Nat):acX→acX:=@ach (fun _=>acX→acX) (fun m=>m) (fun _ ih m=>ih m.step) n
theorem step_done{m:acX}(h:m.outcome.isSome=true):m.step=m:=by
 unfold Sre.M.step;rw[if_pos h]
theorem mE{m:acX}(h:m.outcome.isSome=true):∀n,nj n m=m
 |0=>rfl
 |n+1=>(congrArg (nj n) (step_done h)).trans (mE h n)
theorem vf:∀(n:Nat)(m:acX),aht n m=nj n m
 |0,_=>rfl
 |n+1,m=>by
  rw[aht]
  by_cases h:m.outcome.isSome=true
  ·rw[if_pos h,mE h]
  ·rw[if_neg h];exact vf n m.step
theorem nq:∀(a b:Nat)(m:acX),nj (a+b) m=nj b (nj a m)
 |0,b,m=>by rw[abL];rfl
 |a+1,b,m=>by rw[Nat.succ_add];exact nq a b m.step
section
variable{M:Model}{A:aav}{E:aac→aad→Prop}{s:aad}
theorem xM:∀(turns N:Nat)(m:acX),0<turns→N≤4*turns→(nj N m).outcome.isSome=true→∀{Q:acX→aad→Prop},Q (nj N m) s→aai M A (afW turns m) Q E s
 |0,_,_,h,_,_,_,_=>absurd h (aeD _)
 |t+1,N,m,_,hN,hd,Q,q=>by
  rw[afW]
  rw[show Builtin.Re.reTurnSteps=4 from rfl,vf]
  by_cases h:(nj 4 m).outcome.isSome=true
  ·have e:nj 4 m=nj N m:=by
    by_cases h4:N≤4
    ·have:=nq N (4 - N) m
     rw[show N+(4 - N)=4 by omega] at this
     rewrite [this,mE hd];rfl
    ·have:=nq 4 (N - 4) m
     rw[show 4+(N - 4)=N by omega] at this
     rewrite [this,mE h];rfl
   rw[if_pos h,e]
   exact aag q
  ·have h4:4<N:=by
    refine aeL fun h4=>h ?_
    have:=nq N (4 - N) m
    rw[show N+(4 - N)=4 by omega] at this
    rewrite [this,mE hd];exact hd
   have e:=nq 4 (N - 4) m
   rw[show 4+(N - 4)=N by omega] at e
   rw[if_neg h]
   rw[e] at hd q
   exact aab (aed (xM t (N - 4) (nj 4 m) (by omega) (by omega) hd q))
theorem ru{f:Nat→Unit→Sem (ForInStep Unit)}(hf:∀i,f i ()=pure (.yield ())∨∃t,f i ()=(rule t>>=fun _=>pure (.yield ()))){Q:Unit→aad→Prop}(q:Q () s):∀l:List Nat,aai M A (forIn l () f) Q E s
 |[]=>aag q
 |i::l=>by
  rw[ab0]
  rcases hf i with e|⟨t,e⟩
  ·rw[e];exact aab (aag (ru hf q l))
  ·rw[e];exact aab (aab (aed (aag (ru hf q l))))
theorem EC{m:acX}{N:Nat}(hN:N≤1000000000){Q:Option acX→aad→Prop}(h:((nj N m).outcome=some .matched∧Q (some (nj N m)) s)∨((nj N m).outcome=some .failed∧Q none s)):aai M A (ae9 m) Q E s:=by
 unfold ae9
 refine aab (xM _ N m (by decide) (by omega) (by rcases h with⟨e,_⟩|⟨e,_⟩<;>rw[e]<;>rfl) ?_)
 refine aab (ru (fun i=>?_) ?_ _)
 ·split
  ·exact .inr ⟨_,rfl⟩
  ·exact .inl rfl
 ·rcases h with⟨e,q⟩|⟨e,q⟩
  ·rw[e];exact aag q
  ·rw[e];exact aag q
end
end Internal
namespace Internal
open PySem PySem.Sre
noncomputable def mk(code text:Array Nat)(lim start:Nat)(must:Bool)(pc pos handed:Nat)(out:Bool)(frames:List aeR)(weight:Nat)(Ss:Option Bool)(seen:aaJ)(oc:Option Sre.Outcome):acX:=
 {code,text,lim,start,lastStart:=lim,wholeText:=false,mustAdvance:=must,pc,pos,handed,outermost:=out,marks:=#[],lastmark:=-1,lastindex:=-1,loops:=#[],inner:=none,frames,weight,answer:=Ss,seen,outcome:=oc}
noncomputable def cN:Array Nat:=#[14,4,0,1,1,6,1,16,46,1]
noncomputable def nR(s:Nat)(first:Bool):aeR:={wait:=.nextStart,pc:=5,pos:=s,outermost:=first}
noncomputable def mF(text:Array Nat)(lim s:Nat)(must first:Bool)(seen:aaJ):acX:=mk cN text lim s must 5 s s first [nR s first] 1 none seen none
noncomputable def bol(text:Array Nat)(s:Nat):Bool:=s==0||text.getD (s - 1) 0==10
section
variable{text:Array Nat}{lim s:Nat}{must first:Bool}{seen:aaJ}
theorem vg:(mF text lim s must first seen).step=if bol text s then mk cN text lim s must 7 s s first [nR s first] 1 none ((seen.add 6).add 44) none else mk cN text lim s must 5 s s first [nR s first] 1 (some false) ((seen.add 6).add 44) none:=by
 unfold mF
 have e:(mk cN text lim s must 5 s s first [nR s first] 1 none seen none).step=(if bol text s then{mk cN text lim s must 5 s s first [nR s first] 1 none ((seen.add 6).add 44) none with pc:=5+2} else(mk cN text lim s must 5 s s first [nR s first] 1 none ((seen.add 6).add 44) none).say false):=rfl
 rw[e]
 rfl
theorem Jm(h:lim≤s):(mk cN text lim s must 7 s s first [nR s first] 1 none seen none).step=mk cN text lim s must 7 s s first [nR s first] 1 (some false) (seen.add 16) none:=by
 have e:(mk cN text lim s must 7 s s first [nR s first] 1 none seen none).step=(if s≥lim then mk cN text lim s must 7 s s first [nR s first] 1 (some false) (seen.add 16) none else
  match accepts cN 7 (text.getD s 0) (seen.add 16) with
  |.error why=>(mk cN text lim s must 7 s s first [nR s first] 1 none (seen.add 16) none).stick why
  |.ok (false,seen')=>{mk cN text lim s must 7 s s first [nR s first] 1 none (seen.add 16) none with seen:=seen'}.say false
  |.ok (true,seen')=>{mk cN text lim s must 7 s s first [nR s first] 1 none (seen.add 16) none with seen:=seen',pc:=7+itemWidth cN 7,pos:=s+1}):=rfl
 rw[e,if_pos h]
theorem ED(h:s<lim):(mk cN text lim s must 7 s s first [nR s first] 1 none seen none).step=if text.getD s 0==46 then mk cN text lim s must 9 (s+1) s first [nR s first] 1 none (seen.add 16) none else mk cN text lim s must 7 s s first [nR s first] 1 (some false) (seen.add 16) none:=by
 have e:(mk cN text lim s must 7 s s first [nR s first] 1 none seen none).step=(if s≥lim then mk cN text lim s must 7 s s first [nR s first] 1 (some false) (seen.add 16) none else
  match accepts cN 7 (text.getD s 0) (seen.add 16) with
  |.error why=>(mk cN text lim s must 7 s s first [nR s first] 1 none (seen.add 16) none).stick why
  |.ok (false,seen')=>{mk cN text lim s must 7 s s first [nR s first] 1 none (seen.add 16) none with seen:=seen'}.say false
  |.ok (true,seen')=>{mk cN text lim s must 7 s s first [nR s first] 1 none (seen.add 16) none with seen:=seen',pc:=7+itemWidth cN 7,pos:=s+1}):=rfl
 rw[e,if_neg (by omega+splitNatSub),show accepts cN 7 (text.getD s 0) (seen.add 16)=.ok (text.getD s 0==46,seen.add 16) from rfl]
 cases text.getD s 0==46<;>rfl
theorem Jo:(mk cN text lim s must 9 (s+1) s first [nR s first] 1 none seen none).step=mk cN text lim s must 9 (s+1) (s+1) first [nR s first] 1 (some true) (seen.add 1) none:=by
 have e:(mk cN text lim s must 9 (s+1) s first [nR s first] 1 none seen none).step=(if first&&((false&&(s+1)!=lim)||(must&&(s+1)==s)) then mk cN text lim s must 9 (s+1) s first [nR s first] 1 (some false) (seen.add 1) none else mk cN text lim s must 9 (s+1) (s+1) first [nR s first] 1 (some true) (seen.add 1) none):=rfl
 rw[e,if_neg]
 simp
theorem Jp{c:Array Nat}{pc hd pos wt:Nat}{out:Bool}{seen:aaJ}{f:aeR}(hw:f.wait=.nextStart):∃oc pc' pos' Yd out',nj 2 (mk c text lim s must pc pos hd out [f] wt (some true) seen none)=mk c text lim s must pc' pos' hd out' [] Yd oc seen (some .matched):=by
 obtain⟨w,Z0,Ye,fo,cn,kp,lp,bg⟩:=f
 cases hw
 exact⟨_,_,_,_,_,rfl⟩
theorem Bf{pc pos hd:Nat}{out:Bool}(h:s<lim):(mk cN text lim s must pc pos hd out [nR s first] 1 (some false) seen none).step=mF text lim (s+1) false false seen:=by
 have e:(mk cN text lim s must pc pos hd out [nR s first] 1 (some false) seen none).step=(if s<lim then mF text lim (s+1) false false seen else mk cN text lim s must 5 s hd first [] 0 (some false) seen none):=rfl
 rw[e,if_pos h]
theorem Bg{pc pos hd:Nat}{out:Bool}(h:lim≤s):(nj 2 (mk cN text lim s must pc pos hd out [nR s first] 1 (some false) seen none)).outcome=some .failed:=by
 have e:(mk cN text lim s must pc pos hd out [nR s first] 1 (some false) seen none).step=(if s<lim then mF text lim (s+1) false false seen else mk cN text lim s must 5 s hd first [] 0 (some false) seen none):=rfl
 show(mk cN text lim s must pc pos hd out [nR s first] 1 (some false) seen none).step.step.outcome=_
 rw[e,if_neg (by omega)]
 rfl
end
noncomputable def cL(hit:Nat→Option Nat)(k s:Nat):Option (Nat×Nat):=@ach (fun _=>Nat→Option (Nat×Nat)) (fun s=>(hit s).map fun b=>(s,b)) (fun _ ih s=>(hit s).elim (ih (s+1)) fun b=>some (s,b)) k s
theorem Rf{hit:Nat→Option Nat}{s:Nat}:cL hit 0 s=(hit s).map fun b=>(s,b):=rfl
theorem Pq{hit:Nat→Option Nat}{k s:Nat}:cL hit (k+1) s=(hit s).elim (cL hit k (s+1)) fun b=>some (s,b):=rfl
noncomputable def Ends(m:acX):Option (Nat×Nat)→Prop
 |some p=>m.outcome=some .matched∧m.start=p.1∧m.handed=p.2
 |none=>m.outcome=some .failed
noncomputable def nJ(text:Array Nat)(lim s:Nat):Option Nat:=if bol text s=true∧s<lim∧(text.getD s 0==46)=true then some (s+1) else none
section
variable{text:Array Nat}{lim s:Nat}{must first:Bool}{seen:aaJ}
theorem MQ{b:Nat}(h:nJ text lim s=some b):Ends (nj 5 (mF text lim s must first seen)) (some (s,b)):=by
 unfold nJ at h
 by_cases hc:bol text s=true∧s<lim∧(text.getD s 0==46)=true
 ·rw[if_pos hc] at h
  (first|(replace h:=(Z8 h).symm;subst h)|cases h)
  obtain⟨h1,h2,h3⟩:=hc
  show Ends (nj 2 (mF text lim s must first seen).step.step.step) _
  rw[vg,h1,if_pos rfl,ED h2,h3,if_pos rfl,Jo]
  obtain⟨_,_,_,_,_,e⟩:=Jp (c:=cN) (text:=text) (lim:=lim) (s:=s) (must:=must) (pc:=9) (hd:=s+1) (pos:=s+1) (wt:=1) (out:=first) (seen:=(((seen.add 6).add 44).add 16).add 1) (f:=nR s first) rfl
  rw[e]
  exact⟨rfl,rfl,rfl⟩
 ·rw[if_neg hc] at h;exact no1 h
theorem Jq(h:nJ text lim s=none)(hs:s<lim):∃n≤3,∃seen',nj n (mF text lim s must first seen)=mF text lim (s+1) false false seen':=by
 unfold nJ at h
 have hc:¬(bol text s=true∧s<lim∧(text.getD s 0==46)=true):=fun hc=>by rw[if_pos hc] at h;exact no2 h
 by_cases h1:bol text s=true
 ·refine⟨3,aaA _,((seen.add 6).add 44).add 16,?_⟩
  show(mF text lim s must first seen).step.step.step=_
  rw[vg,if_pos h1,ED hs,if_neg fun h3=>hc ⟨h1,hs,h3⟩,Bf hs]
 ·refine⟨2,by omega,(seen.add 6).add 44,?_⟩
  show(mF text lim s must first seen).step.step=_
  rw[vg,if_neg h1,Bf hs]
theorem Jr(hs:lim≤s):∃n≤4,(nj n (mF text lim s must first seen)).outcome=some .failed:=by
 by_cases h1:bol text s=true
 ·refine⟨4,aaA _,?_⟩
  show(nj 2 (mF text lim s must first seen).step.step).outcome=_
  rw[vg,if_pos h1,Jm hs,Bg hs]
 ·refine⟨3,by omega,?_⟩
  show(nj 2 (mF text lim s must first seen).step).outcome=_
  rw[vg,if_neg h1,Bg hs]
theorem EE:∀(k s:Nat)(must first:Bool)(seen:aaJ),s+k=lim→∃N≤5*(k+1),Ends (nj N (mF text lim s must first seen)) (cL (nJ text lim) k s)
 |0,s,must,first,seen,e=>by
  have:nJ text lim s=none:=by unfold nJ;rw[if_neg (by omega)]
  obtain⟨n,hn,h⟩:=Jr (text:=text) (must:=must) (first:=first) (seen:=seen) (show lim≤s by omega)
  exact⟨n,by omega,by rw[Rf,this];exact h⟩
 |k+1,s,must,first,seen,e=>by
  cases hh:nJ text lim s with
  |some b=>exact⟨5,by omega,by rw[Pq,hh];exact MQ hh⟩
  |none=>
   obtain⟨n,hn,seen',h⟩:=Jq (must:=must) (first:=first) (seen:=seen) hh (by omega)
   obtain⟨N,hN,h2⟩:=EE k (s+1) false false seen' (by omega)
   refine⟨n+N,by omega,?_⟩
   rw[nq,h,Pq,hh]
   exact h2
theorem C1{s:Nat}(hs:s≤lim):∃N≤5*(lim+1),Ends (nj N (ab5 cN text 0 s lim must)) (cL (nJ text lim) (lim - s) s):=by
 by_cases h:s<lim
 ·have e:ab5 cN text 0 s lim must=(if(decide (s>lim)||decide (lim - s<1))=true then{mk cN text lim s must 5 s s true [] 0 (some false) (({}:aaJ).add 14) none with lastStart:=0} else mF text lim s must true (({}:aaJ).add 14)):=rfl
  rw[e,if_neg (by simp;omega)]
  obtain⟨N,hN,h2⟩:=EE (text:=text) (lim:=lim) (lim - s) s must true (({}:aaJ).add 14) (by omega)
  exact⟨N,by omega,h2⟩
 ·have e:ab5 cN text 0 s lim must=(if(decide (s>lim)||decide (lim - s<1))=true then{mk cN text lim s must 5 s s true [] 0 (some false) (({}:aaJ).add 14) none with lastStart:=0} else mF text lim s must true (({}:aaJ).add 14)):=rfl
  have:nJ text lim s=none:=by unfold nJ;rw[if_neg (by omega)]
  refine⟨1,by omega,?_⟩
  rw[e,if_pos (by simp;omega),show lim - s=0 by omega,Rf,this]
  rfl
end
end Internal
namespace Internal
open PySem PySem.Sre
noncomputable def mG:Array Nat:=#[14,9,4,1,2,16,10,16,13,0,7,7,16,13,16,10,15,18,5,16,10,15,13,11,16,13,5,5,0,16,10,1,15,2,0,1]
noncomputable def Su(s:Nat)(first:Bool):aeR:={wait:=.nextStart,pc:=10,pos:=s,outermost:=first}
noncomputable def Sv(k s:Nat)(first:Bool):aeR:={wait:=.nextBranch,pc:=k,pos:=s,outermost:=first,kept:={lastmark:=-1,lastindex:=-1,whole:=false,marks:=#[]}}
noncomputable def Yg(s:Nat)(first:Bool):aeR:={wait:=.lookNot,pc:=26,pos:=s,outermost:=first,kept:={lastmark:=-1,lastindex:=-1,whole:=false,marks:=#[]}}
noncomputable def Js(text:Array Nat)(lim s:Nat)(first:Bool)(seen:aaJ):acX:=mk mG text lim s false 10 s s first [Su s first] 1 none seen none
noncomputable def wZ(text:Array Nat)(lim s:Nat)(first:Bool)(k pc pos hd:Nat)(Ss:Option Bool)(seen:aaJ):acX:=mk mG text lim s false pc pos hd first [Sv k s first,Su s first] 2 Ss seen none
section
variable{text:Array Nat}{lim s:Nat}{must first:Bool}{seen:aaJ}{k pos hd:Nat}
theorem ou:(Js text lim s first seen).step=wZ text lim s first 11 12 s s none (seen.add 7):=rfl
theorem jv(pc c:Nat)(Vk:pc=12∧c=13∨pc=14∧c=10∨pc=19∧c=10∨pc=24∧c=13):(wZ text lim s first k pc pos hd none seen).step=if pos<lim∧text.getD pos 0=c then wZ text lim s first k (pc+2) (pos+1) hd none (seen.add 16) else wZ text lim s first k pc pos hd (some false) (seen.add 16):=by
 have main:(wZ text lim s first k pc pos hd none seen).step=(if pos≥lim then wZ text lim s first k pc pos hd (some false) (seen.add 16) else
  match(ah4 (text.getD pos 0==c,seen.add 16):Except String (Bool×aaJ)) with
  |.error why=>(wZ text lim s first k pc pos hd none (seen.add 16)).stick why
  |.ok (false,seen')=>{wZ text lim s first k pc pos hd none (seen.add 16) with seen:=seen'}.say false
  |.ok (true,seen')=>{wZ text lim s first k pc pos hd none (seen.add 16) with seen:=seen',pc:=pc+2,pos:=pos+1}):=by
  rcases Vk with⟨rfl,rfl⟩|⟨rfl,rfl⟩|⟨rfl,rfl⟩|⟨rfl,rfl⟩<;>rfl
 rw[main]
 by_cases h1:pos<lim
 ·rw[if_neg (by omega)]
  by_cases h2:text.getD pos 0=c
  ·rw[if_pos ⟨h1,h2⟩,h2,beq_self_eq_true];rfl
  ·rw[if_neg fun h=>h2 h.2,beq_eq_false_iff_ne.mpr h2];rfl
 ·rw[if_pos (by omega),if_neg fun h=>h1 h.1]
theorem vh(pc:Nat)(Vk:pc=16∨pc=21∨pc=32):(wZ text lim s first k pc pos hd none seen).step=wZ text lim s first k 35 pos hd none (seen.add 15):=by
 rcases Vk with rfl|rfl|rfl<;>rfl
theorem vj:Ends (nj 4 (wZ text lim s first k 35 pos hd none seen)) (some (s,pos)):=by
 have e:(wZ text lim s first k 35 pos hd none seen).step=if(first&&((false&&pos !=lim)||(false&&pos==s)))=true then wZ text lim s first k 35 pos hd (some false) (seen.add 1) else wZ text lim s first k 35 pos pos (some true) (seen.add 1):=rfl
 show Ends (nj 2 (wZ text lim s first k 35 pos hd none seen).step.step) _
 rw[e,if_neg (by simp)]
 have e2:(wZ text lim s first k 35 pos pos (some true) (seen.add 1)).step=mk mG text lim s false k s pos first [Su s first] 1 (some true) (seen.add 1) none:=rfl
 rw[e2]
 obtain⟨_,_,_,_,_,e⟩:=Jp (c:=mG) (text:=text) (lim:=lim) (s:=s) (must:=false) (pc:=k) (hd:=pos) (pos:=s) (wt:=1) (out:=first) (seen:=seen.add 1) (f:=Su s first) rfl
 rw[e]
 exact⟨rfl,rfl,rfl⟩
theorem zx(k k':Nat)(hk:k=11∧k'=18∨k=18∧k'=23){pc:Nat}:(wZ text lim s first k pc pos hd (some false) seen).step=wZ text lim s first k' (k'+1) s s none seen:=by
 rcases hk with⟨rfl,rfl⟩|⟨rfl,rfl⟩<;>rfl
noncomputable def MS(text:Array Nat)(lim s:Nat)(first:Bool)(p:Nat)(Ss:Option Bool)(seen:aaJ):acX:=mk mG text lim s false 29 p p false [Yg p first,Sv 23 s first,Su s first] 3 Ss seen none
theorem Jt:(wZ text lim s first 23 26 pos hd none seen).step=MS text lim s first pos none (seen.add 5):=rfl
theorem Gk(h:¬(pos<lim∧text.getD pos 0=10)):(MS text lim s first pos none seen).step=MS text lim s first pos (some false) (seen.add 16):=by
 have main:(MS text lim s first pos none seen).step=(if pos≥lim then MS text lim s first pos (some false) (seen.add 16) else
  match(ah4 (text.getD pos 0==10,seen.add 16):Except String (Bool×aaJ)) with
  |.error why=>(MS text lim s first pos none (seen.add 16)).stick why
  |.ok (false,seen')=>{MS text lim s first pos none (seen.add 16) with seen:=seen'}.say false
  |.ok (true,seen')=>{MS text lim s first pos none (seen.add 16) with seen:=seen',pc:=31,pos:=pos+1}):=rfl
 rw[main]
 by_cases h1:pos<lim
 ·rw[if_neg (by omega),beq_eq_false_iff_ne.mpr fun h2=>h ⟨h1,h2⟩];rfl
 ·rw[if_pos (by omega)]
theorem Ju:(MS text lim s first pos (some false) seen).step=wZ text lim s first 23 32 pos pos none seen:=rfl
end
noncomputable def nK(text:Array Nat)(lim s:Nat):Option Nat:=
 if s<lim∧text.getD s 0=13 then(if s+1<lim∧text.getD (s+1) 0=10 then some (s+2) else some (s+1)) else if s<lim∧text.getD s 0=10 then some (s+1) else none
section
variable{text:Array Nat}{lim s:Nat}{must first:Bool}{seen:aaJ}{k pos hd:Nat}
theorem MT{b:Nat}(h:nK text lim s=some b):∃N≤16,Ends (nj N (Js text lim s first seen)) (some (s,b)):=by
 unfold nK at h
 by_cases h1:s<lim∧text.getD s 0=13
 ·rw[if_pos h1] at h
  by_cases h2:s+1<lim∧text.getD (s+1) 0=10
  ·rw[if_pos h2] at h
   (first|(replace h:=(Z8 h).symm;subst h)|cases h)
   refine⟨8,by omega,?_⟩
   show Ends (nj 4 (Js text lim s first seen).step.step.step.step) _
   rewrite [ou,jv 12 13 (by omega),if_pos h1,jv 14 10 (by omega),if_pos h2,vh 16 (by omega)]
   exact vj
  ·rw[if_neg h2] at h
   (first|(replace h:=(Z8 h).symm;subst h)|cases h)
   refine⟨15,by omega,?_⟩
   show Ends (nj 4 (Js text lim s first seen).step.step.step.step.step.step.step.step.step.step.step) _
   rewrite [ou,jv 12 13 (by omega),if_pos h1,jv 14 10 (by omega),if_neg h2,zx 11 18 (by omega),jv 19 10 (by omega),if_neg (by omega),zx 18 23 (by omega),jv 24 13 (by omega),if_pos h1,Jt,Gk h2,Ju,vh 32 (by omega)]
   exact vj
 ·rw[if_neg h1] at h
  by_cases h2:s<lim∧text.getD s 0=10
  ·rw[if_pos h2] at h
   (first|(replace h:=(Z8 h).symm;subst h)|cases h)
   refine⟨9,by omega,?_⟩
   show Ends (nj 4 (Js text lim s first seen).step.step.step.step.step) _
   rewrite [ou,jv 12 13 (by omega),if_neg h1,zx 11 18 (by omega),jv 19 10 (by omega),if_pos h2,vh 21 (by omega)]
   exact vj
  ·rw[if_neg h2] at h;exact no1 h
theorem Gl(c:Nat)(seen:aaJ):∃seen',ad1 mG c mG.size 5 true seen=.ok (c==10||c==13,seen'):=by
 have e:ad1 mG c mG.size 5 true seen=if(c==10)=true then .ok (true,seen.add 16) else if(c==13)=true then .ok (true,(seen.add 16).add 16) else .ok (false,((seen.add 16).add 16).add 0):=rfl
 rw[e]
 cases h1:c==10 with
 |true=>exact⟨_,rfl⟩
 |false=>
  cases h2:c==13 with
  |true=>exact⟨_,rfl⟩
  |false=>exact⟨_,rfl⟩
theorem su:(nK text lim s).isSome=(decide (s<lim)&&(text.getD s 0==10||text.getD s 0==13)):=by
 unfold nK
 by_cases hl:s<lim
 ·by_cases h1:text.getD s 0=13
  ·rw[if_pos ⟨hl,h1⟩,h1]
   split<;>simp[hl]
  ·rw[if_neg fun h=>h1 h.2]
   by_cases h2:text.getD s 0=10
   ·rw[if_pos ⟨hl,h2⟩,h2];simp[hl]
   ·rw[if_neg fun h=>h2 h.2,beq_eq_false_iff_ne.mpr h1,beq_eq_false_iff_ne.mpr h2];simp
 ·rw[if_neg fun h=>hl h.1,if_neg fun h=>hl h.1];simp[hl]
theorem EF{m:acX}(hc:m.code=mG)(ht:m.text=text)(hl:m.lim=lim):∀(k s:Nat)(seen:aaJ),s+k=lim→∃seen',abU m (k+1) s seen=.ok ((cL (nK text lim) k s).map (·.1),seen')
 |0,s,seen,e=>by
  refine⟨seen,?_⟩
  rw[abU,if_pos (by omega),Rf]
  have:=su (text:=text) (lim:=lim) (s:=s)
  rw[decide_eq_false (by omega),afm] at this
  rw[Option.isSome_eq_false_iff,aen] at this
  rw[this];rfl
 |k+1,s,seen,e=>by
  have hs:=su (text:=text) (lim:=lim) (s:=s)
  rw[decide_eq_true (by omega),Bool.true_and] at hs
  obtain⟨EH,e1⟩:=Gl (text.getD s 0) seen
  rw[abU,if_neg (by omega),hc,ht,e1,←hs]
  cases hh:nK text lim s with
  |some b=>exact⟨EH,by rw[Pq,hh];rfl⟩
  |none=>
   obtain⟨Jv,e2⟩:=EF hc ht hl k (s+1) EH (by omega)
   exact⟨Jv,by rw[Pq,hh];exact e2⟩
theorem ly{hit:Nat→Option Nat}:∀(k s:Nat){a b:Nat},cL hit k s=some (a,b)→hit a=some b
 |0,s,a,b,h=>by
  rw[Rf] at h
  cases e:hit s with
  |none=>rw[e] at h;exact no1 h
  |some c=>rw[e] at h;(first|(replace h:=(Z8 h).symm;subst h)|cases h);exact e
 |k+1,s,a,b,h=>by
  rw[Pq] at h
  cases e:hit s with
  |none=>rw[e] at h;exact ly k (s+1) h
  |some c=>rw[e] at h;(first|(replace h:=(Z8 h).symm;subst h)|cases h);exact e
noncomputable def Bh(text:Array Nat)(lim s:Nat)(must:Bool):acX:=mk mG text lim s must 10 s s true [] 0 none (({}:aaJ).add 14) none
theorem C2{s:Nat}(hs:s≤lim):∃N≤16,Ends (nj N (ab5 mG text 0 s lim must)) (cL (nK text lim) (lim - s) s):=by
 have e:ab5 mG text 0 s lim must=(if(decide (s>lim)||decide (lim - s<1))=true then{mk mG text lim s must 10 s s true [] 0 (some false) (({}:aaJ).add 14) none with lastStart:=0} else
  match abU (Bh text lim s must) (lim+1 - s) s (({}:aaJ).add 14) with
  |.ok (some s',seen)=>{Bh text lim s must with mustAdvance:=false,seen}.attemptAt s' true
  |.ok (none,seen)=>{Bh text lim s must with seen}.say false
  |.error why=>(Bh text lim s must).stick why):=rfl
 by_cases h:s<lim
 ·rw[e,if_neg (by simp;omega)]
  obtain⟨seen',e1⟩:=EF (m:=Bh text lim s must) (text:=text) (lim:=lim) rfl rfl rfl (lim - s) s (({}:aaJ).add 14) (by omega)
  rw[show lim - s+1=lim+1 - s by omega] at e1
  rw[e1]
  cases hf:cL (nK text lim) (lim - s) s with
  |none=>exact⟨1,by omega,rfl⟩
  |some p=>
   obtain⟨a,b⟩:=p
   exact MT (first:=true) (seen:=seen') (ly _ _ hf)
 ·have hn:nK text lim s=none:=by unfold nK;rw[if_neg (by omega),if_neg (by omega)]
  refine⟨1,by omega,?_⟩
  rw[e,if_pos (by simp;omega),show lim - s=0 by omega,Rf,hn]
  rfl
end
end Internal
namespace Internal
open PySem PySem.Sre
noncomputable def ow:Array Nat:=#[14,10,4,1,1,22,0,31,16,127,0,13,7,22,0,31,16,127,0,1]
noncomputable def mH:Array Nat:=#[14,14,4,1,1,9,4294966783,0,0,2147483648,0,0,0,0,0,13,11,9,4294966783,0,0,2147483648,0,0,0,0,0,1]
theorem Gm{c:Nat}(h1:32≤c)(h2:c<127)(seen:aaJ):∃seen',ad1 ow c ow.size 5 true seen=.ok (false,seen'):=by
 have e:ad1 ow c ow.size 5 true seen=if(decide (0≤c)&&decide (c≤31))=true then .ok (true,seen.add 22) else if(c==127)=true then .ok (true,(seen.add 22).add 16) else .ok (false,((seen.add 22).add 16).add 0):=rfl
 rw[e,if_neg (by simp;omega),if_neg (by simp;omega)]
 exact⟨_,rfl⟩
theorem Jw:(acF 127).all (fun c=>decide (c<32)||!((mH.getD (5+(1+c/32)) 0).testBit (c%32)))=true:=by decide+kernel
theorem Gn{c:Nat}(h1:32≤c)(h2:c<127)(seen:aaJ):∃seen',ad1 mH c mH.size 5 true seen=.ok (false,seen'):=by
 have e:ad1 mH c mH.size 5 true seen=if(decide (c<256)&&(mH.getD (5+(1+c/32)) 0).testBit (c%32))=true then .ok (true,seen.add 9) else .ok (false,(seen.add 9).add 0):=rfl
 have:=aaG.mp Jw c (adm.mpr h2)
 rw[decide_eq_false (by omega),Bool.false_or,aa9] at this
 rw[e,this,if_neg (by simp)]
 exact⟨_,rfl⟩
theorem vm{code:Array Nat}{text:Array Nat}{lim:Nat}(hi:∀i,i<lim→∀seen,∃seen',ad1 code (text.getD i 0) code.size 5 true seen=.ok (false,seen')){m:acX}(hc:m.code=code)(ht:m.text=text)(hl:m.lim=lim):
 ∀(k s:Nat)(seen:aaJ),s+k=lim→∃seen',abU m (k+1) s seen=.ok (none,seen')
 |0,s,seen,e=>⟨seen,by rw[abU,if_pos (by omega)]⟩
 |k+1,s,seen,e=>by
  obtain⟨EH,e1⟩:=hi s (by omega) seen
  obtain⟨Jv,e2⟩:=vm hi hc ht hl k (s+1) EH (by omega)
  refine⟨Jv,?_⟩
  rw[abU,if_neg (by omega),hc,ht,e1]
  exact e2
section
variable{text:Array Nat}{lim:Nat}
theorem zy{code:Array Nat}(hcode:code=ow∨code=mH)(hi:∀i,i<lim→32≤text.getD i 0∧text.getD i 0<127):(nj 1 (ab5 code text 0 0 lim false)).outcome=some .failed:=by
 by_cases h:0<lim
 ·rcases hcode with rfl|rfl
  ·have e:ab5 ow text 0 0 lim false=(if(decide (0>lim)||decide (lim - 0<1))=true then{mk ow text lim 0 false 11 0 0 true [] 0 (some false) (({}:aaJ).add 14) none with lastStart:=0} else
    match abU (mk ow text lim 0 false 11 0 0 true [] 0 none (({}:aaJ).add 14) none) (lim+1 - 0) 0 (({}:aaJ).add 14) with
    |.ok (some s',seen)=>{mk ow text lim 0 false 11 0 0 true [] 0 none (({}:aaJ).add 14) none with mustAdvance:=false,seen}.attemptAt s' true
    |.ok (none,seen)=>{mk ow text lim 0 false 11 0 0 true [] 0 none (({}:aaJ).add 14) none with seen}.say false
    |.error why=>(mk ow text lim 0 false 11 0 0 true [] 0 none (({}:aaJ).add 14) none).stick why):=rfl
   obtain⟨seen',e1⟩:=vm (code:=ow) (text:=text) (lim:=lim) (fun i h seen=>Gm (hi i h).1 (hi i h).2 seen) (m:=mk ow text lim 0 false 11 0 0 true [] 0 none (({}:aaJ).add 14) none) rfl rfl rfl lim 0 (({}:aaJ).add 14) (by omega)
   rw[e,if_neg (by simp;omega),show lim+1 - 0=lim+1 by omega,e1]
   rfl
  ·have e:ab5 mH text 0 0 lim false=(if(decide (0>lim)||decide (lim - 0<1))=true then{mk mH text lim 0 false 15 0 0 true [] 0 (some false) (({}:aaJ).add 14) none with lastStart:=0} else
    match abU (mk mH text lim 0 false 15 0 0 true [] 0 none (({}:aaJ).add 14) none) (lim+1 - 0) 0 (({}:aaJ).add 14) with
    |.ok (some s',seen)=>{mk mH text lim 0 false 15 0 0 true [] 0 none (({}:aaJ).add 14) none with mustAdvance:=false,seen}.attemptAt s' true
    |.ok (none,seen)=>{mk mH text lim 0 false 15 0 0 true [] 0 none (({}:aaJ).add 14) none with seen}.say false
    |.error why=>(mk mH text lim 0 false 15 0 0 true [] 0 none (({}:aaJ).add 14) none).stick why):=rfl
   obtain⟨seen',e1⟩:=vm (code:=mH) (text:=text) (lim:=lim) (fun i h seen=>Gn (hi i h).1 (hi i h).2 seen) (m:=mk mH text lim 0 false 15 0 0 true [] 0 none (({}:aaJ).add 14) none) rfl rfl rfl lim 0 (({}:aaJ).add 14) (by omega)
   rw[e,if_neg (by simp;omega),show lim+1 - 0=lim+1 by omega,e1]
   rfl
 ·have h0:lim=0:=by omega
  subst h0
  rcases hcode with rfl|rfl<;>rfl
end
end Internal
namespace Internal
open PySem PySem.W PyProof.Rows PySem.SeqAt PySem.Builtin.Re
structure nS(h:aal)(a:Addr)(code:Array Nat)(kind:Nat):Prop where
 at_:∃o vs c items,h.get? a=some o∧o.cls=.type "re.Pattern"∧o.data=.fields vs∧vs.getD 5 .none=.ref c∧reRawNat (vs.getD 6 .none)=kind∧reRawNat (vs.getD 2 .none)=0∧h.IsTuple c items∧(items.map reRawOf).map (·.toNat)=code
section
variable{w:aaC}{hB:aal}{Θ:Th}{A:aav}{lk:List Nat}{s:aad}{μ X:List Addr}{H:HP}{E:aac→aad→Prop}
theorem nS.keep{h h':aal}{a:Addr}{code:Array Nat}{k:Nat}(P:nS h a code k)(K:∀b o,h.get? b=some o→h'.get? b=some o):nS h' a code k:=by
 obtain⟨o,vs,c,items,h1,h2,h3,h4,h5,h6,h7,h8⟩:=P.at_
 exact⟨o,vs,c,items,K _ _ h1,h2,h3,h4,h5,h6,bW h7 fun o e=>K _ o e,h8⟩
noncomputable def C3:aac→Array Nat→Nat→Prop
 |.str x _,t,k=>t=x.cps∧k=0
 |.bytes b _,t,k=>t=b.map (·.toNat)∧k=1
 |_,_,_=>False
theorem vn{M:Model}{v:aac}{t:Array Nat}{k:Nat}(h:C3 v t k){Q:Array Nat×Nat→aad→Prop}(q:Q (t,k) s):aai M A (reTextOf v) Q E s:=by
 cases v with
 |str x tk=>
  obtain⟨rfl,rfl⟩:=h
  exact aaN rfl q
 |bytes b tk=>
  obtain⟨rfl,rfl⟩:=h
  unfold reTextOf
  refine aab (aaN (a:=none) rfl ?_)
  refine aab (aaN ahu ?_)
  exact aag q
 |_=>exact h.elim
theorem xN{v:aac}{t:Array Nat}{k:Nat}(h:C3 v t k):k=0∨k=1:=by
 cases v with
 |str x tk=>exact .inl h.2
 |bytes b tk=>exact .inr h.2
 |_=>exact h.elim
theorem vp{M:Model}{v:aac}{t:Array Nat}{k:Nat}(h:C3 v t k){Q:Unit→aad→Prop}(q:Q () s):aai M A (reNoCollectionInside v k) Q E s:=by
 unfold reNoCollectionInside
 cases v with
 |str x tk=>obtain⟨rfl,rfl⟩:=h;exact aag q
 |bytes b tk=>
  obtain⟨rfl,rfl⟩:=h
  rw[if_pos (by decide)]
  refine aab (aeS (adp s b tk) agi ?_)
  exact aag q
 |_=>exact h.elim
theorem pT{M:Model}{c:Addr}{items:Array aac}(h:s.heap.IsTuple c items){Q:Array Int→aad→Prop}(q:Q (items.map reRawOf) s):aai M A (reRawItems (.ref c)) Q E s:=by
 obtain⟨o,e,_,n,hd⟩:=h
 exact aab (adq e hd (aag q))
theorem ry{M:Model}{a:Addr}{v:aac}{t code:Array Nat}{k:Nat}(P:nS s.heap a code k)(h:C3 v t k){Q:ReTarget→aad→Prop}
 (q:Q {pattern:=.ref a,string:=v,code,text:=t,kind:=k,groups:=0,pos:=0,lim:=t.size} s):aai M A (reWholeTarget (.ref a) v) Q E s:=by
 obtain⟨o,vs,c,items,h1,h2,h3,h4,h5,h6,h7,rfl⟩:=P.at_
 unfold reWholeTarget
 refine aab (wpAny_fieldsOf h1 h3 ?_)
 refine aab (vn h ?_)
 dsimp only
 rw[h5,h6,h4]
 have hk:=xN h
 rw[if_neg (by rcases hk with rfl|rfl<;>decide),if_neg (by rcases hk with rfl|rfl<;>decide)]
 exact aab (vp h (aab (pT h7 (aag q))))
theorem C4{M:Model}{a:Addr}{v:aac}{t code:Array Nat}{k:Nat}(P:nS s.heap a code k)(h:C3 v t k){Q:ReTarget→aad→Prop}
 (q:Q {pattern:=.ref a,string:=v,code,text:=t,kind:=k,groups:=0,pos:=0,lim:=min ((2:Int)^63 - 1).toNat t.size} s):aai M A (reTarget "re.Pattern.search" "search" ⟨[.ref a,v],[]⟩) Q E s:=by
 obtain⟨o,vs,c,items,h1,h2,h3,h4,h5,h6,h7,rfl⟩:=P.at_
 unfold reTarget
 dsimp only
 refine aab (aaN (a:=[some v,none,none]) rfl ?_)
 refine aab (aag ?_)
 refine aab (aag ?_)
 refine aab (wpAny_fieldsOf h1 h3 ?_)
 refine aab (vn h ?_)
 dsimp only
 rw[h5,h6,h4]
 have hk:=xN h
 rw[if_neg (by rcases hk with rfl|rfl<;>decide),if_neg (by rcases hk with rfl|rfl<;>decide)]
 refine aab (vp h (aab (pT h7 (aag ?_))))
 rw[show min (0:Int).toNat t.size=0 from Nat.zero_min _]
 exact q
end
end Internal
namespace Internal
open PySem PySem.W PyProof.Rows PySem.SeqAt PySem.Builtin.Re
namespace PF
theorem zz:entryFor table "re.Pattern.search"=some Builtin.«re.Pattern.search»:=adC ⋯
theorem Bj(a b:aac):argsOk "re.Pattern.search" ⟨[a,b],[]⟩:=by
 unfold argsOk;kernel_rfl
theorem entry_sub:entryFor table "re.Pattern.sub"=some Builtin.«re.Pattern.sub»:=adC ⋯
theorem Jx(a b c:aac):argsOk "re.Pattern.sub" ⟨[a,b,c],[]⟩:=by
 unfold argsOk;kernel_rfl
theorem C5:entryFor table "re.Pattern.sub.loop"=some Builtin.«re.Pattern.sub.loop»:=adC ⋯
end PF
noncomputable def Pr:Pt→Array Nat
 |.dot=>cN|.xm=>mG|.qT=>cN|.rU=>ow|.Au=>mH
noncomputable def Pu:Pt→Nat
 |.qT=>1|_=>0
section
variable{w:aaC}{hB:aal}{Θ:Th}{A:aav}{lk:List Nat}{s:aad}{μ X:List Addr}{H:HP}{E:aac→aad→Prop}
theorem xO{a:Addr}{code:Array Nat}{k:Nat}(P:nS s.heap a code k):s.TypeIs (.ref a) "re.Pattern":=by
 obtain⟨o,vs,c,items,h1,h2,_⟩:=P.at_
 exact⟨o,h1,h2⟩
theorem sA{a:Addr}{code:Array Nat}{l:List Nat}{t:Tok}(P:nS s.heap a code 0)(hc:code=ow∨code=mH)(h:∀c∈l,32≤c∧c<127){Q:aac→aad→Prop}(q:Q .none s):
 aai (model pw w) A (call (.builtin "re.Pattern.search") [.ref a,.str (bu l) t]) Q E s:=by
 refine acu (S:=fun _ R s'=>s'=s∧R (.ok (.ret .none)) s) PF.lu (xO P) PF.zz (PF.Bj _ _) (.of_wp fun prog w A R s' hs=>?_) ⟨rfl,q⟩
 obtain⟨rfl,q⟩:=hs
 unfold Builtin.«re.Pattern.search»
 have hs:(bu l).cps.size=l.length:=by simp[bu]
 refine aab (C4 (v:=.str (bu l) t) (t:=(bu l).cps) P ⟨rfl,rfl⟩ ?_)
 unfold reAnswer
 refine aab (EC (N:=1) (by decide) (.inr ⟨zy hc fun i hi=>?_,aag ⟨_,rfl,q⟩⟩))
 have hi:i<l.length:=by rw[hs] at hi;exact aaX hi (aeM _ _)
 have:(bu l).cps.getD i 0=l[i]:=by simp[bu,afU,hi]
 rw[this]
 exact h _ (adB hi)
theorem xP{l:List Nat}(h:clean l=true):∀c∈l,32≤c∧c<127:=by
 unfold clean at h
 rw[Eg] at h
 intro c hc
 have:=aaG.mp h c hc
 cases e:aa5 32 c with
 |false=>rw[e] at this;exact nb1 this
 |true=>rw[e] at this;exact⟨aak e,aak this⟩
end
end Internal
namespace Internal
open PySem PySem.W PyProof.Rows PySem.SeqAt PySem.Builtin.Re
inductive Sub(t:List Nat)(hit:Nat→Option Nat)(r:List Nat):Nat→List Nat→Prop
 |fin(h:hit t.length=none):Sub t hit r t.length []
 |hit{p b:Nat}{out:List Nat}(h:hit p=some b)(h1:p<b)(h2:b≤t.length)(k:Sub t hit r b out):Sub t hit r p (r++out)
 |miss{p c:Nat}{out:List Nat}(h:hit p=none)(hc:t[p]?=some c)(k:Sub t hit r (p+1) out):Sub t hit r p (c::out)
noncomputable def Sw(t:List Nat)(hit:Nat→Option Nat)(r:List Nat)(p:Nat)(out:List Nat)(n:Nat):Prop:=
 (cL hit n p=none∧out=t.drop p)∨∃a b out',cL hit n p=some (a,b)∧p≤a∧a<b∧b≤t.length∧Sub t hit r b out'∧out=(t.take a).drop p++r++out'
theorem Gp{t:List Nat}{p c k:Nat}(hp:p<t.length)(e:t[p]=c):(t.take (p+1+k)).drop p=c::(t.take (p+1+k)).drop (p+1):=by
 rw[acQ,acQ,abr hp,e,abh,abN,abh,adT 1 k,afB]
theorem Sub.first{t:List Nat}{hit:Nat→Option Nat}{r:List Nat}{p:Nat}{out:List Nat}(S:Sub t hit r p out):∃n,p+n=t.length∧Sw t hit r p out n:=by
 induction S with
 |fin h=>exact⟨0,rfl,.inl ⟨by rw[Rf,h];rfl,List.drop_length.symm⟩⟩
 |@hit p b out h h1 h2 k ih=>
  obtain⟨n,hn⟩:=adg (aaX h1 h2)
  exact⟨n+1,hn.symm,.inr ⟨p,b,out,Pq.trans (congrArg (fun o=>ahF o _ _) h),aaA _,h1,h2,k,by rw[acQ,aeW,ag3,aaZ]⟩⟩
 |@miss p c out h hc k ih=>
  obtain⟨hp,e⟩:=aay.mp hc
  obtain⟨n,hn,ih⟩:=ih
  have hf:cL hit (n+1) p=cL hit n (p+1):=Pq.trans (congrArg (fun o=>ahF o _ _) h)
  refine⟨n+1,(acv p n).symm.trans hn,?_⟩
  unfold Sw
  rw[hf]
  rcases ih with⟨e1,e2⟩|⟨a,b,out',e1,e2,e3,e4,e5,e6⟩
  ·exact .inl ⟨e1,by rw[e2,abr hp,e]⟩
  ·obtain⟨k,rfl⟩:=Nat.exists_eq_add_of_le e2
   exact .inr ⟨_,b,out',e1,acN e2,e3,e4,e5,by rw[e6,Gp hp e];rfl⟩
noncomputable def KV(k:Nat)(l:List Nat)(t:Tok):aac:=if k=0 then .str (bu l) t else .bytes (fH l) t
noncomputable def Jy(k:Nat)(ls:List (List Nat))(xs:List aac):Prop:=∃m:List (List Nat×Tok),xs=m.map (fun p=>KV k p.1 p.2)∧ls=m.map (·.1)
theorem Jy.nil{k:Nat}:Jy k [] []:=⟨[],rfl,rfl⟩
theorem Jy.push{k:Nat}{ls:List (List Nat)}{xs:List aac}(h:Jy k ls xs)(l:List Nat)(t:Tok):Jy k (ls++[l]) (xs++[KV k l t]):=by
 obtain⟨m,rfl,rfl⟩:=h
 exact⟨m++[(l,t)],by rw[aaR];rfl,by rw[aaR];rfl⟩
theorem Jy.length{k:Nat}{ls:List (List Nat)}{xs:List aac}(h:Jy k ls xs):xs.length=ls.length:=by
 obtain⟨m,rfl,rfl⟩:=h
 rw[aaj,aaj]
noncomputable def EI(w:aaC)(k:Nat):Prop:=∀{A:aav}{E:aac→aad→Prop}{s:aad}{D:Addr}{ps:List (List Nat)}{xs:List aac}{t:Tok}{Q:aac→aad→Prop},LstAt s.heap D xs.toArray→Jy k ps xs→ps≠[]→ps.flatten.length≤1000000→ps.length≤1000000→
 (∀t' n,Q (KV k ps.flatten t') {s with toks:=n})→aai (model pw w) A (call (.builtin (if(k==0)=true then "str.join" else "bytes.join")) [KV k [] t,.ref D]) Q E s
structure Pw(code text:Array Nat)(hit:Nat→Option Nat):Prop where
 run:∀p,p≤text.size→∀must,∃N≤1000000000,Ends (nj N (ab5 code text 0 p text.size must)) (cL hit (text.size - p) p)
section
variable{w:aaC}{hB:aal}{Θ:Th}{A:aav}{lk:List Nat}{s:aad}{μ X:List Addr}{H:HP}{E:aac→aad→Prop}
theorem rz{M:Model}{text:Array Nat}{k b e:Nat}(hk:k=0∨k=1)(hs:text.size≤1000000){Q:aac→aad→Prop}(q:Q (KV k (text.extract b e).toList s.toks) {s with toks:=s.toks+1}):aai M A (reSlice text k b e) Q E s:=by
 have hl:(text.extract b e).size≤sizeLine:=by
  rw[Array.size_extract];exact aah (afP ..) (aah (aeM ..) (aah hs (by decide)))
 unfold reSlice
 rcases hk with rfl|rfl
 ·exact aey q hl
 ·refine afI ?_ (by rw[Array.size_map];exact hl)
  rw[show(text.extract b e).map (·.toUInt8)=fH (text.extract b e).toList by rw[fH,←Array.toList_map,Array.toArray_toList]]
  exact q
theorem C6{id:String}{args:Args}{b:Builtin}{R:Result→aad→Prop}(hb:entryFor table id=some b)
 (h:aai (model pw w) (A.under (.builtin id args)) (b args) (fun fin s'=>match fin with|.done f=>R (.ok f) s'|.again c'=>c'.quiet=true∧codeAny (model pw w) A c' R s') (fun e s'=>R (.error e) s') s):codeAny (model pw w) A (.builtin id args) R s:=by
 refine agP ?_
 show aai _ _ (match entryFor table id with|some b=>b args|none=>unsupported ((withoutEnding? id "#data").getD id)) _ _ s
 rw[hb];exact h
theorem Jz{M:Model}{code text:Array Nat}{hit:Nat→Option Nat}(Mt:Pw code text hit){t:ReTarget}(h1:t.code=code)(h2:t.text=text)(h3:t.groups=0)(h4:t.lim=text.size){p:Nat}(hp:p≤text.size){must:Bool}{Q:Option acX→aad→Prop}
 (q:match cL hit (text.size - p) p with|some (a,b)=>∀m:acX,m.start=a→m.handed=b→Q (some m) s|none=>Q none s):aai M A (reNextFound t p must) Q E s:=by
 unfold reNextFound
 rw[h1,h2,h3,h4]
 obtain⟨N,hN,hE⟩:=Mt.run p hp must
 refine EC hN ?_
 cases hf:cL hit (text.size - p) p with
 |none=>rw[hf] at hE q;exact .inr ⟨hE,q⟩
 |some ab=>
  rw[hf] at hE q
  exact .inl ⟨hE.1,q _ hE.2.1 hE.2.2⟩
end
end Internal
namespace Internal
open PySem PySem.W PyProof.Rows PySem.SeqAt PySem.Builtin.Re
theorem nv(ps:List (List Nat))(x:List Nat):(ps++[x]).flatten=ps.flatten++x:=by simp
theorem oA:plainId "re.Pattern.sub.loop"=true:=by decide+kernel
noncomputable def zA(a:Addr)(v repl:aac)(n:Int)(p:Nat)(D:Addr):Code:=
 .builtin "re.Pattern.sub.loop" ⟨[.ref a,v,repl,rawInt 0,rawInt 0,rawInt n,rawInt p,rawInt p,.bool false,.ref D,.bool false],[]⟩
section
variable{w:aaC}{hB:aal}{Θ:Th}{A:aav}{lk:List Nat}{s:aad}{μ X:List Addr}{H:HP}{E:aac→aad→Prop}
theorem pU{M:Model}{D:Addr}{xs:List aac}{v:aac}(hD:LstAt s.heap D xs.toArray)(hl:xs.length≤1000000){Q:Unit→aad→Prop}
 (q:∀h',LstAt h' D (xs++[v]).toArray→(∀b o,b≠D→s.heap.get? b=some o→h'.get? b=some o)→Q () {s with heap:=h'}):aai M A (updateSeq D (·.push v)) Q E s:=by
 obtain⟨n,e⟩:=hD
 obtain⟨n',e'⟩:∃n',aa4 (·.push v) {cls:=.type "list",dict:=none,data:=.seq xs.toArray n,slots:=#[]}={cls:=.type "list",dict:=none,data:=.seq (xs.toArray.push v) n',slots:=#[]}:=⟨_,rfl⟩
 have hl:xs.length+1≤sizeLine:=aah (adA hl) (by decide)
 refine ae5 e rfl (q _ ⟨n',?_⟩ fun b o hb e=>(aaS _ _ (acp hb)).trans e) (acN hl) (by rw[agM];exact adA (acN hl))
 rw[abe _ e rfl,e',aex]
theorem Oc{k:Nat}(hk:k=0∨k=1){l:List Nat}{t:Tok}:(KV k l t !=abd)=true:=by
 rcases hk with rfl|rfl
 ·exact rfl
 ·exact rfl
theorem MU{M:Model}{k:Nat}{r:List Nat}{t:Tok}(hk:k=0∨k=1){Q:Unit→aad→Prop}(q:Q () s):aai M A (reLiteralCannotBeTurned (KV k r t)) Q E s:=by
 rcases hk with rfl|rfl
 ·exact aab (aaN (a:=some (bu r)) rfl (aag q))
 ·refine aab (aaN (a:=none) rfl ?_)
  exact aab (aeS (adp s _ _) agi (aag q))
theorem EJ{k:Nat}(hk:k=0∨k=1)(J:EI w k){text:Array Nat}(hs:text.size≤1000000){D:Addr}{xs:List aac}{ps:List (List Nat)}{n:Int}(hD:LstAt s.heap D xs.toArray)(hxs:Jy k ps xs)(h1:ps.length≤1000000)(h2:ps.flatten.length≤1000000){Q:ab7→aad→Prop}
 (q:∀t' j,Q (.done (.ret (KV k ps.flatten t'))) {s with toks:=j}):aai (model pw w) A (do
  let JA←reSlice text k 0 0
  let l←seqItems? (.ref D)
  if(l.getD #[]).isEmpty=true then do
   let text←pure JA
   if false=true then do
    let d←holding [text] do
     let d←mkInt n
     newTuple [text,d]
    ret d
   else ret text
  else do
   let text←call (.builtin (if(k==0)=true then "str.join" else "bytes.join")) [JA,.ref D]
   if false=true then do
    let d←holding [text] do
     let d←mkInt n
     newTuple [text,d]
    ret d
   else ret text) Q E s:=by
 refine aab (rz hk hs ?_)
 have e0:(text.extract 0 0).toList=[]:=by simp
 rw[e0]
 obtain⟨n',e⟩:=hD
 refine aab (adq (s:={s with toks:=s.toks+1}) e rfl ?_)
 obtain⟨m,rfl,rfl⟩:=hxs
 cases m with
 |nil=>exact aab (aag (aag (q s.toks (s.toks+1))))
 |cons p m=>exact abi (adf abJ (aab (J (s:={s with toks:=s.toks+1}) ⟨n',e⟩ ⟨p::m,rfl,rfl⟩ (List.cons_ne_nil _ _) h2 h1 fun t' j=>aag (q t' j))))
theorem four{x p l:Nat}(h:x≤2*p)(hp:p≤l)(hl:l≤200000):x≤400000:=aah h (acY 2 (aah hp hl))
theorem gap{f p s h r m:Nat}(hf:f≤2*p)(hm:m≤s - p)(hps:p≤s)(hs:s<h)(hr:r≤2):f+m+r≤2*h:=by
 refine aah (ace (ace hf hm) hr) ?_
 rw[ahG,abN p,Nat.add_sub_cancel' hps]
 refine aah (abV (abV hps s) 2) ?_
 rw[←ahG]
 exact acY 2 hs
theorem Sx{t:List Nat}{p a:Nat}:(t.toArray.extract p a).toList=(t.take a).drop p:=by rw[List.extract_toArray,acW,←acQ]
theorem Bk{k:Nat}(hk:k=0∨k=1)(J:EI w k){code:Array Nat}{t r:List Nat}{hit:Nat→Option Nat}(Mt:Pw code t.toArray hit)(ht:t.length≤200000)(hr:r.length≤2){h0:aal}{a D:Addr}{v:aac}{tr:Tok}(P:nS h0 a code k)(hv:C3 v t.toArray k)(Vl:h0.get? D=none)
 {R:Result→aad→Prop}:∀(m p:Nat)(out:List Nat),t.length - p≤m→Sub t hit r p out→∀(n:Int)(s:aad)(ps:List (List Nat))(xs:List aac),(∀b o,h0.get? b=some o→s.heap.get? b=some o)→LstAt s.heap D xs.toArray→Jy k ps xs→ps.length≤2*p→ps.flatten.length≤2*p→
 (∀h' t' j,(∀b o,h0.get? b=some o→h'.get? b=some o)→R (.ok (.ret (KV k (ps.flatten++out) t'))) {s with heap:=h',toks:=j})→codeAny (model pw w) A (zA a v (KV k r tr) n p D) R s:=by
 intro m
 induction m using Nat.strongRecOn with
 |ind m ih=>?_
 intro p out hm S n s ps xs K hD hxs hlen JB q
 obtain⟨n0,hn,hS⟩:=S.first
 have hp:p≤t.length:=hn▸abb ..
 have hn0:t.length - p=n0:=hn▸abh ..
 have hs:t.toArray.size≤1000000:=aah ht (by decide)
 have Rg:xs.length≤400000:=hxs.length▸four hlen hp ht
 have WN:=four hlen hp ht
 have WO:=four JB hp ht
 have Sy:∀b o,h0.get? b=some o→b≠D:=fun b o e hb=>by rw[hb,Vl] at e;exact no1 e
 refine C6 PF.C5 ?_
 refine aab (ry (P.keep K) hv ?_)
 refine aab (MU hk ?_)
 refine aab ?_
 refine Jz Mt (p:=p) rfl rfl rfl rfl hp ?_
 rw[show t.toArray.size - p=n0 from hn0]
 rcases hS with⟨e1,e2⟩|⟨a',b,out',e1,e3,e4,e5,e6,e7⟩
 ·rw[e1]
  by_cases hlt:p<t.length
  ·refine abi (abW hlt ?_)
   refine aab (rz hk hs ?_)
   rw[Sx,aa2 (aaA _),←e2]
   refine aab (pU (s:={s with toks:=s.toks+1}) hD (aah Rg (by decide)) fun h' Sz K'=>?_)
   have e8:=nv ps out
   refine EJ (s:={s with heap:=h',toks:=s.toks+1}) hk J hs Sz (hxs.push _ _) ?_ ?_ fun t' j=>?_
   ·rw[aao];exact aah (abV WN 1) (by decide)
   ·rw[e8,aao,e2,ab6];exact aah (ace WO (aah (afP ..) ht)) (by decide)
   ·rw[e8];exact q h' t' j fun b o e=>K' b o (Sy b o e) (K b o e)
  ·refine abi (adf hlt ?_)
   rw[ads (abt.mp hlt)] at e2
   subst e2
   rw[aaO] at q
   exact EJ hk J hs hD hxs (aah WN (by decide)) (aah WO (by decide)) fun t' j=>q s.heap t' j K
 ·rw[e1]
  intro m' m1 m2
  subst m1;subst m2
  have hb:(m'.handed==m'.start)=false:=beq_eq_false_iff_ne.mpr (adW e4)
  have WQ:p<m'.handed:=acf e3 e4
  have WR:t.length - m'.handed<m:=aaX (Nat.sub_lt_sub_left (aaX WQ e5) WQ) hm
  subst e7
  by_cases hlt:p<m'.start
  ·refine abi (abW hlt ?_)
   refine aab (rz hk hs ?_)
   rw[Sx]
   refine aab (pU (s:={s with toks:=s.toks+1}) hD (aah Rg (by decide)) fun h' Sz K'=>?_)
   refine abi (abW rfl ?_)
   refine aab (aag ?_)
   refine abi (abW (Oc hk) ?_)
   refine aab (pU (s:={s with heap:=h',toks:=s.toks+1}) Sz (by rw[aao];exact aah (abV Rg 1) (by decide)) fun h'' Px Vm=>?_)
   refine aag ⟨afJ oA _,?_⟩
   rw[hb]
   have e8:((ps++[(t.take m'.start).drop p])++[r]).flatten=ps.flatten++((t.take m'.start).drop p++r):=by rw[nv,nv,aaE]
   refine ih _ WR m'.handed out' (aaA _) e6 (n+1) _ _ _ (fun b o e=>Vm b o (Sy b o e) (K' b o (Sy b o e) (K b o e))) Px ((hxs.push _ _).push _ _) ?_ ?_ fun h3 t' j K3=>?_
   ·rw[aao,aao];exact gap (m:=0) (r:=2) hlen (abk _) e3 e4 (aaA _)
   ·rw[e8,aao,aao,ab6,←abN];exact gap JB (Nat.sub_le_sub_right (ac0 ..) _) e3 e4 hr
   ·rw[e8,aaE];exact q h3 t' j K3
  ·refine abi (adf hlt ?_)
   refine abi (abW rfl ?_)
   refine aab (aag ?_)
   refine abi (abW (Oc hk) ?_)
   refine aab (pU hD (aah Rg (by decide)) fun h'' Px Vm=>?_)
   refine aag ⟨afJ oA _,?_⟩
   rw[hb]
   have e8:=nv ps r
   rw[ads (aah (ac0 ..) (abt.mp hlt)),aaZ] at q
   refine ih _ WR m'.handed out' (aaA _) e6 (n+1) _ _ _ (fun b o e=>Vm b o (Sy b o e) (K b o e)) Px (hxs.push _ _) ?_ ?_ fun h3 t' j K3=>?_
   ·rw[aao];exact acN (gap (m:=0) (r:=2) hlen (abk _) e3 e4 (aaA _))
   ·rw[e8,aao];exact gap (m:=0) JB (abk _) e3 e4 hr
   ·rw[e8,aaE];exact q h3 t' j K3
end
end Internal
namespace Internal
open PySem PySem.W PyProof.Rows PySem.SeqAt PySem.Builtin.Re
section
variable{w:aaC}{hB:aal}{Θ:Th}{A:aav}{lk:List Nat}{s:aad}{μ X:List Addr}{H:HP}{E:aac→aad→Prop}
theorem xQ(ps:List (List Nat)):jo [] ps=ps.flatten:=by
 induction ps with
 |nil=>rfl
 |cons a t ih=>
  rw[kO,abX,←ih]
  cases t with
  |nil=>rfl
  |cons b t=>rfl
theorem JC:EI w 0:=by
 intro A E s D ps xs t Q hD hxs hne h1 h2 q
 obtain⟨l,rfl,rfl⟩:=hxs
 refine ahd (texts:=(l.map (·.1)).map bu) (l:=l.map fun p=>(bu p.1,p.2)) (by unfold strValues;rw[aaY];exact hD.isList) (by rw[aaY,aaY];rfl) (Ja (sep:=[]) ?_) fun t' k=>?_
 ·rw[xQ];exact aah h1 (by decide)
 ·rw[join_eq,xQ]
  exact q t' k
theorem JD{β:Type}{M:Model}{f:Nat→β→Sem (ForInStep β)}(g:Nat→β)(n:Nat){Q:β→aad→Prop}(h:∀i,i<n→∀{Q:ForInStep β→aad→Prop},Q (.yield (g (i+1))) s→aai M A (f i (g i)) Q E s)(q:Q (g n) s)(k:Nat):∀i,i+k=n→aai M A (forIn (aaL i k) (g i) f) Q E s:=by
 induction k with
 |zero=>intro i e;subst e;exact aag q
 |succ k ih=>
  intro i e
  exact ag2 (h i (e▸Nat.lt_add_of_pos_right (adV k)) (ih (i+1) ((acv i k).trans e)))
theorem JE{id:String}{b:Array UInt8}{t:Tok}:adD id (.bytes b t) 0=pure (some (b,none)):=by
 have e:aeo id (.bytes b t) 0=pure (some (b,none)):=by
  unfold aeo
  rw[KBy.special_eq KBy.look_buffer,KBy.own_buffer,show((0:Int)==ag4)=false by decide+kernel,KBy.buffer_eq]
  rfl
 unfold adD
 rw[e]
 rfl
theorem C7(ps:List (List Nat)):∀(n:Nat)(acc:List Nat),(((ps.map fH).zipIdx n).foldl (fun out(p,i)=>(if i>0 then out++fH [] else out)++p) (fH acc))=fH (acc++ps.flatten):=by
 induction ps with
 |nil=>intro n acc;rw[aeT,aaO];rfl
 |cons p ps ih=>
  intro n acc
  rw[aaz,List.zipIdx_cons,ab2,abX,←aaE,←ih]
  have e:(if n>0 then fH acc++fH [] else fH acc)=fH acc:=by
   by_cases h:n>0
   ·rw[if_pos h];exact Array.append_empty
   ·rw[if_neg h]
  congr 1
  show(if n>0 then fH acc++fH [] else fH acc)++fH p=fH (acc++p)
  rw[e]
  unfold fH
  rw[aaR,←acA]
theorem JF{M:Model}{keep:List aac}{Q:Unit→aad→Prop}(q:Q () s)(l:List aac):aai M A (adj (l.map fun x=>(x,none)) keep) Q E s:=by
 induction l with
 |nil=>exact aag q
 |cons x l ih=>
  rw[show adj ((x::l).map fun x=>(x,none)) keep=(letGo (x::([]:List aac)) (keep++(l.map fun x=>((x,none):aac×Option aac)).flatMap fun(y,u)=>y::u.toList)>>=fun _=>adj (l.map fun x=>(x,none)) keep) from rfl]
  exact aab (wpAny_letGo ih)
theorem MV(ps:List (List Nat)):∀k:Nat,(ps.map fH).foldl (fun x1 x2=>x1+ahY x2) k=k+ps.flatten.length:=by
 induction ps with
 |nil=>exact fun _=>rfl
 |cons p ps ih=>
  intro k
  rw[aaz,ab2,ih,abX,aao,←abN]
  congr 2
  unfold fH
  rw[abf,aaj]
theorem C8{D:Addr}{t:Tok}{ps:List (List Nat)}{xs:List aac}(hxs:Jy 1 ps xs)(hne:ps≠[])(h1:ps.flatten.length≤1000000)(h2:ps.length≤1000000):
 Meets (Builtin.«bytes.join» ⟨[.bytes (fH []) t,.ref D],[]⟩) (fun _ R s=>LstAt s.heap D xs.toArray∧∀t' n,R (.ok (.ret (.bytes (fH ps.flatten) t'))) {s with toks:=n}):=by
 refine .of_wp fun prog w A R s hs=>?_
 obtain⟨hD,q⟩:=hs
 have Vl:=hD
 obtain⟨m,rfl,rfl⟩:=hxs
 obtain⟨n,e⟩:=hD
 unfold Builtin.«bytes.join» ahS
 refine aab (aaN (a:=(Value.bytes (fH []) t,aaH D)) rfl ?_)
 refine abi (abW rfl ?_)
 refine aab ?_
 refine aab (wpAny_typeOf Vl.isList.typeIs ?_)
 refine abi (abW rfl ?_)
 refine aag ?_
 refine aab (adq e rfl ?_)
 refine abi (abW rfl ?_)
 cases m with
 |nil=>exact absurd rfl hne
 |cons p m=>
 cases m with
 |nil=>
  refine aab (wpAny_typeOf (adp s (fH p.1) p.2) ?_)
  refine abi (abW rfl ?_)
  refine aab (aed (aag ⟨_,rfl,?_⟩))
  have:=q p.2 s.toks
  rw[show([p].map (·.1)).flatten=p.1 from aaO _] at this
  exact this
 |cons p' m=>
 refine aab ?_
 generalize p::p'::m=m at*
 rw[afl,show((#[],[]):Array (Array UInt8)×List (aac×Option aac))=(fun i=>(((m.take i).map fun p=>fH p.1).toArray,(m.take i).map fun p=>(KV 1 p.1 p.2,none))) 0 from rfl]
 refine JD (fun i=>(((m.take i).map fun p=>fH p.1).toArray,(m.take i).map fun p=>(KV 1 p.1 p.2,none))) m.length (fun i hi Q qq=>?_) ?_ _ 0 ((abL _).trans (by rw[abf,aaj]))
 ·have hget:(m.map fun p=>KV 1 p.1 p.2).toArray.getD i abd=KV 1 m[i].1 m[i].2:=by simp[afU,hi]
  refine aab (adq e rfl ?_)
  have ht:(((m.take i).map fun p=>((KV 1 p.1 p.2,none):aac×Option aac)).any fun x=>x.1.onHeap)=false:=by
   rw[aho,agj]
   exact fun p _=>abJ
  refine abi (adf (by dsimp only;rw[ht];decide) ?_)
  refine aab (aaP ?_)
  rw[hget]
  refine aaN JE ?_
  refine aab (adq e rfl ?_)
  refine abi (adf (by simp) ?_)
  refine aag ?_
  rw[List.take_succ_eq_append_getElem hi,aaR,aaR] at qq
  exact(aex ..).symm▸qq
 ·dsimp only
  rw[acV]
  refine aab (aaN (a:=fH []) rfl ?_)
  have em:(m.map fun p=>fH p.1)=(m.map (·.1)).map fH:=by rw[aaY];rfl
  rw[em]
  generalize m.map (·.1)=ps at*
  have hb:ahH (fH []) (ps.map fH).toArray.toList=fH ps.flatten:=C7 ps 0 []
  have hf:ahE (fun x1 x2=>x1+ahY x2) ((fH []).size*((ps.map fH).toArray.size - 1)) (ps.map fH).toArray=ps.flatten.length:=by
   rw[aec,show(fH []).size=0 from rfl,Nat.zero_mul,MV,abL]
  refine abi (adf (by rw[hf,KBy.tooLong_not (aah h1 (by decide))];decide) ?_)
  refine aab ?_
  rw[hb]
  refine afI ?_ (by unfold fH;rw[abf,aaj];exact aah h1 (by decide))
  refine aab (aaP (agI ?_))
  rw[show(m.map fun p=>((KV 1 p.1 p.2,none):aac×Option aac))=(m.map fun p=>KV 1 p.1 p.2).map fun x=>(x,none) by rw[aaY];rfl]
  exact aab (JF (aag ⟨_,rfl,q _ _⟩) _)
namespace PF
theorem Bl:entryFor table "bytes.join"=some Builtin.«bytes.join»:=adC ⋯
theorem C9(a b:aac):argsOk "bytes.join" ⟨[a,b],[]⟩:=by unfold argsOk;kernel_rfl
theorem Dc:Slot "bytes" "join" "bytes.join":=
 .of (owner:="bytes") (n:="join") (by rw[acj,abv];kernel_rfl) (by decide+kernel) (by decide+kernel) (by decide+kernel)
  (by first|exact .inl (by decide+kernel)|exact .inr (by decide+kernel)) (by rw[ado];kernel_rfl)
end PF
theorem Dd:EI w 1:=by
 intro A E s D ps xs t Q hD hxs hne h1 h2 q
 exact acu PF.Dc (adp _ (fH []) t) PF.Bl (PF.C9 _ _) (C8 hxs hne h1 h2) ⟨hD,q⟩
end
end Internal
namespace Internal
open PySem PySem.W PyProof.Rows PySem.SeqAt PySem.Builtin.Re
theorem MW{t:Array Nat}(ht:t.size≤1000000):Pw cN t (nJ t t.size):=
 ⟨fun p hp must=>by obtain⟨N,hN,h⟩:=C1 (text:=t) (lim:=t.size) (must:=must) hp;exact⟨N,by omega,h⟩⟩
theorem MX{t:Array Nat}:Pw mG t (nK t t.size):=
 ⟨fun p hp must=>by obtain⟨N,hN,h⟩:=C2 (text:=t) (lim:=t.size) (must:=must) hp;exact⟨N,by omega,h⟩⟩
section
variable{w:aaC}{hB:aal}{Θ:Th}{A:aav}{lk:List Nat}{s:aad}{μ X:List Addr}{H:HP}{E:aac→aad→Prop}
theorem Bm{x:agx}{t:Tok}:specialOf (.str x t) "__call__"=pure none:=by
 have e:specialOf (.str x t) "__call__"=typeLookup (.type "str") "__call__":=rfl
 rw[e,acj,abv];kernel_rfl
theorem w4{x:Array UInt8}{t:Tok}:specialOf (.bytes x t) "__call__"=pure none:=by
 have e:specialOf (.bytes x t) "__call__"=typeLookup (.type "bytes") "__call__":=rfl
 rw[e,acj,abv];kernel_rfl
theorem pV{k:Nat}(hk:k=0∨k=1){code:Array Nat}{t r:List Nat}{hit:Nat→Option Nat}(Mt:Pw code t.toArray hit)(ht:t.length≤200000)(hr:r.length≤2)(Rh:r=[13,10]∨r=[46,46]){a:Addr}{tr tv:Tok}(P:nS s.heap a code k)(hv:C3 (KV k t tv) t.toArray k)
 {out:List Nat} (S:Sub t hit r 0 out) {Q:aac→aad→Prop} (q:∀h' t' j,(∀b o,s.heap.get? b=some o→h'.get? b=some o)→Q (KV k out t') {s with heap:=h',toks:=j}):
 aai (model pw w) A (call (.builtin "re.Pattern.sub") [.ref a,KV k r tr,KV k t tv]) Q E s:=by
 refine aee (codeAny_call_builtin PF.kQ.plain PF.entry_sub (PF.kQ.check _ _ _ _ _ _ _ _ (xO P) (PF.Jx _ _ _) ?_))
 refine aab (aaN (a:=[some (KV k r tr),some (KV k t tv),none]) rfl ?_)
 refine aab (aag ?_)
 have fin:∀Q':ab7→aad→Prop,(∀(D:Addr)(h':aal),s.heap.get? D=none→LstAt h' D ([]:List aac).toArray→(∀b o,s.heap.get? b=some o→h'.get? b=some o)→Q' (.again (zA a (KV k t tv) (KV k r tr) 0 0 D)) {s with heap:=h'})→aai (model pw w) A.in1 (do
  let d←newList []
  again (.builtin "re.Pattern.sub.loop" ⟨[.ref a,KV k t tv,KV k r tr,rawInt 0,rawInt 0,rawInt 0,rawInt 0,rawInt 0,.bool false,d,.bool false],[]⟩)) Q' (fun e s'=>E e s') s:=fun Q' q'=>by
  refine aab (aeH ?_)
  exact aag (q' _ _ (aF _) ⟨0,aaw _ rfl⟩ fun b o e=>aat _ e)
 have post:∀(D:Addr)(h':aal),s.heap.get? D=none→LstAt h' D ([]:List aac).toArray→(∀b o,s.heap.get? b=some o→h'.get? b=some o)→
  (zA a (KV k t tv) (KV k r tr) 0 0 D).quiet=true∧codeAny (model pw w) A (zA a (KV k t tv) (KV k r tr) 0 0 D) (wants Q E) {s with heap:=h'}:=fun D h' hn hD K=>by
  refine⟨afJ oA _,?_⟩
  rcases hk with rfl|rfl
  ·exact Bk (.inl rfl) JC Mt ht hr P hv hn t.length 0 out (by omega) S 0 {s with heap:=h'} [] [] K hD .nil (by simp) (by simp) fun h3 t' j K3=>q h3 t' j K3
  ·exact Bk (.inr rfl) Dd Mt ht hr P hv hn t.length 0 out (by omega) S 0 {s with heap:=h'} [] [] K hD .nil (by simp) (by simp) fun h3 t' j K3=>q h3 t' j K3
 rcases hk with rfl|rfl
 ·refine aab (aaN Bm ?_)
  refine aab (aaN (a:=some (bu r)) rfl ?_)
  refine aab (aag ?_)
  refine abi (adf abJ ?_)
  refine abi (abW (by rcases Rh with rfl|rfl<;>decide+kernel) ?_)
  refine aab (aag ?_)
  refine aab (aaP (ry P hv ?_))
  exact fin _ post
 ·refine aab (aaN w4 ?_)
  refine aab (aaN (a:=none) rfl ?_)
  refine aab (aaN ahu ?_)
  refine aab (aag ?_)
  refine abi (adf abJ ?_)
  refine abi (abW (by rcases Rh with rfl|rfl<;>decide+kernel) ?_)
  refine aab (aag ?_)
  refine aab (aaP (ry P hv ?_))
  exact fin _ post
end
end Internal
namespace Internal
open PySem PySem.W PyProof.Rows PySem.SeqAt PySem.Builtin.Re
theorem ue{t:List Nat}{p c:Nat}(h:t[p]?=some c):t.toArray.getD p 0=c:=by
 obtain⟨hp,e⟩:=aay.mp h
 simp[afU,hp,e]
theorem zB{t l:List Nat}{p c:Nat}(h:t.drop p=c::l):t[p]?=some c∧t.drop (p+1)=l∧p<t.length:=by
 have hp:p<t.length:=by
  refine aeL fun h'=>?_
  rw[ads h'] at h;cases h
 rw[abr hp] at h
 obtain⟨h1,h2⟩:=ahf h
 exact⟨by rw[aax hp,h1],h2,hp⟩
theorem JG(a b:Nat):aap a b=decide (a=b):=by
 rw[abF,decide_eq_true_eq];exact⟨aan,fun h=>by rw[h];exact abn b⟩
theorem Bo{t:List Nat}:∀(l:List Nat)(p:Nat),t.drop p=l→p≤t.length→Sub t (nJ t.toArray t.length) [46,46] p (dots l (bol t.toArray p))
 |[],p,e,hp=>by
  have:p=t.length:=by
   have:=congrArg afn e
   simp at this;omega
  subst this
  exact .fin (by unfold nJ;rw[if_neg (by omega)])
 |c::l,p,e,hp=>by
  obtain⟨h1,h2,h3⟩:=zB e
  have hg:=ue h1
  have ih:=Bo l (p+1) h2 h3
  have hb:bol t.toArray (p+1)=decide (c=10):=by
   unfold bol
   rw[show p+1 - 1=p from rfl,hg]
   rw[abF];simp
  rw[hb] at ih
  have hd:dots (c::l) (bol t.toArray p)=az (az (bol t.toArray p) (aap c 46) false) (46::46::dots l false) (c::dots l (aap c 10)):=rfl
  rw[hd,JG,JG]
  by_cases hc:bol t.toArray p=true∧c=46
  ·obtain⟨b1,rfl⟩:=hc
   rw[b1]
   refine .hit (b:=p+1) ?_ (by omega) h3 ih
   unfold nJ
   rw[if_pos ⟨b1,h3,by rw[hg];rfl⟩]
  ·have e1:az (bol t.toArray p) (decide (c=46)) false=false:=by
    cases b1:bol t.toArray p with
    |false=>rfl
    |true=>exact decide_eq_false fun h=>hc ⟨b1,h⟩
   rw[e1]
   refine .miss ?_ h1 ih
   unfold nJ
   rw[if_neg]
   rintro ⟨b1,_,b3⟩
   rw[hg] at b3
   exact hc ⟨b1,by simpa using b3⟩
noncomputable def lI:List Nat→List Nat
 |[]=>[]
 |13::10::l=>13::10::lI l
 |c::l=>if c=13∨c=10 then 13::10::lI l else c::lI l
theorem pW(l:List Nat):lI (13::10::l)=13::10::lI l:=by rw[lI]
theorem j0(c:Nat)(l:List Nat)(h:¬(c=13∧l.head?=some 10)):lI (c::l)=if c=13∨c=10 then 13::10::lI l else c::lI l:=by
 rw[lI]
 intro l' e1 e2
 subst e1;subst e2
 exact h ⟨rfl,rfl⟩
theorem zC{t:List Nat}:∀(n:Nat)(l:List Nat)(p:Nat),l.length≤n→t.drop p=l→p≤t.length→Sub t (nK t.toArray t.length) [13,10] p (lI l)
 |n,[],p,_,e,hp=>by
  have:p=t.length:=by
   have:=congrArg afn e
   simp at this;omega
  subst this
  rw[show lI []=[] by rw[lI]]
  exact .fin (by unfold nK;rw[if_neg (by omega),if_neg (by omega)])
 |0,c::l,p,hl,_,_=>by simp at hl
 |n+1,c::l,p,hl,e,hp=>by
  obtain⟨h1,h2,h3⟩:=zB e
  have hg:=ue h1
  have ih:=zC n l (p+1) (by simp at hl;exact hl) h2 h3
  by_cases hc:c=13∧l.head?=some 10
  ·obtain⟨rfl,hh⟩:=hc
   obtain⟨l',rfl⟩:∃l',l=10::l':=by
    cases l with
    |nil=>exact no1 hh
    |cons d l'=>simp at hh;exact⟨l',by rw[hh]⟩
   obtain⟨k1,k2,k3⟩:=zB h2
   have Yh:=ue k1
   have ih2:=zC n l' (p+2) (by simp at hl;omega) k2 k3
   rw[pW]
   refine .hit (b:=p+2) ?_ (by omega) k3 ih2
   unfold nK
   rw[if_pos ⟨h3,hg⟩,if_pos ⟨k3,Yh⟩]
  ·rw[j0 c l hc]
   by_cases hx:c=13∨c=10
   ·rw[if_pos hx]
    refine .hit (b:=p+1) ?_ (by omega) h3 ih
    unfold nK
    rcases hx with rfl|rfl
    ·rw[if_pos ⟨h3,hg⟩,if_neg]
     rintro ⟨q1,q2⟩
     refine hc ⟨rfl,?_⟩
     have:=abr q1
     rw[h2] at this
     rw[this]
     have:=ue (aax q1)
     rw[q2] at this
     simp[←this]
    ·rw[if_neg (by omega),if_pos ⟨h3,hg⟩]
   ·rw[if_neg hx]
    refine .miss ?_ h1 ih
    unfold nK
    rw[if_neg (by omega),if_neg (by omega)]
theorem fU{Θ:Th}(c:Nat)(l:List Nat):Θ.expand (c::l)=Θ.fG c++Θ.expand l:=by simp[Th.expand]
theorem kT{Θ:Th}{c:Nat}(h:c<1114112):Θ.fG c=[c]:=by unfold Th.fG;rw[if_pos h]
theorem vq{Θ:Th}{c:Nat}(h:1114112<c):Θ.fG c=Θ.en (c - 1114113):=by unfold Th.fG;rw[if_neg (by omega),if_neg (by omega)]
theorem kU{Θ:Th}(jb:ji Θ):∀(n:Nat)(l m:List Nat),l.length≤n→fJ l=some m→lI (Θ.expand l)=m∧l.length≤m.length
 |n,[],m,_,h=>by
  rw[fJ] at h;(first|(replace h:=(Z8 h).symm;subst h)|cases h)
  exact⟨by rw[show Θ.expand []=[] from rfl,lI],aaA _⟩
 |0,c::l,m,hl,_=>by simp at hl
 |n+1,c::l,m,hl,h=>by
  have hl:l.length≤n:=by simpa using hl
  rw[fJ.eq_def] at h
  dsimp only at h
  rw[JG,JG,JG] at h
  by_cases WS:c=13
  ·subst WS
   rw[decide_eq_true rfl] at h
   cases l with
   |nil=>exact no1 h
   |cons d l=>
    have h:az (aap d 10) (aT (fJ l) fun t=>some (13::10::t)) none=some m:=h
    obtain⟨h1,h2⟩:=aM h
    have:=aan h1
    subst this
    obtain⟨t,h3,h4⟩:=ah h2
    (first|(replace h4:=(Z8 h4).symm;subst h4)|cases h4)
    obtain⟨i1,i2⟩:=kU jb n l t (by simp at hl;omega) h3
    rw[fU,fU,kT (by omega),kT (by omega)]
    exact⟨by rw[abc,aaZ,abc,aaZ,pW,i1],by simp;omega⟩
  ·rw[decide_eq_false WS,eZ] at h
   by_cases WT:c=10
   ·rw[decide_eq_true WT] at h;exact no1 h
   ·rw[decide_eq_false WT,eZ] at h
    cases hlt:aba c 1114112 with
    |true=>
     rw[hlt,c8] at h
     obtain⟨t,h3,h4⟩:=ah h
     (first|(replace h4:=(Z8 h4).symm;subst h4)|cases h4)
     obtain⟨i1,i2⟩:=kU jb n l t hl h3
     have hc:c<1114112:=aak hlt
     rw[fU,kT hc,abc,aaZ,j0 _ _ (by omega),if_neg (by omega),i1]
     exact⟨rfl,by simp;omega⟩
    |false=>
     have hc:¬c<1114112:=fun hc=>by rw[show aba c 1114112=true from aaF hc] at hlt;exact nb2 hlt
     rw[hlt,eZ] at h
     by_cases ce:c=1114112
     ·rw[decide_eq_true ce] at h;exact no1 h
     ·rw[decide_eq_false ce,eZ] at h
      rw[fU,vq (by omega)]
      cases l with
      |nil=>
       (first|(replace h:=(Z8 h).symm;subst h)|cases h)
       have e0:Θ.expand []=[]:=rfl
       rw[e0,aaO]
       refine⟨?_,by simp⟩
       rcases jb.xm (c - 1114113) with e|e|e<;>rw[e]
       ·rw[j0 _ _ (by simp),if_pos (by simp),lI]
       ·rw[j0 _ _ (by simp),if_pos (by simp),lI]
       ·rw[pW,lI]
      |cons d l=>
       have h:az (aap d 46) (aT (fJ (d::l)) fun t=>some (13::10::t)) none=some m:=h
       obtain⟨h1,h2⟩:=aM h
       have:=aan h1
       subst this
       obtain⟨t,h3,h4⟩:=ah h2
       (first|(replace h4:=(Z8 h4).symm;subst h4)|cases h4)
       obtain⟨i1,i2⟩:=kU jb n (46::l) t hl h3
       refine⟨?_,by simp at i2 ⊢;omega⟩
       rw[←i1,fU,kT (by omega)]
       rcases jb.xm (c - 1114113) with e|e|e<;>rw[e]
       ·rw[abc,aaZ,j0 _ _ (by simp),if_pos (by simp)]
       ·rw[abc,aaZ,j0 _ _ (by simp),if_pos (by simp)]
       ·rw[abc,abc,aaZ,pW]
theorem vv:∀(l:List Nat)(b:Bool),l.length≤(dots l b).length
 |[],_=>abk _
 |c::l,b=>by
  have hd:dots (c::l) b=az (az b (aap c 46) false) (46::46::dots l false) (c::dots l (aap c 10)):=rfl
  rw[hd]
  have h1:=vv l false
  have h2:=vv l (aap c 10)
  cases az b (aap c 46) false
  ·rw[eZ,aaD,aaD];omega
  ·rw[c8,aaD,aaD,aaD];omega
end Internal
namespace Internal
open PySem PySem.W PyProof.Rows PySem.SeqAt PySem.Builtin.Re
section
variable{w:aaC}{hB:aal}{Θ:Th}{A:aav}{lk:List Nat}{s:aad}{μ X:List Addr}{H:HP}{E:aac→aad→Prop}
noncomputable def zD(h:aal):Prop:=∀p:Pt,nS h (kD p) (Pr p) (Pu p)∧∃o,h.get? (kD p)=some o∧o.cls=.type "re.Pattern"∧o.dict=none
theorem Vn{t:Array Nat}:bol t 0=true:=rfl
inductive zE(p:Pt):V→V→Prop
 |mk(l:List Nat)(hp:p=.rU∨p=.Au)(hc:clean l=true):zE p (.str l) .none
theorem Bp{p:Pt}{t v:V}(h:xq p t=some v):zE p t v:=by
 have N:∀p,none=some v→zE p t v:=fun _=>no1
 revert h
 cases p with
 |rU=>intro h;obtain⟨l,rfl,h⟩:=jK (f:=fun l=>az (clean l) (some V.none) none) h;obtain⟨h1,h⟩:=aM h;exact sj h (.mk l (.inl rfl) h1)
 |Au=>intro h;obtain⟨l,rfl,h⟩:=jK (f:=fun l=>az (clean l) (some V.none) none) h;obtain⟨h1,h⟩:=aM h;exact sj h (.mk l (.inr rfl) h1)
 |_=>exact N _
theorem Gq(PA:zD hB):jZ w hB Θ .search "re.Pattern.search":=fun A E lk s μ X H o x as xs hu S qo q hk h=>by
 obtain⟨p,rfl⟩:=rg hk
 obtain⟨t,rfl,h⟩:=HK h
 obtain⟨y,rfl,q1⟩:=q.one
 obtain⟨v,e1,e2⟩:=R.dB h
 refine⟨v,H,e2,?_⟩
 clear h e2
 cases Bp e1 with
 |mk l hp hc=>
 clear e1
 cases qo.inv
 cases q1.inv
 have P:=(PA p).1.keep S.base
 rcases hp with rfl|rfl
 ·exact sA P (.inl rfl) (xP hc) (.same S .none)
 ·exact sA P (.inr rfl) (xP hc) (.same S .none)
inductive Bq:Pt→V→V→V→Prop
 |xm(l m:List Nat)(h:ascii l=true)(hf:fJ l=some m)(hm:m.length≤4000):Bq .xm (.str [13,10]) (.str l) (.str m)
 |j3(l m:List Nat)(hf:fJ l=some m)(hm:m.length≤4000):Bq .xm (.str [13,10]) (.sym l) (.str m)
 |dot(l:List Nat)(hm:(dots l true).length≤4000):Bq .dot (.str [46,46]) (.str l) (.str (dots l true))
 |qT(l:List Nat)(h:ascii l=true)(hm:(dots l true).length≤4000):Bq .qT (.m7 [46,46]) (.m7 l) (.m7 (dots l true))
theorem pX{l:List Nat}{f:List Nat→V}{v:V}(h:aT (fit l) (fun u=>some (f u))=some v):f l=v∧l.length≤4000:=by
 obtain⟨u,hu,h⟩:=ah h
 obtain⟨rfl,hl⟩:=fE hu
 exact⟨Z8 h,hl⟩
theorem JH{α:Type}{f:List Nat→Option α}{v:V}{x:α}(h:(match v with|.m7 i=>f i|_=>none)=some x):∃i,v=.m7 i∧f i=some x:=by
 have N:∀v:V,none=some x→∃i,v=.m7 i∧f i=some x:=fun _=>no1
 revert h
 cases v with
 |m7 i=>exact fun h=>⟨i,rfl,h⟩
 |_=>exact N _
theorem Gr{t v:V}(h:qU .xm (.str [13,10]) t=some v):Bq .xm (.str [13,10]) t v:=by
 have N:∀t,none=some v→Bq .xm (.str [13,10]) t v:=fun _=>no1
 revert h
 cases t with
 |str l=>
  intro h
  obtain⟨h2,h⟩:=aM (x:=aT (fJ l) fun m=>aT (fit m) fun m=>some (V.str m)) h
  obtain⟨m,h3,h⟩:=ah h
  obtain⟨rfl,hm⟩:=pX h
  exact .xm l _ h2 h3 hm
 |sym l=>
  intro h
  obtain⟨m,h3,h⟩:=ah (o:=fJ l) h
  obtain⟨rfl,hm⟩:=pX h
  exact .j3 l _ h3 hm
 |_=>exact N _
theorem JI{p:Pt}{r t v:V}(h:qU p r t=some v):Bq p r t v:=by
 have N:∀p,none=some v→Bq p r t v:=fun _=>no1
 revert h
 cases p with
 |xm=>
  intro h
  obtain⟨u,rfl,h⟩:=jK (f:=fun u=>qU .xm (.str u) t) h
  obtain⟨h1,_⟩:=aM (b:=gP u [13,10]) h
  obtain rfl:=kJ h1
  exact Gr h
 |dot=>
  intro h
  obtain⟨u,rfl,h⟩:=jK (f:=fun u=>qU .dot (.str u) t) h
  obtain⟨h1,h⟩:=aM (b:=gP u [46,46]) h
  obtain rfl:=kJ h1
  obtain⟨l,rfl,h⟩:=jK (f:=fun l=>az (ascii l) (aT (fit (dots l true)) fun m=>some (V.str m)) none) h
  obtain⟨h2,h⟩:=aM h
  obtain⟨rfl,hm⟩:=pX h
  exact .dot l hm
 |qT=>
  intro h
  obtain⟨u,rfl,h⟩:=JH (f:=fun u=>qU .qT (.m7 u) t) h
  obtain⟨h1,h⟩:=aM (b:=gP u [46,46]) h
  obtain rfl:=kJ h1
  obtain⟨l,rfl,h⟩:=JH (f:=fun l=>az (ascii l) (aT (fit (dots l true)) fun m=>some (V.m7 m)) none) h
  obtain⟨h2,h⟩:=aM h
  obtain⟨rfl,hm⟩:=pX h
  exact .qT l h2 hm
 |_=>exact N _
theorem EK(jb:ji Θ){l m:List Nat}(h:fJ l=some m)(hm:m.length≤4000):(Θ.expand l).length≤200000∧∃hit,Pw mG (Θ.expand l).toArray hit∧Sub (Θ.expand l) hit [13,10] 0 m:=by
 obtain⟨h5,h6⟩:=kU jb l.length l m (aaA _) h
 have SA:(Θ.expand l).length≤200000:=by have:=gT jb l;omega
 refine⟨SA,_,MX,?_⟩
 have:=zC (t:=Θ.expand l) (Θ.expand l).length (Θ.expand l) 0 (aaA _) rfl (abk _)
 rw[h5] at this
 rw[abf]
 exact this
theorem EL{l:List Nat}(h:(dots l true).length≤4000):l.length≤200000∧∃hit,Pw cN l.toArray hit∧Sub l hit [46,46] 0 (dots l true):=by
 have hd:=vv l true
 refine⟨by omega,_,MW (by rw[abf];omega),?_⟩
 have:=Bo (t:=l) l 0 rfl (abk _)
 rw[Vn] at this
 rw[abf]
 exact this
theorem MY{l:List Nat}(h:ascii l=true):l.toArray=(fH l).map (·.toNat):=by
 unfold fH
 rw[List.map_toArray,aaY]
 congr 1
 have:l.map ((fun x:UInt8=>x.toNat)∘fun c=>aer c)=l.map id:=abD fun c hc=>by
  have:=nh h c hc
  show(aer c).toNat=c
  rw[afV];omega
 rw[this,ahI]
theorem Py(jb:ji Θ)(PA:zD hB):jZ w hB Θ .sub "re.Pattern.sub":=fun A E lk s μ X H o x as xs hu S qo q hk h=>by
 obtain⟨p,rfl⟩:=rg hk
 obtain⟨r,t,rfl,h⟩:=WL h
 obtain⟨y,z,rfl,q1,q2⟩:=q.two
 obtain⟨v,e1,e2⟩:=R.dB h
 refine⟨v,H,e2,?_⟩
 clear h e2
 have e1:=JI e1
 cases qo.inv
 have P:=(PA p).1.keep S.base
 cases e1 with
 |xm l m hl hf hm=>
  cases q1.inv;cases q2.inv
  obtain⟨h1,hit,Mt,hS⟩:=EK jb hf hm
  rw[ff hl] at h1 Mt hS
  exact pV (k:=0) (.inl rfl) Mt h1 (by decide) (.inl rfl) P ⟨rfl,rfl⟩ hS fun h' t' j K=>.keep S K (.str m t')
 |j3 l m hf hm=>
  cases q1.inv;cases q2.inv
  obtain⟨h1,hit,Mt,hS⟩:=EK jb hf hm
  exact pV (k:=0) (.inl rfl) Mt h1 (by decide) (.inl rfl) P ⟨rfl,rfl⟩ hS fun h' t' j K=>.keep S K (.str m t')
 |dot l hm=>
  cases q1.inv;cases q2.inv
  obtain⟨h1,hit,Mt,hS⟩:=EL hm
  exact pV (k:=0) (.inl rfl) Mt h1 (by decide) (.inr rfl) P ⟨rfl,rfl⟩ hS fun h' t' j K=>.keep S K (.str _ t')
 |qT l hl hm=>
  cases q1.inv;cases q2.inv
  obtain⟨h1,hit,Mt,hS⟩:=EL hm
  exact pV (k:=1) (.inr rfl) Mt h1 (by decide) (.inr rfl) P ⟨MY hl,rfl⟩ hS fun h' t' j K=>.keep S K (.m7 _ t')
theorem Pz(jb:ji Θ)(PA:zD hB):mz w hB Θ:=⟨Jl,Gf,Gi,Gj jb,Py jb PA,Gq PA,fun p=>(PA p).2⟩
end
end Internal
namespace Internal
open PySem PySem.W PyProof.Rows PySem.SeqAt
theorem Gs:HY.Nodup:=by decide+kernel
theorem EM:HY.length=138:=by decide+kernel
theorem fN{x y:Nat}(hx:x<138)(hy:y<138)(h:nm x=nm y):x=y:=by
 have hx':x<HY.length:=by rw[EM];exact hx
 have hy':y<HY.length:=by rw[EM];exact hy
 unfold nm at h
 rw[aaI,aaI,aax hx',aax hy'] at h
 have h:HY[x]=HY[y]:=h
 have:=aek.mp Gs
 rcases age x y with q|q|q
 ·exact absurd h (this x y hx' hy' q)
 ·exact q
 ·exact absurd h.symm (this y x hy' hx' q)
theorem JJ{x:Nat}{v:V}:dc x v []=[(x,v)]:=rfl
theorem Gu{x y:Nat}{v u:V}{r:aR}:dc x v ((y,u)::r)=if x=y then(y,v)::r else(y,u)::dc x v r:=by
 show@abQ (fun _=>aR) ((y,u)::dc x v r) ((y,v)::r) (aap x y)=_
 by_cases h:x=y
 ·subst h;simp[abn]
 ·have:aap x y=false:=by
   cases e:aap x y with
   |false=>rfl
   |true=>exact absurd (aan e) h
  rw[this];simp[h]
theorem d8{x y:Nat}{v:V}:∀{r:aR},aK y (dc x v r)=if y=x then some v else aK y r
 |[]=>by rw[JJ,cZ]
 |(z,u)::r=>by
  rw[Gu]
  by_cases h:x=z
  ·subst h
   rw[if_pos rfl,cZ,cZ]
   split<;>rfl
  ·rw[if_neg h,cZ,cZ,d8]
   by_cases h1:y=z
   ·subst h1
    rw[if_pos rfl,if_pos rfl,if_neg (acp h)]
   ·rw[if_neg h1,if_neg h1]
section
variable{w:aaC}{K:Frag}{hB hF:aal}{O W:Addr→Prop}{N0:Nat}{Θ:Th}{A:aav}{lk:List Nat}{s s0 s' s'' s1:aad}{μ j4 aG bZ X X0 X' gJ aZ X1:List Addr}{H H0 H' iz H1:HP}{n:Nat}{C:Cx}{env cenv:Env}{outer:List Env}{r r0 r' r1:aR}{ks:Kinds}{Ex:aac→aad→Prop}{D:Addr}{av:List V}
noncomputable def Own(ks:Kinds)(env:Env)(a:Addr):Prop:=a=env.locals∨∃x,x<138∧(ks x=some .cell∨ks x=some .free)∧env.cells.lookup (nm x)=some a
theorem FR.own(F:FR hB Θ ks env r s.heap μ X){a:Addr}(h:Own ks env a):a∈X:=by
 rcases h with rfl|⟨x,hx,hk,e⟩
 ·exact F.kG
 ·obtain⟨c,vo,e1,_,e3,_⟩:=F.AI x hx hk
  rw[e] at e1;(first|(replace e1:=(Z8 e1).symm;subst e1)|cases e1);exact e3
theorem FR.Od(S:St hB Θ s.heap μ X H)(F:FR hB Θ ks env r s.heap μ X){a:Addr}(h:Own ks env a):a∉ao∧a∉μ:=by
 rcases h with rfl|⟨x,hx,hk,e⟩
 ·obtain⟨m,hn,_⟩:=F.loc;exact S.AJ hn
 ·obtain⟨c,vo,e1,e2,_,_⟩:=F.AI x hx hk
  rw[e] at e1;(first|(replace e1:=(Z8 e1).symm;subst e1)|cases e1);exact S.n9 e2
structure iE(hB:aal)(Θ:Th)(lk:List Nat)(W:Addr→Prop)(s:aad)(μ X:List Addr)(H':HP)(s':aad)(aG X':List Addr):Prop where
 st:St hB Θ s'.heap aG X' H'
 gm:Grows s.heap μ aG
 gx:Grows s.heap X X'
 keep:fL (fun a=>Wr lk μ a∨W a) s.heap s'.heap
 os:s'.os=s.os
 gens:GG s.gens s'.gens
abbrev uf (hB:aal) (Θ:Th) (lk:List Nat) (ks:Kinds) (env:Env):=iE hB Θ lk (Own ks env)
theorem Goes.LH{W:Addr→Prop}(g:Goes hB Θ lk s μ X H' s' aG X'):iE hB Θ lk W s μ X H' s' aG X':=⟨g.st,g.gm,g.gx,g.keep.mono fun _ _ _ q=>.inl q,g.os,g.gens⟩
theorem Goes.xR(g:Goes hB Θ lk s μ X H' s' aG X'):uf hB Θ lk ks env s μ X H' s' aG X':=g.LH
theorem iE.trans{W:Addr→Prop}(x:iE hB Θ lk W s μ X H' s' aG X')(y:iE hB Θ lk W s' aG X' iz s'' bZ gJ):iE hB Θ lk W s μ X iz s'' bZ gJ:=
 ⟨y.st,x.gm.trans x.keep.2 y.gm,x.gx.trans x.keep.2 y.gx,x.keep.trans' y.keep fun _ _ e q=>q.imp (fun q=>q.back x.gm e) id,y.os.trans x.os,x.gens.trans y.gens⟩
theorem iE.mono{W W':Addr→Prop}(x:iE hB Θ lk W s μ X H' s' aG X')(h:∀a o,s.heap.get? a=some o→W a→W' a):iE hB Θ lk W' s μ X H' s' aG X':=⟨x.st,x.gm,x.gx,x.keep.mono fun a o e q=>q.imp id (h a o e),x.os,x.gens⟩
theorem iE.WU{W:Addr→Prop}(S:St hB Θ s.heap μ X H)(hW:∀a o,s.heap.get? a=some o→W a→a∈X)(x:iE hB Θ lk W s μ X H' s' aG X'){v:V}{u:aac}(q:VR Θ s.heap μ X v u):VR Θ s'.heap aG X' v u:=
 q.mono (fun a o e hX=>x.keep.1 a o e fun p=>hX (p.elim (fun p=>p.L0 S) (hW a o e))) x.gm x.gx
theorem iE.SD{W:Addr→Prop}(S:St hB Θ s.heap μ X H)(hW:∀a o,s.heap.get? a=some o→W a→a∈X)(x:iE hB Θ lk W s μ X H' s' aG X'){v:List V}{u:List aac}(q:VRs Θ s.heap μ X v u):VRs Θ s'.heap aG X' v u:=
 q.mono (fun a o e hX=>x.keep.1 a o e fun p=>hX (p.elim (fun p=>p.L0 S) (hW a o e))) x.gm x.gx
theorem uf.vr(S:St hB Θ s.heap μ X H)(F:FR hB Θ ks env r s.heap μ X)(x:uf hB Θ lk ks env s μ X H' s' aG X'){v:V}{u:aac}(q:VR Θ s.heap μ X v u):VR Θ s'.heap aG X' v u:=iE.WU S (fun _ _ _=>F.own) x q
theorem uf.Eb(S:St hB Θ s.heap μ X H)(F:FR hB Θ ks env r s.heap μ X)(x:uf hB Θ lk ks env s μ X H' s' aG X'){v:List V}{u:List aac}(q:VRs Θ s.heap μ X v u):VRs Θ s'.heap aG X' v u:=iE.SD S (fun _ _ _=>F.own) x q
theorem ug{W:Addr→Prop}(SE:W env.locals)(Y:Ready hB Θ n ks C A env r s μ X H){x:Nat}(hx:x<138)(hk:ks x=some .local∨ks x=some .cell)(SG:ks x=some .cell→∀c,env.cells.lookup (nm x)=some c→W c){v:V}{u:aac}(q:VR Θ s.heap μ X v u){Q:Unit→aad→Prop}
 (h:∀s',iE hB Θ lk W s μ X H s' μ X→Ready hB Θ n ks C A env (dc x v r) s' μ X H→Q () s'):aai (model pw w) A (storeName env (nm x) u) Q Ex s:=by
 have main:∀(a:Addr)(h':aal)(tk:Nat),W a→Own ks env a→acE a s.heap h'→(∃o,h'.get? a=some o)→(∀m,s.heap.Ns a m→∃m',h'.Ns a m')→
  (∃m,h'.Ns env.locals m∧∀y v',aK y (dc x v r)=some v'→ks y=some .local→∃u',m (nm y)=some u'∧VR Θ h' μ X v' u')→
  (∀y,y<138→(ks y=some .cell∨ks y=some .free)→∃c vo,env.cells.lookup (nm y)=some c∧h'.IsCell c vo∧c∈X∧∀v',aK y (dc x v r)=some v'→∃u',vo=some u'∧VR Θ h' μ X v' u')→Q () {s with heap:=h',toks:=tk}:=by
  intro a h' tk how ho hs hex hns hloc MZ
  have hno:=Y.fr.Od Y.st ho
  have S':=Y.st.put hs (Y.fr.own ho) hno.2 hno.1 hex
  refine h _ ⟨S',.refl,.refl,(fL.put hs hex).mono fun b o _ e=>.inr (e▸how),rfl,.refl _⟩ ⟨Y.cx,Y.ja.move fun L m _ hn hX hm _=>⟨hX,hm,?_⟩,?_,S'⟩
  ·by_cases hL:L=a
   ·subst hL;exact hns m hn
   ·exact⟨m,hn.at' fun o e=>(hs.2 L hL).trans e⟩
  ·exact{
    kind:=Y.fr.kind
    code:=Y.fr.code
    glob:=Y.fr.glob
    HJ:=Y.fr.HJ
    kinds:=Y.fr.kinds
    loc:=hloc
    AI:=MZ
    inj:=Y.fr.inj
    dom:=fun y v' e=>by
     rw[d8] at e
     by_cases hy:y=x
     ·subst hy;exact⟨hx,hk.imp id .inl⟩
     ·rw[if_neg hy] at e;exact Y.fr.dom y v' e
    kG:=Y.fr.kG}
 have same:∀{y:Nat},y=x→∀{v'},aK y (dc x v r)=some v'→v'=v:=fun e v' g=>by rw[d8,if_pos e] at g;exact(Z8 g).symm
 have other:∀{y:Nat},y≠x→∀{v'},aK y (dc x v r)=some v'→aK y r=some v':=fun e v' g=>by rw[d8,if_neg e] at g;exact g
 have hp:(env.scope.kind==.class||(env.scope.kind==.module&&env.locals !=env.globals))=false:=by rw[Y.fr.kind];rfl
 obtain⟨m,hn,hm⟩:=Y.fr.loc
 rcases hk with hk|hk
 ·have ho:Own ks env env.locals:=.inl rfl
  refine aa6 ((Y.fr.kinds x hx).trans hk) hn (fun h' hn' hs=>main env.locals h' _ SE ho hs (qZ hn') (fun _ _=>⟨_,hn'⟩) ⟨_,hn',fun y v' e De=>?_⟩ fun y hy De=>?_) hp
  ·by_cases hyx:y=x
   ·obtain rfl:=same hyx e
    exact⟨u,if_pos (congrArg nm hyx),q.put hs Y.fr.kG⟩
   ·have e:=other hyx e
    exact(hm y v' e De).imp fun u' p=>⟨(if_neg fun hc=>hyx (fN (Y.fr.dom y v' e).1 hx hc)).trans p.1,p.2.put hs Y.fr.kG⟩
  ·obtain⟨c,vo,e1,e2,e3,e4⟩:=Y.fr.AI y hy De
   have hyx:y≠x:=fun hc=>by subst hc;rw[hk] at De;rcases De with h|h<;>cases h
   exact⟨c,vo,e1,jt e2 fun o e=>(hs.2 c (pM hn e2)).trans e,e3,fun v' e=>(e4 v' (other hyx e)).imp fun u' p=>⟨p.1,p.2.put hs Y.fr.kG⟩⟩
 ·obtain⟨c,vo,e1,e2,e3,e4⟩:=Y.fr.AI x hx (.inl hk)
  have ho:Own ks env c:=.inr ⟨x,hx,.inl hk,e1⟩
  have hL:c≠env.locals:=pM hn e2
  refine wpAny_storeName_cell Y.fr.kind ((Y.fr.kinds x hx).trans hk) e1 e2 fun h' hc' hs=>main c h' s.toks (SG hk c e1) ho hs (wR hc') (fun m hn=>absurd rfl (pM hn e2)) ⟨m,hn.at' fun o e=>(hs.2 _ hL.symm).trans e,fun y v' e De=>?_⟩ fun y hy De=>?_
  ·have hyx:y≠x:=fun hc=>by subst hc;rw[hk] at De;cases De
   exact(hm y v' (other hyx e) De).imp fun u' p=>⟨p.1,p.2.put hs e3⟩
  ·by_cases hyx:y=x
   ·subst hyx
    refine⟨c,some u,e1,hc',e3,fun v' e=>?_⟩
    obtain rfl:=same rfl e
    exact⟨u,rfl,q.put hs e3⟩
   ·obtain⟨c',WV,f1,f2,f3,f4⟩:=Y.fr.AI y hy De
    exact⟨c',WV,f1,jt f2 fun o e=>(hs.2 c' fun hc=>hyx (Y.fr.inj y x c hy hx De (.inl hk) (hc▸f1) e1)).trans e,f3,fun v' e=>(f4 v' (other hyx e)).imp fun u' p=>⟨p.1,p.2.put hs e3⟩⟩
theorem mJ(Y:Ready hB Θ n ks C A env r s μ X H){x:Nat}(hx:x<138)(hk:ks x=some .local∨ks x=some .cell){v:V}{u:aac}(q:VR Θ s.heap μ X v u){Q:Unit→aad→Prop}
 (h:∀s',uf hB Θ lk ks env s μ X H s' μ X→Ready hB Θ n ks C A env (dc x v r) s' μ X H→Q () s'):aai (model pw w) A (storeName env (nm x) u) Q Ex s:=
 ug (.inl rfl) Y hx hk (fun hc c e=>.inr ⟨x,hx,.inl hc,e⟩) q h
noncomputable def WW(hB:aal)(Θ:Th)(ks:Kinds)(env:Env)(h:aal)(μ X:List Addr):Fl→Flow→Prop
 |.on r',f=>f=.next∧FR hB Θ ks env r' h μ X
 |.back v,f=>∃u,f=.ret u∧VR Θ h μ X v u
inductive QS(hB:aal)(Θ:Th)(A:aav)(lk:List Nat)(ks:Kinds)(env:Env)(s:aad)(μ X:List Addr)(res:R Fl)(f:Flow)(s':aad):Prop
 |mk(fl:Fl)(H':HP)(aG X':List Addr)(hr:res=.ok fl H')(go:uf hB Θ lk ks env s μ X H' s' aG X')(ja:jg hB A s'.heap aG X')(fr:WW hB Θ ks env s'.heap aG X' fl f)
inductive ES{α:Type}(hB:aal)(Θ:Th)(A:aav)(lk:List Nat)(ks:Kinds)(env:Env)(s:aad)(μ X:List Addr)(res:R α)(x:aac)(s':aad):Prop
 |mk(c:Nat)(m:V)(H':HP)(aG X':List Addr)(e:Addr)(h1:res=.exc c m H')(h2:x=.ref e)(h3:St hB Θ s'.heap aG X' H')(h4:Grows s.heap μ aG)(h5:Grows s.heap X X')(h6:fL (fun a=>Wr lk μ a∨nP A a∨Own ks env a) s.heap s'.heap)
  (h7:∀a o,nP A a→¬Own ks env a→s.heap.get? a=some o→∃sl,s'.heap.get? a=some {o with slots:=sl}) (h8:s'.os=s.os) (h9:GG s.gens s'.gens) (Rv:ExcAt s.heap Θ s'.heap aG X' c m e) (h11:jg hB A s'.heap aG X')
theorem EG.ja{α:Type}{res:R α}{x:aac}(B:jg hB A s.heap μ X)(h:EG hB Θ A lk s μ X res x s'):∀c m H' aG X' e,res=.exc c m H'→x=.ref e→Grows s.heap μ aG→Grows s.heap X X'→jg hB A s'.heap aG X':=by
 obtain⟨c,m,H',aG,X',e,e1,e2,e3,e4,e5,e6,e7,_⟩:=h
 intro _ _ _ nc X2 _ _ _ gm gx
 obtain⟨l,el,hl⟩:=B.fr
 refine⟨l,el,fun env' he'=>?_⟩
 obtain⟨hk,L,m',hf',hX,ht,hm,o,es,ep,ho,rest⟩:=hl env' he'
 obtain⟨sl,q⟩:=e7 L o ⟨l,env',el,he',hf'⟩ ho
 exact⟨hk,L,m',hf',gx.sub hX,ht,gm.gS ho hm,_,es,ep,q,rest⟩
theorem EG.es{α:Type}{res:R α}{x:aac}(B:jg hB A s.heap μ X)(h:EG hB Θ A lk s μ X res x s'):ES hB Θ A lk ks env s μ X res x s':=by
 have hb:=EG.ja B h
 obtain⟨c,m,H',aG,X',e,e1,e2,e3,e4,e5,e6,e7,e8,e9,FA⟩:=h
 exact⟨c,m,H',aG,X',e,e1,e2,e3,e4,e5,e6.mono fun _ _ _ q=>q.elim .inl fun q=>.inr (.inl q),fun a o h1 _ h2=>e7 a o h1 h2,e8,e9,FA,hb _ _ _ _ _ _ e1 e2 e4 e5⟩
theorem ES.cast{α β:Type}{res:R α}{res':R β}{x:aac}(h:∀c m H,res=.exc c m H→res'=.exc c m H)(e:ES hB Θ A lk ks env s μ X res x s'):ES hB Θ A lk ks env s μ X res' x s':=by
 obtain⟨c,m,iz,bZ,gJ,ea,e1,e2,e3,e4,e5,e6,e7,e8,e9,FA,SH⟩:=e
 exact⟨c,m,iz,bZ,gJ,ea,h _ _ _ e1,e2,e3,e4,e5,e6,e7,e8,e9,FA,SH⟩
theorem ES.trans{α:Type}{res:R α}{x:aac}(B:jg hB A s.heap μ X)(g:uf hB Θ lk ks env s μ X H' s' aG X')(e:ES hB Θ A lk ks env s' aG X' res x s''):ES hB Θ A lk ks env s μ X res x s'':=by
 obtain⟨c,m,iz,bZ,gJ,ea,e1,e2,e3,e4,e5,e6,e7,e8,e9,FA,SH⟩:=e
 refine⟨c,m,iz,bZ,gJ,ea,e1,e2,e3,g.gm.trans g.keep.2 e4,g.gx.trans g.keep.2 e5,(g.keep.mono fun _ _ _ q=>q.imp id .inr).trans' e6 fun a o ho q=>?_,fun a o ha hno ho=>?_,e8.trans g.os,g.gens.trans e9,FA.back g.keep.2,SH⟩
 ·exact q.imp (fun q=>q.back g.gm ho) id
 ·refine e7 a o ha hno (g.keep.1 a o ho ?_)
  obtain⟨l,env',hl,he,hf⟩:=ha
  obtain⟨l',hl',h⟩:=B.fr
  rw[hl] at hl';(first|(replace hl':=(Z8 hl').symm;subst hl')|cases hl')
  obtain⟨_,L,m',hf',_,ht,hm,_⟩:=h env' he
  rw[hf] at hf';(first|(replace hf':=(Z8 hf').symm;subst hf')|cases hf')
  intro q
  rcases q with q|q
  ·exact l7 ⟨ht,hm⟩ q
  ·exact hno q
noncomputable def jM(w:aaC)(hB:aal)(Θ:Th)(n:Nat)(ks:Kinds)(c:CS)(st:Stmt):Prop:=∀C A env r s μ X H,Ready hB Θ n ks C A env r s μ X H→c C r H≠.bad→
 aai (model pw w) A (exec st env) (QS hB Θ A C.lk ks env s μ X (c C r H)) (ES hB Θ A C.lk ks env s μ X (c C r H)) s
noncomputable def fV(w:aaC)(hB:aal)(Θ:Th)(n:Nat)(ks:Kinds)(c:CS)(l:List Stmt):Prop:=∀C A env r s μ X H,Ready hB Θ n ks C A env r s μ X H→c C r H≠.bad→
 aai (model pw w) A (execs l env) (QS hB Θ A C.lk ks env s μ X (c C r H)) (ES hB Θ A C.lk ks env s μ X (c C r H)) s
theorem Ready.part{α β γ:Type}(Y:Ready hB Θ n ks C A env r s μ X H){Rel:aal→List Addr→List Addr→α→γ→Prop}{res:R α}{f:α→HP→R β}{whole:R β}{m:Sem γ}{Q:γ→aad→Prop}
 (hw:whole=res.bind f) (hne:whole≠.bad)
 (hm:res≠.bad→aai (model pw w) A m (QG Rel hB Θ C.lk s μ X res) (EG hB Θ A C.lk s μ X res) s)
 (hk:∀v H' u s' aG X',Goes hB Θ C.lk s μ X H' s' aG X'→Ready hB Θ n ks C A env r s' aG X' H'→Rel s'.heap aG X' v u→whole=f v H'→Q u s'):
 aai (model pw w) A m Q (ES hB Θ A C.lk ks env s μ X whole) s:=
 aas (Y.step (.refl Y.st) hw hne (fun _=>hm) fun v H' u s' aG X' g _ q hw=>hk v H' u s' aG X' g (Y.go g) q hw) (fun _ _ h=>h) fun _ _ h=>h.es Y.ja
theorem Ready.WX{α β γ:Type}(B:jg hB A s.heap μ X)(g:uf hB Θ C.lk ks env s μ X H1 s1 aZ X1)(Y:Ready hB Θ n ks C A env r1 s1 aZ X1 H1){Rel:aal→List Addr→List Addr→α→γ→Prop}{res:R α}{f:α→HP→R β}{whole:R β}{m:Sem γ}{Q:γ→aad→Prop}
 (hw:whole=res.bind f) (hne:whole≠.bad)
 (hm:res≠.bad→aai (model pw w) A m (QG Rel hB Θ C.lk s1 aZ X1 res) (EG hB Θ A C.lk s1 aZ X1 res) s1)
 (hk:∀v H' u s' aG X',uf hB Θ C.lk ks env s μ X H' s' aG X'→Ready hB Θ n ks C A env r1 s' aG X' H'→Rel s'.heap aG X' v u→whole=f v H'→Q u s'):
 aai (model pw w) A m Q (ES hB Θ A C.lk ks env s μ X whole) s1:=
 aas (Y.part hw hne hm fun v H' u s' aG X' g' Y' q hw=>hk v H' u s' aG X' (g.trans g'.xR) Y' q hw) (fun _ _ h=>h) fun _ _ h=>h.trans B g
theorem Gv{ce:CE}{e:Expr}{p:Pos}(he:aX w hB Θ n ks ce e)(hs:∀env,swapsWith e none p.line env=pure false):jM w hB Θ n ks (cD ce) (.Expr e p):=fun C A env r s μ X H Y hne=>by
 refine wpAny_Expr_any (Y.part rfl hne (he C A env r s μ X H Y) fun v H1 u s1 aZ X1 g Y' q hw=>?_) (by unfold interactive;rw[Y.fr.kind];rfl) (hs env)
 exact⟨_,_,_,_,hw,g.xR,Y'.ja,rfl,Y'.fr⟩
theorem Br{ce:CE}{e:Expr}{x:Nat}{px p:Pos}(he:aX w hB Θ n ks ce e)(hx:x<138)(hk:ks x=some .local∨ks x=some .cell)
 (hs:∀env:Env,(∀y,y<138→env.kindOf (nm y)=ks y)→swapsWith e (some (.Name (nm x) px)) p.line env=pure false):jM w hB Θ n ks (bH x ce) (.Assign [.Name (nm x) px] e p):=fun C A env r s μ X H Y hne=>by
 refine acq (Y.part rfl hne (he C A env r s μ X H Y) fun v H1 u s1 aZ X1 g Y' q hw=>?_) (hs env Y.fr.kinds)
 exact mJ Y' hx hk q fun s' g' UA=>⟨_,_,_,_,hw,g.xR.trans g',UA.ja,rfl,UA.fr⟩
theorem JK{ce:CE}{e:Expr}{p:Pos}(he:aX w hB Θ n ks ce e):jM w hB Θ n ks (dI ce) (.Return (some e) p):=fun C A env r s μ X H Y hne=>by
 refine agk (Y.part rfl hne (he C A env r s μ X H Y) fun v H1 u s1 aZ X1 g Y' q hw=>?_)
 exact⟨_,_,_,_,hw,g.xR,Y'.ja,u,rfl,q⟩
theorem rA:fV w hB Θ n ks aA []:=fun C A env r s μ X H Y hne=>acm ⟨_,_,_,_,rfl,(Goes.refl Y.st).xR,Y.ja,rfl,Y.fr⟩
theorem zF{c:CS}{l:List Stmt}(hc:fV w hB Θ n ks c l)(B:jg hB A s.heap μ X)(g:uf hB Θ C.lk ks env s μ X H1 s1 aZ X1)(Y:Ready hB Θ n ks C A env r1 s1 aZ X1 H1){whole:R Fl}(hw:whole=c C r1 H1)(hne:whole≠.bad):
 aai (model pw w) A (execs l env) (QS hB Θ A C.lk ks env s μ X whole) (ES hB Θ A C.lk ks env s μ X whole) s1:=by
 subst hw
 refine aas (hc C A env r1 s1 aZ X1 H1 Y hne) (fun f s' h=>?_) fun _ _ h=>h.trans B g
 obtain⟨fl,H',aG,X',e,g',B',q⟩:=h
 exact⟨fl,H',aG,X',e,g.trans g',B',q⟩
theorem vz{ca cb:CS}{st:Stmt}{l:List Stmt}(ha:jM w hB Θ n ks ca st)(hb:fV w hB Θ n ks cb l):fV w hB Θ n ks (ak ca cb) (st::l):=fun C A env r s μ X H Y hne=>by
 refine abp (aas (ha C A env r s μ X H Y (R.m8 hne)) (fun f s' h=>?_) fun _ _ h=>h.cast fun c m H e=>by show(ca C r _).bind _=_;rw[e];rfl)
 obtain⟨fl,H',aG,X',e,g,B',q⟩:=h
 cases fl with
 |on r'=>
  have hw:ak ca cb C r H=cb C r' H':=by
   show(ca C r H).bind _=_;rw[e];rfl
  obtain⟨rfl,F'⟩:=q
  exact zF hb Y.ja g ⟨Y.cx,B',F',g.st⟩ hw hne
 |back v=>
  have hw:ak ca cb C r H=.ok (.back v) H':=by
   show(ca C r H).bind _=_;rw[e];rfl
  obtain⟨u,rfl,q⟩:=q
  exact⟨_,_,_,_,hw,g,B',u,rfl,q⟩
theorem M0{ct:CB}{ca cb:CS}{t:Expr}{b o:List Stmt}{p:Pos}(ht:lH w hB Θ n ks ct t)(ha:fV w hB Θ n ks ca b)(hb:fV w hB Θ n ks cb o):jM w hB Θ n ks (iC ct ca cb) (.If t b o p):=fun C A env r s μ X H Y hne=>by
 refine wpAny_If (Y.part rfl hne (ht C A env r s μ X H Y) fun v H1 u s1 aZ X1 g Y' q hw=>?_)
 subst q
 cases u with
 |true=>exact zF ha Y.ja g.xR Y' hw hne
 |false=>exact zF hb Y.ja g.xR Y' hw hne
theorem M1(Y:Ready hB Θ n ks C A env r s μ X H){x:Nat}{v:V}(e:aK x r=some v){Q:aac→aad→Prop}(h:∀u,VR Θ s.heap μ X v u→Q u s):
 aai (model pw w) A (loadName env (nm x)) Q Ex s:=by
 obtain⟨hx,hk⟩:=Y.fr.dom x v e
 rcases hk with hk|hk
 ·obtain⟨m,hn,hm⟩:=Y.fr.loc
  obtain⟨u,hu,q⟩:=hm x v e hk
  exact acR Y.fr.kind ((Y.fr.kinds x hx).trans hk) hn hu (h u q)
 ·obtain⟨c,vo,h1,h2,h3,h4⟩:=Y.fr.AI x hx hk
  obtain⟨u,rfl,q⟩:=h4 v e
  rcases hk with hk|hk
  ·exact afx Y.fr.kind ((Y.fr.kinds x hx).trans hk) h1 h2 (h u q)
  ·exact afy Y.fr.kind ((Y.fr.kinds x hx).trans hk) h1 h2 (h u q) (pQ x)
theorem JL(F:Fix w K hB Θ){ce:CE}{e:Expr}{o:Op}{x:Nat}{px p:Pos}(he:aX w hB Θ n ks ce e)(ho:o=.add∨o=.sub)(hx:x<138)(hk:ks x=some .local∨ks x=some .cell):
 jM w hB Θ n ks (qX x o ce) (.AugAssign (.Name (nm x) px) o.py e p):=fun C A env r s μ X H Y hne=>by
 cases hr:aK x r with
 |none=>exact absurd (by show(match aK x r with|some u=>_|none=>R.bad)=_;rw[hr]) hne
 |some u=>
  have hw0:qX x o ce C r H=az (D8 u) ((ce C r H).bind fun v H=>R.lift (aT (Fq C.par H o u v) fun w=>some (Fl.on (dc x w r))) H) .bad:=by
   show(match aK x r with|some u=>_|none=>R.bad)=_;rw[hr]
  obtain⟨h1,h2,h3⟩:=bY (hw0▸hne)
  have hw:=hw0.trans h3
  refine wpAny_AugAssign_Name (M1 Y hr fun y qy=>?_)
  refine Y.part hw hne (he C A env r s μ X H Y) fun v H1 z s1 aZ X1 g Y' q hw=>?_
  obtain⟨f,e1,e2⟩:=R.dB (hw▸hne)
  obtain⟨w',e3,e4⟩:=ah e1
  (first|(replace e4:=(Z8 e4).symm;subst e4)|cases e4)
  have fin:∀{E':aac→aad→Prop},aai (model pw w) A (inplaceOp o.py y z) (lq hB Θ C.lk s1 aZ X1 H1 w') E' s1:=by
   intro E'
   rcases ho with rfl|rfl
   ·exact Iz F.th g.st (g.vr Y.st qy) q h1 e3
   ·exact IB g.st (g.vr Y.st qy) q e3
  refine aas fin (fun y' s2 h=>?_) fun _ _ x=>x
  obtain⟨nc,X2,g2,q2⟩:=h
  exact mJ (Y'.go g2) hx hk q2 fun s3 g3 Y3=>⟨_,_,_,_,hw.trans e2,(g.trans g2).xR.trans g3,Y3.ja,rfl,Y3.fr⟩
theorem Dg{t:CB}{b:CS}{m:Nat}:AF t b C (m+1) r H=(match t C r H with
 |.ok c H=>az c (match b C r H with
  |.ok f H=>match f with
   |.on r=>AF t b C m r H
   |.back v=>.ok (.back v) H
  |_=>.bad) (.ok (.on r) H)
 |_=>.bad):=rfl
theorem Dh{ct:CB}{cb:CS}{t:Expr}{b:List Stmt}{p:Pos}(ht:lH w hB Θ n ks ct t)(hb:fV w hB Θ n ks cb b):jM w hB Θ n ks (AG ct cb) (.While t b [] p):=fun C A env r s μ X H Y hne=>by
 refine wpAny_While (codeAny_whileLoop (fun m s'=>∃r' H' aG X',uf hB Θ C.lk ks env s μ X H' s' aG X'∧Ready hB Θ n ks C A env r' s' aG X' H'∧AG ct cb C r H=AF ct cb C m r' H') ?_ 40 ⟨r,H,μ,X,(Goes.refl Y.st).xR,Y,rfl⟩)
 rintro m s1 ⟨r1,H1,aZ,X1,g1,Y1,hw⟩
 cases m with
 |zero=>exact absurd hw hne
 |succ m=>
  rw[Dg] at hw
  have hnt:ct C r1 H1≠.bad:=fun h=>by rw[h] at hw;exact hne hw
  refine aas (ht C A env r1 s1 aZ X1 H1 Y1 hnt) (fun u s2 h=>?_) fun e s2 h=>?_
  ·obtain⟨c,H2,nc,X2,e,g2,q⟩:=h
   subst q
   rw[e] at hw
   have Y2:=Y1.go g2
   cases u with
   |false=>
    rw[if_neg (by simp)]
    exact acm ⟨_,_,_,_,hw,g1.trans g2.xR,Y2.ja,rfl,Y2.fr⟩
   |true=>
    rw[if_pos rfl]
    have hw:AG ct cb C r H=(match cb C r1 H2 with
     |.ok f H=>match f with
      |.on r=>AF ct cb C m r H
      |.back v=>.ok (.back v) H
     |_=>.bad):=hw
    have hnb:cb C r1 H2≠.bad:=fun h=>by rw[h] at hw;exact hne hw
    refine aas (hb C A env r1 s2 nc X2 H2 Y2 hnb) (fun f s3 h=>?_) fun e s3 h=>?_
    ·obtain⟨fl,H3,wU,X3,e,g3,B3,q⟩:=h
     rw[e] at hw
     cases fl with
     |on r3=>
      obtain⟨rfl,F3⟩:=q
      exact⟨m,adE m,r3,H3,wU,X3,(g1.trans g2.xR).trans g3,⟨Y2.cx,B3,F3,g3.st⟩,hw⟩
     |back v=>
      obtain⟨u,rfl,q⟩:=q
      exact⟨_,_,_,_,hw,(g1.trans g2.xR).trans g3,B3,u,rfl,q⟩
    ·obtain⟨c,mm,_,_,_,_,e,_⟩:=h
     rw[e] at hw
     exact absurd hw hne
  ·obtain⟨c,mm,_,_,_,_,e,_⟩:=h
   rw[e] at hw
   exact absurd hw hne
noncomputable def oB(ks:Kinds)(x:Nat):Prop:=x<138∧(ks x=some .local∨ks x=some .cell)
noncomputable def w5(ks:Kinds):T→Prop
 |.one x _=>oB ks x
 |.two x _ y _ _=>oB ks x∧oB ks y
theorem uf.bE(S:St hB Θ s.heap μ X H)(Kp:∀a o,s.heap.get? a=some o→s'.heap.get? a=some o)(ho:s'.os=s.os:=by rfl)(hg:s'.gens=s.gens:=by rfl):uf hB Θ lk ks env s μ X H s' μ X:=(Goes.bE S Kp ho hg).xR
theorem xS{x y:Nat}{v:V}(h:dU (.two x y) v r=some r'):∃a b,v=.tup [a,b]∧r'=dc y b (dc x a r):=by
 unfold dU at h
 split at h
 ·rename_i e;cases e
 ·rename_i e
  cases e
  split at h
  ·(first|(replace h:=(Z8 h).symm;subst h)|cases h);exact⟨_,_,rfl,rfl⟩
  ·exact no1 h
noncomputable def WY(ks:Kinds)(env:Env)(W:Addr→Prop):T→Prop
 |.one x _=>ks x=some .cell→∀c,env.cells.lookup (nm x)=some c→W c
 |.two x _ y _ _=>(ks x=some .cell→∀c,env.cells.lookup (nm x)=some c→W c)∧(ks y=some .cell→∀c,env.cells.lookup (nm y)=some c→W c)
theorem EN{W:Addr→Prop}(SE:W env.locals)(Y:Ready hB Θ n ks C A env r s μ X H)(hh:A.handled=none){t:T}(ht:w5 ks t)(SG:WY ks env W t){v:V}{u:aac}(q:VR Θ s.heap μ X v u)(h:dU (tV t) v r=some r')(Yi:∀a,W a→a∈X){Q:Unit→aad→Prop}
 (k:∀s',iE hB Θ lk W s μ X H s' μ X→Ready hB Θ n ks C A env r' s' μ X H→Q () s'):aai (model pw w) A (assign (dT t) env u) Q Ex s:=by
 cases t with
 |one x p=>
  (first|(replace h:=(Z8 h).symm;subst h)|cases h)
  exact abZ (ug SE Y ht.1 ht.2 SG q fun s' g Y'=>k s' g Y')
 |two x px y py p=>
  obtain⟨⟨hx,kx⟩,hy,ky⟩:=ht
  obtain⟨a,b,rfl,rfl⟩:=xS h
  ·replace q:=q.inv;cases q with
   |@tup ad xs hp hX hl=>
   obtain⟨u1,u2,rfl,q1,q2⟩:=hl.two
   refine afX (elts:=[.Name (nm x) px,.Name (nm y) py]) hh hp rfl rfl fun h' he=>?_
   have Kp:∀a o,s.heap.get? a=some o→h'.get? a=some o:=fun a o e=>he a o (abx (aa7 e)) e
   have g0:Goes hB Θ lk s μ X H {s with heap:=h'} μ X:=.bE Y.st Kp
   have Y0:=Y.go g0
   show aai _ _ (assignInOrder [assign (.Name (nm x) px) env,assign (.Name (nm y) py) env] [u1,u2]) _ _ _
   refine abO (abZ (ug (lk:=lk) SE Y0 hx kx SG.1 (q1.bE Kp) fun s2 g2 Y2=>?_))
   refine abO (abZ (ug (lk:=lk) SE Y2 hy ky SG.2 (g2.WU Y0.st (fun a _ _=>Yi a) (q2.bE Kp)) fun s3 g3 Y3=>?_))
   exact aeI (k s3 ((g0.LH.trans g2).trans g3) Y3)
theorem JM(Y:Ready hB Θ n ks C A env r s μ X H)(hh:A.handled=none){t:T}(ht:w5 ks t){v:V}{u:aac}(q:VR Θ s.heap μ X v u)(h:dU (tV t) v r=some r'){Q:Unit→aad→Prop}
 (k:∀s',uf hB Θ lk ks env s μ X H s' μ X→Ready hB Θ n ks C A env r' s' μ X H→Q () s'):aai (model pw w) A (assign (dT t) env u) Q Ex s:=by
 refine EN (W:=Own ks env) (.inl rfl) Y hh ht ?_ q h (fun a ha=>Y.fr.own ha) k
 cases t with
 |one x p=>exact fun hc c e=>.inr ⟨x,ht.1,.inl hc,e⟩
 |two x px y py p=>exact⟨fun hc c e=>.inr ⟨x,ht.1.1,.inl hc,e⟩,fun hc c e=>.inr ⟨y,ht.2.1,.inl hc,e⟩⟩
end
section
variable{w:aaC}{K:Frag}{hB h0:aal}{O:Addr→Prop}{N0:Nat}{Θ:Th}{A:aav}{lk:List Nat}{s s0 s' s'' s1:aad}{μ j4 aG bZ X X0 X' gJ aZ X1:List Addr}{H H0 H' iz H1:HP}{n:Nat}{C:Cx}{env:Env}{r r0 r' r1:aR}{ks:Kinds}{Ex:aac→aad→Prop}
noncomputable def GN(n:Nat)(a b:Array GenState):Prop:=a.size≤b.size∧(∀i,i<n→i<a.size→b[i]?=a[i]?)∧∀(i:Nat)(y:GenState),b[i]?=some y→a[i]?=some y∨y.bare=true
theorem GN.refl{n:Nat}(a:Array GenState):GN n a a:=⟨aaA _,fun _ _ _=>rfl,fun _ _ e=>.inl e⟩
theorem GN.trans{n:Nat}{a b c:Array GenState}(x:GN n a b)(y:GN n b c):GN n a c:=
 ⟨aah x.1 y.1,fun i h h'=>(y.2.1 i h (aaX h' x.1)).trans (x.2.1 i h h'),fun i z e=>(y.2.2 i z e).elim (x.2.2 i z) .inr⟩
theorem GG.gn{n:Nat}{a b c:Array GenState}(x:GG a b)(y:GN n b c)(h:a.size≤n):GG a c:=
 ⟨fun i hi=>(y.2.1 i (aaX hi h) (aaX hi x.2.1)).trans (x.1 i hi),aah x.2.1 y.1,fun i z hi e=>(y.2.2 i z e).elim (x.2.2 i z hi) id⟩
structure Turn(O:Addr→Prop)(N0:Nat)(s:aad)(μ X:List Addr)(s':aad)(X':List Addr):Prop where
 gx:Grows s.heap X X'
 new:∀a∈X',a∉X→∃o,s'.heap.get? a=some o
 keep:∀a o,s.heap.get? a=some o→(O a∨a∉X∨a∈μ)→s'.heap.get? a=some o
 stay:∀a o,s.heap.get? a=some o→∃o',s'.heap.get? a=some o'
 os:s'.os=s.os
 gens:GN N0 s.gens s'.gens
theorem Turn.refl:Turn O N0 s μ X s X:=⟨.refl,fun a h h'=>absurd h h',fun _ _ e _=>e,fun _ o e=>⟨o,e⟩,rfl,.refl _⟩
theorem Turn.trans(x:Turn O N0 s μ X s' X')(y:Turn O N0 s' μ X' s'' gJ):Turn O N0 s μ X s'' gJ where
 gx:=x.gx.trans x.stay y.gx
 new a h h':=by
  by_cases hx:a∈X'
  ·obtain⟨o,e⟩:=x.new a hx h';exact y.stay a o e
  ·exact y.new a h hx
 keep a o e h:=by
  refine y.keep a o (x.keep a o e h) ?_
  rcases h with h|h|h
  ·exact .inl h
  ·exact .inr (.inl (x.gx.gS e h))
  ·exact .inr (.inr h)
 stay a o e:=(x.stay a o e).elim (y.stay a)
 os:=y.os.trans x.os
 gens:=x.gens.trans y.gens
structure Bs(O:Addr→Prop)(N0:Nat)(s:aad)(μ X:List Addr)(s':aad):Prop where
 keep:∀a o,s.heap.get? a=some o→(O a∨a∉X∨a∈μ)→s'.heap.get? a=some o
 os:s'.os=s.os
 gens:GN N0 s.gens s'.gens
theorem St.lz(S:St hB Θ h0 j4 X0 H0):∀a∈ao,h0.get? a≠none:=fun a ha=>by
 obtain⟨vs,e⟩:=S.tabAt ha
 rw[e];exact fun h=>no2 h
theorem St.turn(S:St hB Θ s.heap μ X H)(hT:∀a∈ao,O a)(t:Turn O N0 s μ X s' X'):St hB Θ s'.heap μ X' H:=by
 obtain⟨ν,rfl,hf⟩:=id t.gx
 refine S.frame (P:=fun a=>¬(O a∨a∉X∨a∈μ)) ⟨fun a o e h=>t.keep a o e (Classical.not_not.mp h),t.stay⟩ (fun a o e h=>?_) ν fun a ha=>⟨hf a ha,?_⟩
 ·have h1:¬O a:=fun q=>h (.inl q)
  have h2:a∈X:=Classical.byContradiction fun q=>h (.inr (.inl q))
  have h3:a∉μ:=fun q=>h (.inr (.inr q))
  exact⟨h2,h3,fun q=>h1 (hT a q)⟩
 ·exact t.new a (aau _ ha) fun hx=>by obtain⟨o,e⟩:=S.old a hx;rw[hf a ha] at e;exact no1 e
theorem Turn.vr(t:Turn O N0 s μ X s' X'){v:V}{u:aac}(q:VR Θ s.heap μ X v u):VR Θ s'.heap μ X' v u:=q.mono (fun a o e h=>t.keep a o e (.inr (.inl h))) .refl t.gx
theorem Turn.Eb(t:Turn O N0 s μ X s' X'){v:List V}{u:List aac}(q:VRs Θ s.heap μ X v u):VRs Θ s'.heap μ X' v u:=q.mono (fun a o e h=>t.keep a o e (.inr (.inl h))) .refl t.gx
theorem Ready.turn(Y:Ready hB Θ n ks C A env r s μ X H)(hT:∀a∈ao,O a)(JN:∀a,Own ks env a→O a)(PB:∀a,nP A a→O a)(t:Turn O N0 s μ X s' X'):Ready hB Θ n ks C A env r s' μ X' H where
 cx:=Y.cx
 st:=Y.st.turn hT t
 ja:=Y.ja.move fun L m hL hn hX hm ht=>⟨t.gx.sub hX,hm,m,hn.at' fun o e=>t.keep L o e (.inl (PB L hL))⟩
 fr:=Y.fr.keep (fun _ _ q=>t.vr q) (fun m hn=>hn.at' fun o e=>t.keep _ o e (.inl (JN _ (.inl rfl)))) (fun x c vo hx k e1 hc hX=>⟨jt hc fun o e=>t.keep c o e (.inl (JN c (.inr ⟨x,hx,k,e1⟩))),t.gx.sub hX⟩) (t.gx.sub Y.fr.kG)
noncomputable def cP(h:aal)(a:Addr):Prop:=h.get? a≠none
theorem cP.of{h:aal}{a:Addr}{o:Obj}(e:h.get? a=some o):cP h a:=fun q=>by rw[e] at q;exact no2 q
theorem FR.xT(F:FR hB Θ ks env r s.heap μ X){a:Addr}(h:Own ks env a):cP s.heap a:=by
 rcases h with rfl|⟨x,hx,hk,e⟩
 ·obtain⟨m,⟨o,_,_,ho,_⟩,_⟩:=F.loc;exact .of ho
 ·obtain⟨c,vo,e1,⟨o,ho,_⟩,_⟩:=F.AI x hx hk
  rw[e] at e1;(first|(replace e1:=(Z8 e1).symm;subst e1)|cases e1);exact .of ho
theorem jg.JO(B:jg hB A s.heap μ X){a:Addr}(h:nP A a):cP s.heap a:=by
 obtain⟨l',env',h1,h2,h3⟩:=h
 obtain⟨l,e,hl⟩:=B.fr
 rw[h1] at e;(first|(replace e:=(Z8 e).symm;subst e)|cases e)
 obtain⟨_,L,m,hf,_,_,_,o,_,_,ho,_⟩:=hl env' h2
 rw[h3] at hf;(first|(replace hf:=(Z8 hf).symm;subst hf)|cases hf);exact .of ho
theorem iE.turn{W:Addr→Prop}(hN:s0.gens.size≤N0)(hO:∀a,s0.heap.get? a≠none→O a)(hT:∀a∈ao,O a)(g:iE hB Θ lk W s0 j4 X0 H s μ X)(t:Turn O N0 s μ X s' X'):iE hB Θ lk W s0 j4 X0 H s' μ X' where
 st:=g.st.turn hT t
 gm:=g.gm
 gx:=g.gx.trans g.keep.2 t.gx
 keep:=⟨fun a o e h=>t.keep a o (g.keep.1 a o e h) (.inl (hO a (by rw[e];exact fun h=>by exact no2 h))),fun a o e=>(g.keep.2 a o e).elim (t.stay a)⟩
 os:=t.os.trans g.os
 gens:=g.gens.gn t.gens hN
end
section
variable{w:aaC}{K:Frag}{hB hF:aal}{O W:Addr→Prop}{N0:Nat}{Θ:Th}{A:aav}{lk:List Nat}{s s0 s' s'' s1:aad}{μ j4 aG bZ X X0 X' gJ aZ X1:List Addr}{H H0 H' iz H1:HP}{n:Nat}{C:Cx}{env cenv:Env}{outer:List Env}{r r0 r' r1:aR}{ks:Kinds}{Ex:aac→aad→Prop}{D:Addr}{av:List V}
structure kW(w:aaC)(hB:aal)(Θ:Th)(O:Addr→Prop)(N0:Nat)(lk:List Nat)(A:aav)(it:aac)(tg:Expr)(P:List V→aad→List Addr→List Addr→Prop):Prop where
 stay:∀{W:Addr→Prop}{vs:List V}{s s':aad}{μ X aG X':List Addr}{H H':HP},P vs s μ X→St hB Θ s.heap μ X H→(∀a,W a→a∈X∧a∉μ∧O a)→iE hB Θ lk W s μ X H' s' aG X'→P vs s' aG X'
 self:∀{vs:List V}{s:aad}{μ X:List Addr}{Q:aac→aad→Prop}{Ex:aac→aad→Prop},P vs s μ X→Q it s→aai (model pw w) A (pyIter it) Q Ex s
 step:∀{vs:List V}{s:aad}{μ X:List Addr}{H:HP}{Ex:aac→aad→Prop},A.handled=none→A.depth≤600→A.units≤9000→(∀a,O a→s.heap.get? a≠none)→P vs s μ X→St hB Θ s.heap μ X H→
  aai (model pw w) A (pyNext it) (fun o s1=>match vs with
   |[]=>o=none∧Bs O N0 s μ X s1
   |v::vs'=>∃u X1,o=some u∧Turn O N0 s μ X s1 X1∧VR Θ s1.heap μ X1 v u∧∀M3:aac→aad→Prop,aai (model pw w) A (letOwnedTupleGo tg it u) (fun _ s2=>∃X2,Turn O N0 s1 μ X1 s2 X2∧VR Θ s2.heap μ X2 v u∧P vs' s2 μ X2) M3 s1) Ex s
structure lA(Θ:Th)(lk:List Nat)(s:aad)(μ X:List Addr)(l:Addr)(lv:List V):Prop where
 at_:∃xs,LstAt s.heap l xs.toArray∧VRs Θ s.heap μ X lv xs
 safe:l∉X∨∃k,k∈lk∧μ[k]?=some l
theorem lA.stay(h:lA Θ lk s μ X l lv)(S:St hB Θ s.heap μ X H)(ho:∀a,W a→a∈X∧a∉μ∧O a)(g:iE hB Θ lk W s μ X H' s' aG X'):lA Θ lk s' aG X' l lv:=by
 obtain⟨xs,hl,hq⟩:=h.at_
 have hno:¬(Wr lk μ l∨W l):=by
  rcases h.safe with hX|⟨k,hk,e⟩
  ·exact fun q=>hX (q.elim (fun q=>q.L0 S) fun q=>(ho l q).1)
  ·intro q
   have hm:l∈μ:=aaU e
   rcases q with(q|⟨j,e',hj⟩)|q
   ·obtain⟨vs,e3⟩:=S.tabAt q
    obtain⟨j,e4⟩:=hl
    rw[e3] at e4;(first|(replace e4:=(Z8 e4).symm;subst e4)|cases e4)
   ·obtain⟨l1,g1⟩:=aay.mp e
    obtain⟨l2,g2⟩:=aay.mp e'
    have:=xH S.nodup l1 l2 (g1.trans g2.symm)
    exact hj (this▸hk)
   ·exact(ho l q).2.1 hm
 refine⟨⟨xs,bS hl fun o e=>g.keep.1 l o e hno,hq.mono (fun a o e hX=>g.keep.1 a o e fun p=>hX (p.elim (fun p=>p.L0 S) fun p=>(ho a p).1)) g.gm g.gx⟩,?_⟩
 rcases h.safe with hX|⟨k,hk,e⟩
 ·exact .inl (hl.get.elim fun _ e=>g.gx.gS e hX)
 ·exact .inr ⟨k,hk,g.gm.at e⟩
theorem lA.turn(h:lA Θ lk s μ X l lv)(t:Turn O N0 s μ X s' X'):lA Θ lk s' μ X' l lv:=by
 obtain⟨xs,hl,hq⟩:=h.at_
 refine⟨⟨xs,bS hl fun o e=>t.keep l o e ?_,t.Eb hq⟩,?_⟩
 ·rcases h.safe with hX|⟨k,hk,e⟩
  ·exact .inr (.inl hX)
  ·exact .inr (.inr (aaU e))
 ·rcases h.safe with hX|h
  ·exact .inl (hl.get.elim fun _ e=>t.gx.gS e hX)
  ·exact .inr h
noncomputable def aQ(O:Addr→Prop)(μ X:List Addr)(I:Addr):Prop:=I∈X∧I∉μ∧¬O I
theorem aQ.no(hT:∀a∈ao,O a)(h:aQ O μ X I)(ho:∀a,W a→a∈X∧a∉μ∧O a):¬(Wr lk μ I∨W I):=by
 rintro ((q|⟨j,e',_⟩)|q)
 ·exact h.2.2 (hT I q)
 ·exact h.2.1 (aaU e')
 ·exact h.2.2 (ho I q).2.2
theorem aQ.go(h:aQ O μ X I){o:Obj}(e:s.heap.get? I=some o)(gm:Grows s.heap μ aG)(gx:Grows s.heap X X'):aQ O aG X' I:=⟨gx.sub h.1,gm.gS e h.2.1,h.2.2⟩
theorem Turn.one(h:aQ O μ X I){h':aal}{tk:Nat}(hs:∀b o,b≠I→s.heap.get? b=some o→h'.get? b=some o)(hI:∃o,h'.get? I=some o):Turn O N0 s μ X {s with heap:=h',toks:=tk} X where
 gx:=.refl
 new a q q':=absurd q q'
 keep a o e q:=hs a o (fun e'=>by subst e';exact q.elim (fun q=>h.2.2 q) fun q=>q.elim (fun q=>q h.1) fun q=>h.2.1 q) e
 stay a o e:=by
  by_cases hb:a=I
  ·subst hb;exact hI
  ·exact⟨o,hs a o hb e⟩
 os:=rfl
 gens:=.refl _
end
theorem VR.shrink{Θ:Th}{h:aal}{μ X X':List Addr}(hX:∀a∈X',a∈X){v:V}{x:aac}(r:VR Θ h μ X v x):VR Θ h μ X' v x:=r.map (fun _ _ e _=>e) id fun _ h q=>h (hX _ q)
theorem VRs.shrink{Θ:Th}{h:aal}{μ X X':List Addr}(hX:∀a∈X',a∈X){l:List V}{xs:List aac}(r:VRs Θ h μ X l xs):VRs Θ h μ X' l xs:=VRs.map (VR.shrink hX) r
section
variable{w:aaC}{K:Frag}{hB hF:aal}{O W:Addr→Prop}{N0:Nat}{Θ:Th}{A:aav}{lk:List Nat}{s s0 s' s'' s1:aad}{μ j4 aG bZ X X0 X' gJ aZ X1:List Addr}{H H0 H' iz H1:HP}{n:Nat}{C:Cx}{env cenv:Env}{outer:List Env}{r r0 r' r1:aR}{ks:Kinds}{Ex:aac→aad→Prop}{D:Addr}{av:List V}
noncomputable def JP(X X':List Addr)(h':aal):Prop:=(∀a∈X',a∈X)∧∀a∈X',∃o,h'.get? a=some o
theorem St.SI(S:St hB Θ s.heap μ X H)(hT:∀a∈ao,O a)(t:Bs O N0 s μ X s'){X1:List Addr}(hs:JP X X1 s'.heap)(hk:∀a∈X,(O a∨a∈μ)→a∈X1):St hB Θ s'.heap μ X1 H:=
 S.move (fun a o e q=>⟨t.keep a o e (.inr (.inl q)),fun h=>q (hs.1 a h)⟩) (fun a o e q=>t.keep a o e (q.elim (fun q=>.inr (.inr q)) fun q=>.inl (hT a q))) (fun a ha=>hk a (S.wH a ha) (.inr ha)) (fun a ha=>hk a (S.lG a ha) (.inl (hT a ha))) (fun a ha=>S.gK a (hs.1 a ha)) hs.2
theorem vA{W:Addr→Prop}(hN:s0.gens.size≤N0)(S0:St hB Θ s0.heap j4 X0 H0)(PC:∀a,cP s0.heap a→O a)(hT:∀a∈ao,O a)(S:St hB Θ s.heap μ X H)(g:iE hB Θ lk W s0 j4 X0 H s μ X)(t:Bs O N0 s μ X s'):
 ∃X1,iE hB Θ lk W s0 j4 X0 H s' μ X1∧(∀v u,VR Θ s.heap μ X v u→VR Θ s'.heap μ X1 v u)∧(∀v u,VRs Θ s.heap μ X v u→VRs Θ s'.heap μ X1 v u)∧(∀a∈X,O a→a∈X1)∧
  ∀{n:Nat}{ks:Kinds}{C:Cx}{A:aav}{env:Env}{r:aR},Ready hB Θ n ks C A env r s μ X H→(∀a,Own ks env a→O a)→(∀a,nP A a→O a)→Ready hB Θ n ks C A env r s' μ X1 H:=by
 let X1:=X.filter fun a=>(s'.heap.get? a).isSome
 have hs:JP X X1 s'.heap:=⟨fun a h=>(aa0.mp h).1,fun a h=>abw.mp (aa0.mp h).2⟩
 have hk:∀a∈X,(O a∨a∈μ)→a∈X1:=fun a ha q=>by
  obtain⟨o,e⟩:=S.old a ha
  have:=t.keep a o e (q.elim .inl fun q=>.inr (.inr q))
  exact aa0.mpr ⟨ha,by rw[this];rfl⟩
 have S1:St hB Θ s'.heap μ X1 H:=S.SI hT t hs hk
 have hv:∀v u,VR Θ s.heap μ X v u→VR Θ s'.heap μ X1 v u:=fun v u q=>(q.mono (fun a o e hX=>t.keep a o e (.inr (.inl hX))) .refl .refl).shrink hs.1
 have hvs:∀v u,VRs Θ s.heap μ X v u→VRs Θ s'.heap μ X1 v u:=fun v u q=>(q.mono (fun a o e hX=>t.keep a o e (.inr (.inl hX))) .refl .refl).shrink hs.1
 have stood:∀a o,s0.heap.get? a=some o→O a:=fun a o e=>PC a (.of e)
 refine⟨X1,?_,hv,hvs,fun a ha h=>hk a ha (.inl h),fun{n ks C A env r}Y JN PB=>?_⟩
 ·obtain⟨ν,rfl,hf⟩:=id g.gx
  refine⟨S1,g.gm,⟨ν.filter fun a=>(s'.heap.get? a).isSome,?_,fun a ha=>hf a (aa0.mp ha).1⟩,⟨fun a o e h=>t.keep a o (g.keep.1 a o e h) (.inl (stood a o e)),fun a o e=>?_⟩,t.os.trans g.os,g.gens.gn t.gens hN⟩
  ·show List.filter _ (X0++ν)=_
   rw[aef]
   congr 1
   refine adP.mpr fun a ha=>?_
   obtain⟨o,e⟩:=S0.old a ha
   obtain⟨o',e'⟩:=g.keep.2 a o e
   rw[t.keep a o' e' (.inl (stood a o e))];rfl
  ·obtain⟨o',e'⟩:=g.keep.2 a o e
   exact⟨o',t.keep a o' e' (.inl (stood a o e))⟩
 ·exact⟨Y.cx,Y.ja.move fun L m hL hn hX hm ht=>⟨hk L hX (.inl (PB L hL)),hm,m,hn.at' fun o e=>t.keep L o e (.inl (PB L hL))⟩,
   Y.fr.keep hv (fun m hn=>hn.at' fun o e=>t.keep _ o e (.inl (JN _ (.inl rfl)))) (fun x c vo hx k e1 hc hX=>⟨jt hc fun o e=>t.keep c o e (.inl (JN c (.inr ⟨x,hx,k,e1⟩))),hk c hX (.inl (JN c (.inr ⟨x,hx,k,e1⟩)))⟩) (hk _ Y.fr.kG (.inl (JN _ (.inl rfl)))),S1⟩
structure JQ(Θ:Th)(O:Addr→Prop)(lk:List Nat)(I l:Addr)(vs:List V)(s:aad)(μ X:List Addr):Prop where
 ex:∃i lv,s.heap.IsListIter I l i∧lA Θ lk s μ X l lv∧vs=lv.drop i
 obj:aQ O μ X I
theorem oF{x:Nat}{px:Pos}{it u:aac}{Q:Unit→aad→Prop}(h:Q () s):aai (model pw w) A (letOwnedTupleGo (dT (.one x px)) it u) Q Ex s:=aag h
theorem Gw(hT:∀a∈ao,O a){I l:Addr}{t:T}:kW w hB Θ O N0 lk A (.ref I) (dT t) (JQ Θ O lk I l) where
 stay:=fun P S ho g=>by
  obtain⟨i,lv,⟨o,e,hc,hd⟩,hl,hv⟩:=P.ex
  have e':=g.keep.1 I o e (P.obj.no hT ho)
  exact⟨⟨i,lv,⟨o,e',hc,hd⟩,hl.stay S ho g,hv⟩,P.obj.go e g.gm g.gx⟩
 self:=fun P h=>by obtain⟨_,_,hit,_⟩:=P.ex;exact wpAny_pyIter_listiter hit h
 step:=fun{vs s μ X H Ex}hh _ _ _ P S=>by
  obtain⟨i,lv,hi,hl,hv⟩:=P.ex
  obtain⟨xs,hxs,hq⟩:=hl.at_
  have hIo:=hi
  obtain⟨o,e,hc,hd⟩:=hi
  cases vs with
  |nil=>
   have hlen:lv.length≤i:=by
    have:=congrArg afn hv;simp at this;omega
   have hx:xs.toArray[i]?=none:=by
    have:=hq.length;simp;omega
   refine adx hh hIo hxs.isList hx fun h' he=>⟨rfl,?_⟩
   exact⟨fun a o e q=>he a o (fun e'=>by subst e';exact q.elim (fun q=>P.obj.2.2 q) fun q=>q.elim (fun q=>q P.obj.1) fun q=>P.obj.2.1 q) e,rfl,.refl _⟩
  |cons v vs=>
   have hget:lv[i]?=some v:=by
    have:=congrArg (·[0]?) hv;simp at this;exact this.symm
   obtain⟨u,hu,qu⟩:=hq.get hget
   refine ae2 hIo hxs.isList (by simpa using hu) fun h' hI' hs=>?_
   have t1:Turn O N0 s μ X {s with heap:=h',toks:=s.toks} X:=.one P.obj (fun b o hb e=>(hs.2 b hb).trans e) (wR hI')
   have P':JQ Θ O lk I l vs {s with heap:=h',toks:=s.toks} μ X:=⟨⟨i+1,lv,hI',hl.turn t1,by
    have:=congrArg (ad0 1) hv;simpa using this⟩,P.obj⟩
   refine⟨u,X,rfl,t1,t1.vr qu,fun M3=>?_⟩
   cases t with
   |one x px=>exact oF ⟨X,.refl,t1.vr qu,P'⟩
   |two x px y py p=>
    cases u with
    |ref a=>exact wpAny_letOwnedTupleGo_listiter hI' ⟨X,.refl,t1.vr qu,P'⟩
    |_=>exact aag ⟨X,.refl,t1.vr qu,P'⟩
end
section
variable{prog:Program}{w:aaC}{A:aav}{E:aac→aad→Prop}{R:Result→aad→Prop}{s:aad}
theorem sC{target it body orelse env}(I:Nat→aad→Prop)
 (turn:∀n s,I n s→aai (model prog w) A (pyNext it) (fun r s₁=>match r with
  |none=>aai (model prog w) A (execs orelse env) (fun f s₃=>R (.ok f) s₃) (notedBy (model prog w) A env fun e s'=>R (.error e) s') s₁
  |some v=>aai (model prog w) A (letOwnedTupleGo target it v) (fun _ s₁=>aai (model prog w) A (assign target env v) (fun _ s₂=>aai (model prog w) A (execs body env) (fun f s₃=>match f with
   |.next|.cont=>∃m,m<n∧I m s₃
   |.brk=>R (.ok .next) s₃
   |.ret v=>R (.ok (.ret v)) s₃) (notedBy (model prog w) A env fun e s'=>R (.error e) s') s₂) (notedBy (model prog w) A env fun e s'=>R (.error e) s') s₁) (notedBy (model prog w) A env fun e s'=>R (.error e) s') s₁) (notedBy (model prog w) A env fun e s'=>R (.error e) s') s)
 (n:Nat) (h:I n s):codeAny (model prog w) A (.forLoop target it body orelse env) R s:=by
 refine codeAny_loop' rfl I (fun n s hI=>?_) n h
 show aai _ _ ((forTurn target it body orelse env).onRaise (fun x=>do noteFrame x env;theTreesLotGoes x)) _ _ s
 refine wpAny_noted ?_
 simp only [forTurn]
 refine aab (aa3 (aab (afK (aas (turn n s hI) (fun r s₁ h₁=>?_) fun _ _ h'=>aa3 h'))))
 cases r with
 |none=>exact aag (.inr ⟨rfl,codeAny_block h₁⟩)
 |some v=>
  refine aab (aas h₁ (fun _ s₁ h₁=>?_) fun _ _ h'=>h')
  refine aab (aas h₁ (fun _ s₂ h₂=>aab (aas h₂ (fun f s₃ h₃=>?_) fun _ _ h'=>h')) fun _ _ h'=>h')
  cases f with
  |next=>exact aag (.inl ⟨rfl,h₃⟩)
  |cont=>exact aag (.inl ⟨rfl,h₃⟩)
  |brk=>exact aag h₃
  |ret v=>exact aag h₃
end
section
variable{w:aaC}{K:Frag}{hB hF:aal}{O W:Addr→Prop}{N0:Nat}{Θ:Th}{A:aav}{lk:List Nat}{s s0 s' s'' s1:aad}{μ j4 aG bZ X X0 X' gJ aZ X1:List Addr}{H H0 H' iz H1:HP}{n:Nat}{C:Cx}{env cenv:Env}{outer:List Env}{r r0 r' r1:aR}{ks:Kinds}{Ex:aac→aad→Prop}{D:Addr}{av:List V}
inductive zG(w:aaC)(hB:aal)(Θ:Th)(WZ Gx:List Nat)(s:aad)(μ X:List Addr)(H':HP)(it:aac)(tg:Expr)(l:List V)(s2:aad):Prop
 |mk(aG X' N:List Addr)(go:Goes hB Θ WZ s μ X H' s2 aG X')(hN:∀a∈N,s.heap.get? a=none∧a∈X')(all:∀O:Addr→Prop,(∀a∈ao,O a)→(∀a∈N,¬O a)→∀A:aav,∃P,kW w hB Θ O s.gens.size (au Gx WZ) A it tg P∧P l s2 aG X')
noncomputable def jj(w:aaC)(hB:aal)(Θ:Th)(n:Nat)(ks:Kinds)(c:CI)(e:Expr)(tg:Expr):Prop:=∀C A env r s μ X H,Ready hB Θ n ks C A env r s μ X H→bh b9 C.lk=true→∀x H',c C r H=.ok x H'→∀Ex:aac→aad→Prop,
 aai (model pw w) A (eval e env) (fun v s1=>aai (model pw w) A (pyIter v) (fun it s2=>zG w hB Θ C.lk x.2 s μ X H' it tg x.1 s2) Ex s1) Ex s
theorem Di{b:aR→HP→R Fl}{t:Tg}{v:V}{l:List V}:bz b t (v::l) r H=(match dU t v r with
 |none=>.bad
 |some r=>match b r H with
  |.ok f H=>match f with
   |.on r=>bz b t l r H
   |.back v=>.ok (.back v) H
  |_=>.bad):=rfl
theorem iE.unlock{N9:List Nat}(x:iE hB Θ N9 W s μ X H' s' aG X')(h:∀n∈lk,n∈N9):iE hB Θ lk W s μ X H' s' aG X':=
 ⟨x.st,x.gm,x.gx,x.keep.mono fun _ _ _ q=>q.imp (fun q=>q.imp id fun q=>by obtain⟨n,e,hn⟩:=q;exact⟨n,e,fun m=>hn (h n m)⟩) id,x.os,x.gens⟩
theorem Ready.lock(Y:Ready hB Θ n ks C A env r s μ X H)(l:List Nat):Ready hB Θ n ks (C.lock l) A env r s μ X H:=
 ⟨⟨Y.cx.par,Y.cx.ph,fun h=>Y.cx.hh (uW h).2,Y.cx.depth,Y.cx.units⟩,Y.ja,Y.fr,Y.st⟩
theorem Ready.unlock{l:List Nat}(Y:Ready hB Θ n ks (C.lock l) A env r s μ X H)(Y0:tu Θ n C A):Ready hB Θ n ks C A env r s μ X H:=⟨Y0,Y.ja,Y.fr,Y.st⟩
inductive Oe(b:aR→HP→R Fl)(t:Tg)(vs:List V)(RR y:R Fl):Prop
 |mk:y≠.bad→(∀{r7 H7},y=.ok (.on r7) H7→RR=bz b t vs r7 H7)→(∀{v H7},y=.ok (.back v) H7→RR=.ok (.back v) H7)→(∀c m H7,y≠.exc c m H7)→Oe b t vs RR y
theorem JR{b:aR→HP→R Fl}{t:Tg}{v:V}{vs:List V}{RR:R Fl}(e:RR=bz b t (v::vs) r H)(hne:RR≠.bad):∃r6,dU t v r=some r6∧Oe b t vs RR (b r6 H):=by
 rw[Di] at e
 cases hb:dU t v r with
 |none=>rw[hb] at e;exact absurd e hne
 |some r6=>
 rw[hb] at e
 refine⟨r6,rfl,?_⟩
 have e:RR=(match b r6 H with
  |.ok f H=>match f with
   |.on r=>bz b t vs r H
   |.back v=>.ok (.back v) H
  |_=>.bad):=e
 generalize b r6 H=y at*
 cases y with
 |ok f H7=>
  refine⟨nofun,?_,?_,nofun⟩
  ·intro r7 H7 q;cases q;exact e
  ·intro v H7 q;cases q;exact e
 |_=>exact absurd e hne
inductive SJ(w:aaC)(hB:aal)(Θ:Th)(n:Nat)(ks:Kinds)(C:Cx)(A:aav)(env:Env)(s:aad)(μ X:List Addr)(P:List V→aad→List Addr→List Addr→Prop)(b:aR→HP→R Fl)(t:Tg)(RR:R Fl)(m:Nat)(s':aad):Prop
 |mk{vs:List V}{r':aR}{H':HP}{aG X':List Addr}:m=vs.length→uf hB Θ C.lk ks env s μ X H' s' aG X'→Ready hB Θ n ks C A env r' s' aG X' H'→P vs s' aG X'→RR=bz b t vs r' H'→SJ w hB Θ n ks C A env s μ X P b t RR m s'
theorem JS{t:Tg}{ci:CI}{cb:CS}(h:jd t ci cb C r H≠.bad):∃x H1,ci C r H=.ok x H1∧bh b9 C.lk=true∧jd t ci cb C r H=bz (cb (C.lock x.2)) t x.1 r H1:=by
 have e:jd t ci cb C r H=(match ci C r H with
  |.ok x H=>az (bh b9 C.lk) (bz (cb (C.lock x.2)) t x.1 r H) .bad
  |_=>.bad):=rfl
 cases hc:ci C r H with
 |bad=>exact absurd (e.trans (by rw[hc])) h
 |exc c m H1=>exact absurd (e.trans (by rw[hc])) h
 |ok x H1=>
  have e:=e.trans (by rw[hc])
  obtain⟨hl,_,hw⟩:=bY (e▸h)
  exact⟨x,H1,rfl,hl,e.trans hw⟩
theorem JT{ci:CI}{cb:CS}{t:T}{e:Expr}{b:List Stmt}{p:Pos}(ht:w5 ks t)(hi:jj w hB Θ n ks ci e (dT t))(hb:fV w hB Θ n ks cb b)(hf:∀(env:Env)x,foldedSetIterable e env x=pure x):
 jM w hB Θ n ks (jd (tV t) ci cb) (.For (dT t) e b [] p):=fun C A env r s μ X H Y hne=>by
 obtain⟨x,H1,hc,hl,hw⟩:=JS hne
 revert hne hw
 generalize jd (tV t) ci cb C r H=RR
 intro hne hw
 refine wpAny_For (aas (hi C A env r s μ X H Y hl x H1 hc _) (fun v s1 h=>aas h (fun it s2 h=>?_) fun _ _ x=>x) fun _ _ x=>x) (hf env)
 obtain⟨nc,X2,N,g2,hN,hI⟩:=h
 have hh:=Y.cx.hh hl
 have hT:∀a∈ao,cP s.heap a:=Y.st.lz
 obtain⟨P,I,hP⟩:=hI (cP s.heap) hT (fun a ha h=>h (hN a ha).1) A
 clear hI hN hi hc
 have JN:∀a,Own ks env a→cP s.heap a:=fun a ha=>Y.fr.xT ha
 have PB:∀a,nP A a→cP s.heap a:=fun a ha=>Y.ja.JO ha
 refine sC (SJ w hB Θ n ks C A env s μ X P (cb (C.lock x.2)) (tV t) RR) ?_ x.1.length ⟨rfl,g2.xR,Y.go g2,hP,hw⟩
 clear hP hw g2
 rintro m s3 ⟨em,g3,Y3,P3,Vo⟩
 refine aas (I.step hh (aah (abb _ _) Y.cx.depth) (aah (abb _ _) Y.cx.units) (fun a ha=>by
  cases e0:s.heap.get? a with
  |none=>exact absurd e0 ha
  |some o=>obtain⟨o',e'⟩:=g3.keep.2 a o e0;exact cP.of e') P3 Y3.st) (fun o s4 h=>?_) fun _ _ x=>x
 cases vs with
 |nil=>
  obtain⟨rfl,tE⟩:=h
  obtain⟨X4,g4,_,_,_,Yj⟩:=vA (aaA _) Y.st (fun a h=>h) hT Y3.st g3 tE
  have Y4:=Yj Y3 JN PB
  exact acm ⟨_,_,_,_,Vo,g4,Y4.ja,rfl,Y4.fr⟩
 |cons v vs=>
  obtain⟨u,X4,rfl,t4,q4,hgo⟩:=h
  obtain⟨r6,SK,L⟩:=JR Vo hne
  clear Vo
  refine aas (hgo _) (fun _ s5 h=>?_) fun _ _ x=>x
  obtain⟨X5,t5,q5,P5⟩:=h
  have Vp:=t4.trans t5
  have Y5:=Y3.turn hT JN PB Vp
  have g5:=iE.turn (aaA _) (fun a h=>h) hT g3 Vp
  clear hgo t4 t5 q4 Vp
  have own:∀a,Own ks env a→a∈X5∧a∉aG∧cP s.heap a:=fun a ha=>⟨Y5.fr.own ha,(Y5.fr.Od Y5.st ha).2,JN a ha⟩
  refine JM (lk:=au x.2 C.lk) Y5 hh ht q5 SK fun s6 g6 Y6=>?_
  have P6:=I.stay P5 Y5.st own g6
  have hlk:∀k∈C.lk,k∈au x.2 C.lk:=fun k hk=>by rw[aO];exact aau _ hk
  obtain⟨hnb,L1,L2,L3⟩:=L
  refine aas (hb (C.lock x.2) A env r6 s6 aG X5 H' (Y6.lock x.2) hnb) (fun f s7 h=>?_) fun e s7 h=>?_
  ·obtain⟨fl,H7,Z1,X7,e7,g7,B7,q7⟩:=h
   have SM:=((g5.trans (g6.unlock hlk)).trans (iE.unlock (lk:=C.lk) g7 hlk))
   cases fl with
   |on r7=>
    obtain⟨rfl,F7⟩:=q7
    exact⟨vs.length,em▸adE _,rfl,SM,⟨Y.cx,B7,F7,g7.st⟩,I.stay P6 Y6.st own g7,L1 e7⟩
   |back v=>
    obtain⟨u,rfl,q⟩:=q7
    exact⟨_,_,_,_,L2 e7,SM,B7,u,rfl,q⟩
  ·obtain⟨c,mm,_,_,_,_,e7,_⟩:=h
   exact absurd e7 (L3 _ _ _)
theorem Goes.fresh(S:St hB Θ s.heap μ X H)(o:Obj)(ho:o.isFreed=false):Goes hB Θ lk s μ X H {s with heap:=s.heap.push o} μ (X++[s.heap.objs.size]):=by
 have K:=bx (h:=s.heap) o
 have hf:∀a∈[s.heap.objs.size],s.heap.get? a=none:=fun a ha=>by rw[aaq.mp ha];exact aF _
 exact⟨S.frame (P:=fun _=>False) (.mono (.jJ K) fun _ _ _ x=>x) (fun _ _ _ x=>x.elim) _ fun a ha=>⟨hf a ha,by rw[aaq.mp ha];exact⟨_,aaw _ ho⟩⟩,.refl,⟨_,rfl,hf⟩,.jJ K,rfl,.refl _⟩
theorem ny(S:St hB Θ s.heap μ X H)(hO:¬O s.heap.objs.size):aQ O μ (X++[s.heap.objs.size]) s.heap.objs.size:=by
 refine⟨aau _ (by simp),fun hm=>?_,hO⟩
 exact S.fresh (aF _) (S.wH _ hm)
theorem fj(Kp:∀a o,s0.heap.get? a=some o→∃o',s.heap.get? a=some o'){a:Addr}(h:s.heap.get? a=none):s0.heap.get? a=none:=by
 cases e:s0.heap.get? a with
 |none=>rfl
 |some o=>obtain⟨o',e'⟩:=Kp _ o e;rw[h] at e';exact no1 e'
theorem xU(g:Goes hB Θ C.lk s μ X H1 s1 aZ X1)(S0:St hB Θ s.heap μ X H){v:V}{u:aac}{l:List V}{t:T}(q:VR Θ s1.heap aZ X1 v u)(h:items H1 v=some l){Ex:aac→aad→Prop}:
 aai (model pw w) A (pyIter u) (fun it s2=>zG w hB Θ C.lk (cY v) s μ X H1 it (dT t) l s2) Ex s1:=by
 obtain⟨p,xs,rfl,hp,hq⟩:=bI g.st q h
 refine aez hp.isList ?_
 have gf:=Goes.fresh (lk:=C.lk) g.st {cls:=.type "list_iterator",data:=.fields #[.ref p,.int 0 0]} rfl
 refine⟨aZ,_,[s1.heap.objs.size],g.trans gf,fun a ha=>by rw[aaq.mp ha];exact⟨fj g.keep.2 (aF _),aau _ (by simp)⟩,fun O hT hO _=>⟨_,Gw (l:=p) hT,⟨⟨0,l,⟨_,aaw _ rfl,rfl,rfl⟩,⟨⟨xs,bS hp fun o e=>bx _ _ _ e,gf.Eb g.st hq⟩,?_⟩,by simp⟩,ny g.st (hO _ (by simp))⟩⟩⟩
 cases v with
 |lst m=>
  replace q:=q.inv;cases q with
  |lst ha hX hl=>
   obtain⟨j,e⟩:=ha
   exact .inl (jY (fun a ha=>by rw[aaq.mp ha];exact aF _) e hX)
 |ref k=>
  replace q:=q.inv;cases q with
  |ref hn=>exact .inr ⟨k,by rw[aO];exact aaT _ (by simp[cY]),hn⟩
 |_=>exact no1 h
theorem Gy{I l T:Addr}{i:Nat}{elts:List Expr}{x1}{pos:Pos}{Q:Unit→aad→Prop}(hit:s.heap.IsTupleIter I l i)(hQ:Q () s):
 aai (model pw w) A (letOwnedTupleGo (.Tuple elts x1 pos) (.ref I) (.ref T)) Q Ex s:=by
 obtain⟨o,ho,hc,hd⟩:=hit
 unfold letOwnedTupleGo
 refine aab (wpAny_load ho ?_)
 rw[hc,hd]
 show aai _ A (if(["enumerate","zip","dict_itemiterator","dict_reverseitemiterator","odict_iterator","itertools.zip_longest","itertools.pairwise"].contains "tuple_iterator"&&
  (#[.ref l,.int i 0]:Array aac)[0]?==some (rawInt T))=true then _ else _) Q Ex s
 rw[if_neg (by
  intro h
  rw[show(["enumerate","zip","dict_itemiterator","dict_reverseitemiterator","odict_iterator","itertools.zip_longest","itertools.pairwise"].contains "tuple_iterator")=false from by decide,afm] at h
  exact nb1 h)]
 exact aag hQ
structure Of(Θ:Th)(O:Addr→Prop)(I l:Addr)(vs:List V)(s:aad)(μ X:List Addr):Prop where
 ex:∃i lv xs,s.heap.IsTupleIter I l i∧s.heap.IsTuple l xs.toArray∧VRs Θ s.heap μ X lv xs∧l∉X∧vs=lv.drop i
 obj:aQ O μ X I
theorem JU(hT:∀a∈ao,O a){I l:Addr}{t:T}:kW w hB Θ O N0 lk A (.ref I) (dT t) (Of Θ O I l) where
 stay:=fun P S ho g=>by
  obtain⟨i,lv,xs,⟨o,e,hc,hd⟩,hl,hq,hX,hv⟩:=P.ex
  have e':=g.keep.1 I o e (P.obj.no hT ho)
  have KX:∀a o,_→a∉_→_:=fun a o(e:_=some o)hX=>g.keep.1 a o e fun p=>hX (p.elim (fun p=>p.L0 S) fun p=>(ho a p).1)
  exact⟨⟨i,lv,xs,⟨o,e',hc,hd⟩,bW hl fun o e=>KX _ o e hX,hq.mono KX g.gm g.gx,((wR hl).elim fun _ e=>g.gx.gS e hX),hv⟩,P.obj.go e g.gm g.gx⟩
 self:=fun P h=>by obtain⟨_,_,_,hit,_⟩:=P.ex;exact wpAny_pyIter_tupleiter hit h
 step:=fun{vs s μ X H Ex}hh _ _ _ P S=>by
  obtain⟨i,lv,xs,hi,hl,hq,hX,hv⟩:=P.ex
  have hIo:=hi
  obtain⟨o,e,hc,hd⟩:=hi
  cases vs with
  |nil=>
   have hlen:lv.length≤i:=by
    have:=congrArg afn hv;simp at this;omega
   have hx:xs.toArray[i]?=none:=by
    have:=hq.length;simp;omega
   refine wpAny_pyNext_tuple_end hh hIo hl hx fun h' he=>⟨rfl,?_⟩
   exact⟨fun a o e q=>he a o (fun e'=>by subst e';exact q.elim (fun q=>P.obj.2.2 q) fun q=>q.elim (fun q=>q P.obj.1) fun q=>P.obj.2.1 q) e,rfl,.refl _⟩
  |cons v vs=>
   have hget:lv[i]?=some v:=by
    have:=congrArg (·[0]?) hv;simp at this;exact this.symm
   obtain⟨u,hu,qu⟩:=hq.get hget
   refine wpAny_pyNext_tuple_item hIo hl (by simpa using hu) fun h' hI' hs=>?_
   have t1:Turn O N0 s μ X {s with heap:=h',toks:=s.toks} X:=.one P.obj (fun b o hb e=>(hs.2 b hb).trans e) (wR hI')
   have P':Of Θ O I l vs {s with heap:=h',toks:=s.toks} μ X:=⟨⟨i+1,lv,xs,hI',bW hl fun o e=>t1.keep _ o e (.inr (.inl hX)),t1.Eb hq,hX,by
    have:=congrArg (ad0 1) hv;simpa using this⟩,P.obj⟩
   refine⟨u,X,rfl,t1,t1.vr qu,fun M3=>?_⟩
   cases t with
   |one x px=>exact oF ⟨X,.refl,t1.vr qu,P'⟩
   |two x px y py p=>
    cases u with
    |ref a=>exact Gy hI' ⟨X,.refl,t1.vr qu,P'⟩
    |_=>exact aag ⟨X,.refl,t1.vr qu,P'⟩
structure SN(O:Addr→Prop)(I:Addr)(vs:List V)(s:aad)(μ X:List Addr):Prop where
 ex:∃(a c:Int)(m:Nat),IsRangeIter s.heap I a m c∧vs=fk a c m
 obj:aQ O μ X I
theorem JV(hT:∀a∈ao,O a){I:Addr}{x:Nat}{px:Pos}:kW w hB Θ O N0 lk A (.ref I) (dT (.one x px)) (SN O I) where
 stay:=fun P S ho g=>by
  obtain⟨a,c,m,e,hv⟩:=P.ex
  exact⟨⟨a,c,m,g.keep.1 I _ e (P.obj.no hT ho),hv⟩,P.obj.go e g.gm g.gx⟩
 self:=fun P h=>by obtain⟨_,_,_,hit,_⟩:=P.ex;exact wpAny_pyIter_rangeiter hit h
 step:=fun{vs s μ X H Ex}hh _ _ _ P S=>by
  obtain⟨a,c,m,e,hv⟩:=P.ex
  cases m with
  |zero=>
   subst hv
   refine wpAny_pyNext_range_end hh e (by simp) fun h' he=>⟨rfl,?_⟩
   exact⟨fun a o e q=>he a o (fun e'=>by subst e';exact q.elim (fun q=>P.obj.2.2 q) fun q=>q.elim (fun q=>q P.obj.1) fun q=>P.obj.2.1 q) e,rfl,.refl _⟩
  |succ m=>
   have hv:vs=.int a::fk (aaK a c) c m:=hv
   subst hv
   refine wpAny_pyNext_range_item e (by omega) fun h' hI' hs=>?_
   have t1:Turn O N0 s μ X {s with heap:=h',toks:=s.toks+1} X:=.one P.obj (fun b o hb e=>(hs.2 b hb).trans e) ⟨_,hI'⟩
   have e1:((m+1:Nat):Int) - 1=(m:Int):=by omega
   rw[e1] at hI'
   exact⟨_,X,rfl,t1,.int _ _,fun M3=>oF ⟨X,.refl,.int _ _,⟨_,_,_,hI',rfl⟩,P.obj⟩⟩
theorem rB{α γ:Type}{Rel:aal→List Addr→List Addr→α→γ→Prop}{res:R α}{m:Sem γ}{Q:γ→aad→Prop}{v:α}(e:res=.ok v H1)
 (hm:res≠.bad→aai (model pw w) A m (QG Rel hB Θ lk s μ X res) (EG hB Θ A lk s μ X res) s) (hk:∀u s' aG X',Goes hB Θ lk s μ X H1 s' aG X'→Rel s'.heap aG X' v u→Q u s'):aai (model pw w) A m Q Ex s:=by
 refine aas (hm (by rw[e];exact fun h=>by exact Ry h)) (fun u s' h=>?_) fun x s' h=>?_
 ·obtain⟨v',H',aG,X',e',g,q⟩:=h
  rw[e] at e';cases e'
  exact hk u s' aG X' g q
 ·obtain⟨c,m,_,_,_,_,e',_⟩:=h
  rw[e] at e';exact U5 e'
theorem SO(F:Fix w K hB Θ){x:Nat}{p:Pos}{u:aac}(hx:x<138)(hk:ks x=some .globalImplicit)(e:IY x=some u)(Y:Ready hB Θ n ks C A env r s μ X H){Q:aac→aad→Prop}(h:Q u s):
 aai (model pw w) A (eval (.Name (nm x) p) env) Q Ex s:=by
 obtain⟨mg,mb,hg,hb,_,hv,_⟩:=F.base.glob
 refine ade (acG Y.fr.kind ((Y.fr.kinds x hx).trans hk) ?_) (pP x)
 have hg':s.heap.Ns env.globals mg:=by rw[Y.fr.glob];exact hg.at' fun o q=>Y.st.base _ o q
 have hb':s.heap.Ns env.builtins mb:=by rw[Y.fr.HJ];exact hb.at' fun o q=>Y.st.base _ o q
 rcases hv x u e with hu|⟨h1,h2⟩
 ·exact adh hg' hu h
 ·exact abM hg' h1 hb' h2 h
theorem call2(F:Fix w K hB Θ){x:Nat}{np p:Pos}{f:aac}(hx:x<138)(hk:ks x=some .globalImplicit)(e:IY x=some f)(hf:∀h,(∀a o,hB.get? a=some o→h.get? a=some o)→jL (model pw w) f h)
 (Y:Ready hB Θ n ks C A env r s μ X H) {cl:CL} {as:List E} (ha:uO w hB Θ n ks cl (fT as)) {vs:List V} (ev:cl C r H=.ok vs H1) {Q:aac→aad→Prop}
 (h:∀us s' aG X',Goes hB Θ C.lk s μ X H1 s' aG X'→VRs Θ s'.heap aG X' vs us→aai (model pw w) A (call f us) Q Ex s'):aai (model pw w) A (eval (.Call (.Name (nm x) np) (fT as) (rX []) p) env) Q Ex s:=by
 refine aew (SO F hx hk e Y ?_)
 refine aev (P:=jL (model pw w) f) (by rw[bw,uZ];rfl) (fun h p=>p) ?_
 refine fh (bw _ _ _) (ng _ _ _) ?_
 refine rB ev (fun hn=>ha C A env r s μ X H Y hn p) fun us s' aG X' g q=>?_
 exact aag ⟨hf _ g.st.base,h us s' aG X' g q⟩
theorem JW{a b:Int}(h:jS a b=true):a<b:=by rw[fM] at h;exact of_decide_eq_true h
theorem jw{i:Int}(h:bJ i=true):-1000000<i∧i<1000000:=by
 have h:(i.natAbs:Int)<1000000:=abK.mpr (aak h)
 exact⟨Int.neg_lt_of_neg_lt (acd (agT i▸afH) h),acd afH h⟩
theorem fits{i:Int}(h1:-3000000<i)(h2:i<3000000):adX i=true:=
 aa1.mpr ⟨decide_eq_true (ahm (by decide) (adS h1)),decide_eq_true (aeX h2 (by decide))⟩
theorem EO{i:Int}(h:-1000000<i∧i<1000000):adX i=true:=fits (aeX (by decide) h.1) (aeX h.2 (by decide))
theorem pY{a b c:Int}{l:List V}(h:lR a b c=some l):∃m:Nat,l=fk a c m∧abg a b c=(m:Int)∧c≠0∧ahT a b c=true∧(-1000000<a∧a<1000000)∧(-1000000<b∧b<1000000)∧(-1000000<c∧c<1000000):=by
 obtain⟨sa,h⟩:=aM h
 obtain⟨sb,h⟩:=aM h
 obtain⟨sc,h⟩:=aM h
 obtain⟨hc,h⟩:=aM h
 obtain⟨hm,h⟩:=aM h
 obtain⟨sm,h⟩:=aM h
 have sa:=jw sa
 have sb:=jw sb
 have sc:=jw sc
 have hc:c≠0:=fun e=>by subst e;exact nb1 hc
 have hm:abg a b c=(abu (abg a b c):Int):=(afu (JW hm)).symm
 refine⟨_,(Z8 h).symm,hm,hc,?_,sa,sb,sc⟩
 show(_&&_&&_&&_&&(_||_))=true
 rw[EO sa,EO sb,EO sc,EO (jw sm)]
 refine aaQ.mpr (.inr ?_)
 split
 ·exact fits (by omega) (by omega)
 ·exact fits (by omega) (by omega)
theorem j5{f:String}{h:aal}:jL (model pw w) (.type f) h:=⟨.machine,.inr (.inl rfl),.now⟩
inductive PD(l:List V):List V→Prop
 |one(b:Int)(h:lR 0 b 1=some l):PD l [.int b]
 |three(a b c:Int)(h:lR a b c=some l):PD l [.int a,.int b,.int c]
theorem JX{as l:List V}(h:AE as=some l):PD l as:=by
 cases as with
 |nil=>exact no1 h
 |cons x as=>
 cases x with
 |int x=>
  cases as with
  |nil=>exact .one _ h
  |cons y as=>
  cases y with
  |int y=>
   cases as with
   |nil=>exact no1 h
   |cons z as=>
   cases z with
   |int z=>
    cases as with
    |nil=>exact .three _ _ _ h
    |cons=>exact no1 h
   |_=>exact no1 h
  |_=>exact no1 h
 |_=>exact no1 h
theorem Dj(F:Fix w K hB Θ){cl:CL}{as:List E}{np p:Pos}{x:Nat}{px:Pos}(hk:ks 59=some .globalImplicit)(ha:uO w hB Θ n ks cl (fT as)):jj w hB Θ n ks (jV cl) (.Call (.Name (nm 59) np) (fT as) (rX []) p) (dT (.one x px)):=fun C A env r s μ X H Y hl y H' he Ex=>by
 have he:(cl C r H).bind (fun as H=>match AE as with|some l=>.ok (l,[]) H|none=>.bad)=.ok y H':=he
 cases ec:cl C r H with
 |bad=>rw[ec] at he;exact nW he
 |exc c m h=>rw[ec] at he;exact LM he
 |ok vs H1=>
 rw[ec] at he
 have he:(match AE vs with|some l=>R.ok (l,([]:List Nat)) H1|none=>.bad)=.ok y H':=he
 cases er:AE vs with
 |none=>rw[er] at he;exact nW he
 |some l=>
 rw[er] at he
 cases he
 refine call2 F (by decide) hk rfl (fun _ _=>j5) Y ha ec fun us s1 aZ X1 g q=>?_
 have fin:∀(a b c:Int)(t u v:Tok)(s2:aad),lR a b c=some l→IsRange s2.heap s1.heap.objs.size a b c t u v→(∀b o,s1.heap.get? b=some o→s2.heap.get? b=some o)→s2.os=s1.os→s2.gens=s1.gens→
  aai (model pw w) A (pyIter (.ref s1.heap.objs.size)) (fun it s2=>zG w hB Θ C.lk [] s μ X H' it (dT (.one x px)) l s2) Ex s2:=by
  intro a b c t u v s2 hr hR Kp ho hg
  obtain⟨m,rfl,hm,hc,hsm,_⟩:=pY hr
  have g2:=g.trans (Goes.bE (lk:=C.lk) (s':=s2) g.st Kp ho hg)
  refine wpAny_pyIter_range hR hsm ?_
  have gf:=Goes.fresh (lk:=C.lk) g2.st {cls:=.type "range_iterator",data:=.fields #[rawInt a,rawInt (abg a b c),rawInt c]} rfl
  exact⟨_,_,[s2.heap.objs.size],g2.trans gf,fun a ha=>by rw[aaq.mp ha];exact⟨fj g2.keep.2 (aF _),aau _ (by simp)⟩,fun O hT hO _=>⟨_,JV hT,⟨_,_,_,by rw[←hm];exact aaw _ rfl,rfl⟩,ny g2.st (hO _ (by simp))⟩⟩
 cases JX er with
 |one b er=>
  replace q:=q.inv;cases q with
  |cons q1 q2=>
  (replace q2:=q2.inv;cases q2)
  replace q1:=q1.inv;cases q1 with
  |int t=>
  refine call_range_1 ?_
  exact fin 0 _ 1 _ _ _ _ er (ahJ ..) (bx _) rfl rfl
 |three a b c er=>
  replace q:=q.inv;cases q with
  |cons q1 q2=>
  replace q2:=q2.inv;cases q2 with
  |cons q2 q3=>
  replace q3:=q3.inv;cases q3 with
  |cons q3 q4=>
  (replace q4:=q4.inv;cases q4)
  replace q1:=q1.inv;cases q1 with
  |int t=>
  replace q2:=q2.inv;cases q2 with
  |int u=>
  replace q3:=q3.inv;cases q3 with
  |int v=>
  obtain⟨_,_,_,hc,_,sa,sb,sc⟩:=pY er
  refine call_range_3 hc ?_ (.inl (ae0 (by omega)))
  exact fin _ _ _ _ _ _ _ er (ahJ ..) (bx _) rfl rfl
theorem JY(g:Goes hB Θ C.lk s μ X H1 s1 aZ X1)(S0:St hB Θ s.heap μ X H){v:V}{u:aac}{l:List V}{t:T}(q:VR Θ s1.heap aZ X1 v u)(h:gc H1 v=some l){Ex:aac→aad→Prop}:
 aai (model pw w) A (pyIter u) (fun it s2=>zG w hB Θ C.lk (cY v) s μ X H1 it (dT t) l s2) Ex s1:=by
 cases v with
 |tup m=>
  (first|(replace h:=(Z8 h).symm;subst h)|cases h)
  replace q:=q.inv;cases q with
  |@tup a xs ha hX hl=>
  refine wpAny_pyIter_tuple ha ?_
  have gf:=Goes.fresh (lk:=C.lk) g.st {cls:=.type "tuple_iterator",data:=.fields #[.ref a,.int 0 0]} rfl
  refine⟨aZ,_,[s1.heap.objs.size],g.trans gf,fun a ha=>by rw[aaq.mp ha];exact⟨fj g.keep.2 (aF _),aau _ (by simp)⟩,fun O hT hO _=>⟨_,JU (l:=a) hT,⟨⟨0,l,xs,⟨_,aaw _ rfl,rfl,rfl⟩,bW ha fun o e=>bx _ _ _ e,gf.Eb g.st hl,?_,by simp⟩,ny g.st (hO _ (by simp))⟩⟩⟩
  obtain⟨o,e,_⟩:=ha
  exact jY (fun a ha=>by rw[aaq.mp ha];exact aF _) e hX
 |lst m=>exact xU g S0 q h
 |ref k=>exact xU g S0 q h
 |_=>exact no1 h
theorem iA{ca:CE}{e:Expr}{t:T}(ha:aX w hB Θ n ks ca e):jj w hB Θ n ks (iV ca) e (dT t):=fun C A env r s μ X H Y hl y H' he Ex=>by
 have he:(ca C r H).bind (fun v H=>match gc H v with|some l=>.ok (l,cY v) H|none=>.bad)=.ok y H':=he
 cases ec:ca C r H with
 |bad=>rw[ec] at he;exact nW he
 |exc c m h=>rw[ec] at he;exact LM he
 |ok v H1=>
 rw[ec] at he
 have he:(match gc H1 v with|some l=>R.ok (l,cY v) H1|none=>.bad)=.ok y H':=he
 cases er:gc H1 v with
 |none=>rw[er] at he;exact nW he
 |some l=>
 rw[er] at he
 cases he
 exact rB ec (ha C A env r s μ X H Y) fun u s1 aZ X1 g q=>JY g Y.st q er
structure PI(Θ:Th)(O:Addr→Prop)(lk:List Nat)(E I l:Addr)(vs:List V)(s:aad)(μ X:List Addr):Prop where
 ex:∃(i:Nat)(lv:List V)(old:aac),IsEnum s.heap E I i old∧s.heap.IsListIter I l i∧lA Θ lk s μ X l lv∧vs=xo (lv.drop i) i
 objE:aQ O μ X E
 Dk:aQ O μ X I
 ne:E≠I
theorem Turn.two{I J:Addr}(hI:aQ O μ X I)(hJ:aQ O μ X J){h':aal}{tk:Nat}(hs:∀b o,b≠I→b≠J→s.heap.get? b=some o→h'.get? b=some o)(eI:∃o,h'.get? I=some o)(eJ:∃o,h'.get? J=some o):Turn O N0 s μ X {s with heap:=h',toks:=tk} X where
 gx:=.refl
 new a q q':=absurd q q'
 keep a o e q:=hs a o (fun e'=>by subst e';exact q.elim (fun q=>hI.2.2 q) fun q=>q.elim (fun q=>q hI.1) fun q=>hI.2.1 q) (fun e'=>by subst e';exact q.elim (fun q=>hJ.2.2 q) fun q=>q.elim (fun q=>q hJ.1) fun q=>hJ.2.1 q) e
 stay a o e:=by
  by_cases hb:a=I
  ·subst hb;exact eI
  ·by_cases hc:a=J
   ·subst hc;exact eJ
   ·exact⟨o,hs a o hb hc e⟩
 os:=rfl
 gens:=.refl _
theorem Gz(hT:∀a∈ao,O a){E I l:Addr}{x y:Nat}{px py p:Pos}:kW w hB Θ O N0 lk A (.ref E) (dT (.two x px y py p)) (PI Θ O lk E I l) where
 stay:=fun P S ho g=>by
  obtain⟨i,lv,old,eE,⟨o,e,hc,hd⟩,hl,hv⟩:=P.ex
  have e':=g.keep.1 I o e (P.Dk.no hT ho)
  have Yk:=g.keep.1 E _ eE (P.objE.no hT ho)
  exact⟨⟨i,lv,old,Yk,⟨o,e',hc,hd⟩,hl.stay S ho g,hv⟩,P.objE.go eE g.gm g.gx,P.Dk.go e g.gm g.gx,P.ne⟩
 self:=fun P h=>by obtain⟨_,_,_,hit,_⟩:=P.ex;exact aeA hit h
 step:=fun{vs s μ X H Ex}hh _ _ _ P S=>by
  obtain⟨i,lv,old,eE,hi,hl,hv⟩:=P.ex
  obtain⟨xs,hxs,hq⟩:=hl.at_
  have hIo:=hi
  obtain⟨o,e,hc,hd⟩:=hi
  cases vs with
  |nil=>
   have hlen:lv.length≤i:=by
    cases hd':lv.drop i with
    |nil=>simpa using hd'
    |cons a t=>rw[hd'] at hv;cases hv
   have hx:xs.toArray[i]?=none:=by
    have:=hq.length;simp;omega
   refine wpAny_pyNext_enum_end hh eE hIo hxs.isList hx fun h' he=>⟨rfl,?_⟩
   exact⟨fun a o e q=>he a o (fun e'=>by subst e';exact q.elim (fun q=>P.Dk.2.2 q) fun q=>q.elim (fun q=>q P.Dk.1) fun q=>P.Dk.2.1 q) e,rfl,.refl _⟩
  |cons v vs=>
   obtain⟨c,hget,Yl,hvs⟩:∃c,lv[i]?=some c∧v=.tup [.int (aaa i),c]∧vs=xo (lv.drop (i+1)) (i+1):=by
    cases hd':lv.drop i with
    |nil=>rw[hd'] at hv;cases hv
    |cons a t=>
     rw[hd'] at hv
     have hv:v::vs=.tup [.int (aaa i),a]::xo t (i+1):=hv
     have h1:=congrArg (·[0]?) hd'
     have h2:=congrArg (ad0 1) hd'
     simp at h1 h2
     cases hv
     exact⟨a,h1,rfl,by rw[h2]⟩
   obtain⟨u,hu,qu⟩:=hq.get hget
   refine wpAny_pyNext_enum_item eE hIo hxs.isList (by simpa using hu) P.ne fun h' W0 hI' Vq _ hs=>?_
   have t1:Turn O N0 s μ X {s with heap:=h',toks:=s.toks+1} X:=.two P.objE P.Dk hs ⟨_,W0⟩ (wR hI')
   have hq':VR Θ h' μ X v (.ref s.heap.objs.size):=by
    rw[Yl]
    exact .tup (xs:=[.int i s.toks,u]) ⟨_,Vq,rfl,_,rfl⟩ (S.fresh (aF _)) (.cons (.int _ _) (.cons (t1.vr qu) .nil))
   refine⟨_,X,rfl,t1,hq',fun M3=>?_⟩
   refine aeg W0 fun h2 W2 hs2=>?_
   have t2:Turn O N0 {s with heap:=h',toks:=s.toks+1} μ X {s with heap:=h2,toks:=s.toks+1} X:=.one (s:={s with heap:=h',toks:=s.toks+1}) P.objE (fun b o hb e=>(hs2.2 b hb).trans e) ⟨_,W2⟩
   refine⟨X,t2,t2.vr hq',⟨i+1,lv,_,W2,?_,(hl.turn t1).turn t2,hvs⟩,P.objE,P.Dk,P.ne⟩
   obtain⟨o2,e2,c2,d2⟩:=hI'
   exact⟨o2,(hs2.2 I (acp P.ne)).trans e2,c2,d2⟩
theorem Turn.some{L:List Addr}{h':aal}{tk:Nat}(hL:∀a∈L,aQ O μ X a∧∃o,h'.get? a=some o)(hs:∀b o,b∉L→s.heap.get? b=some o→h'.get? b=some o):Turn O N0 s μ X {s with heap:=h',toks:=tk} X where
 gx:=.refl
 new a q q':=absurd q q'
 keep a o e q:=hs a o (fun e'=>by have hI:=(hL a e').1;exact q.elim (fun q=>hI.2.2 q) fun q=>q.elim (fun q=>q hI.1) fun q=>hI.2.1 q) e
 stay a o e:=by
  by_cases hb:a∈L
  ·exact(hL a hb).2
  ·exact⟨o,hs a o hb e⟩
 os:=rfl
 gens:=.refl _
structure JZ(Θ:Th)(O:Addr→Prop)(lk:List Nat)(z TI TO i1 i2 l1 l2:Addr)(vs:List V)(s:aad)(μ X:List Addr):Prop where
 ex:∃(i:Nat)(PJ PM:List V)(a b:aac),IsZip s.heap z TI TO .none∧IsPair s.heap TI (.ref i1) (.ref i2)∧IsPair s.heap TO a b∧s.heap.IsListIter i1 l1 i∧s.heap.IsListIter i2 l2 i∧
  lA Θ lk s μ X l1 PJ∧lA Θ lk s μ X l2 PM∧vs=wK (PJ.drop i) (PM.drop i)
 oz:aQ O μ X z
 Vr:aQ O μ X TI
 SP:aQ O μ X TO
 o1:aQ O μ X i1
 o2:aQ O μ X i2
 ne:TI≠TO∧i1≠i2
theorem J0{l m:List V}(h:[]=wK l m):l=[]∨m=[]:=by
 cases l with
 |nil=>exact .inl rfl
 |cons a t=>cases m with
  |nil=>exact .inr rfl
  |cons b u=>cases h
theorem GA{v:V}{vs l m:List V}(h:v::vs=wK l m):∃a t b u,l=a::t∧m=b::u∧v=.tup [a,b]∧vs=wK t u:=by
 cases l with
 |nil=>cases h
 |cons a t=>cases m with
  |nil=>cases h
  |cons b u=>
   have h:v::vs=.tup [a,b]::wK t u:=h
   cases h
   exact⟨a,t,b,u,rfl,rfl,rfl,rfl⟩
theorem JZ.apart{z TI TO i1 i2 l1 l2:Addr}{a b:aac}{k1 k2:Nat}{xs ys:List aac}(hz:IsZip s.heap z TI TO .none)(hTI:IsPair s.heap TI (.ref i1) (.ref i2))(hTO:IsPair s.heap TO a b)(h1:s.heap.IsListIter i1 l1 k1)(h2:s.heap.IsListIter i2 l2 k2)
 (x1:LstAt s.heap l1 xs.toArray) (x2:LstAt s.heap l2 ys.toArray) (ne:TI≠TO∧i1≠i2):ZipApart z TI TO i1 i2 l1 l2:=by
 obtain⟨o1,e1,c1,_⟩:=h1
 obtain⟨o2,e2,c2,_⟩:=h2
 obtain⟨n1,f1⟩:=x1
 obtain⟨n2,f2⟩:=x2
 have neq:∀{a b:Addr}{o o':Obj},s.heap.get? a=afo o→s.heap.get? b=afo o'→o.cls≠o'.cls→a≠b:=fun ea eb hc h=>hc (by subst h;rw[ea] at eb;(first|(replace eb:=(Z8 eb).symm;subst eb)|cases eb);rfl)
 have SQ:o1.cls=.type "list_iterator":=c1
 have SR:o2.cls=.type "list_iterator":=c2
 exact{
  TIz:=neq hTI hz (by simp)
  TOz:=neq hTO hz (by simp)
  i1z:=neq e1 hz (by simp[SQ])
  i2z:=neq e2 hz (by simp[SR])
  TITO:=ne.1
  TIi1:=neq hTI e1 (by simp[SQ])
  TIi2:=neq hTI e2 (by simp[SR])
  TOi1:=neq hTO e1 (by simp[SQ])
  TOi2:=neq hTO e2 (by simp[SR])
  i12:=ne.2
  l1z:=neq f1 hz (by simp)
  l1TO:=neq f1 hTO (by simp)
  l1i1:=neq f1 e1 (by simp[SQ])
  l1i2:=neq f1 e2 (by simp[SR])
  l2z:=neq f2 hz (by simp)
  l2TO:=neq f2 hTO (by simp)
  l2i1:=neq f2 e1 (by simp[SQ])
  l2i2:=neq f2 e2 (by simp[SR])}
theorem J1(hT:∀a∈ao,O a){z TI TO i1 i2 l1 l2:Addr}{x y:Nat}{px py p:Pos}:kW w hB Θ O N0 lk A (.ref z) (dT (.two x px y py p)) (JZ Θ O lk z TI TO i1 i2 l1 l2) where
 stay:=fun P S ho g=>by
  obtain⟨i,PJ,PM,a,b,hz,hTI,hTO,⟨p1,e1,c1,d1⟩,⟨p2,e2,c2,d2⟩,hl1,hl2,hv⟩:=P.ex
  refine⟨⟨i,PJ,PM,a,b,g.keep.1 z _ hz (P.oz.no hT ho),g.keep.1 TI _ hTI (P.Vr.no hT ho),g.keep.1 TO _ hTO (P.SP.no hT ho),⟨p1,g.keep.1 i1 _ e1 (P.o1.no hT ho),c1,d1⟩,⟨p2,g.keep.1 i2 _ e2 (P.o2.no hT ho),c2,d2⟩,hl1.stay S ho g,hl2.stay S ho g,hv⟩,
   P.oz.go hz g.gm g.gx,P.Vr.go hTI g.gm g.gx,P.SP.go hTO g.gm g.gx,P.o1.go e1 g.gm g.gx,P.o2.go e2 g.gm g.gx,P.ne⟩
 self:=fun P h=>by obtain⟨_,_,_,_,_,hit,_⟩:=P.ex;exact agy hit h
 step:=fun{vs s μ X H Ex}hh _ _ _ P S=>by
  obtain⟨i,PJ,PM,a,b,hz,hTI,hTO,h1,h2,hl1,hl2,hv⟩:=P.ex
  obtain⟨xs,hxs,hq1⟩:=hl1.at_
  obtain⟨ys,hys,hq2⟩:=hl2.at_
  have D:=JZ.apart hz hTI hTO h1 h2 hxs hys P.ne
  cases vs with
  |nil=>
   refine wpAny_pyNext_zip_end hh D hz hTI hTO h1 h2 hxs.isList hys.isList ?_ fun h' he=>⟨rfl,?_⟩
   ·rcases J0 hv with hd|hd
    ·have:=hq1.length;exact .inl (by simp at hd ⊢;omega)
    ·have:=hq2.length;exact .inr (by simp at hd ⊢;omega)
   ·have no:∀a,aQ O μ X a→(O a∨a∉X∨a∈μ)→False:=fun a hI q=>q.elim (fun q=>hI.2.2 q) fun q=>q.elim (fun q=>q hI.1) fun q=>hI.2.1 q
    exact⟨fun a o e q=>he a o (fun e'=>no a (e'▸P.oz) q) (fun e'=>no a (e'▸P.SP) q) (fun e'=>no a (e'▸P.o1) q) (fun e'=>no a (e'▸P.o2) q) e,rfl,.refl _⟩
  |cons v vs=>
   obtain⟨va,ta,vb,tb,ea,eb,rfl,rfl⟩:=GA hv
   have ga:PJ[i]?=afo va:=by have:=congrArg (·[0]?) ea;simpa using this
   have gb:PM[i]?=afo vb:=by have:=congrArg (·[0]?) eb;simpa using this
   obtain⟨u1,hu1,Ym⟩:=hq1.get ga
   obtain⟨u2,Yn,Yo⟩:=hq2.get gb
   refine wpAny_pyNext_zip_item D hz hTI hTO h1 h2 hxs.isList hys.isList (by simpa using hu1) (by simpa using Yn) fun h' hz' SS Ux h2' Vq _ hs=>?_
   have t1:Turn O N0 s μ X {s with heap:=h',toks:=s.toks} X:=.some (L:=[z,TO,i1,i2]) (fun c hc=>by
    simp only [aar,aaM,or_false] at hc
    rcases hc with rfl|rfl|rfl|rfl
    ·exact⟨P.oz,_,hz'⟩
    ·exact⟨P.SP,_,SS⟩
    ·exact⟨P.o1,wR Ux⟩
    ·exact⟨P.o2,wR h2'⟩) fun c o hc e=>by
     simp only [aar,aaM,or_false,not_or] at hc
     exact hs c o hc.1 hc.2.1 hc.2.2.1 hc.2.2.2 e
   have hq':VR Θ h' μ X (.tup [va,vb]) (.ref s.heap.objs.size):=
    .tup (xs:=[u1,u2]) ⟨_,Vq,rfl,_,rfl⟩ (S.fresh (aF _)) (.cons (t1.vr Ym) (.cons (t1.vr Yo) .nil))
   refine⟨_,X,rfl,t1,hq',fun M3=>?_⟩
   refine wpAny_letOwnedTupleGo_zip hz' fun h2 hz2 hs2=>?_
   have t2:Turn O N0 {s with heap:=h',toks:=s.toks} μ X {s with heap:=h2,toks:=s.toks} X:=.one (s:={s with heap:=h',toks:=s.toks}) P.oz (fun b o hb e=>(hs2.2 b hb).trans e) ⟨_,hz2⟩
   have Vs:IsPair h' TI (.ref i1) (.ref i2):=hs TI _ D.TIz D.TITO D.TIi1 D.TIi2 hTI
   refine⟨X,t2,t2.vr hq',⟨i+1,PJ,PM,u1,u2,hz2,(hs2.2 TI D.TIz).trans Vs,(hs2.2 TO D.TOz).trans SS,?_,?_,(hl1.turn t1).turn t2,(hl2.turn t1).turn t2,?_⟩,P.oz,P.Vr,P.SP,P.o1,P.o2,P.ne⟩
   ·obtain⟨o2,e2,c2,d2⟩:=Ux
    exact⟨o2,(hs2.2 i1 D.i1z).trans e2,c2,d2⟩
   ·obtain⟨o2,e2,c2,d2⟩:=h2'
    exact⟨o2,(hs2.2 i2 D.i2z).trans e2,c2,d2⟩
   ·have h3:=congrArg (ad0 1) ea
    have h4:=congrArg (ad0 1) eb
    simp at h3 h4
    rw[h3,h4]
theorem kX(h:aal)(k:Nat):h.get? (h.objs.size+k)=none:=by
 cases e:h.get? (h.objs.size+k) with
 |none=>rfl
 |some o=>exact absurd (aa7 e) (abt.mpr (abb _ _))
theorem Goes.mK(S:St hB Θ s.heap μ X H){h':aal}{tk:Nat}(Kp:∀a o,s.heap.get? a=some o→h'.get? a=some o)(ν:List Addr)(jh:∀a∈ν,s.heap.get? a=none∧∃o,h'.get? a=some o):Goes hB Θ lk s μ X H {s with heap:=h',toks:=tk} μ (X++ν):=
 ⟨S.frame (P:=fun _=>False) (.mono (.jJ Kp) fun _ _ _ x=>x) (fun _ _ _ x=>x.elim) _ jh,.refl,⟨_,rfl,fun a ha=>(jh a ha).1⟩,.jJ Kp,rfl,.refl _⟩
theorem j6(S:St hB Θ s.heap μ X H){ν:List Addr}{a:Addr}(ha:a∈ν)(e:s.heap.get? a=none)(hO:¬O a):aQ O μ (X++ν) a:=⟨aau _ ha,fun hm=>S.fresh e (S.wH _ hm),hO⟩
theorem zH(g:Goes hB Θ C.lk s μ X H1 s1 aZ X1){v:V}{u:aac}{l:List V}(q:VR Θ s1.heap aZ X1 v u)(h:items H1 v=some l):∃p xs,u=.ref p∧LstAt s1.heap p xs.toArray∧VRs Θ s1.heap aZ X1 l xs∧(p∉X1∨∃k,k∈cY v∧aZ[k]?=some p):=by
 obtain⟨p,xs,rfl,hp,hq⟩:=bI g.st q h
 refine⟨p,xs,rfl,hp,hq,?_⟩
 cases v with
 |lst m=>replace q:=q.inv;cases q with|lst ha hX hl=>exact .inl hX
 |ref k=>replace q:=q.inv;cases q with|ref hn=>exact .inr ⟨k,by simp[cY],hn⟩
 |_=>exact no1 h
theorem lA.new{N9:List Nat}{l:List V}{p:Addr}{xs:List aac}(S:St hB Θ s.heap μ X H){h':aal}{tk:Nat}{ν:List Addr}(gf:Goes hB Θ lk s μ X H {s with heap:=h',toks:=tk} μ (X++ν))(Kp:∀a o,s.heap.get? a=some o→h'.get? a=some o)(jh:∀a∈ν,s.heap.get? a=none)
 (hp:LstAt s.heap p xs.toArray) (hq:VRs Θ s.heap μ X l xs) (hs:p∉X∨∃k,k∈N9∧μ[k]?=some p):lA Θ N9 {s with heap:=h',toks:=tk} μ (X++ν) p l:=by
 refine⟨⟨xs,bS hp (Kp p),gf.Eb S hq⟩,hs.imp (fun hX=>?_) id⟩
 obtain⟨j,e⟩:=hp
 exact jY jh e hX
theorem GB(F:Fix w K hB Θ){ca:CE}{a:E}{np p:Pos}{x y:Nat}{px py pp:Pos}(hk:ks 129=some .globalImplicit)(ha:aX w hB Θ n ks ca (dE a)):jj w hB Θ n ks (D7 ca) (.Call (.Name (nm 129) np) (fT [a]) (rX []) p) (dT (.two x px y py pp)):=fun C A env r s μ X H Y hl z H' he Ex=>by
 have he:(ca C r H).bind (fun v H=>match items H v with|some l=>.ok (xo l 0,cY v) H|none=>.bad)=.ok z H':=he
 cases ec:ca C r H with
 |bad=>rw[ec] at he;exact nW he
 |exc c m h=>rw[ec] at he;exact LM he
 |ok v H1=>
 rw[ec] at he
 have he:(match items H1 v with|some l=>R.ok (xo l 0,cY v) H1|none=>.bad)=.ok z H':=he
 cases er:items H1 v with
 |none=>rw[er] at he;exact nW he
 |some l=>
 rw[er] at he
 cases he
 have ev:aa ca aj C r H=.ok [v] H':=by
  show(ca C r H).bind _=_;rw[ec];rfl
 refine call2 F (by decide) hk rfl (fun _ _=>j5) Y (iK ha mw) ev fun us s1 aZ X1 g q=>?_
 replace q:=q.inv;cases q with
 |cons q q2=>
 (replace q2:=q2.inv;cases q2)
 obtain⟨p,xs,rfl,hp,hq,hs⟩:=zH g q er
 refine call_enumerate_list hp.isList fun h' hE hI _ Kp=>?_
 refine aeA hE ?_
 have jh:∀a∈[s1.heap.objs.size,s1.heap.objs.size+1],s1.heap.get? a=none:=fun a ha=>by
  simp only [aar,aaM,or_false] at ha
  rcases ha with rfl|rfl
  ·exact aF _
  ·exact kX _ 1
 have gf:=Goes.mK (lk:=C.lk) (tk:=s1.toks) g.st Kp [s1.heap.objs.size,s1.heap.objs.size+1] fun a ha=>⟨jh a ha,by
  simp only [aar,aaM,or_false] at ha
  rcases ha with rfl|rfl
  ·obtain⟨o,e,_⟩:=hI;exact⟨o,e⟩
  ·exact⟨_,hE⟩⟩
 refine⟨_,_,[s1.heap.objs.size,s1.heap.objs.size+1],g.trans gf,fun a ha=>⟨fj g.keep.2 (jh a ha),aau _ ha⟩,fun O hT hO _=>⟨_,Gz (I:=s1.heap.objs.size) (l:=p) hT,⟨0,l,.none,hE,hI,?_,by simp⟩,j6 g.st (by simp) (jh _ (by simp)) (hO _ (by simp)),j6 g.st (by simp) (jh _ (by simp)) (hO _ (by simp)),ab8 _⟩⟩
 exact .new g.st gf Kp jh hp hq (hs.imp id fun q=>q.imp fun k q=>⟨by rw[aO];exact aaT _ q.1,q.2⟩)
theorem J2(F:Fix w K hB Θ){ca cb:CE}{a b:E}{np p:Pos}{x y:Nat}{px py pp:Pos}(hk:ks 127=some .globalImplicit)(ha:aX w hB Θ n ks ca (dE a))(hb:aX w hB Θ n ks cb (dE b)):jj w hB Θ n ks (OW ca cb) (.Call (.Name (nm 127) np) (fT [a,b]) (rX []) p) (dT (.two x px y py pp)):=fun C A env r s μ X H Y hl z H' he Ex=>by
 have he:(ca C r H).bind (fun v H=>(cb C r H).bind fun u H=>match items H v with
  |some l=>match items H u with
   |some m=>.ok (wK l m,au (cY v) (cY u)) H
   |none=>.bad
  |none=>.bad)=.ok z H':=he
 cases ec:ca C r H with
 |bad=>rw[ec] at he;exact nW he
 |exc c m h=>rw[ec] at he;exact LM he
 |ok v H1=>
 rw[ec] at he
 have he:(cb C r H1).bind (fun u H=>match items H v with
  |some l=>match items H u with
   |some m=>R.ok (wK l m,au (cY v) (cY u)) H
   |none=>.bad
  |none=>.bad)=.ok z H':=he
 cases UB:cb C r H1 with
 |bad=>rw[UB] at he;exact nW he
 |exc c m h=>rw[UB] at he;exact LM he
 |ok u H2=>
 rw[UB] at he
 have he:(match items H2 v with
  |some l=>match items H2 u with
   |some m=>R.ok (wK l m,au (cY v) (cY u)) H2
   |none=>.bad
  |none=>.bad)=.ok z H':=he
 cases er:items H2 v with
 |none=>rw[er] at he;exact nW he
 |some l=>
 rw[er] at he
 have he:(match items H2 u with
  |some m=>R.ok (wK l m,au (cY v) (cY u)) H2
  |none=>.bad)=.ok z H':=he
 cases Vt:items H2 u with
 |none=>rw[Vt] at he;exact nW he
 |some m=>
 rw[Vt] at he
 cases he
 have ev:aa ca (aa cb aj) C r H=.ok [v,u] H':=by
  show(ca C r H).bind _=_;rw[ec]
  show((cb C r H1).bind _).bind _=_;rw[UB];rfl
 refine call2 F (by decide) hk rfl (fun _ _=>j5) Y (iK ha (iK hb mw)) ev fun us s1 aZ X1 g q=>?_
 replace q:=q.inv;cases q with
 |cons q q2=>
 replace q2:=q2.inv;cases q2 with
 |cons q2 q3=>
 (replace q3:=q3.inv;cases q3)
 obtain⟨p1,xs,rfl,hp1,hq1,hs1⟩:=zH g q er
 obtain⟨p2,ys,rfl,hp2,hq2,hs2⟩:=zH g q2 Vt
 refine call_zip_2 hp1.isList hp2.isList fun h' hz hTI hTO h1 h2 _ Kp=>?_
 refine agy hz ?_
 have jh:∀a∈[s1.heap.objs.size,s1.heap.objs.size+1,s1.heap.objs.size+2,s1.heap.objs.size+3,s1.heap.objs.size+4],s1.heap.get? a=none:=fun a ha=>by
  simp only [aar,aaM,or_false] at ha
  rcases ha with rfl|rfl|rfl|rfl|rfl
  ·exact aF _
  ·exact kX _ 1
  ·exact kX _ 2
  ·exact kX _ 3
  ·exact kX _ 4
 have gf:=Goes.mK (lk:=C.lk) (tk:=s1.toks) g.st Kp _ fun a ha=>⟨jh a ha,by
  simp only [aar,aaM,or_false] at ha
  rcases ha with rfl|rfl|rfl|rfl|rfl
  ·obtain⟨o,e,_⟩:=h1;exact⟨o,e⟩
  ·obtain⟨o,e,_⟩:=h2;exact⟨o,e⟩
  ·exact⟨_,hTI⟩
  ·exact⟨_,hTO⟩
  ·exact⟨_,hz⟩⟩
 have ob:∀O:Addr→Prop,(∀a∈[s1.heap.objs.size,s1.heap.objs.size+1,s1.heap.objs.size+2,s1.heap.objs.size+3,s1.heap.objs.size+4],¬O a)→∀a∈[s1.heap.objs.size,s1.heap.objs.size+1,s1.heap.objs.size+2,s1.heap.objs.size+3,s1.heap.objs.size+4],aQ O aZ (X1++[s1.heap.objs.size,s1.heap.objs.size+1,s1.heap.objs.size+2,s1.heap.objs.size+3,s1.heap.objs.size+4]) a:=
  fun O hO a ha=>j6 g.st ha (jh a ha) (hO a ha)
 refine⟨_,_,[s1.heap.objs.size,s1.heap.objs.size+1,s1.heap.objs.size+2,s1.heap.objs.size+3,s1.heap.objs.size+4],g.trans gf,fun a ha=>⟨fj g.keep.2 (jh a ha),aau _ ha⟩,fun O hT hO _=>⟨_,J1 (TI:=s1.heap.objs.size+2) (TO:=s1.heap.objs.size+3) (i1:=s1.heap.objs.size) (i2:=s1.heap.objs.size+1) (l1:=p1) (l2:=p2) hT,
  ⟨0,l,m,.none,.none,hz,hTI,hTO,h1,h2,?_,?_,by simp⟩,ob O hO _ (by simp),ob O hO _ (by simp),ob O hO _ (by simp),ob O hO _ (by simp),ob O hO _ (by simp),(ab8 _).symm,(ab8 _).symm⟩⟩
 ·exact .new g.st gf Kp jh hp1 hq1 (hs1.imp id fun q=>q.imp fun k q=>⟨by rw[aO,aO];exact aaT _ (aaT _ q.1),q.2⟩)
 ·exact .new g.st gf Kp jh hp2 hq2 (hs2.imp id fun q=>q.imp fun k q=>⟨by rw[aO,aO];exact aaT _ (aau _ q.1),q.2⟩)
structure SV(O:Addr→Prop)(I d:Addr)(vs:List V)(s:aad)(μ X:List Addr):Prop where
 ex:vs=[]∧∃ep,IsItemIter s.heap I d 0 0 ep .none .none∧s.heap.get? d=some {cls:=.type "dict",dict:=none,data:=.dict #[] ep,slots:=#[]}∧d∉X
 obj:aQ O μ X I
theorem emptyDict{h:aal}{d:Addr}{ep:Nat}(e:h.get? d=some {cls:=.type "dict",dict:=none,data:=.dict #[] ep,slots:=#[]}):h.DictAt (strKind pw w) d [] ep:=
 ⟨_,#[],e,⟨rfl,rfl,rfl⟩,rfl,fun x hx=>by simp at hx,.nil,afb⟩
theorem nL:entryFor table "dict_itemiterator.__iter__"=some Builtin.«dict_keyiterator.__iter__»:=
 entryFor_alias (id':="dict_keyiterator.__iter__") ⋯ (by first|rfl|decide+kernel|(unfold String.splitOn;simp+decide [String.splitOnAux])) (by decide+kernel) ⋯
theorem tD{it d:Addr}{i n ep:Nat}{ok ov:aac}{Q:aac→aad→Prop}(hit:IsItemIter s.heap it d i n ep ok ov)(h:Q (.ref it) s):aai (model pw w) A (pyIter (.ref it)) Q Ex s:=by
 have hT:s.TypeIs (.ref it) "dict_itemiterator":=⟨_,hit,rfl⟩
 refine wpAny_pyIter_slot hT ac5 (acT ac5 hT nL ?_ (PySem.F.args_dict_itemiterator_iter_1 _))
 show aai _ _ (ret (.ref it)) _ _ s
 exact aag ⟨_,rfl,"dict_itemiterator",_,hT,PySem.F.slot_dict_itemiterator_next.lookup,h⟩
theorem J3(hT:∀a∈ao,O a){I d:Addr}{tg:Expr}:kW w hB Θ O N0 lk A (.ref I) tg (SV O I d) where
 stay:=fun P S ho g=>by
  obtain⟨hv,ep,e,ed,hX⟩:=P.ex
  refine⟨⟨hv,ep,g.keep.1 I _ e (P.obj.no hT ho),g.keep.1 d _ ed fun p=>hX (p.elim (fun p=>p.L0 S) fun p=>(ho d p).1),g.gx.gS ed hX⟩,P.obj.go e g.gm g.gx⟩
 self:=fun P h=>by obtain⟨_,_,hit,_⟩:=P.ex;exact tD hit h
 step:=fun{vs s μ X H Ex}hh _ _ _ P S=>by
  obtain⟨rfl,ep,e,ed,hX⟩:=P.ex
  refine wpAny_pyNext_items_end hh e (emptyDict (w:=w) ed) rfl fun h' he=>⟨rfl,?_⟩
  exact⟨fun a o e q=>he a o (fun e'=>by subst e';exact q.elim (fun q=>P.obj.2.2 q) fun q=>q.elim (fun q=>q P.obj.1) fun q=>P.obj.2.1 q) e,rfl,.refl _⟩
theorem Vu:nm 54=("items":Str):=by decide+kernel
theorem J4{ca:CE}{o:E}{apos p:Pos}{tg:Expr}(ha:aX w hB Θ n ks ca (dE o))(hb:baseOk o=true)(hline:(apos.endLine==p.line)=true):jj w hB Θ n ks (OX ca) (.Call (.Attribute (dE o) (nm 54) apos) (fT []) (rX []) p) tg:=fun C A env r s μ X H Y hl z H' he Ex=>by
 have he:(ca C r H).bind (fun v H=>match v with|.dct=>.ok ([],[]) H|_=>.bad)=.ok z H':=he
 cases ec:ca C r H with
 |bad=>rw[ec] at he;exact nW he
 |exc c m h=>rw[ec] at he;exact LM he
 |ok v H1=>
 rw[ec] at he
 have he:(match v with|.dct=>R.ok (([]:List V),([]:List Nat)) H1|_=>.bad)=.ok z H':=he
 cases v with
 |dct=>
  cases he
  refine wpAny_Call_method (T:="dict") (id:="dict.items") (args:=[]) (zu hb _ _ _) rfl hline PySem.F.plainAttrs_dict (by rw[Vu];exact aeU) PySem.F.type_dict_items ?_
  refine rB ec (ha C A env r s μ X H Y) fun u s1 aZ X1 g q=>?_
  replace q:=q.inv;cases q with
  |@dct a k ed hs hX=>
  have hT:s1.TypeIs (.ref a) "dict":=⟨_,ed,rfl⟩
  have hm:s1.heap.DictOf (strKind pw w) a []:=(emptyDict (w:=w) ed).dictOf
  refine⟨hT,fun b hb=>by cases hb;exact⟨_,ed,rfl⟩,?_⟩
  refine method_meetsIn aeU PySem.F.entry_dict_items rfl (PySem.evalArgs_none ⟨rfl,hT,PySem.F.args_dict_items_1 _,_,meets_dict_items (strKind pw w) a hs,⟨_,hm⟩,?_⟩)
  have g1:=g.trans (Goes.bE (lk:=C.lk) (s':={s1 with heap:=s1.heap.push {cls:=.type "dict_items",data:=.fields #[.ref a]}}) g.st (bx _))
  have Vv:=bx (h:=s1.heap) {cls:=.type "dict_items",data:=.fields #[.ref a]} a _ ed
  refine wpAny_pyIter_items ⟨_,aaw _ rfl,rfl,rfl⟩ (emptyDict (w:=w) Vv) ?_
  have gf:=Goes.fresh (lk:=C.lk) g1.st {cls:=.type "dict_itemiterator",data:=.fields #[.none,.bool false,.ref a,.int 0 0,.int 0 0,.int k 0,.none,.none]} rfl
  exact⟨_,_,[s1.heap.push {cls:=.type "dict_items",data:=.fields #[.ref a]} |>.objs.size],g1.trans gf,fun a ha=>by rw[aaq.mp ha];exact⟨fj g1.keep.2 (aF _),aau _ (by simp)⟩,fun O hT hO _=>⟨_,J3 (d:=a) hT,⟨rfl,k,aaw _ rfl,bx _ _ _ Vv,jY (fun b hb=>by rw[aaq.mp hb];exact aF _) Vv hX⟩,ny g1.st (hO _ (by simp))⟩⟩
 |_=>exact nW he
end
section
variable{w:aaC}{K:Frag}{hB h0:aal}{Θ:Th}{A:aav}{lk:List Nat}{s s0 s' s'' s1:aad}{μ j4 aG bZ X X0 X' gJ aZ X1:List Addr}{H H0 H' iz H1:HP}{n:Nat}{C:Cx}{env:Env}{r r0 r' r1:aR}{ks:Kinds}{Ex:aac→aad→Prop}
theorem xV{it t:Addr}{items:Array aac}(hne:t≠it):∀(n i:Nat){s:aad}{Q:List aac→aad→Prop},s.heap.IsListIter it t i→s.heap.IsList t items→i+n≤items.size→
 (∀h',h'.IsListIter it t (i+n)→acE it s.heap h'→Q ((items.toList.drop i).take n) {s with heap:=h'})→aai (model pw w) A (draw (.ref it) n) Q Ex s
 |0,i,s,Q,hit,_,_,hQ=>by
  have:=hQ s.heap hit ⟨rfl,fun _ _=>rfl⟩
  rw[ag3] at this
  exact aag this
 |n+1,i,s,Q,hit,ht,hlen,hQ=>by
  have hlt:i<items.size:=by omega
  unfold draw
  refine aab (ae2 hit ht (aep hlt) fun h₁ Dl hs₁=>?_)
  refine aab (aaP (xV hne n (i+1) Dl (ht.extBut hs₁.extBut hne) (by omega) fun h₂ PN hs₂=>aag ?_))
  have hd:items.toList.drop i=items[i]::items.toList.drop (i+1):=by simp[abr,hlt]
  have:=hQ h₂ (by rw[show i+(n+1)=i+1+n by omega];exact PN) (hs₁.trans hs₂)
  rw[hd,afB] at this
  exact this
theorem Bt{t:Addr}{items:Array aac}{Q:List aac→aad→Prop}(hh:A.handled=none)(ht:s.heap.IsList t items)
 (hQ:∀h',agJ s.heap.objs.size s.heap h'→Q items.toList {s with heap:=h'}):aai (model pw w) A (unpackItems (.ref t) items.size none) Q Ex s:=by
 have hlt:t≠s.heap.objs.size:=by obtain⟨o,ho,_⟩:=ht;exact abx (aa7 ho)
 unfold unpackItems
 refine aab ?_
 ·unfold notIterableAtAll
  refine aab (agK ht.typeIs PySem.F.slot_list_iter.lookup ?_)
  refine aag ?_
  simp only [abl,if_false]
  refine aab (aaP (aez ht ?_))
  refine aab (aaP (xV hlt items.size 0 ⟨_,aaw _ rfl,rfl,rfl⟩ (ht.push _) (by omega) fun h₁ Dl hs₁=>?_))
  have hall:List.take items.size (ad0 0 items.toList)=items.toList:=by
   rw[adn];exact aa2 (by simp)
  rw[hall]
  rw[if_neg (by simp)]
  have ht₁:h₁.IsList t items:=(ht.push _).extBut hs₁.extBut hlt
  refine aab (aaP (adx hh Dl ht₁ (by simp) fun h₂ EP=>?_))
  simp only [Option.isSome_none,abl,if_false]
  refine aag (hQ h₂ fun b o hb e=>EP b o hb (hs₁.extBut b o hb (aat _ e)))
theorem xW(hh:A.handled=none)(S:St hB Θ s.heap μ X H){v:V}{u:aac}{vs:List V}(q:VR Θ s.heap μ X v u)(h:gc H v=some vs){Q:List aac→aad→Prop}
 (k:∀us h',VRs Θ h' μ X vs us→(∀a o,s.heap.get? a=some o→h'.get? a=some o)→Q us {s with heap:=h'}):aai (model pw w) A (unpackItems u vs.length none) Q Ex s:=by
 have fin:∀{us:List aac}{h':aal},VRs Θ s.heap μ X vs us→agJ s.heap.objs.size s.heap h'→Q us {s with heap:=h'}:=fun hl he=>by
  have Kp:∀a o,s.heap.get? a=some o→_:=fun a o e=>he a o (abx (aa7 e)) e
  exact k _ _ (hl.bE Kp) Kp
 have lists:∀{v:V},VR Θ s.heap μ X v u→items H v=some vs→aai (model pw w) A (unpackItems u vs.length none) Q Ex s:=fun{v}q h=>by
  obtain⟨p,xs,rfl,hp,hq⟩:=bI S q h
  have hlen:vs.length=xs.toArray.size:=by rw[←hq.length];rfl
  rw[hlen]
  exact Bt hh hp.isList fun h' he=>fin hq he
 cases v with
 |tup m=>
  (first|(replace h:=(Z8 h).symm;subst h)|cases h)
  replace q:=q.inv;cases q with
  |@tup a xs ha hX hl=>
  have hlen:vs.length=xs.toArray.size:=by rw[←hl.length];rfl
  rw[hlen]
  exact wpAny_unpackItems_tuple hh ha fun h' he=>fin hl he
 |lst m=>exact lists q h
 |ref k=>exact lists q h
 |_=>exact no1 h
theorem Og{x:Nat}{xs:List Nat}{v:V}{vs:List V}:ef (x::xs) (v::vs) r=ef xs vs (dc x v r):=rfl
theorem fO{x:Nat}{xs:List Nat}{vs:List V}(h:ef (x::xs) vs r=some r'):∃v vs',vs=v::vs'∧ef xs vs' (dc x v r)=some r':=by
 cases vs with
 |nil=>exact no1 h
 |cons v vs=>exact⟨v,vs,rfl,h⟩
theorem kZ{vs:List V}(h:ef [] vs r=some r'):vs=[]∧r=r':=by
 cases vs with
 |nil=>exact⟨rfl,Z8 h⟩
 |cons v vs=>exact no1 h
theorem nT{xs:List Nat}{vs:List V}(h:ef xs vs r=some r'):xs.length=vs.length:=by
 induction xs generalizing vs r with
 |nil=>rw[(kZ h).1];rfl
 |cons x xs ih=>
  obtain⟨v,vs,rfl,h⟩:=fO h
  exact congrArg (· +1) (ih h)
theorem xX{α:Type}{f:α→Nat}{g:α→aac→Sem Unit}(hg:∀x u s(Q:Unit→aad→Prop),aai (model pw w) A (storeName env (nm (f x)) u) Q Ex s→aai (model pw w) A (g x u) Q Ex s){xs:List α}{vs:List V}{us:List aac}{Q:Unit→aad→Prop}(hx:∀x∈xs,oB ks (f x))
 (Y:Ready hB Θ n ks C A env r s μ X H) (q:VRs Θ s.heap μ X vs us) (h:ef (xs.map f) vs r=some r')
 (k:∀s',uf hB Θ lk ks env s μ X H s' μ X→Ready hB Θ n ks C A env r' s' μ X H→Q () s'):aai (model pw w) A (assignInOrder (xs.map g) us) Q Ex s:=by
 induction xs generalizing vs us r s with
 |nil=>
  obtain⟨rfl,rfl⟩:=kZ h
  (replace q:=q.inv;cases q)
  exact aag (k s (Goes.refl Y.st).xR Y)
 |cons x xs ih=>
  obtain⟨v,vs,rfl,h⟩:=fO h
  replace q:=q.inv;cases q with
  |cons q1 q2=>
  obtain⟨h1,h2⟩:=hx x (aae ..)
  exact abO (hg x _ _ _ (mJ (lk:=lk) Y h1 h2 q1 fun s' g' Y'=>ih (fun y hy=>hx y (aaf _ hy)) Y' (g'.Eb Y.st Y.fr q2) h fun s'' Yp UA=>k s'' (g'.trans Yp) UA))
theorem FR.less{h:aal}(F:FR hB Θ ks env r h μ X)(e:∀x v,aK x r'=some v→aK x r=some v):FR hB Θ ks env r' h μ X:=
 F.move (fun x v q=>⟨v,e x v q,fun _ p=>p⟩) (fun m hn=>⟨m,hn,fun _ _ _=>rfl⟩) (fun _ _ _ _ _ _ hc hX=>⟨hc,hX⟩) F.kG
theorem FR.congr{h:aal}(F:FR hB Θ ks env r h μ X)(e:∀x,aK x r'=aK x r):FR hB Θ ks env r' h μ X:=F.less fun x _ q=>(e x).symm.trans q
theorem jx{a b:Nat}{u v:V}(h:a≠b):∀x,aK x (dc b v (dc a u r))=aK x (dc a u (dc b v r)):=fun x=>by
 simp only [d8]
 by_cases h1:x=a
 ·subst h1;simp[h]
 ·simp[h1]
theorem xY{a:Nat}{u:V}(h:∀x,aK x r=aK x r')(x:Nat):aK x (dc a u r)=aK x (dc a u r'):=by
 rw[d8,d8,h]
theorem vB{α:Type}{l:List α}{n:Nat}(h:l.length=n+1):∃a t,l=a::t∧t.length=n:=by
 cases l with
 |nil=>exact absurd h (aeK _).symm
 |cons a t=>exact⟨a,t,rfl,af6 h⟩
theorem ER{α:Type}{l:List α}(h:l.length=2):∃a b,l=[a,b]:=by
 obtain⟨a,t,rfl,h⟩:=vB h
 obtain⟨b,t,rfl,h⟩:=vB h
 exact⟨a,b,by rw[abS h]⟩
theorem pZ{α:Type}{a b:α}{l:List α}(h:(a::l).Nodup)(hb:b∈l):a≠b:=fun e=>(abE.mp h).1 (e▸hb)
theorem Dm{xs:List Nat}{vs:List V}(hl:xs.length=2∨xs.length=3)(hn:xs.Nodup)(h:ef xs vs r=some r'):∃r'',ef xs.reverse vs.reverse r=some r''∧∀x,aK x r'=aK x r'':=by
 rcases hl with hl|hl
 ·obtain⟨a,b,rfl⟩:=ER hl
  obtain⟨u,vs,rfl,h⟩:=fO h
  obtain⟨v,vs,rfl,h⟩:=fO h
  obtain⟨rfl,rfl⟩:=kZ h
  exact⟨_,rfl,jx (pZ hn (aae ..))⟩
 ·obtain⟨a,t,rfl,hl⟩:=vB hl
  obtain⟨b,c,rfl⟩:=ER hl
  obtain⟨u,vs,rfl,h⟩:=fO h
  obtain⟨v,vs,rfl,h⟩:=fO h
  obtain⟨t,vs,rfl,h⟩:=fO h
  obtain⟨rfl,rfl⟩:=kZ h
  exact⟨_,rfl,fun x=>(xY (jx (pZ hn (aae ..))) x).trans ((jx (pZ hn (aaf _ (aae ..))) x).trans (xY (jx (pZ (abE.mp hn).2 (aae ..))) x))⟩
structure J5(ks:Kinds)(xs:List (Nat×Pos))(pt:Pos)(e:Expr):Prop where
 sw:∀env:Env,env.scope.kind=.function→(∀y,y<138→env.kindOf (nm y)=ks y)→
  swappedStores [.Tuple (xs.map fun q=>.Name (nm q.1) q.2) 0 pt] e env=pure none∨((xs.length=2∨xs.length=3)∧(xs.map (·.1)).Nodup∧swappedStores [.Tuple (xs.map fun q=>.Name (nm q.1) q.2) 0 pt] e env=pure (some ((xs.map (·.1)).map nm)))
 Vw:∀(env:Env)(l:Nat),swapsWith e (some (.Tuple (xs.map fun q=>.Name (nm q.1) q.2) 0 pt)) l env=pure false
theorem mL:∀(xs:List (Nat×Pos)),assignEach (xs.map fun q=>ad2 (nm q.1) q.2) env=xs.map fun q=>(false,assign (.Name (nm q.1) q.2) env)
 |[]=>rfl
 |q::xs=>by
  show(false,_)::assignEach (xs.map fun q=>ad2 (nm q.1) q.2) env=_
  rw[mL xs];rfl
theorem p9:∀(xs:List (Nat×Pos))(f:Nat×Pos→aac→Sem Unit),(xs.map fun q=>(false,f q)).findIdx? (·.1)=none
 |[],_=>rfl
 |q::xs,f=>by
  rw[aaz,afY]
  rw[p9 xs f];rfl
theorem GC{ce:CE}{e:Expr}{xs:List (Nat×Pos)}{pt p:Pos}(he:aX w hB Θ n ks ce e)(hx:∀q∈xs,oB ks q.1)(hs:J5 ks xs pt e):
 jM w hB Θ n ks (gh (xs.map (·.1)) ce) (.Assign [.Tuple (xs.map fun q=>.Name (nm q.1) q.2) 0 pt] e p):=fun C A env r s μ X H Y hne=>by
 obtain⟨hl,_,hw0⟩:=bY hne
 have hh:=Y.cx.hh hl
 have hw1:gh (xs.map (·.1)) ce C r H=(ce C r H).bind fun v H=>match gc H v with
  |some vs=>match ef (xs.map (·.1)) vs r with
   |some r=>.ok (.on r) H
   |none=>.bad
  |none=>.bad:=hw0
 have Oh:swapsWithSole [.Tuple (xs.map fun q=>.Name (nm q.1) q.2) 0 pt] e p.line env=pure false:=hs.Vw env p.line
 have hx':∀x∈xs.map (·.1),oB ks x:=fun x h=>by obtain⟨q,hq,rfl⟩:=aa8.mp h;exact hx q hq
 rcases hs.sw env Y.fr.kind Y.fr.kinds with hsw|⟨hlen,hnd,hsw⟩
 ·refine Assign_Tuple ?_ Oh hsw
  refine Y.part hw1 hne (he C A env r s μ X H Y) fun v H1 u s1 aZ X1 g Y1 q hw=>?_
  cases ei:gc H1 v with
  |none=>rw[ei] at hw;exact absurd hw hne
  |some vs=>
  rw[ei] at hw
  cases eb:ef (xs.map (·.1)) vs r with
  |none=>have hw:_=(match ef (xs.map (·.1)) vs r with|some r=>R.ok (Fl.on r) H1|none=>.bad):=hw
         rw[eb] at hw;exact absurd hw hne
  |some r2=>
  have hw:_=(match ef (xs.map (·.1)) vs r with|some r=>R.ok (Fl.on r) H1|none=>.bad):=hw
  rw[eb] at hw
  have hlen:vs.length=xs.length:=by have:=nT eb;simpa using this.symm
  rw[arm_assign_Tuple]
  refine aab (aa3 ?_)
  unfold unpack
  rw[mL,p9,aaj,←hlen]
  refine aab (aaP (xW hh Y1.st q ei fun us h' Vx Kp=>?_))
  have g0:Goes hB Θ C.lk s1 aZ X1 H1 {s1 with heap:=h'} aZ X1:=.bE Y1.st Kp
  have Y2:=Y1.go g0
  have hm:(xs.map fun q=>(false,assign (.Name (nm q.1) q.2) env)).map (·.2)=xs.map fun q=>assign (.Name (nm q.1) q.2) env:=aaY
  rw[hm]
  exact xX (lk:=C.lk) (f:=fun q:Nat×Pos=>q.1) (g:=fun q=>assign (.Name (nm q.1) q.2) env) (fun _ _ _ _ h=>abZ h) hx Y2 Vx eb fun s3 g3 Y3=>⟨_,_,_,_,hw,(g.trans g0).xR.trans g3,Y3.ja,rfl,Y3.fr⟩
 ·refine Assign_Tuple_swapped ?_ Oh hsw
  refine Y.part hw1 hne (he C A env r s μ X H Y) fun v H1 u s1 aZ X1 g Y1 q hw=>?_
  cases ei:gc H1 v with
  |none=>rw[ei] at hw;exact absurd hw hne
  |some vs=>
  rw[ei] at hw
  have hw:_=(match ef (xs.map (·.1)) vs r with|some r=>R.ok (Fl.on r) H1|none=>.bad):=hw
  cases eb:ef (xs.map (·.1)) vs r with
  |none=>rw[eb] at hw;exact absurd hw hne
  |some r2=>
  rw[eb] at hw
  have hlen':=nT eb
  have e1:((xs.map (·.1)).map nm).length=vs.length:=by rw[aaj];exact hlen'
  rw[e1]
  refine xW hh Y1.st q ei fun us h' Vx Kp=>?_
  have g0:Goes hB Θ C.lk s1 aZ X1 H1 {s1 with heap:=h'} aZ X1:=.bE Y1.st Kp
  have Y2:=Y1.go g0
  obtain⟨r3,Yq,er⟩:=Dm (by simpa using hlen) hnd eb
  have hm:((xs.map (·.1)).map nm).reverse.map (fun n=>bindName env n)=(xs.map (·.1)).reverse.map fun x=>bindName env (nm x):=by
   rw[←agz,aaY];rfl
  rw[hm]
  refine xX (lk:=C.lk) (f:=fun x=>x) (g:=fun x=>bindName env (nm x)) (fun _ _ _ _ h=>wpAny_bindName h) (fun x h=>hx' x (List.mem_reverse.mp h)) Y2 Vx.reverse (by rw[List.map_id'];exact Yq) fun s3 g3 Y3=>?_
  exact⟨_,_,_,_,hw,(g.trans g0).xR.trans g3,Y3.ja,rfl,Y3.fr.congr er⟩
theorem J6{c:Nat}(hc:c=7∨c=41):∃a b,ExcCallFacts (dz c) a b∧ExcRaiseFacts (dz c):=by
 rcases hc with rfl|rfl
 ·exact⟨_,_,PySem.F.excCall_ValueError,adY⟩
 ·exact⟨_,_,PySem.F.excCall_AssertionError,adu⟩
theorem J7(F:Fix w K hB Θ){c:Nat}{p:Pos}(hc:c=7∨c=41)(hk:ks c=some .globalImplicit)(Y:Ready hB Θ n ks C A env r s μ X H){Q:aac→aad→Prop}(h:Q (.type (dz c)) s):
 aai (model pw w) A (eval (.Name (nm c) p) env) Q Ex s:=by
 have hx:c<138:=by rcases hc with rfl|rfl<;>decide
 obtain⟨mg,mb,hg,hb,hv,_⟩:=F.base.glob
 have e:LS c=some (.bi (if c=7 then .OJ else .OL)):=by rcases hc with rfl|rfl<;>rfl
 obtain⟨u,gv,hu⟩:=hv c _ e
 have Yr:u=.type (dz c):=by rcases hc with rfl|rfl<;>(cases gv;rfl)
 subst Yr
 refine ade (acG Y.fr.kind ((Y.fr.kinds c hx).trans hk) ?_) (pP c)
 have hg':s.heap.Ns env.globals mg:=by rw[Y.fr.glob];exact hg.at' fun o q=>Y.st.base _ o q
 have hb':s.heap.Ns env.builtins mb:=by rw[Y.fr.HJ];exact hb.at' fun o q=>Y.st.base _ o q
 rcases hu with hu|⟨h1,h2⟩
 ·exact adh hg' hu h
 ·exact abM hg' h1 hb' h2 h
theorem Dn(F:Fix w K hB Θ){c:Nat}{cm:CE}{m:E}{np cp p:Pos}(hc:c=7∨c=41)(hk:ks c=some .globalImplicit)(hm:aX w hB Θ n ks cm (dE m)):
 jM w hB Θ n ks (rW c cm) (.Raise (some (.Call (.Name (nm c) np) (fT [m]) (rX []) cp)) none p):=fun C A env r s μ X H Y hne=>by
 obtain⟨hl,_,hw0⟩:=bY (show az (bh b9 C.lk) ((cm C r H).bind fun m H=>R.exc c m H) .bad≠.bad from hne)
 have hw:rW c cm C r H=(aa cm aj C r H).bind fun vs H=>match vs with|[v]=>R.exc c v H|_=>.bad:=by
  refine hw0.trans ?_
  show(cm C r H).bind _=((cm C r H).bind _).bind _
  cases cm C r H<;>rfl
 have hh:=Y.cx.hh hl
 obtain⟨a,b,fc,fr⟩:=J6 hc
 refine wpAny_Raise_call fc fr hh (bw _ _ _) (J7 F hc hk Y ⟨rfl,?_⟩)
 refine fh (kws:=[]) (bw _ _ _) rfl ?_
 refine Y.part hw hne (fun hn=>iK hm mw C A env r s μ X H Y hn cp) fun vs H1 us s1 aZ X1 g Y1 q hw=>?_
 refine aag ?_
 obtain⟨v,rfl,_⟩:=HK fun h=>hne (hw.trans h)
 obtain⟨u,rfl,q1⟩:=q.one
 refine⟨rfl,by simp[sizeLine],fun h' e hm=>?_⟩
 obtain⟨t,ht,ht0,ht1⟩:=hm.there
 have gk:Goes hB Θ C.lk s1 aZ X1 H1 {s1 with heap:=h'} aZ (X1++[e]):=.mK g.st hm.keeps [e] fun a ha=>by rw[aaq.mp ha];exact⟨hm.new,_,ht⟩
 have g2:=g.trans gk
 have en:s.heap.get? e=none:=by
  cases e0:s.heap.get? e with
  |none=>rfl
  |some o=>obtain⟨o',e'⟩:=g.keep.2 _ o e0;rw[hm.new] at e';exact no1 e'
 have Oi:t∉X1++[e]:=fun q=>by
  rcases aaW.mp q with q|q
  ·exact g.st.fresh ht0 q
  ·rw[aaq.mp q,ht] at ht1
   exact absurd (congrArg agS (Z8 ht1)) (by simp)
 refine⟨c,_,H1,aZ,_,e,hw,rfl,g2.st,g2.gm,g2.gx,g2.keep.mono fun _ _ _ q=>.inl q,fun a o ha _ ho=>?_,g2.os,g2.gens,⟨_,_,t,_,ht,rfl,rfl,rfl,⟨_,ht1,rfl,_,rfl⟩,gk.vr g.st q1,aau _ (by simp),Oi,en,.inl rfl⟩,Y.ja.go g2⟩
 obtain⟨l,env',hl',he,hf⟩:=ha
 obtain⟨l',J8,h⟩:=Y.ja.fr
 rw[hl'] at J8;(first|(replace J8:=(Z8 J8).symm;subst J8)|cases J8)
 obtain⟨_,L,m',hf',_,ht',hm',_⟩:=h env' he
 rw[hf] at hf';(first|(replace hf':=Z8 hf';subst hf')|cases hf')
 exact⟨o.slots,g2.keep.1 a o ho (l7 ⟨ht',hm'⟩)⟩
end
section
variable{w:aaC}{K:Frag}{hB h0 hF:aal}{Θ:Th}{A:aav}{lk:List Nat}{s s0 s' s'' s1:aad}{μ j4 aG bZ X X0 X' gJ aZ X1:List Addr}{H H0 H' iz H1:HP}{n:Nat}{C:Cx}{env:Env}{outer:List Env}{r r0 r' r1:aR}{ks:Kinds}{Ex:aac→aad→Prop}
structure J9(S:List Addr)(e:Addr)(oe:Obj)(h h':aal):Prop where
 ent:∃T oT ts,h.get? T=none∧h'.get? T=some oT∧oT.data=.fields ts∧ts[3]?=some .none∧h'.get? e=some (oe.mapFields (·.setIfInBounds 1 (.ref T)))
 keep:∀b o,b≠e→b∉S→h.get? b=some o→h'.get? b=some o
 frames:∀b o,b≠e→h.get? b=some o→∃sl,h'.get? b=some {o with slots:=sl}
theorem Bu{M:Model}{L e:Addr}{oe:Obj}{vs:Array aac}{head:aac}{hadNext:Bool}{Q:Unit→aad→Prop}
 (hfr:A.frames=some (env::outer)) (hl:s.heap.FunFrames hB (env::outer)) (hf:env.frame=some L)
 (he:s.heap.get? e=some oe) (hd:oe.data=.fields vs) (hsz:1<vs.size)
 (h:∀h',J9 ((env::outer).filterMap (·.frame)) e oe s.heap h'→Q () {s with heap:=h'}):
 aai M A (do let a←frameOf env;let pl←entryPlaceOf L hadNext;let b←afC head a .none (rawInt L) .none pl;setField (.ref e) 1 b) (fun _ s'=>aai M A (setFlight (.ref e) none) Q Ex s') Ex s:=by
 have Vy:e∉(env::outer).filterMap (·.frame):=fun hm=>by
  obtain⟨_,o,ho,hnf⟩:=hl.mem hm
  rw[he] at ho;injection ho with ho;subst ho;exact hnf vs hd
 refine aab (wpAny_frameOf_fun hfr hl hf fun h₁ hs₁=>?_)
 refine aab (wpAny_entryPlaceOf fun pl hpl=>?_)
 unfold afC newFields
 refine aab (aeB ?_ (hpl.sizeOk5 _ _ _ _ _))
 have Oj:h₁.get? e=some oe:=(hs₁.2.1 e Vy).trans he
 have EP:=aat (h:=h₁) {cls:=.type "traceback",dict:=none,data:=.fields ([head,.ref L,.none,rawInt L,.none]++(if pl.isEmpty then abR 6 abd else pl)).toArray} Oj
 refine aeh EP hd hsz ?_
 have UC:h₁.objs.size≠e:=adW (aa7 Oj)
 have hd₃:=acg hd (·.setIfInBounds 1 (aaH h₁.objs.size))
 have Ol:=abe (acw (·.setIfInBounds 1 (aaH h₁.objs.size))) EP (acM hd₃)
 have Om:=(aaS (h₁.push {cls:=.type "traceback",dict:=none,data:=.fields ([head,.ref L,.none,rawInt L,.none]++(if pl.isEmpty then abR 6 abd else pl)).toArray})
  (acw (·.setIfInBounds 1 (aaH h₁.objs.size))) (acp UC)).trans (aaw h₁ rfl)
 unfold setFlight
 refine aab (adG Ol hd₃ (x:=.ref h₁.objs.size) (by simp[hsz]) ?_)
 rw[if_pos (show(aaH h₁.objs.size !=abd)=true from by simp)]
 refine aeh Om rfl (by simp only [abf,aao,aaD,ada]<;>omega) (h _ ?_)
 have keep:∀b o,b≠e→h₁.get? b=some o→
  (((h₁.push {cls:=.type "traceback",dict:=none,data:=.fields ([head,.ref L,.none,rawInt L,.none]++(if pl.isEmpty then abR 6 abd else pl)).toArray}).update e (acw (·.setIfInBounds 1 (aaH h₁.objs.size)))).update h₁.objs.size
    (acw (·.setIfInBounds 3 ((none:Option Addr).elim abd fun f=>rawInt f)))).get? b=some o:=fun b o Ys hb=>by
  have Yt:h₁.objs.size≠b:=adW (aa7 hb)
  rw[aaS _ _ Yt,aaS _ _ (acp Ys)]
  exact aat _ hb
 refine⟨⟨h₁.objs.size,_,_,?_,abe _ Om (acM (acg rfl _)),acg rfl _,?_,?_⟩,fun b o hb hS e'=>keep b o hb ((hs₁.2.1 b hS).trans e'),fun b o hb e'=>?_⟩
 ·rw[hs₁.1];exact aF _
 ·first|(simp;done)|(rcases hpl with rfl|⟨_,_,_,_,_,_,_,rfl⟩<;>simp)
 ·rw[aaS _ _ UC];exact Ol
 ·obtain⟨sl,hs⟩:=hs₁.2.2 b o e'
  exact⟨sl,keep b _ hb hs⟩
theorem jg.fun{h:aal}(S:St hB Θ h μ X H){l:List Env}(hl:∀env∈l,env.scope.kind≠.module∧∃L m,env.frame=some L∧L∈X∧L∉ao∧L∉μ∧h.Ns L m):h.FunFrames hB l:=by
 induction l with
 |nil=>trivial
 |cons env rest ih=>
  obtain⟨hk,L,m,hf,hX,_,_,o,es,ep,ho,hd,_⟩:=hl env (aae ..)
  exact⟨hk,⟨L,o,hf,S.gK L hX,ho,fun vs q=>by rw[hd] at q;cases q⟩,ih fun e he=>hl e (aaf _ he)⟩
structure Ka(hB hF:aal)(Θ:Th)(A:aav)(h:aal)(μ X:List Addr)(H:HP)(c:Nat)(m:V)(e:Addr)(h':aal)(X':List Addr):Prop where
 st:St hB Θ h' μ X' H
 gx:Grows h X X'
 ja:jg hB A h' μ X'
 keep:∀a o,h.get? a=some o→(hF.get? a≠none∨a∉X)→¬nP A a→h'.get? a=some o
 frames:∀a o,nP A a→h.get? a=some o→∃sl,h'.get? a=some {o with slots:=sl}
 stay:∀a o,h.get? a=some o→∃o',h'.get? a=some o'
 exc:ExcAt hF Θ h' μ X' c m e
theorem M4(hfr:A.frames=some (env::outer))(a:Addr):nP A a↔a∈(env::outer).filterMap (·.frame):=by
 constructor
 ·intro h
  obtain⟨l',env',h1,h2,h3⟩:=h
  obtain rfl:=Z8 (hfr.symm.trans h1)
  exact acJ.mpr ⟨env',h2,h3⟩
 ·intro h
  obtain⟨env',h2,h3⟩:=acJ.mp h
  exact⟨_,env',hfr,h2,h3⟩
theorem jg.n8{h:aal}(B:jg hB A h μ X){a:Addr}{o:Obj}{vs:Array aac}(ho:h.get? a=some o)(hd:o.data=.fields vs):¬nP A a:=fun q=>by
 obtain⟨_,_,_,m,hn⟩:=B.at_ q
 exact Ec hn ho (fun _ _ e=>by cases hd.symm.trans e) rfl
theorem Kc(hfr:A.frames=some (env::outer))(B:jg hB A s.heap μ X)(S:St hB Θ s.heap μ X H){c:Nat}{m:V}{e ta:Addr}{o:Obj}{vs:Array aac}{u:aac}(he:s.heap.get? e=some o)(hc:o.cls=.type (dz c))(hd:o.data=.fields vs)(h0:vs[0]?=some (.ref ta))(hsz:1<vs.size)(Oi:s.heap.IsTuple ta #[u]) (hu:VR Θ s.heap μ X m u)
 (Ri:e∈X) (Rj:ta∉X) (Oo:hF.get? e=none) (ht:∀a∈ao,hF.get? a≠none) (Vz:∀a o,hF.get? a=some o→∃o',s.heap.get? a=some o') (P:Addr→Prop) {h1 h':aal} (hP:∀T,P T→T∈X∧T∉μ∧T∉ao∧hF.get? T=none∧¬nP A T) (k1:fL P s.heap h1)
 (N:J9 ((env::outer).filterMap (·.frame)) e o h1 h'):∃X',Ka hB hF Θ A s.heap μ X H c m e h' X':=by
 obtain⟨T',oT,ts,n1,n2,n3,n4,n5⟩:=N.ent
 have gone:∀{h:aal}{a:Addr},(∀a o,h.get? a=some o→∃o',s.heap.get? a=some o')→s.heap.get? a=none→h.get? a=none:=fun{h a}k q=>by
  cases e0:h.get? a with
  |none=>rfl
  |some o=>obtain⟨o',e'⟩:=k _ o e0;rw[q] at e';exact no1 e'
 have UD:s.heap.get? T'=none:=by
  cases e0:s.heap.get? T' with
  |none=>rfl
  |some o=>obtain⟨o',e'⟩:=k1.2 _ o e0;rw[n1] at e';exact no1 e'
 have Yu:=acg hd (·.setIfInBounds 1 (aaH T'))
 have W3:∀a o,nP A a→s.heap.get? a=some o→∃sl,h'.get? a=some {o with slots:=sl}:=fun a o' ha ho=>N.frames a o' (fun h=>by subst h;exact B.n8 he hd ha) (k1.1 a o' ho fun q=>(hP a q).2.2.2.2 ha)
 have kp:fL (fun a=>a=e∨P a∨nP A a) s.heap h':=⟨fun a o ho hn=>N.keep a o (fun h=>hn (.inl h)) (fun h=>hn (.inr (.inr ((M4 hfr a).mpr h)))) (k1.1 a o ho fun h=>hn (.inr (.inl h))),fun a o ho=>by
  by_cases ha:a=e
  ·subst ha;exact⟨_,n5⟩
  ·obtain⟨o',e'⟩:=k1.2 a o ho
   exact(N.frames a o' ha e').elim fun sl q=>⟨_,q⟩⟩
 have Oq:∀a o,s.heap.get? a=some o→(a=e∨P a∨nP A a)→a∈X∧a∉μ∧a∉ao:=fun a o ho q=>by
  rcases q with rfl|q|q
  ·exact⟨Ri,S.n8 he hd,fun h=>ht _ h Oo⟩
  ·exact⟨(hP a q).1,(hP a q).2.1,(hP a q).2.2.1⟩
  ·exact⟨(B.at_ q).1,(B.at_ q).2.2.1,(B.at_ q).2.1⟩
 have jh:∀a∈[T'],s.heap.get? a=none∧∃o,h'.get? a=some o:=fun a ha=>by rw[aaq.mp ha];exact⟨UD,_,n2⟩
 have gX:Grows s.heap X (X++[T']):=⟨_,rfl,fun a ha=>(jh a ha).1⟩
 have Ot:∀a o,s.heap.get? a=some o→a∉X→h'.get? a=some o:=fun a o ho hX=>kp.1 a o ho fun q=>hX (Oq a o ho q).1
 refine⟨_,S.frame kp Oq [T'] jh,gX,B.move fun L m hL hn hX hm _=>⟨gX.sub hX,hm,m,uN hn fun o ho=>W3 L o hL ho⟩,fun a o ho hn VA=>kp.1 a o ho fun q=>?_,W3,kp.2,
  ⟨_,_,ta,u,n5,(Obj.cls_mapFields _ _).trans hc,Yu,(Array.getElem?_setIfInBounds_ne (by decide)).trans h0,bW Oi fun o ho=>Ot ta o ho Rj,hu.mono Ot .refl gX,gX.sub Ri,(wR Oi).elim fun _ ho=>gX.gS ho Rj,Oo,
    .inr ⟨T',oT,ts,(Array.getElem?_setIfInBounds_self_of_lt hsz),gone Vz UD,fun h=>by subst h;rw[he] at UD;exact no2 UD,aau _ (aaq.mpr rfl),n2,n3,n4⟩⟩⟩
 rcases q with rfl|q|q
 ·exact hn.elim (fun q=>q Oo) fun q=>q Ri
 ·exact hn.elim (fun r=>r (hP a q).2.2.2.1) fun r=>r (hP a q).1
 ·exact VA q
theorem ET(hfr:A.frames=some (env::outer)){L:Addr}(hf:env.frame=some L)(B:jg hB A s.heap μ X)(S:St hB Θ s.heap μ X H){c:Nat}{m:V}{e:Addr}(x:ExcAt hF Θ s.heap μ X c m e)(ht:∀a∈ao,hF.get? a≠none)(Vz:∀a o,hF.get? a=some o→∃o',s.heap.get? a=some o'){Q:Unit→aad→Prop}
 (k:∀h' X',Ka hB hF Θ A s.heap μ X H c m e h' X'→Q () {s with heap:=h'}):
 aai (model pw w) A (noteFrame (.ref e) env) (fun _ s2=>aai (model pw w) A (setFlight (.ref e) none) Q Ex s2) Ex s:=by
 obtain⟨l,el,hl⟩:=B.fr
 obtain rfl:=Z8 (hfr.symm.trans el)
 have hfun:=jg.fun S hl
 obtain⟨o,vs,ta,u,he,hc,hd,h0,Oi,hu,Ri,Rj,Oo,hv1⟩:=x.ex
 have hsz:1<vs.size:=hv1.elim (fun q=>(abB.mp q).1) fun q=>by
  obtain⟨_,_,_,q,_⟩:=q
  exact(abB.mp q).1
 have fin:∀{h1 h':aal}(P:Addr→Prop),(∀T,P T→T∈X∧T∉μ∧T∉ao∧hF.get? T=none∧¬nP A T)→fL P s.heap h1→J9 ((env::outer).filterMap (·.frame)) e o h1 h'→Q () {s with heap:=h'}:=fun P hP k1 N=>
  (Kc hfr B S he hc hd h0 hsz Oi hu Ri Rj Oo ht Vz P hP k1 N).elim fun X' r=>k _ X' r
 unfold noteFrame
 simp only [hf]
 rcases hv1 with h1|⟨T,oT,ts,h1,W4,UC,Yv,hT,Rk,h3⟩
 ·refine aab (adG he hd h1 ?_)
  rw[if_neg (by decide)]
  exact Bu hfr hfun hf he hd hsz fun h' N=>fin (fun _=>False) (fun _=>ahZ) ⟨fun _ _ e _=>e,fun _ o e=>⟨o,e⟩⟩ N
 ·refine aab (adG he hd h1 ?_)
  rw[if_pos (show(aaH T !=abd)=true from rfl)]
  refine aab (adG hT Rk h3 ?_)
  rw[if_neg (show¬((abd==rawInt L)=true) from by simp[rawInt])]
  refine aab (aeh hT Rk (abB.mp h3).1 ?_)
  have other:∀b,b≠T→(s.heap.update T (acw (·.setIfInBounds 3 abd))).get? b=s.heap.get? b:=fun b hb=>aaS _ _ (acp hb)
  have PR:=abe (acw (·.setIfInBounds 3 abd)) hT (acM (acg Rk _))
  have SW:(s.heap.update T (acw (·.setIfInBounds 3 abd))).FunFrames hB (env::outer):=hfun.of_keeps fun b o hb hnf=>⟨o,(other b fun q=>hnf ts (by rw[q,hT] at hb;rw[←Z8 hb];exact Rk)).trans hb,rfl⟩
  refine Bu (s:={s with heap:=s.heap.update T (acw (·.setIfInBounds 3 abd))}) hfr SW hf ((other e (acp UC)).trans he) hd hsz fun h' N=>?_
  exact fin (fun b=>b=T) (fun T' q=>by subst q;exact⟨Yv,S.n8 hT Rk,fun h=>ht _ h W4,W4,B.n8 hT Rk⟩) ⟨fun b o ho hb=>(other b hb).trans ho,fun b o ho=>by
   by_cases hb:b=T
   ·subst hb;exact⟨_,PR⟩
   ·exact⟨o,(other b hb).trans ho⟩⟩ N
end
theorem find_erase{α:Type}(p q:α→Bool)(hpq:∀a,p a=true→q a=false):∀(l:List α)(i:Nat),l.findIdx? p=some i→(l.eraseIdx i).find? q=l.find? q
 |[],i,h=>by simp at h
 |a::l,i,h=>by
  rw[afY] at h
  by_cases hp:p a=true
  ·rw[if_pos hp] at h;(first|(replace h:=(Z8 h).symm;subst h)|cases h)
   rw[List.eraseIdx_cons_zero,adb,hpq a hp]
  ·rw[if_neg hp] at h
   cases hi:l.findIdx? p with
   |none=>rw[hi] at h;exact no1 h
   |some j=>
    rw[hi] at h;(first|(replace h:=(Z8 h).symm;subst h)|cases h)
    rw[List.eraseIdx_cons_succ,adb,adb,find_erase p q hpq l j hi]
theorem GD{v:aac}{x y:Str}(hxy:y≠x)(h:v.isStr x=true):v.isStr y=false:=by
 cases v with
 |str n t=>
  have h1:(n==x)=true:=h
  show(n==y)=false
  rw[eq_of_beq h1]
  exact beq_false_of_ne (acp hxy)
 |_=>first|rfl|cases h
theorem nsFind_erase{es:Array DictEntry}{x y:Str}{i:Nat}(hi:es.findIdx? (·.key.isStr x)=some i)(hxy:y≠x):nsFind (es.eraseIdxIfInBounds i) y=nsFind es y:=by
 obtain⟨l⟩:=es
 unfold nsFind findBy
 have hl:l.findIdx? (·.key.isStr x)=some i:=by simpa using hi
 have:=find_erase (fun e:DictEntry=>e.key.isStr x) (fun e=>e.key.isStr y) (fun a h=>GD hxy h) l i hl
 rw[←afZ,←afZ]
 simp only [Array.toList_eraseIdxIfInBounds]
 rw[this]
section
variable{w:aaC}{K:Frag}{hB h0 hF:aal}{Θ:Th}{A:aav}{lk:List Nat}{s s0 s' s'' s1:aad}{μ j4 aG bZ X X0 X' gJ aZ X1:List Addr}{H H0 H' iz H1:HP}{n:Nat}{C:Cx}{env:Env}{outer:List Env}{r r0 r' r1:aR}{ks:Kinds}{Ex:aac→aad→Prop}
theorem Kd{M:Model}{a:Addr}{m}{name:Str}{Q:Bool→aad→Prop}(hn:s.heap.Ns a m)
 (hQ:∀h' m',h'.Ns a m'→(∀y,y≠name→m' y=m y)→acE a s.heap h'→Q (m name).isSome {s with heap:=h'}):aai M A (nsDel a name) Q Ex s:=by
 obtain⟨o,es,ep,ho,hd,hk,hm⟩:=id hn
 have hany:es.any (·.refKey)=false:=by
  rw[Array.any_eq_false'];intro e he;obtain⟨n,t,h⟩:=hk e he;simp[agA,h]
 have hsome:(m name).isSome=es.any (·.key.isStr name):=by
  rw[←hm name];simp only [nsFind,findBy,Option.isSome_map]
  rw[abF];simp only [Array.find?_isSome,Array.any_eq_true]
  constructor
  ·rintro ⟨x,hx,hp⟩;obtain⟨i,hi,rfl⟩:=Array.mem_iff_getElem.mp hx;exact⟨i,hi,hp⟩
  ·rintro ⟨i,hi,hp⟩;exact⟨_,Array.getElem_mem hi,hp⟩
 have hhas:nsHas name o=pure (es.any (·.key.isStr name)):=by
  rw[nsHas_eq];unfold nsHasByArray;rw[hd]
  show(if(es.any fun x=>x.key.isStr name)=true then _ else _)=_
  generalize(es.any fun x=>x.key.isStr name)=b
  cases b<;>simp[hany]
 unfold nsDel
 refine aab (wpAny_loadPart ho ?_)
 rw[hhas]
 refine aab (aag ?_)
 rw[←hsome]
 cases hmn:(m name).isSome
 ·have:=hQ s.heap m hn (fun _ _=>rfl) (.refl ..)
  rw[hmn] at this
  exact aag this
 ·refine aab (wpAny_updatePart ho (aag ?_))
  have key:∃m',(s.heap.update a (Obj.dropName name)).Ns a m'∧∀y,y≠name→m' y=m y:=by
   obtain⟨cl,d,dt,sl⟩:=o
   subst hd
   cases hi:es.findIdx? (·.key.isStr name) with
   |some i=>exact⟨_,⟨_,_,ep+1,abe _ ho (by simp only [adL,ac1,hi]<;>rfl),(by simp only [adL,ac1,hi]<;>rfl),hk.erase i,fun _=>rfl⟩,fun y hy=>(nsFind_erase hi hy).trans (hm y)⟩
   |none=>exact⟨_,⟨_,_,ep,abe _ ho (by simp only [adL,ac1,hi]<;>rfl),(by simp only [adL,ac1,hi]<;>rfl),hk,fun _=>rfl⟩,fun y _=>hm y⟩
  obtain⟨m',hm',Yw⟩:=key
  have:=hQ _ m' hm' Yw (ahU ..)
  rw[hmn] at this
  exact this
theorem rD{x y:Nat}:∀{r:aR},y≠x→aK y (nI x r)=aK y r
 |[],_=>rfl
 |(z,v)::r,h=>by
  have e:nI x ((z,v)::r)=if x=z then nI x r else(z,v)::nI x r:=by
   show@abQ (fun _=>aR) ((z,v)::nI x r) (nI x r) (aap x z)=_
   by_cases h:x=z
   ·subst h;simp[abn]
   ·have:aap x z=false:=by
     cases e:aap x z with
     |false=>rfl
     |true=>exact absurd (aan e) h
    rw[this];simp[h]
  rw[e]
  by_cases hz:x=z
  ·subst hz
   rw[if_pos rfl,cZ,if_neg h,rD h]
  ·rw[if_neg hz,cZ,cZ,rD h]
theorem iY{x:Nat}:∀{r:aR},aK x (nI x r)=none
 |[]=>rfl
 |(z,v)::r=>by
  have e:nI x ((z,v)::r)=if x=z then nI x r else(z,v)::nI x r:=by
   show@abQ (fun _=>aR) ((z,v)::nI x r) (nI x r) (aap x z)=_
   by_cases h:x=z
   ·subst h;simp[abn]
   ·have:aap x z=false:=by
     cases e:aap x z with
     |false=>rfl
     |true=>exact absurd (aan e) h
    rw[this];simp[h]
  rw[e]
  by_cases hz:x=z
  ·subst hz;rw[if_pos rfl,iY]
  ·rw[if_neg hz,cZ,if_neg hz,iY]
theorem Bv{M:Model}{x:Nat}{pos:Pos}{m:Str→Option aac}{Q:Unit→aad→Prop}(hl:env.kindOf (nm x)=some .local)(hn:s.heap.Ns env.locals m)(hk:env.scope.kind=.function)
 (h:∀h' m',h'.Ns env.locals m'→(∀y,y≠nm x→m' y=m y)→acE env.locals s.heap h'→Q () {s with heap:=h',toks:=s.toks+1}):
 aai M A (do bindName env (nm x) .none;unbindBehindTheSuite env (nm x) pos) Q Ex s:=by
 have hp:(env.scope.kind==.class||(env.scope.kind==.module&&env.locals !=env.globals))=false:=by rw[hk];rfl
 refine aab (wpAny_bindName (aa6 hl hn (fun h₁ hn₁ hs₁=>?_) hp))
 unfold unbindBehindTheSuite
 refine afK ?_
 unfold unbindName
 refine aab (agI (aab ?_))
 unfold deleteName
 simp only [hl,hp]
 rw[if_neg (by decide)]
 refine aab (Kd hn₁ fun h₂ m₂ hn₂ hm₂ hs₂=>?_)
 simp only [if_true,af0,Bool.not_true,abl,if_false]
 exact aag (agI (h h₂ m₂ hn₂ (fun y hy=>(hm₂ y hy).trans (if_neg hy)) (hs₁.trans hs₂)))
theorem St.give{h:aal}(S:St hB Θ h μ X H){e:Addr}(hm:e∉μ)(ht:e∉ao):St hB Θ h μ (X.filter (· ≠e)) H:=by
 have sub:∀a∈X.filter (· ≠e),a∈X:=fun a h=>(aa0.mp h).1
 have into:∀a∈X,a≠e→a∈X.filter (· ≠e):=fun a h h'=>aa0.mpr ⟨h,decide_eq_true h'⟩
 exact S.move (fun a o e q=>⟨e,fun h=>q (sub a h)⟩) (fun a o e _=>e) (fun a h=>into a (S.wH a h) fun q=>hm (q▸h)) (fun a h=>into a (S.lG a h) fun q=>ht (q▸h)) (fun a h=>S.gK a (sub a h)) fun a h=>S.old a (sub a h)
structure vC(A:aav)(env:Env):Prop where
 frames:A.frames=some [env]
 own:env.frame=some env.locals
noncomputable def EU(w:aaC)(hB:aal)(Θ:Th)(n:Nat)(ks:Kinds)(c:CS)(st:Stmt):Prop:=∀C A env r s μ X H,Ready hB Θ n ks C A env r s μ X H→vC A env→c C r H≠.bad→
 aai (model pw w) A (exec st env) (QS hB Θ A C.lk ks env s μ X (c C r H)) (ES hB Θ A C.lk ks env s μ X (c C r H)) s
noncomputable def vD(w:aaC)(hB:aal)(Θ:Th)(n:Nat)(ks:Kinds)(c:CS)(l:List Stmt):Prop:=∀C A env r s μ X H,Ready hB Θ n ks C A env r s μ X H→vC A env→c C r H≠.bad→
 aai (model pw w) A (execs l env) (QS hB Θ A C.lk ks env s μ X (c C r H)) (ES hB Θ A C.lk ks env s μ X (c C r H)) s
theorem jM.one{c:CS}{st:Stmt}(h:jM w hB Θ n ks c st):EU w hB Θ n ks c st:=fun C A env r s μ X H Y _ hne=>h C A env r s μ X H Y hne
theorem Dp:vD w hB Θ n ks aA []:=fun C A env r s μ X H Y _ hne=>rA C A env r s μ X H Y hne
theorem Bw{ca cb:CS}{st:Stmt}{l:List Stmt}(ha:EU w hB Θ n ks ca st)(hb:vD w hB Θ n ks cb l):vD w hB Θ n ks (ak ca cb) (st::l):=fun C A env r s μ X H Y tp hne=>by
 refine abp (aas (ha C A env r s μ X H Y tp (R.m8 hne)) (fun f s' h=>?_) fun _ _ h=>h.cast fun c m H e=>by show(ca C r _).bind _=_;rw[e];rfl)
 obtain⟨fl,H',aG,X',e,g,B',q⟩:=h
 cases fl with
 |on r'=>
  have hw:ak ca cb C r H=cb C r' H':=by
   show(ca C r H).bind _=_;rw[e];rfl
  obtain⟨rfl,F'⟩:=q
  have Y':Ready hB Θ n ks C A env r' s' aG X' H':=⟨Y.cx,B',F',g.st⟩
  have hne':cb C r' H'≠.bad:=hw▸hne
  show aai (model pw w) A (execs l env) _ _ s'
  refine aas (hb C A env r' s' aG X' H' Y' tp hne') (fun f s'' h=>?_) fun _ _ h=>?_
  ·obtain⟨fl,iz,bZ,gJ,e',g',Yx,q⟩:=h
   exact⟨fl,iz,bZ,gJ,hw.trans e',g.trans g',Yx,q⟩
  ·exact(h.cast fun c m H e=>hw.trans e).trans Y.ja g
 |back v=>
  have hw:ak ca cb C r H=.ok (.back v) H':=by
   show(ca C r H).bind _=_;rw[e];rfl
  obtain⟨u,rfl,q⟩:=q
  exact⟨_,_,_,_,hw,g,B',u,rfl,q⟩
theorem PT{c:Nat}(hc:c=7∨c=41):isSubtype (.type (dz c)) (.type "BaseException")=pure true∧isSubtype (.type ((Manifest.find? (dz c)).elim "type" fun x=>x.metatype)) (.type "tuple")=pure false∧isSubtype (.type (dz c)) (.type (dz c))=pure true:=by
 rcases hc with rfl|rfl
 ·exact⟨adY.isExc,by rw[ado];kernel_rfl,PySem.F.self_ValueError⟩
 ·exact⟨adu.isExc,by rw[ado];kernel_rfl,PySem.F.self_AssertionError⟩
noncomputable def SX(c x:Nat)(hb:CS)(b:Bool)(C:Cx)(r:aR)(res:R V):R Fl:=match res with
 |.ok v H=>.ok (.back (.bool b)) H
 |.bad=>.bad
 |.exc d m H=>az (aap c d) (match hb (C.lock [b9]) (dc x (.err c m) r) H with
  |.ok a H=>match a with
   |.on r=>.ok (.on (nI x r)) H
   |.back v=>.ok (.back v) H
  |_=>.bad) .bad
theorem vC.VB(tp:vC A env):nP A env.locals:=⟨_,env,tp.frames,aae ..,tp.own⟩
theorem vC.only(tp:vC A env){a:Addr}(h:nP A a):a=env.locals:=by
 obtain⟨l,env',h1,h2,h3⟩:=h
 obtain rfl:=Z8 (tp.frames.symm.trans h1)
 obtain rfl:=aaq.mp h2
 exact(Z8 (tp.own.symm.trans h3)).symm
theorem SY{h:aal}{a:Addr}{m m':Str→Option aac}(h1:h.Ns a m)(h2:h.Ns a m')(x:Str):m x=m' x:=by
 obtain⟨o,es,ep,ho,hd,_,e⟩:=h1
 obtain⟨o',es',Z2,ho',hd',_,e'⟩:=h2
 obtain rfl:=Z8 (ho.symm.trans ho')
 injection hd.symm.trans hd' with q _
 rw[←e,←e',q]
theorem rE{x y:Nat}{v:V}(e:aK y (nI x r)=some v):y≠x∧aK y r=some v:=by
 have hyx:y≠x:=fun h=>by subst h;rw[iY] at e;exact no1 e
 exact⟨hyx,by rw[rD hyx] at e;exact e⟩
theorem M5(tp:vC A env){x:Nat}{hp:Pos}(hk:env.scope.kind=.function)(hkd:env.kindOf (nm x)=some .local)(hx:x<138){fl:Fl}{f:Flow}{W:R Fl}{s5:aad}{H5:HP}{GF X5:List Addr}(g:uf hB Θ lk ks env s μ X H5 s5 GF X5)(B:jg hB A s5.heap GF X5)(q:WW hB Θ ks env s5.heap GF X5 fl f)
 (h1:∀r,fl=.on r→W=.ok (.on (nI x r)) H5) (h2:∀v,fl=.back v→W=.ok (.back v) H5):aai (model pw w) A (do bindName env (nm x) .none;unbindBehindTheSuite env (nm x) hp) (fun _ s'=>QS hB Θ A lk ks env s μ X W f s') Ex s5:=by
 obtain⟨hX,ht,hm,m5,Rl⟩:=B.at_ tp.VB
 refine Bv hkd Rl hk fun h6 m6 UE Yy S4=>?_
 have g6:uf hB Θ lk ks env s μ X H5 {s5 with heap:=h6,toks:=s5.toks+1} GF X5:=g.trans ⟨g.st.put S4 hX hm ht (qZ UE),.refl,.refl,(fL.put S4 (qZ UE)).mono fun _ _ _ q=>.inr (.inl q),rfl,.refl _⟩
 have B6:jg hB A h6 GF X5:=B.move fun L m hL hn hX hm _=>⟨hX,hm,m6,(tp.only hL).symm▸UE⟩
 cases fl with
 |on r5=>
  obtain⟨rfl,F5⟩:=q
  exact⟨_,_,_,_,h1 r5 rfl,g6,B6,rfl,F5.move (fun y v e=>⟨v,(rE e).2,fun u p=>p.put S4 hX⟩) (fun m hn=>⟨m6,UE,fun y v e=>(Yy _ fun h=>(rE e).1 (fN (F5.dom y v (rE e).2).1 hx h)).trans (SY Rl hn _)⟩)
   (fun y c vo hy k e1 hc VC=>⟨jt hc fun o e=>(S4.2 c (pM Rl hc)).trans e,VC⟩) F5.kG⟩
 |back v=>
  obtain⟨u,rfl,q⟩:=q
  exact⟨_,_,_,_,h2 v rfl,g6,B6,u,rfl,q.put S4 hX⟩
theorem Dq(tp:vC A env)(Y:Ready hB Θ n ks C A env r s μ X H){c:Nat}{m:V}{ea:Addr}{h2:aal}{X2:List Addr}(S5:Grows s.heap μ aZ)(UG:Grows s.heap X X1)(k1:fL (fun a=>Wr C.lk μ a∨nP A a) s.heap s1.heap)(f1:∀a o,nP A a→s.heap.get? a=some o→∃sl,s1.heap.get? a=some {o with slots:=sl})(o1:s1.os=s.os)(VD:GG s.gens s1.gens)
 (N:Ka hB s.heap Θ A s1.heap aZ X1 H1 c m ea h2 X2):∃X3,Ready hB Θ n ks C A env r {s1 with heap:=h2} aZ X3 H1∧uf hB Θ C.lk ks env s μ X H1 {s1 with heap:=h2} aZ X3∧VR Θ h2 aZ X3 (.err c m) (.ref ea)∧∀T∈X2,T≠ea→T∈X3:=by
 obtain⟨oe,vs,ta,u,he,hcl,hd,h0,Oi,hu,Ri,Rj,Oo,_⟩:=N.exc.ex
 have S2:=N.st.give (N.st.n8 he hd) fun h=>Y.st.lz ea h Oo
 have into:∀T∈X2,T≠ea→T∈X2.filter (· ≠ea):=fun T h h'=>aa0.mpr ⟨h,decide_eq_true h'⟩
 have S7:∀a∈X2.filter (· ≠ea),a∈X2:=fun a h=>(aa0.mp h).1
 have Yz:ea∉X2.filter (· ≠ea):=fun h=>of_decide_eq_true (aa0.mp h).2 rfl
 have gX:Grows s.heap X X2:=UG.trans k1.2 N.gx
 have S8:Grows s.heap X (X2.filter (· ≠ea)):=by
  obtain⟨ν,rfl,jh⟩:=gX
  refine⟨ν.filter (· ≠ea),?_,fun a ha=>jh a (aa0.mp ha).1⟩
  rw[aef]
  congr 1
  refine adP.mpr fun a ha=>decide_eq_true fun h=>?_
  obtain⟨o,eo⟩:=Y.st.old a ha
  rw[h,Oo] at eo;exact no1 eo
 have Ke:∀a o,s.heap.get? a=some o→¬(Wr C.lk μ a∨nP A a)→h2.get? a=some o:=fun a o ho hn=>N.keep a o (k1.1 a o ho hn) (.inl fun h=>no2 (ho.symm.trans h)) fun h=>hn (.inr h)
 have YA:∀v u,VR Θ s.heap μ X v u→VR Θ h2 aZ (X2.filter (· ≠ea)) v u:=fun v u q=>q.mono (fun a o ho hX=>Ke a o ho fun q=>hX (q.elim (fun q=>q.L0 Y.st) fun q=>(tp.only q)▸Y.fr.kG)) S5 S8
 have F2:FR hB Θ ks env r h2 aZ (X2.filter (· ≠ea)):=Y.fr.keep YA (fun m hn=>uN hn fun o ho=>by
  obtain⟨sl,q⟩:=f1 _ o tp.VB ho
  exact N.frames _ {o with slots:=sl} tp.VB q) (fun y ca vo _ _ _ hc VC=>⟨jt hc fun o ho=>Ke ca o ho fun q=>?_,S8.sub VC⟩) (S8.sub Y.fr.kG)
 ·exact⟨_,⟨Y.cx,N.ja.move fun L m' hL hn _ hm _=>⟨(tp.only hL)▸S8.sub Y.fr.kG,hm,m',hn⟩,F2,S2⟩,⟨S2,S5,S8,⟨fun a o ho hn=>Ke a o ho fun q=>hn (q.imp id fun q=>.inl (tp.only q)),fun a o ho=>(k1.2 a o ho).elim (N.stay a)⟩,o1,VD⟩,
   .err he hcl hd h0 Oi (hu.shrink S7) Yz fun q=>Rj (S7 _ q),into⟩
 ·obtain⟨mm,hns,_⟩:=Y.fr.loc
  exact q.elim (l7 (Y.st.n9 hc)) fun q=>pM hns hc (tp.only q)
theorem Bx{c:Nat}{m:V}{ea:Addr}{X2 X3:List Addr}{N0:Nat}(x:ExcAt hF Θ s1.heap aZ X2 c m ea)(S:St hB Θ s1.heap aZ X2 H1)(into:∀T∈X2,T≠ea→T∈X3){Q:Unit→aad→Prop}(k:∀h3,Turn (cP hF) N0 s1 aZ X3 {s1 with heap:=h3} X3→Q () {s1 with heap:=h3}):aai (model pw w) A (setFlight (.ref ea) none) Q Ex s1:=by
 obtain⟨oe,vs,ta,u,a1,a2,a3,a4,a5,a6,a7,a8,a9,S9⟩:=x.ex
 unfold setFlight
 rcases S9 with S9|⟨T,oT,ts,b1,b2,b3,b4,b5,b6,b7⟩
 ·refine aab (adG a1 a3 S9 ?_)
  rw[if_neg (by decide)]
  exact aag (k s1.heap .refl)
 ·refine aab (adG a1 a3 b1 ?_)
  rw[if_pos (show(aaH T !=abd)=true from rfl)]
  exact aeh b5 b6 (abB.mp b7).1 (k _ (Turn.one (tk:=s1.toks) ⟨into T b4 b3,S.n8 b5 b6,fun h=>h b2⟩ (fun b o hb e=>(aaS _ _ (acp hb)).trans e)
   ⟨_,abe _ b5 (acM (acg b6 _))⟩))
theorem M6(F:Fix w K hB Θ){b:Bool}{hb:CS}{c x:Nat}{np hp:Pos}{sb:S}{suite:List S}(hc:c=7∨c=41)(hk:ks c=some .globalImplicit)(hx:x<138)(hkx:ks x=some .local)(hsuite:fV w hB Θ n ks hb (gR (sb::suite)))(Y:Ready hB Θ n ks C A env r s μ X H)(tp:vC A env)
 {res:R V} {W:R Fl} (hw:W=SX c x hb b C r res) (hne:W≠.bad) {x0:aac} (hE:EG hB Θ A C.lk s μ X res x0 s1) {Q:Flow→aad→Prop} (toQ:∀f s',QS hB Θ A C.lk ks env s μ X W f s'→Q f s'):
 aai (model pw w) A (noteFrame x0 env) (fun _ s₂=>aai (model pw w) A (setFlight x0 none) (fun _ s₃=>aai (model pw w) A (handleBy x0 env [.ExceptHandler (some (.Name (nm c) np)) (some (nm x)) (gR (sb::suite)) hp]) Q Ex s₃) Ex s₂) Ex s1:=by
 obtain⟨d,m,H1,aZ,X1,ea,rfl,rfl,S1,S5,UG,k1,f1,o1,VD,ex1⟩:=hE
 obtain⟨hcd,_,hw1⟩:=bY (show az (aap c d) _ R.bad≠.bad from hw▸hne)
 obtain rfl:c=d:=aan hcd
 replace hw:=hw.trans hw1
 have hnh:hb (C.lock [b9]) (dc x (.err c m) r) H1≠.bad:=fun h=>by rw[h] at hw;exact hne hw
 refine ET tp.frames tp.own (Y.ja.move fun L m hL hn hX hm _=>⟨UG.sub hX,(qZ hn).elim fun o e=>S5.gS e hm,m,uN hn fun o e=>f1 L o hL e⟩) S1 ex1 Y.st.lz k1.2 fun h2 X2 N=>?_
 obtain⟨X3,Y2,g2,VE,into⟩:=Dq tp Y S5 UG k1 f1 o1 VD N
 have Y3:Ready hB Θ n ks (C.lock [b9]) (A.mark (some (.ref ea))) env r {s1 with heap:=h2} aZ X3 H1:=⟨⟨Y.cx.par,Y.cx.ph,(fun h=>absurd (uW (show bh b9 (au [b9] C.lk)=true from h)).1 (by decide)),Y.cx.depth,Y.cx.units⟩,⟨Y2.ja.fr⟩,Y2.fr,Y2.st⟩
 obtain⟨YB,YC,YD⟩:=PT hc
 obtain⟨oe,vs,ta,u,he',hcl,_⟩:=N.exc.ex
 refine wpAny_handleBy_builtin_as YB YC YD (J7 F hc hk Y3 ⟨rfl,⟨oe,he',hcl⟩,?_⟩)
 rw[if_pos rfl]
 refine Bx (N0:=s.gens.size) (s1:={s1 with heap:=h2}) N.exc N.st into fun h3 t3=>?_
 have Y4:=Y3.turn Y.st.lz (fun a ha=>Y.fr.xT ha) (fun a ha=>Y.ja.JO ha) t3
 have g3:=iE.turn (aaA _) (fun a h=>h) Y.st.lz g2 t3
 refine mJ (lk:=C.lk) Y4 hx (.inl hkx) (t3.vr VE) fun s4 g4 Y5=>?_
 refine aas (hsuite (C.lock [b9]) (A.mark (some (.ref ea))) env _ s4 aZ _ H1 Y5 hnh) (fun f s5 h5=>?_) fun e5 s5 h5=>?_
 ·obtain⟨fl,H5,GF,X5,e5,g5,B5,q5⟩:=h5
  rw[e5] at hw
  exact aas (M5 tp Y.fr.kind ((Y.fr.kinds x hx).trans hkx) hx ((g3.trans g4).trans (iE.unlock (lk:=C.lk) g5 fun k hk=>by show k∈au [b9] C.lk;rw[aO];exact aaf _ hk)) ⟨B5.fr⟩ q5 (fun r e=>by subst e;exact hw) fun v e=>by subst e;exact hw) (fun _ s' h=>toQ f s' h) fun _ _ h=>h
 ·obtain⟨c5,m5,_,_,_,_,e5,_⟩:=h5
  rw[e5] at hw;exact absurd hw hne
theorem GH(F:Fix w K hB Θ){ce:CE}{e:E}{b:Bool}{hb:CS}{c x:Nat}{p1 p2 bp np hp p:Pos}{sb:S}{suite:List S}(hc:c=7∨c=41)(hk:ks c=some .globalImplicit)(hx:x<138)(hkx:ks x=some .local)
 (he:aX w hB Θ n ks ce (dE e)) (hs:∀env,swapsWith (dE e) none p1.line env=pure false) (hsuite:fV w hB Θ n ks hb (gR (sb::suite))):
 EU w hB Θ n ks (CA (ak (cD ce) (ak (dI (cV (.bool b))) aA)) c x hb)
  (.Try [.Expr (dE e) p1,.Return (some (.Constant (.bool b) 0 bp)) p2] [.ExceptHandler (some (.Name (nm c) np)) (some (nm x)) (gR (sb::suite)) hp] [] [] p):=fun C A env r s μ X H Y tp hne=>by
 have hw0:CA (ak (cD ce) (ak (dI (cV (.bool b))) aA)) c x hb C r H=SX c x hb b C r (ce C r H):=by
  have e1:(ak (cD ce) (ak (dI (cV (.bool b))) aA)) C r H=((ce C r H).bind fun _ H=>R.ok (Fl.on r) H).bind fun f H=>match f with
   |.on r=>(ak (dI (cV (.bool b))) aA) C r H
   |.back v=>.ok (.back v) H:=rfl
  unfold CA
  rw[e1]
  cases ce C r H<;>rfl
 revert hne hw0
 generalize CA (ak (cD ce) (ak (dI (cV (.bool b))) aA)) c x hb C r H=W
 intro hne hw0
 have VF:ce C r H≠.bad:=fun h=>by rw[h] at hw0;exact hne hw0
 refine wpAny_Try_except (abp (wpAny_Expr_any (aas (he C A env r s μ X H Y VF) (fun v s1 h=>?_) fun x0 s1 h=>M6 F hc hk hx hkx hsuite Y tp hw0 hne h fun _ _ x=>x) (by unfold interactive;rw[Y.fr.kind];rfl) (hs env)))
 obtain⟨v',H1,aZ,X1,e1,g1,q1⟩:=h
 rw[e1] at hw0
 exact abp (agk (ab3 ⟨_,_,_,_,hw0,g1.xR,(Y.go g1).ja,_,rfl,.bool b⟩))
end
section
variable{w:aaC}{K:Frag}{hB hF:aal}{O W:Addr→Prop}{N0:Nat}{Θ:Th}{A:aav}{lk:List Nat}{s s0 s' s'' s1:aad}{μ j4 aG bZ X X0 X' gJ aZ X1:List Addr}{H H0 H' iz H1:HP}{n:Nat}{C:Cx}{env cenv:Env}{outer:List Env}{r r0 r' r1:aR}{ks:Kinds}{Ex:aac→aad→Prop}{D:Addr}{av:List V}
noncomputable def nM(sc:List (Nat×aam))(ks:Kinds):Kinds:=fun x=>if x<138 then(sc.lookup x).map fun k=>if k=.free∧ks x=some .cell then .cell else k else ks x
structure zI(ks:Kinds)(sc:List (Nat×aam)):Prop where
 lt:∀p∈sc,p.1<138
 nodup:(sc.map (·.1)).Nodup
 free:∀p∈sc,p.2=.free→ks p.1=some .cell∨ks p.1=some .free
theorem zI.tail{p:Nat×aam}{sc:List (Nat×aam)}(h:zI ks (p::sc)):zI ks sc:=⟨fun q hq=>h.lt q (aaf _ hq),(abE.mp h.nodup).2,fun q hq=>h.free q (aaf _ hq)⟩
theorem nC{α:Type}{f:Nat×aam→α}:∀{sc:List (Nat×aam)},(∀p∈sc,p.1<138)→∀{x:Nat},x<138→(sc.map fun p=>(nm p.1,f p)).lookup (nm x)=(sc.find? fun p=>x==p.1).map f
 |[],_,_,_=>rfl
 |p::sc,h,x,hx=>by
  rw[aaz,ab9,adb]
  by_cases e:x=p.1
  ·subst e;simp
  ·have h1:(nm x==nm p.1)=false:=beq_false_of_ne fun q=>e (fN hx (h p (aae ..)) q)
   have h2:(x==p.1)=false:=beq_false_of_ne e
   rw[h1,h2]
   exact nC (fun q hq=>h q (aaf _ hq)) hx
theorem jy{α:Type}:∀(sc:List (Nat×α))(x:Nat),sc.lookup x=(sc.find? fun p=>x==p.1).map (·.2)
 |[],_=>rfl
 |p::sc,x=>by
  rw[ab9,adb]
  by_cases e:x=p.1
  ·subst e;simp
  ·have h2:(x==p.1)=false:=beq_false_of_ne e
   rw[h2];exact jy sc x
theorem PU{sc:List (Nat×aam)}(hsc:∀p∈sc,p.1<138)(hk:env.scope.kind=.function)(PV:∀x,x<138→env.kindOf (nm x)=ks x){x:Nat}(hx:x<138):(relabel (aJ sc) env).names.lookup (nm x)=nM sc ks x:=by
 have e1:(relabel (aJ sc) env).names=sc.map fun p=>(nm p.1,if p.2=.free∧ks p.1=some .cell then aaV else p.2):=by
  show((sc.map fun p=>(nm p.1,p.2)).map _)=_
  rw[aaY]
  refine abD fun p hp=>?_
  have:=PV p.1 (hsc p hp)
  show(if(p.2==abm&&env.scope.kind==.function&&env.kindOf (nm p.1)==some .cell)=true then(nm p.1,aaV) else(nm p.1,p.2))=_
  rw[hk,this]
  by_cases h1:p.2=.free
  ·by_cases h2:ks p.1=some .cell
   ·simp[h1,h2]
   ·simp[h1,h2]
  ·simp[h1]
 rw[e1,nC hsc hx]
 unfold nM
 rw[if_pos hx,jy,Option.map_map]
 cases e:sc.find? fun p=>x==p.1 with
 |none=>rfl
 |some p=>
  have:x=p.1:=by have:=List.find?_some e;simpa using this
  subst this
  rfl
theorem lookup_mem{α:Type}:∀{sc:List (Nat×α)}{x:Nat}{k:α},sc.lookup x=some k→(x,k)∈sc
 |p::sc,x,k,h=>by
  rw[ab9] at h
  by_cases e:x=p.1
  ·subst e;simp at h;subst h;exact aae ..
  ·have h2:(x==p.1)=false:=beq_false_of_ne e
   rw[h2] at h;exact aaf _ (lookup_mem h)
theorem mem_lookup{α:Type}:∀{sc:List (Nat×α)},(sc.map (·.1)).Nodup→∀{x:Nat}{k:α},(x,k)∈sc→sc.lookup x=some k
 |p::sc,hn,x,k,h=>by
  rw[aaz,abE] at hn
  rw[ab9]
  rcases aar.mp h with e|h
  ·subst e;simp
  ·have:x≠p.1:=fun e=>hn.1 (e▸aa8.mpr ⟨_,h,rfl⟩)
   have h2:(x==p.1)=false:=beq_false_of_ne this
   rw[h2];exact mem_lookup hn.2 h
noncomputable def mO(env:Env):List (Nat×aam)→List (Str×Addr)→List (Str×Addr)
 |[],acc=>acc
 |(x,k)::l,acc=>mO env l (if k=.free then(nm x,(env.cells.lookup (nm x)).getD 0)::acc else acc)
theorem w6{sc:List (Nat×aam)}(h:∀p∈sc,p.2=.free→(env.cells.lookup (nm p.1)).isSome=true):closureFor (aJ sc) env=pure (mO env sc []):=by
 unfold closureFor
 have:∀(sc:List (Nat×aam))(acc:List (Str×Addr)),(∀p∈sc,p.2=.free→(env.cells.lookup (nm p.1)).isSome=true)→
  (forIn (sc.map fun p=>(nm p.1,p.2)) acc fun(x:Str×aam)cs=>(match x with
   |(name,kind)=>if(kind==abm)=true then do let c←cellOf env name;pure (ack ((name,c)::cs)) else pure (ack cs):Sem (ForInStep (List (Str×Addr)))))=pure (mO env sc acc):=by
  intro sc
  induction sc with
  |nil=>intro acc _;rfl
  |cons p sc ih=>
   intro acc h
   obtain⟨x,k⟩:=p
   rw[aaz,ab0]
   have ih':=fun acc=>ih acc fun q hq=>h q (aaf _ hq)
   by_cases hk:k=.free
   ·subst hk
    have hs:=h (x,.free) (aae ..) rfl
    obtain⟨c,hc⟩:=abw.mp hs
    have e1:cellOf env (nm x)=pure c:=by unfold cellOf;rw[hc]
    simp only [beq_self_eq_true,if_true]
    rw[e1]
    show(forIn (sc.map fun p=>(nm p.1,p.2)) ((nm x,c)::acc) _:Sem _)=_
    rw[ih']
    show _=pure (mO env sc (if abm=.free then(nm x,(env.cells.lookup (nm x)).getD 0)::acc else acc))
    rw[if_pos rfl,hc];rfl
   ·have hb:(k==abm)=false:=by simpa using hk
    simp only [hb,abl,if_false]
    show(forIn (sc.map fun p=>(nm p.1,p.2)) acc _:Sem _)=_
    rw[ih']
    show _=pure (mO env sc (if k=.free then(nm x,(env.cells.lookup (nm x)).getD 0)::acc else acc))
    rw[if_neg hk]
 have:=this sc [] h
 show(forIn (sc.map fun p=>(nm p.1,p.2)) [] _>>=fun cs=>pure cs)=_
 rw[show(forIn (sc.map fun p=>(nm p.1,p.2)) [] _:Sem _)=_ from this]
 rfl
theorem xZ{x:Nat}(hx:x<138):∀(sc:List (Nat×aam))(acc:List (Str×Addr)),(∀p∈sc,p.1<138)→((x,abm)∈sc∨acc.lookup (nm x)=some ((env.cells.lookup (nm x)).getD 0))→(mO env sc acc).lookup (nm x)=some ((env.cells.lookup (nm x)).getD 0)
 |[],acc,_,h=>h.elim (fun h=>by simp at h) id
 |(y,k)::sc,acc,hl,h=>by
  show(mO env sc _).lookup (nm x)=_
  refine xZ hx sc _ (fun q hq=>hl q (aaf _ hq)) ?_
  by_cases hyx:y=x
  ·subst hyx
   by_cases hk:k=.free
   ·rw[if_pos hk];right;simp
   ·rw[if_neg hk]
    rcases h with h|h
    ·rcases aar.mp h with e|h
     ·cases e;exact absurd rfl hk
     ·exact .inl h
    ·exact .inr h
  ·rcases h with h|h
   ·rcases aar.mp h with e|h
    ·cases e;exact absurd rfl hyx
    ·exact .inl h
   ·right
    split
    ·have:(nm x==nm y)=false:=beq_false_of_ne fun q=>hyx (fN hx (hl _ (aae ..)) q).symm
     rw[ab9,this];exact h
    ·exact h
theorem g9:∀(names:List (Str×aam))(k:Nat)(acc:List (Str×Addr)),cellsFrom k names acc=cellsFrom k names []++acc
 |[],_,_=>rfl
 |(x,kd)::l,k,acc=>by
  unfold cellsFrom
  split
  ·rw[g9 l (k+1) ((x,k)::acc),g9 l (k+1) [(x,k)]];simp
  ·exact g9 l k acc
theorem qc{x:Nat}(hx:x<138):∀(sc:List (Nat×aam))(k:Nat)(acc:List (Str×Addr)),(∀p∈sc,p.1<138)→((x,aaV)∈sc∨(acc.lookup (nm x)).isSome=true)→((cellsFrom k (sc.map fun p=>(nm p.1,p.2)) acc).lookup (nm x)).isSome=true
 |[],_,acc,_,h=>h.elim (fun h=>by simp at h) id
 |(y,kd)::sc,k,acc,hl,h=>by
  rw[aaz]
  unfold cellsFrom
  by_cases hk:kd=.cell
  ·subst hk
   rw[if_pos (by rfl)]
   refine qc hx sc _ _ (fun q hq=>hl q (aaf _ hq)) ?_
   by_cases hyx:y=x
   ·subst hyx;right;simp
   ·rcases h with h|h
    ·rcases aar.mp h with e|h
     ·cases e;exact absurd rfl hyx
     ·exact .inl h
    ·right
     have:(nm x==nm y)=false:=beq_false_of_ne fun q=>hyx (fN hx (hl _ (aae ..)) q).symm
     rw[ab9,this];exact h
  ·rw[if_neg (by simpa using hk)]
   refine qc hx sc _ _ (fun q hq=>hl q (aaf _ hq)) ?_
   rcases h with h|h
   ·rcases aar.mp h with e|h
    ·cases e;exact absurd rfl hk
    ·exact .inl h
   ·exact .inr h
theorem vE{x:Nat}(hx:x<138):∀(sc:List (Nat×aam))(k:Nat)(acc:List (Str×Addr)),(∀p∈sc,p.1<138)→(x,aaV)∉sc→(cellsFrom k (sc.map fun p=>(nm p.1,p.2)) acc).lookup (nm x)=acc.lookup (nm x)
 |[],_,_,_,_=>rfl
 |(y,kd)::sc,k,acc,hl,h=>by
  rw[aaz]
  unfold cellsFrom
  have h':(x,aaV)∉sc:=fun q=>h (aaf _ q)
  have hl':=fun q hq=>hl q (aaf (y,kd) hq)
  by_cases hk:kd=.cell
  ·subst hk
   rw[if_pos (by rfl),vE hx sc _ _ hl' h']
   have hyx:y≠x:=fun e=>h (e▸aae ..)
   have:(nm x==nm y)=false:=beq_false_of_ne fun q=>hyx (fN hx (hl _ (aae ..)) q).symm
   rw[ab9,this]
  ·rw[if_neg (by simpa using hk)]
   exact vE hx sc _ _ hl' h'
theorem dj{r:aR}:∀{l:List Nat}{x:Nat}{v:V},aK x (bP r l)=some v→x∈l∧aK x r=some v
 |[],_,_,h=>by exact no1 h
 |y::l,x,v,h=>by
  have e:bP r (y::l)=match aK y r with|some u=>(y,u)::bP r l|none=>bP r l:=by
   show@acs V (fun _=>aR) (bP r l) (fun v=>(y,v)::bP r l) (aK y r)=_
   cases aK y r<;>rfl
  rw[e] at h
  cases e2:aK y r with
  |none=>
   rw[e2] at h
   obtain⟨h1,h2⟩:=dj h
   exact⟨aaf _ h1,h2⟩
  |some u=>
   rw[e2] at h
   rw[cZ] at h
   by_cases hy:x=y
   ·subst hy
    rw[if_pos rfl] at h;(first|(replace h:=(Z8 h).symm;subst h)|cases h)
    exact⟨aae ..,e2⟩
   ·rw[if_neg hy] at h
    obtain⟨h1,h2⟩:=dj h
    exact⟨aaf _ h1,h2⟩
theorem fP:∀{sc:List (Nat×aam)}{x:Nat},x∈freeOf sc↔(x,abm)∈sc
 |[],x=>by simp[freeOf]
 |(y,k)::sc,x=>by
  cases k with
  |free=>
   show x∈y::freeOf sc↔_
   rw[aar,aar,fP]
   simp
  |_=>
   show x∈freeOf sc↔_
   rw[aar,fP]
   simp
theorem GJ{scope:Scope}{g:Addr}{cl:List (Str×Addr)}{q:Str}{f:Option Addr}{c:aac}{b:Addr}{Q:Env→aad→Prop}
 (h:Q {scope,locals:=s.heap.objs.size,globals:=g,cells:=cellsFrom (s.heap.objs.size+1) scope.names []++cl,qual:=q,func:=f,code:=env.code,frame:=env.frame,builtins:=env.builtins}
  {s with heap:=pushCells (s.heap.push {cls:=.type "dict",data:=.dict #[]}) scope.names}):
 aai (model pw w) A (newFunctionEnv scope g cl [] q f c (some env) b) Q Ex s:=by
 simp only [newFunctionEnv,af0,if_true]
 refine aab (wpAny_alloc ?_)
 refine aab (wpAny_layCells _ (fun name kind cells=>by cases hkc:kind==aaV<;>simp[hkc]) _ _ _ _ ?_)
 rw[show({s with heap:=s.heap.push {cls:=.type "dict",data:=.dict #[]}}:aad).heap.objs.size=s.heap.objs.size+1 from adt ..]
 rw[g9]
 exact aab (aag (aag h))
theorem YE{h:aal}:(h.push {cls:=.type "dict",data:=.dict #[]}).Ns h.objs.size fun _=>none:=Heap.Ns.new h (.type "dict")
structure PW(hB:aal)(Θ:Th)(n:Nat)(ks:Kinds)(sc:List (Nat×aam))(C:Cx)(A:aav)(env:Env)(r:aR)(s1:aad)(aZ X1:List Addr)(H1:HP)(cenv:Env)(s2:aad)(ν:List Addr):Prop where
 fresh:∀a∈ν,s1.heap.get? a=none
 keep:∀a o,s1.heap.get? a=some o→s2.heap.get? a=some o
 os:s2.os=s1.os
 gens:s2.gens=s1.gens
 st:St hB Θ s2.heap aZ (X1++ν) H1
 ready:Ready hB Θ n (nM sc ks) C A cenv (bP r (freeOf sc)) s2 aZ (X1++ν) H1
 locals:cenv.locals∈ν
 cells:∀x c,x<138→(x,aaV)∈sc→cenv.cells.lookup (nm x)=some c→c∈ν
 own:∀a,Own (nM sc ks) cenv a→a∈ν∨Own ks env a
theorem nE{sc:List (Nat×aam)}{x:Nat}(hx:x<138)(h:nM sc ks x=some .cell∨nM sc ks x=some .free):(x,aaV)∈sc∨(x,abm)∈sc:=by
 unfold nM at h
 rw[if_pos hx] at h
 cases e:sc.lookup x with
 |none=>rw[e] at h;rcases h with h|h<;>exact no1 h
 |some k=>
  rw[e] at h
  have hm:=lookup_mem e
  by_cases hk:k=.free
  ·subst hk;exact .inr hm
  ·have:(if k=.free∧ks x=some .cell then aaV else k)=k:=if_neg fun q=>hk q.1
   simp only [ac9,this] at h
   rcases h with h|h
   ·(first|(replace h:=(Z8 h).symm;subst h)|cases h);exact .inl hm
   ·(first|(replace h:=(Z8 h).symm;subst h)|cases h);exact absurd rfl hk
theorem Kf{sc:List (Nat×aam)}(hsc:zI ks sc)(Y:Ready hB Θ n ks C A env r s μ X H){Q:Env→aad→Prop}{c:aac}{b:Addr}
 (k:∀cenv s2 ν,PW hB Θ n ks sc C A env r s μ X H {cenv with scope:=relabel (aJ sc) env} s2 ν→Q cenv s2):
 aai (model pw w) A (newFunctionEnv (aJ sc) env.globals (mO env sc []) [] env.qual none c (some env) b) Q Ex s:=by
 refine GJ ?_
 have hz:(s.heap.push {cls:=.type "dict",data:=.dict #[]}).objs.size=s.heap.objs.size+1:=adt ..
 have ok:=cellsFrom_ok (aJ sc).names (s.heap.push {cls:=.type "dict",data:=.dict #[]}) (s.heap.objs.size+1) [] ⟨fun _ _ hm=>(nomatch hm),ah3⟩ (by rw[hz];exact aaA _)
 rw[hz] at ok
 generalize hown:cellsFrom (s.heap.objs.size+1) (aJ sc).names []=own at ok ⊢
 generalize YF:pushCells (s.heap.push {cls:=.type "dict",data:=.dict #[]}) (aJ sc).names=h2 at ok ⊢
 have W5:∀a o,(s.heap.push {cls:=.type "dict",data:=.dict #[]}).get? a=some o→h2.get? a=some o:=fun a o e=>YF▸pushCells_keeps _ _ a o e
 have Kp:∀a o,s.heap.get? a=some o→h2.get? a=some o:=fun a o e=>W5 a o (bx _ a o e)
 have hC:h2.Ns s.heap.objs.size fun _=>none:=YE.keeps W5
 have hge:∀a,s.heap.objs.size≤a→s.heap.get? a=none:=fun a ha=>by
  cases e:s.heap.get? a with
  |none=>rfl
  |some o=>exact absurd (aa7 e) (abt.mpr ha)
 have jh:∀a∈s.heap.objs.size::own.map (·.2),s.heap.get? a=none∧∃o,h2.get? a=some o:=fun a ha=>by
  rcases aar.mp ha with rfl|ha
  ·exact⟨aF _,by obtain⟨o,_,_,e,_⟩:=hC;exact⟨o,e⟩⟩
  ·obtain⟨p,hp,rfl⟩:=aa8.mp ha
   obtain⟨⟨o,e,_⟩,h4⟩:=ok.empty p.1 p.2 hp
   exact⟨hge _ (acN h4),o,e⟩
 have gf:Goes hB Θ C.lk s μ X H {s with heap:=h2} μ (X++(s.heap.objs.size::own.map (·.2))):=Goes.mK Y.st Kp _ jh
 have Y2:=Y.go gf
 have qd:∀{x:Nat}{c:Addr},own.lookup (nm x)=some c→c∈s.heap.objs.size::own.map (·.2)∧h2.IsCell c none:=fun e=>by
  have hm:=mem_of_lookup e
  exact⟨aaf _ (aa8.mpr ⟨_,hm,rfl⟩),(ok.empty _ _ hm).1⟩
 have PX:∀{x:Nat},x<138→(x,aaV)∉sc→own.lookup (nm x)=none:=fun hx h=>by
  rw[←hown];exact(vE hx sc _ _ hsc.lt h)
 have ia:∀{x:Nat},x<138→(x,aaV)∈sc→∃c,own.lookup (nm x)=some c:=fun hx h=>by
  have:=qc hx sc (s.heap.objs.size+1) [] hsc.lt (.inl h)
  rw[←hown];exact abw.mp this
 have cap:∀{x:Nat},x<138→(x,abm)∈sc→∃c vo,(own++mO env sc []).lookup (nm x)=some c∧env.cells.lookup (nm x)=some c∧h2.IsCell c vo∧c∈X++(s.heap.objs.size::own.map (·.2))∧∀v,aK x r=some v→∃u,vo=some u∧VR Θ h2 μ (X++(s.heap.objs.size::own.map (·.2))) v u:=fun{x}hx h=>by
  have hnc:(x,aaV)∉sc:=fun q=>by
   have h1:=mem_lookup hsc.nodup h
   have h2:=mem_lookup hsc.nodup q
   rw[h1] at h2;(first|(replace h2:=(Z8 h2).symm;subst h2)|cases h2)
  obtain⟨c,vo,c1,c2,c3,c4⟩:=Y2.fr.AI x hx (hsc.free _ h rfl)
  refine⟨c,vo,?_,c1,c2,c3,c4⟩
  rw[aby,PX hx hnc,xZ hx sc [] hsc.lt (.inl h),c1];rfl
 refine k _ _ (s.heap.objs.size::own.map (·.2)) ⟨fun a ha=>(jh a ha).1,Kp,rfl,rfl,gf.st,⟨Y2.cx,Y2.ja,?_,gf.st⟩,aae ..,fun x c hx hm e=>?_,fun a ha=>?_⟩
 ·exact{
   kind:=rfl
   code:=Y.fr.code
   glob:=Y.fr.glob
   HJ:=Y.fr.HJ
   kinds:=fun x hx=>PU hsc.lt Y.fr.kind Y.fr.kinds hx
   loc:=⟨_,hC,fun x v e kk=>by
    obtain⟨h1,h2⟩:=dj e
    have h3:=mem_lookup hsc.nodup (fP.mp h1)
    have Tc:=hsc.lt _ (fP.mp h1)
    unfold nM at kk
    rw[if_pos Tc,h3] at kk
    simp only [ac9,true_and] at kk
    split at kk<;>(first|(replace kk:=(Z8 kk).symm;subst kk)|cases kk)⟩
   AI:=fun x hx kk=>by
    rcases nE hx kk with h|h
    ·obtain⟨c,hc⟩:=ia hx h
     obtain⟨h1,h2⟩:=qd hc
     refine⟨c,none,?_,h2,aau _ h1,fun v e=>?_⟩
     ·show(own++mO env sc []).lookup (nm x)=some c
      rw[aby,hc];rfl
     ·obtain⟨h3,_⟩:=dj e
      have h4:=mem_lookup hsc.nodup (fP.mp h3)
      rw[mem_lookup hsc.nodup h] at h4;(first|(replace h4:=(Z8 h4).symm;subst h4)|cases h4)
    ·obtain⟨c,vo,c1,_,c2,c3,c4⟩:=cap hx h
     exact⟨c,vo,c1,c2,c3,fun v e=>c4 v (dj e).2⟩
   inj:=fun x y c hx hy kx ky ex ey=>by
    have ex:(own++mO env sc []).lookup (nm x)=some c:=ex
    have ey:(own++mO env sc []).lookup (nm y)=some c:=ey
    have sD:∀{x y:Nat}{c d:Addr},x<138→y<138→own.lookup (nm x)=some c→(y,abm)∈sc→(own++mO env sc []).lookup (nm y)=some d→c≠d:=fun{x y c d}hx hy h1 h2 h3 q=>by
     subst q
     obtain⟨c',vo,d1,d2,_⟩:=cap hy h2
     rw[h3] at d1;(first|(replace d1:=Z8 d1;subst d1)|cases d1)
     obtain⟨c'',WV,e1,⟨o,e2,_⟩,_⟩:=Y.fr.AI y hy (hsc.free _ h2 rfl)
     rw[d2] at e1;(first|(replace e1:=Z8 e1;subst e1)|cases e1)
     have:=(jh c (qd h1).1).1
     rw[e2] at this;exact no2 this
    rcases nE hx kx with hx'|hx'<;>rcases nE hy ky with hy'|hy'
    ·obtain⟨c1,e1⟩:=ia hx hx'
     obtain⟨c2,e2⟩:=ia hy hy'
     rw[aby,e1] at ex;(first|(replace ex:=(Z8 ex).symm;subst ex)|cases ex)
     rw[aby,e2] at ey;(first|(replace ey:=(Z8 ey).symm;subst ey)|cases ey)
     exact fN hx hy (name_of_addr ok.apart (mem_of_lookup e1) (mem_of_lookup e2))
    ·obtain⟨c1,e1⟩:=ia hx hx'
     have ex':=ex
     rw[aby,e1] at ex;(first|(replace ex:=(Z8 ex).symm;subst ex)|cases ex)
     exact absurd rfl (sD hx hy e1 hy' ey)
    ·obtain⟨c1,e1⟩:=ia hy hy'
     rw[aby,e1] at ey;(first|(replace ey:=(Z8 ey).symm;subst ey)|cases ey)
     exact absurd rfl (sD hy hx e1 hx' ex)
    ·obtain⟨c1,_,d1,d2,_⟩:=cap hx hx'
     obtain⟨c2,_,d3,d4,_⟩:=cap hy hy'
     rw[ex] at d1;(first|(replace d1:=Z8 d1;subst d1)|cases d1)
     rw[ey] at d3;(first|(replace d3:=Z8 d3;subst d3)|cases d3)
     exact Y.fr.inj x y c hx hy (hsc.free _ hx' rfl) (hsc.free _ hy' rfl) d2 d4
   dom:=fun x v e=>by
    obtain⟨h1,_⟩:=dj e
    have hm:=fP.mp h1
    refine⟨hsc.lt _ hm,.inr ?_⟩
    unfold nM
    rw[if_pos (hsc.lt _ hm),mem_lookup hsc.nodup hm]
    simp only [ac9,true_and]
    split
    ·exact .inl rfl
    ·exact .inr rfl
   kG:=aau _ (aae ..)}
 ·have e:(own++mO env sc []).lookup (nm x)=some c:=e
  obtain⟨c',hc⟩:=ia hx hm
  rw[aby,hc] at e;(first|(replace e:=(Z8 e).symm;subst e)|cases e)
  exact(qd hc).1
 ·rcases ha with rfl|⟨x,hx,kk,e⟩
  ·exact .inl (aae ..)
  ·have e:(own++mO env sc []).lookup (nm x)=some a:=e
   rcases nE hx kk with h|h
   ·obtain⟨c',hc⟩:=ia hx h
    rw[aby,hc] at e;(first|(replace e:=(Z8 e).symm;subst e)|cases e)
    exact .inl (qd hc).1
   ·obtain⟨c',_,d1,d2,_⟩:=cap hx h
    rw[e] at d1;(first|(replace d1:=Z8 d1;subst d1)|cases d1)
    exact .inr (.inr ⟨x,hx,hsc.free _ h rfl,d2⟩)
end
noncomputable def By(elt:Expr)(gens:List Comprehension)(sc:Scope)(pos:Pos)(d:Nat)(acc:aac)(env:Env)(k:Sem Fin):Sem Fin:=
 match gens[d]? with
 |some g'=>do
  let x←eval g'.iter env
  standAt g'.iter.pos
  let x←if g'.is_async !=0 then foldedIterable g'.iter x else foldedSetIterable g'.iter env x
  let _←runOwn (.compStart (.ListComp elt gens sc pos) d (←holding [x] (if g'.is_async !=0 then asyncIter x else pyIter x)) acc env) env
  k
 |none=>do
  (do let _←call (.builtin "list.append") [acc,←eval elt env]:Sem Unit)
  k
noncomputable def Dr(ifs:List Expr)(env:Env):Sem Bool:=forIn ifs true fun c r=>if r=true then do let ok←isTrue c env (eval c env);pure (ack ok) else pure (ack r)
theorem BA{elt:Expr}{gens:List Comprehension}{sc:Scope}{pos:Pos}{d:Nat}{it acc:aac}{env:Env}{tg iter:Expr}{ifs:List Expr}(hg:gens[d]?=some ⟨tg,iter,ifs,0⟩):
 compTurn (.ListComp elt gens sc pos) d it acc env=(do
  standAt iter.pos
  match←pyNext it with
  |none=>pure (.done .next)
  |some v=>
   letOwnedTupleGo tg it v
   assign tg env v
   let ok←Dr ifs env
   if ok then By elt gens sc pos (d+1) acc env (again (.compLoop (.ListComp elt gens sc pos) d it acc env))
   else again (.compLoop (.ListComp elt gens sc pos) d it acc env)):=by
 unfold compTurn By Dr
 simp only [hg,bne_self_eq_false,abl,if_false]
 rfl
section
variable{w:aaC}{K:Frag}{hB hF:aal}{O W:Addr→Prop}{N0:Nat}{Θ:Th}{A:aav}{lk:List Nat}{s s0 s' s'' s1:aad}{μ j4 aG bZ X X0 X' gJ aZ X1:List Addr}{H H0 H' iz H1:HP}{n:Nat}{C:Cx}{env cenv:Env}{outer:List Env}{r r0 r' r1:aR}{ks:Kinds}{Ex:aac→aad→Prop}{D:Addr}{av:List V}
structure sF(W O:Addr→Prop)(ks:Kinds)(cenv:Env)(A:aav)(D:Addr):Prop where
 wo:∀a,W a→O a
 tabs:∀a∈ao,O a
 own:∀a,Own ks cenv a→O a
 fr:∀a,nP A a→O a
 loc:W cenv.locals
 acc:W D
structure nU(hB:aal)(Θ:Th)(n:Nat)(W O:Addr→Prop)(ks:Kinds)(C:Cx)(A:aav)(cenv:Env)(D:Addr)(r:aR)(s:aad)(μ X:List Addr)(H:HP)(av:List V):Prop where
 ready:Ready hB Θ n ks C A cenv r s μ X H
 acc:∃ys:List aac,LstAt s.heap D ys.toArray∧VRs Θ s.heap μ X av ys
 wX:∀a,W a→a∈X∧a∉μ∧cP s.heap a
 stood:∀a,O a→cP s.heap a
theorem LstAt.Kg(S:St hB Θ s.heap μ X H){xs:Array aac}(h:LstAt s.heap D xs):D∉ao:=fun ht=>by
 obtain⟨vs,e⟩:=S.tabAt ht
 obtain⟨j,e'⟩:=h
 rw[e] at e';(first|(replace e':=(Z8 e').symm;subst e')|cases e')
theorem cP.keep{h h':aal}(k:∀a o,h.get? a=some o→∃o',h'.get? a=some o'){a:Addr}(x:cP h a):cP h' a:=by
 cases e:h.get? a with
 |none=>exact absurd e x
 |some o=>obtain⟨o',e'⟩:=k a o e;exact .of e'
theorem cP.get{h:aal}{a:Addr}(x:cP h a):∃o,h.get? a=some o:=by
 cases e:h.get? a with
 |none=>exact absurd e x
 |some o=>exact⟨o,rfl⟩
theorem nU.moved(c:nU hB Θ n W O ks C A cenv D r s μ X H av)(hD:W D)(g:iE hB Θ lk (fun a=>W a∧a≠D) s μ X H' s' aG X')(Y:Ready hB Θ n ks C A cenv r' s' aG X' H'):nU hB Θ n W O ks C A cenv D r' s' aG X' H' av where
 ready:=Y
 acc:=by
  obtain⟨ys,hl,q⟩:=c.acc
  obtain⟨hX,hμ,_⟩:=c.wX D hD
  refine⟨ys,bS hl fun o e=>g.keep.1 D o e fun p=>?_,g.SD c.ready.st (fun a _ _ ha=>(c.wX a ha.1).1) q⟩
  rcases p with p|p
  ·rcases p with p|⟨k,e',_⟩
   ·exact hl.Kg c.ready.st p
   ·exact hμ (aaU e')
  ·exact p.2 rfl
 wX a ha:=by obtain⟨h1,h2,h3⟩:=c.wX a ha;obtain⟨o,e⟩:=h3.get;exact⟨g.gx.sub h1,g.gm.gS e h2,h3.keep g.keep.2⟩
 stood a ha:=(c.stood a ha).keep g.keep.2
theorem nU.goes(c:nU hB Θ n W O ks C A cenv D r s μ X H av)(hD:W D)(g:Goes hB Θ lk s μ X H' s' aG X'):nU hB Θ n W O ks C A cenv D r s' aG X' H' av:=c.moved hD g.LH (c.ready.go g)
theorem nU.turn(c:nU hB Θ n W O ks C A cenv D r s μ X H av)(L:sF W O ks cenv A D)(t:Turn O N0 s μ X s' X'):nU hB Θ n W O ks C A cenv D r s' μ X' H av where
 ready:=c.ready.turn L.tabs L.own L.fr t
 acc:=by
  obtain⟨ys,hl,q⟩:=c.acc
  exact⟨ys,bS hl fun o e=>t.keep D o e (.inl (L.wo D L.acc)),t.Eb q⟩
 wX a ha:=by obtain⟨h1,h2,h3⟩:=c.wX a ha;exact⟨t.gx.sub h1,h2,h3.keep t.stay⟩
 stood a ha:=(c.stood a ha).keep t.stay
theorem nU.add(c:nU hB Θ n W O ks C A cenv D r s μ X H av)(L:sF W O ks cenv A D)(hlen:av.length<4000){v:V}{u:aac}(q:VR Θ s.heap μ X v u){Q:aac→aad→Prop}
 (k:∀s',iE hB Θ lk W s μ X H s' μ X→nU hB Θ n W O ks C A cenv D r s' μ X H (av++[v])→Q .none s'):aai (model pw w) A (call (.builtin "list.append") [.ref D,u]) Q Ex s:=by
 obtain⟨ys,hl,qs⟩:=c.acc
 obtain⟨hX,hμ,_⟩:=c.wX D L.acc
 have hT:=hl.Kg c.ready.st
 have W6:=hl
 obtain⟨j,hj⟩:=hl
 have hz:ys.toArray.size≤sizeLine:=by have:=qs.length;simp;unfold sizeLine;omega
 refine acT ac3 (LstAt.isList ⟨j,hj⟩).typeIs ael ?_ (aeb _ _)
 show aai _ _ (updateSeq _ (·.push u)>>=fun _=>ret .none) _ _ s
 refine aab (ae5 hj rfl (aag ⟨.none,rfl,?_⟩) hz (by simp;exact hz|>fun h=>by simpa using h))
 have hn:LstAt (s.heap.update D (aa4 (·.push u))) D (ys++[u]).toArray:=om hj (by simp)
 have Rm:∀b o,b≠D→s.heap.get? b=some o→(s.heap.update D (aa4 (·.push u))).get? b=some o:=fun b o hb e=>by rw[adO _ _ _ _ hb];exact e
 have kp:fL (fun a=>a=D) s.heap (s.heap.update D (aa4 (·.push u))):=⟨fun a o e hn=>Rm a o hn e,fun a o e=>by
  by_cases ha:a=D
  ·subst ha;exact hn.get
  ·exact⟨o,Rm a o ha e⟩⟩
 have S':St hB Θ (s.heap.update D (aa4 (·.push u))) μ X H:=by
  have:=c.ready.st.frame kp (fun a o _ e=>by subst e;exact⟨hX,hμ,hT⟩) [] (by simp)
  simpa using this
 have g:iE hB Θ lk W s μ X H {s with heap:=s.heap.update D (aa4 (·.push u))} μ X:=⟨S',.refl,.refl,kp.mono fun a o _ e=>by subst e;exact .inr L.acc,rfl,.refl _⟩
 have vr:∀{v:V}{u:aac},VR Θ s.heap μ X v u→VR Θ (s.heap.update D (aa4 (·.push _))) μ X v u:=fun q=>q.mono (fun a o e ha=>Rm a o (fun h=>ha (h▸hX)) e) .refl .refl
 have Eb:∀{v:List V}{u:List aac},VRs Θ s.heap μ X v u→VRs Θ (s.heap.update D (aa4 (·.push _))) μ X v u:=fun q=>q.mono (fun a o e ha=>Rm a o (fun h=>ha (h▸hX)) e) .refl .refl
 have nl:∀{L:Addr}{m:Str→Option aac},s.heap.Ns L m→(s.heap.update D (aa4 (·.push u))).Ns L m:=fun hn=>hn.at' fun o e=>Rm _ o (Ec hn hj fun _ _ e=>by cases e).symm e
 exact k _ g ⟨⟨c.ready.cx,c.ready.ja.move fun L m _ hn hX hm _=>⟨hX,hm,m,nl hn⟩,c.ready.fr.keep (fun _ _ q=>vr q) (fun _ hn=>nl hn) (fun x ca vo _ _ _ hc hX=>⟨jt hc fun o e=>Rm ca o (fun h=>by obtain⟨o',e',hd⟩:=hc;rw[h,hj] at e';rw[←Z8 e'] at hd;cases hd) e,hX⟩) c.ready.fr.kG,S'⟩,
  ⟨_,hn,(Eb qs).append (.cons (vr q) .nil)⟩,fun a ha=>by obtain⟨h1,h2,h3⟩:=c.wX a ha;exact⟨h1,h2,h3.keep kp.2⟩,fun a ha=>(c.stood a ha).keep kp.2⟩
noncomputable def sG(w:aaC)(hB:aal)(Θ:Th)(n:Nat)(ks:Kinds)(c:CB)(l:List E):Prop:=∀C A env r s μ X H,Ready hB Θ n ks C A env r s μ X H→c C r H≠.bad→
 aai (model pw w) A (Dr (fT l) env) (QG (fun _ _ _ b b'=>b'=b) hB Θ C.lk s μ X (c C r H)) (EG hB Θ A C.lk s μ X (c C r H)) s
theorem GK:sG w hB Θ n ks (cC true) []:=fun C A env r s μ X H Y hne=>aag (aV rfl (.refl Y.st) rfl)
theorem sH(env:Env):∀l:List Expr,(forIn l false fun c r=>if r=true then do let ok←isTrue c env (eval c env);pure (ack ok) else pure (ack r):Sem Bool)=pure false
 |[]=>rfl
 |e::l=>by
  rw[ab0]
  simp only [abl,if_false]
  exact sH env l
theorem Ds{ca cb:CB}{e:E}{l:List E}(ha:lH w hB Θ n ks ca (dE e))(hb:sG w hB Θ n ks cb l):sG w hB Θ n ks (jU ca cb) (e::l):=fun C A env r s μ X H Y hne=>by
 show aai _ _ (forIn (dE e::fT l) true _) _ _ _
 rw[ab0]
 simp only [if_true]
 refine aab (aab (Y.step (.refl Y.st) rfl hne (fun Y'=>ha C A env r s μ X H Y') fun v H1 u s1 aZ X1 g _ q hw=>?_))
 subst q
 refine aag ?_
 cases u with
 |false=>
  show aai _ _ (forIn (fT l) false _) _ _ _
  rw[sH]
  exact aag (aV (Rel:=fun _ _ _ b b'=>b'=b) hw g rfl)
 |true=>
  exact Y.step (f:=fun v H=>.ok v H) g (hw.trans (R.gV (cb C r H1))) hne (fun Y'=>hb C A env r s1 aZ X1 H1 Y') fun v2 H2 u2 s2 nc X2 g2 oR q2 hw=>aV hw g2 q2
noncomputable def bf:T→List Nat
 |.one x _=>[x]
 |.two x _ y _ _=>[x,y]
theorem GL{t:T}{v:V}(h:dU (tV t) v r=some r'){y:Nat}(hy:y∉bf t):aK y r'=aK y r:=by
 cases t with
 |one x p=>
  (first|(replace h:=(Z8 h).symm;subst h)|cases h)
  rw[d8,if_neg (by simpa [bf] using hy)]
 |two x px y' py p=>
  obtain⟨a,b,rfl,rfl⟩:=xS h
  simp only [bf,aar,aaM,or_false,not_or] at hy
  rw[d8,if_neg hy.2,d8,if_neg hy.1]
theorem nU.less(c:nU hB Θ n W O ks C A cenv D r s μ X H av)(e:∀x v,aK x r'=some v→aK x r=some v):nU hB Θ n W O ks C A cenv D r' s μ X H av:=⟨⟨c.ready.cx,c.ready.ja,c.ready.fr.less e,c.ready.st⟩,c.acc,c.wX,c.stood⟩
theorem nU.lock(c:nU hB Θ n W O ks C A cenv D r s μ X H av)(l:List Nat):nU hB Θ n W O ks (C.lock l) A cenv D r s μ X H av:=⟨c.ready.lock l,c.acc,c.wX,c.stood⟩
theorem nU.unlock{l:List Nat}(c:nU hB Θ n W O ks (C.lock l) A cenv D r s μ X H av)(h:tu Θ n C A):nU hB Θ n W O ks C A cenv D r s μ X H av:=⟨c.ready.unlock h,c.acc,c.wX,c.stood⟩
theorem Kh{l lk:List Nat}{k:Nat}(h:k∈lk):k∈au l lk:=by rw[aO];exact aau _ h
noncomputable def oG(w:aaC)(hB:aal)(Θ:Th)(n:Nat)(ks:Kinds)(elt:Expr)(gens:List Comprehension)(sc:Scope)(pos:Pos)(A:aav)(cenv:Env)(D:Addr)(W:Addr→Prop)(d:Nat)(inner:CL)(names:List Nat):Prop:=
 ∀(C:Cx)(O:Addr→Prop)(r:aR)(s:aad)(μ X:List Addr)(H:HP)(av zs:List V)(H':HP)(k:Sem Fin)(Q:Fin→aad→Prop)(Ex:aac→aad→Prop),sF W O ks cenv A D→nU hB Θ n W O ks C A cenv D r s μ X H av→
  inner C r H=.ok zs H'→av.length+zs.length≤4000→(∀y∈names,aK y r=none)→
  (∀s' aG X',iE hB Θ C.lk W s μ X H' s' aG X'→nU hB Θ n W O ks C A cenv D r s' aG X' H' (av++zs)→aai (model pw w) A k Q Ex s')→
  aai (model pw w) A (By elt gens sc pos d (.ref D) cenv k) Q Ex s
theorem GO{ce:CE}{elt:Expr}{gens:List Comprehension}{sc:Scope}{pos:Pos}{d:Nat}(hg:gens[d]?=none)(he:aX w hB Θ n ks ce elt):oG w hB Θ n ks elt gens sc pos A cenv D W d (g1 ce) []:=fun C O r s μ X H av zs H' k Q Ex L c hi hlen _ hk=>by
 have hi:(ce C r H).bind (fun v H=>R.ok [v] H)=.ok zs H':=hi
 cases ec:ce C r H with
 |bad=>rw[ec] at hi;exact nW hi
 |exc c m h=>rw[ec] at hi;exact LM hi
 |ok v H1=>
 rw[ec] at hi
 cases hi
 unfold By
 rw[hg]
 refine aab (aab (rB ec (he C A cenv r s μ X H c.ready) fun u s1 aZ X1 g q=>?_))
 have c1:=c.goes L.acc g
 refine aab (c1.add (lk:=C.lk) L (by simp at hlen;omega) q fun s2 g2 c2=>aag ?_)
 exact hk s2 aZ X1 (g.LH.trans g2) c2
theorem Dt{tests:aR→HP→R Bool}{inner:aR→HP→R (List V)}{t:Tg}{v:V}{l:List V}:c7 tests inner t (v::l) r H=(match dU t v r with
 |none=>.bad
 |some r=>match tests r H with
  |.ok b H=>az b (match inner r H with
   |.ok xs H=>match c7 tests inner t l r H with
    |.ok ys H=>.ok (au xs ys) H
    |_=>.bad
   |_=>.bad) (c7 tests inner t l r H)
  |_=>.bad):=rfl
inductive vF(tests:aR→HP→R Bool)(inner:aR→HP→R (List V))(t:Tg)(l:List V)(r:aR)(H:HP)(zs:List V)(H':HP):Bool→Prop
 |skip(h:c7 tests inner t l r H=.ok zs H'):vF tests inner t l r H zs H' false
 |take{xs ys:List V}{H6:HP}(hi:inner r H=.ok xs H6)(h:c7 tests inner t l r H6=.ok ys H')(e:zs=xs++ys):vF tests inner t l r H zs H' true
theorem GP{tests:aR→HP→R Bool}{inner:aR→HP→R (List V)}{t:Tg}{v:V}{l zs:List V}(h:c7 tests inner t (v::l) r H=.ok zs H'):∃r4 b H5,dU t v r=some r4∧tests r4 H=.ok b H5∧vF tests inner t l r4 H5 zs H' b:=by
 rw[Dt] at h
 cases hb:dU t v r with
 |none=>rw[hb] at h;exact nW h
 |some r4=>
  rw[hb] at h
  replace h:(match tests r4 H with
   |.ok b H=>az b (match inner r4 H with
    |.ok xs H=>match c7 tests inner t l r4 H with
     |.ok ys H=>.ok (au xs ys) H
     |_=>.bad
    |_=>.bad) (c7 tests inner t l r4 H)
   |_=>.bad)=R.ok zs H':=h
  refine⟨r4,?_⟩
  cases ht:tests r4 H with
  |bad=>rw[ht] at h;exact nW h
  |exc _ _ _=>rw[ht] at h;exact nW h
  |ok b H5=>
   rw[ht] at h
   refine⟨b,H5,rfl,rfl,?_⟩
   cases b with
   |false=>exact .skip h
   |true=>
    replace h:(match inner r4 H5 with
     |.ok xs H=>match c7 tests inner t l r4 H with
      |.ok ys H=>.ok (au xs ys) H
      |_=>.bad
     |_=>.bad)=R.ok zs H':=h
    cases hi:inner r4 H5 with
    |bad=>rw[hi] at h;exact nW h
    |exc _ _ _=>rw[hi] at h;exact nW h
    |ok xs H6=>
     rw[hi] at h
     replace h:(match c7 tests inner t l r4 H6 with
      |.ok ys H=>.ok (au xs ys) H
      |_=>.bad)=R.ok zs H':=h
     cases hl:c7 tests inner t l r4 H6 with
     |bad=>rw[hl] at h;exact nW h
     |exc _ _ _=>rw[hl] at h;exact nW h
     |ok ys H7=>
      rw[hl] at h
      cases h
      exact .take hi hl (aO xs ys)
theorem Kl{h:aal}{a D:Addr}{v:Option aac}{xs:Array aac}(hc:h.IsCell a v)(hl:LstAt h D xs):a≠D:=fun e=>by
 subst e
 obtain⟨o,ho,hd⟩:=hc
 obtain⟨j,hj⟩:=hl
 rw[←Z8 (hj.symm.trans ho)] at hd
 cases hd
theorem PY{h:aal}{L D:Addr}{m:Str→Option aac}{xs:Array aac}(hn:h.Ns L m)(hl:LstAt h D xs):D≠L:=by
 obtain⟨j,hj⟩:=hl
 exact Ec hn hj fun _ _ e=>by cases e
theorem M7{t:T}(ht:w5 ks t)(Ou:∀x∈bf t,ks x=some .cell→∀c,cenv.cells.lookup (nm x)=some c→W c)(F:FR hB Θ ks cenv r s.heap μ X){ys:Array aac}(Td:LstAt s.heap D ys):WY ks cenv (fun a=>W a∧a≠D) t:=by
 have one:∀x,x∈bf t→x<138→ks x=some .cell→∀c,cenv.cells.lookup (nm x)=some c→W c∧c≠D:=fun x hx Tc hkx ca e=>⟨Ou x hx hkx ca e,by
  obtain⟨c',vo,d1,d2,_⟩:=F.AI x Tc (.inl hkx)
  obtain rfl:=Z8 (e.symm.trans d1)
  exact Kl d2 Td⟩
 cases t with
 |one x p=>exact one x (aae ..) ht.1
 |two x px y py p=>exact⟨one x (aae ..) ht.1.1,one y (aaf _ (aae ..)) ht.2.1⟩
theorem nU.VG(c:nU hB Θ n W O ks C A cenv D r s μ X H av)(L:sF W O ks cenv A D)(a:Addr)(ha:W a):a∈X∧a∉μ∧O a:=⟨(c.wX a ha).1,(c.wX a ha).2.1,L.wo a ha⟩
theorem GQ{sB:aad}{Km XB:List Addr}{HB:HP}(hN:sB.gens.size≤N0)(SB:St hB Θ sB.heap Km XB HB)(PC:∀a,cP sB.heap a→O a)(L:sF W O ks cenv A D)(g1:iE hB Θ C.lk W sB Km XB H s μ X)(c1:nU hB Θ n W O ks C A cenv D r s μ X H av)(tE:Bs O N0 s μ X s')(hr:∀x v,aK x r'=some v→aK x r=some v):
 ∃X2,iE hB Θ C.lk W sB Km XB H s' μ X2∧nU hB Θ n W O ks C A cenv D r' s' μ X2 H av:=by
 obtain⟨X2,g2,hv,hvs,YH,hY⟩:=vA hN SB PC L.tabs c1.ready.st g1 tE
 have st:∀a,O a→cP s.heap a→cP s'.heap a:=fun a ha h=>h.get.elim fun o e=>.of (tE.keep a o e (.inl ha))
 have Y2:=hY c1.ready L.own L.fr
 refine⟨X2,g2,⟨Y2.cx,Y2.ja,Y2.fr.less hr,Y2.st⟩,?_,fun a ha=>⟨YH a (c1.wX a ha).1 (L.wo a ha),(c1.wX a ha).2.1,st a (L.wo a ha) (c1.wX a ha).2.2⟩,fun a ha=>st a ha (c1.stood a ha)⟩
 obtain⟨ys,hl',q⟩:=c1.acc
 exact⟨ys,bS hl' fun o e=>tE.keep D o e (.inl (L.wo D L.acc)),hvs _ _ q⟩
inductive YI(hB:aal)(Θ:Th)(n:Nat)(W O:Addr→Prop)(ks:Kinds)(C:Cx)(A:aav)(cenv:Env)(D:Addr)(t:T)(tests:aR→HP→R Bool)(inner:aR→HP→R (List V))(P:List V→aad→List Addr→List Addr→Prop)(sB:aad)(Km XB:List Addr)(r0:aR)(all:List V)(H':HP)(m:Nat)(s':aad):Prop
 |mk(vs:List V)(r:aR)(μ X:List Addr)(H:HP)(av zs:List V)(hm:m=vs.length)(g:iE hB Θ C.lk W sB Km XB H s' μ X)(c:nU hB Θ n W O ks C A cenv D r s' μ X H av)(p:P vs s' μ X)(hw:c7 tests inner (tV t) vs r H=.ok zs H')(PZ:av++zs=all)(off:∀y,y∉bf t→aK y r=aK y r0)
theorem EV{elt:Expr}{gens:List Comprehension}{sc:Scope}{pos:Pos}{d:Nat}{t:T}{iter:Expr}{ifs:List E}{tests:CB}{inner:CL}{names:List Nat}(hg:gens[d]?=some ⟨dT t,iter,fT ifs,0⟩)
 (ht:w5 ks t) (Ou:∀x∈bf t,ks x=some .cell→∀c,cenv.cells.lookup (nm x)=some c→W c) (htests:sG w hB Θ n ks tests ifs) (hrest:oG w hB Θ n ks elt gens sc pos A cenv D W (d+1) inner names) (Kn:∀y∈names,y∉bf t)
 {it:aac} {P:List V→aad→List Addr→List Addr→Prop} {Gx:List Nat} {vs zs:List V} {sB:aad} {Km XB:List Addr} {HB:HP} (hN:sB.gens.size≤N0) (SB:St hB Θ sB.heap Km XB HB) (PC:∀a,cP sB.heap a→O a)
 (gB:iE hB Θ C.lk W sB Km XB H0 s0 j4 X0) (L:sF W O ks cenv A D) (c:nU hB Θ n W O ks C A cenv D r0 s0 j4 X0 H0 av) (hl:bh b9 C.lk=true)
 (I:kW w hB Θ O N0 (au Gx C.lk) A it (dT t) P) (hP:P vs s0 j4 X0) (hw:c7 (tests (C.lock Gx)) (inner (C.lock Gx)) (tV t) vs r0 H0=.ok zs H') (hlen:av.length+zs.length≤4000) (hnone:∀y∈bf t++names,aK y r0=none)
 {Rr:Result→aad→Prop} (hR:∀s' aG X',iE hB Θ C.lk W sB Km XB H' s' aG X'→nU hB Θ n W O ks C A cenv D r0 s' aG X' H' (av++zs)→Rr (.ok .next) s'):
 codeAny (model pw w) A (.compLoop (.ListComp elt gens sc pos) d it (.ref D) cenv) Rr s0:=by
 have hh:=c.ready.cx.hh hl
 have hlk:∀k∈C.lk,k∈au Gx C.lk:=fun k hk=>Kh hk
 have M8:=c.ready.cx
 refine codeAny_loop rfl (YI hB Θ n W O ks C A cenv D t (tests (C.lock Gx)) (inner (C.lock Gx)) P sB Km XB r0 (av++zs) H') (fun m s1 hI=>?_) vs.length ⟨vs,r0,j4,X0,H0,av,zs,rfl,gB,c,hP,hw,rfl,fun _ _=>rfl⟩
 clear hw hP gB c
 rw[←aao] at hlen
 generalize av++zs=all at*
 obtain⟨vs',r1,aZ,X1,H1,Te,zs',rfl,g1,c1,P1,hw1,PZ,hoff⟩:=hI
 show aai _ A ((compTurn (.ListComp elt gens sc pos) d it (.ref D) cenv).onRaise (fun x=>do noteFrame x cenv;theTreesLotGoes x)) _ _ s1
 refine wpAny_noted ?_
 rw[BA hg]
 refine aab (aa3 (aab (aas (I.step hh (aah (abb ..) M8.depth) (aah (abb ..) M8.units) c1.stood P1 c1.ready.st) (fun o s2 h=>?_) fun _ _ x=>x)))
 cases vs' with
 |nil=>
  obtain⟨rfl,tE⟩:=h
  cases hw1
  obtain⟨X2,g2,c2⟩:=GQ (r':=r0) hN SB PC L g1 c1 tE fun x v e=>by
   rw[hoff x fun h=>by rw[hnone x (aaT _ h)] at e;exact no1 e];exact e
  rw[aaO] at PZ
  exact aag (hR _ _ _ g2 (PZ▸c2))
 |cons v vs'=>
  obtain⟨u,X2,rfl,t2,q2,hgo⟩:=h
  have c2:=c1.turn L t2
  have g2:=iE.turn hN PC L.tabs g1 t2
  refine aab (aas (hgo _) (fun _ s3 h=>?_) fun _ _ x=>x)
  obtain⟨X3,t3,q3,P3⟩:=h
  have c3:=c2.turn L t3
  have g3:=iE.turn hN PC L.tabs g2 t3
  clear c1 c2 g1 g2 t2 t3 q2 P1 hgo
  obtain⟨r4,b,H5,SK,et,hrs⟩:=GP hw1
  clear hw1
  obtain⟨ys,Td,_⟩:=c3.acc
  obtain⟨m,hn,_⟩:=c3.ready.fr.loc
  refine aab (EN (lk:=au Gx C.lk) (W:=fun a=>W a∧a≠D) ⟨L.loc,(PY hn Td).symm⟩ c3.ready hh ht (M7 ht Ou c3.ready.fr Td) q3 SK (fun a ha=>(c3.wX a ha.1).1) fun s4 g4 Y4=>?_)
  have c4:=c3.moved L.acc g4 Y4
  have P4:=I.stay P3 c3.ready.st (fun a(ha:W a∧a≠D)=>c3.VG L a ha.1) g4
  have W7:iE hB Θ C.lk W sB Km XB H1 s4 aZ X3:=g3.trans ((iE.unlock (lk:=C.lk) g4 hlk).mono fun _ _ _ h=>h.1)
  have P0:∀y,y∉bf t→aK y r4=aK y r0:=fun y hy=>(GL SK hy).trans (hoff y hy)
  clear hoff c3 g3 g4 Y4 P3 SK q3 Td hn
  refine aab (rB et (htests (C.lock Gx) A cenv r4 s4 aZ X3 H1 (c4.lock Gx).ready) fun b' s5 GF X5 g5 qb=>?_)
  subst qb
  have c5:=c4.goes L.acc g5
  have P5:=I.stay P4 c4.ready.st (c4.VG L) (g5.LH (W:=W))
  have Ov:=W7.trans (iE.unlock (lk:=C.lk) (g5.LH (W:=W)) hlk)
  clear c4 P4 W7 g5
  cases hrs with
  |skip hw1=>exact aag ⟨rfl,vs'.length,adE _,vs',r4,GF,X5,H5,Te,zs',rfl,Ov,c5,P5,hw1,PZ,P0⟩
  |@take xs ys' H6 hi hw1 e=>
   subst e
   rw[←aaE] at PZ
   have hlen2:Te.length+xs.length≤4000:=aah (by rw[←aao,←PZ,aao (as:=Te++xs)];exact abb ..) hlen
   exact hrest (C.lock Gx) O r4 s5 GF X5 H5 Te xs H6 _ _ _ L (c5.lock Gx) hi hlen2 (fun y hy=>by rw[P0 y (Kn y hy)];exact hnone y (aau _ hy)) fun s6 YJ X6 g6 c6=>
    aag ⟨rfl,vs'.length,adE _,vs',r4,YJ,X6,H6,Te++xs,ys',rfl,Ov.trans (iE.unlock (lk:=C.lk) g6 hlk),c6.unlock M8,I.stay P5 c5.ready.st (c5.VG L) g6,hw1,PZ,P0⟩
theorem qe{elt:Expr}{gens:List Comprehension}{sc:Scope}{pos:Pos}{d:Nat}{it acc:aac}{g:Comprehension}{Rr:Result→aad→Prop}(hg:gens[d]?=some g)(h0:g.is_async=0)
 (hself:∀(Q:aac→aad→Prop)(Ex:aac→aad→Prop),Q it s→aai (model pw w) A (pyIter it) Q Ex s)
 (h:codeAny (model pw w) A (.compLoop (.ListComp elt gens sc pos) d it acc cenv) Rr s):codeAny (model pw w) A (.compStart (.ListComp elt gens sc pos) d it acc cenv) Rr s:=by
 refine agP ?_
 show aai _ _ ((compStart (.ListComp elt gens sc pos) d it acc cenv).onRaise (fun x=>do noteFrame x cenv;standAt theWindowsPlace)) _ _ s
 refine wpAny_notedAt ?_
 unfold compStart
 have hc:(clausesOf (.ListComp elt gens sc pos))[d]?=some g:=hg
 rw[hc]
 simp only [agu,h0,bne_self_eq_false,abl,if_false]
 show aai _ _ (ask>>=_) _ _ s
 refine aab (wpAny_askSetting (abi ?_))
 split
 ·first
   |exact aab (aag (aag (agB rfl h)))
   |exact aag (agB rfl h)
 ·first
   |exact aab (aed (aab (aa3 (aab (hself _ _ (aag (agB rfl h)))))))
   |(refine aab (aed ?_);show aai _ _ (standAt g.iter.pos>>=_) _ _ s;exact aab (aa3 (aab (hself _ _ (aag (agB rfl h))))))
theorem mark_none(h:A.handled=none):A.mark none=A:=by
 obtain⟨a,b,c,d,e⟩:=A
 cases h;rfl
theorem GR{elt:Expr}{gens:List Comprehension}{sc:Scope}{pos:Pos}{d:Nat}{t:T}{wI:E}{ifs:List E}{ci:CI}{tests:CB}{inner:CL}{names:List Nat}(hg:gens[d]?=some ⟨dT t,dE wI,fT ifs,0⟩)
 (hi:jj w hB Θ n ks ci (dE wI) (dT t)) (hf:∀(env:Env)x,foldedSetIterable (dE wI) env x=pure x)
 (ht:w5 ks t) (Ou:∀x∈bf t,ks x=some .cell→∀c,cenv.cells.lookup (nm x)=some c→W c) (htests:sG w hB Θ n ks tests ifs) (hrest:oG w hB Θ n ks elt gens sc pos A cenv D W (d+1) inner names) (Kn:∀y∈names,y∉bf t):
 oG w hB Θ n ks elt gens sc pos A cenv D W d (g2 (tV t) ci tests inner) (bf t++names):=fun C O r s μ X H av zs H' k Q Ex L c hw hlen hnone hk=>by
 have hw:(match ci C r H with
  |.ok x H=>az (bh b9 C.lk) (c7 (tests (C.lock x.2)) (inner (C.lock x.2)) (tV t) x.1 r H) .bad
  |_=>.bad)=R.ok zs H':=hw
 cases ec:ci C r H with
 |bad=>rw[ec] at hw;exact nW hw
 |exc _ _ _=>rw[ec] at hw;exact nW hw
 |ok x H1=>
 rw[ec] at hw
 obtain⟨hl,_,hw1⟩:=bY (show az (bh b9 C.lk) (c7 (tests (C.lock x.2)) (inner (C.lock x.2)) (tV t) x.1 r H1) .bad≠.bad from by rw[show az (bh b9 C.lk) (c7 (tests (C.lock x.2)) (inner (C.lock x.2)) (tV t) x.1 r H1) .bad=R.ok zs H' from hw];exact fun h=>by exact Ry h)
 have hw:=hw1.symm.trans hw
 have hh:=c.ready.cx.hh hl
 unfold By
 rw[hg]
 simp only [bne_self_eq_false,abl,if_false]
 refine aab (aas (hi C A cenv r s μ X H c.ready hl x H1 ec Ex) (fun v s1 h=>?_) fun _ _ x=>x)
 refine aab (aa3 ?_)
 rw[hf]
 refine aab (aag ?_)
 refine aab (aaP (aas h (fun it s2 h=>?_) fun _ _ x=>x))
 obtain⟨nc,X2,N,g2,hN,hI⟩:=h
 obtain⟨P,I,hP⟩:=hI (cP s.heap) c.ready.st.lz (fun a ha h=>h (hN a ha).1) _
 have L2:sF W (cP s.heap) ks cenv A D:=⟨fun a ha=>(c.wX a ha).2.2,c.ready.st.lz,fun a ha=>c.ready.fr.xT ha,fun a ha=>c.ready.ja.JO ha,L.loc,L.acc⟩
 have c1:nU hB Θ n W (cP s.heap) ks C A cenv D r s μ X H av:=⟨c.ready,c.acc,c.wX,fun a ha=>ha⟩
 have c2:=c1.goes L.acc g2
 refine aab (wpAny_runOwn ?_)
 rw[mark_none hh]
 refine qe hg rfl (fun Q Ex h=>I.self hP h) ?_
 refine EV hg ht Ou htests hrest Kn (aaA _) c.ready.st (fun a h=>h) g2.LH L2 c2 hl I hP hw hlen hnone fun s3 wU X3 g3 c3=>?_
 exact hk s3 wU X3 g3 ⟨c3.ready,c3.acc,c3.wX,fun a ha=>c3.stood a (c.stood a ha)⟩
structure CompEnd(hB:aal)(Θ:Th)(lk:List Nat)(s:aad)(μ X:List Addr)(H':HP)(vs:List V)(D c:Addr)(s':aad):Prop where
 ex:∃aG X' m,Goes hB Θ lk s μ X H' s' aG X'∧VR Θ s'.heap aG X' (.lst vs) (.ref D)∧c∈X'∧c∉aG∧s'.heap.Ns c m
 fresh:s.heap.get? c=none
theorem x9{elt:Expr}{gs:List Internal.G}{gr:List (Nat×aam)}{pos:Pos}{t:T}{wI:E}{ifs:List E}{ci:CI}{tests:CB}{inner:CL}{names:List Nat}{rest:List Comprehension}
 (hsc:zI ks gr) (hi:jj w hB Θ n ks ci (dE wI) (dT t)) (ht:w5 (nM gr ks) t) (Ou:∀x∈bf t,nM gr ks x=some .cell→(x,aaV)∈gr) (htests:sG w hB Θ n (nM gr ks) tests ifs)
 (hrest:∀(A:aav)(cenv:Env)(D:Addr)(W:Addr→Prop),(∀x c,x<138→(x,aaV)∈gr→cenv.cells.lookup (nm x)=some c→W c)→oG w hB Θ n (nM gr ks) elt (⟨dT t,dE wI,fT ifs,0⟩::rest) (aJ gr) pos A cenv D W 1 inner names) (Kn:∀y∈names,y∉bf t)
 (hnf:∀y∈bf t++names,(y,abm)∉gr)
 (Y:Ready hB Θ n ks C A env r s μ X H) {vs:List V} (hw:cz (freeOf gr) (tV t) ci tests inner C r H=.ok (.lst vs) H') {Rr:aac→Addr→Result→aad→Prop}
 (hR:∀D c s',CompEnd hB Θ C.lk s μ X H' vs D c s'→Rr (.ref D) c (.ok .next) s'):
 aai (model pw w) A (eval (dE wI) env) (fun x s₁=>aai (model pw w) A (pyIter x) (fun it s₂=>aai (model pw w) A (newList []) (fun acc s₃=>
  aai (model pw w) A (newFunctionEnv (aJ gr) env.globals (mO env gr []) [] env.qual none .none (some env)) (fun cenv s₄=>
   codeAny (model pw w) A (.compStart (.ListComp elt (⟨dT t,dE wI,fT ifs,0⟩::rest) (aJ gr) pos) 0 it acc {cenv with scope:=relabel (aJ gr) env}) (Rr acc cenv.locals) s₄) Ex s₃) Ex s₂) Ex s₁) Ex s:=by
 have hw:(match ci C r H with
  |.ok x H=>az (bh b9 C.lk) (match c7 (tests (C.lock x.2)) (inner (C.lock x.2)) (tV t) x.1 (bP r (freeOf gr)) H with
   |.ok vs H=>az (short vs) (R.ok (V.lst vs) H) R.bad
   |_=>R.bad) R.bad
  |_=>.bad)=R.ok (.lst vs) H':=hw
 cases ec:ci C r H with
 |bad=>rw[ec] at hw;exact nW hw
 |exc _ _ _=>rw[ec] at hw;exact nW hw
 |ok x H1=>
 rw[ec] at hw
 have hw:az (bh b9 C.lk) (match c7 (tests (C.lock x.2)) (inner (C.lock x.2)) (tV t) x.1 (bP r (freeOf gr)) H1 with
  |.ok vs H=>az (short vs) (R.ok (V.lst vs) H) R.bad
  |_=>R.bad) R.bad=R.ok (.lst vs) H':=hw
 obtain⟨hl,_,hw1⟩:=bY (show az (bh b9 C.lk) (match c7 (tests (C.lock x.2)) (inner (C.lock x.2)) (tV t) x.1 (bP r (freeOf gr)) H1 with
  |.ok vs H=>az (short vs) (R.ok (V.lst vs) H) R.bad
  |_=>R.bad) R.bad≠.bad from by rw[hw];exact fun h=>by exact Ry h)
 have hw:=hw1.symm.trans hw
 cases el:c7 (tests (C.lock x.2)) (inner (C.lock x.2)) (tV t) x.1 (bP r (freeOf gr)) H1 with
 |bad=>rw[el] at hw;exact nW hw
 |exc _ _ _=>rw[el] at hw;exact nW hw
 |ok vs' H2=>
 rw[el] at hw
 have hw:az (short vs') (R.ok (V.lst vs') H2) R.bad=R.ok (V.lst vs) H':=hw
 obtain⟨hsh,_,P7⟩:=bY (show az (short vs') (R.ok (V.lst vs') H2) .bad≠.bad from by rw[hw];exact fun h=>by exact Ry h)
 have hw:=P7.symm.trans hw
 cases hw
 have hlen:=di hsh
 have hh:=Y.cx.hh hl
 refine aas (hi C A env r s μ X H Y hl x H1 ec Ex) (fun v s1 h=>aas h (fun it s2 h=>?_) fun _ _ x=>x) fun _ _ x=>x
 obtain⟨nc,X2,N,Ow,hN,hI⟩:=h
 refine aeH ?_ (by simp)
 have g3:Goes hB Θ C.lk s2 nc X2 H1 {s2 with heap:=s2.heap.push {cls:=.type "list",data:=.seq ([]:List aac).toArray}} nc (X2++[s2.heap.objs.size]):=
  .mK Ow.st (bx _) [s2.heap.objs.size] fun a ha=>by rw[aaq.mp ha];exact⟨aF _,_,aaw _ rfl⟩
 have W8:=Ow.trans g3
 have Y3:=Y.go W8
 refine Kf hsc Y3 fun cenv s4 ν F=>?_
 let W:Addr→Prop:=fun a=>a=s2.heap.objs.size∨a∈ν
 let O:Addr→Prop:=fun a=>cP s.heap a∨W a
 have YK:LstAt (s2.heap.push {cls:=.type "list",data:=.seq ([]:List aac).toArray}) s2.heap.objs.size ([]:List aac).toArray:=⟨_,aaw _ rfl⟩
 have YL:LstAt s4.heap s2.heap.objs.size ([]:List aac).toArray:=bS YK fun o e=>F.keep _ o e
 have g4:Goes hB Θ C.lk s μ X H1 s4 nc ((X2++[s2.heap.objs.size])++ν):=W8.trans ⟨F.st,.refl,⟨ν,rfl,F.fresh⟩,.jJ F.keep,F.os,by rw[F.gens];exact .refl _⟩
 have Du:∀a,W a→s2.heap.get? a=none:=fun a ha=>by
  rcases ha with rfl|ha
  ·exact aF _
  ·exact fj (fun b o e=>⟨o,bx _ b o e⟩) (F.fresh a ha)
 have W9:∀a,W a→a∈(X2++[s2.heap.objs.size])++ν:=fun a ha=>by
  rcases ha with rfl|ha
  ·exact aaT _ (aau _ (by simp))
  ·exact aau _ ha
 have Ko:∀a,W a→cP s4.heap a:=fun a ha=>(g4.st.old a (W9 a ha)).elim fun _ e=>.of e
 have YM:∀a,W a→a∉nc:=fun a ha hm=>by
  obtain⟨o,e⟩:=Ow.st.old a (Ow.st.wH a hm)
  rw[Du a ha] at e;exact no1 e
 have L:sF W O (nM gr ks) {cenv with scope:=relabel (aJ gr) env} A s2.heap.objs.size:=⟨fun a ha=>.inr ha,fun a ha=>.inl (Y.st.lz a ha),fun a ha=>(F.own a ha).elim (fun h=>.inr (.inr h)) fun h=>.inl (Y.fr.xT h),
  fun a ha=>.inl (Y.ja.JO ha),.inr F.locals,.inl rfl⟩
 have c4:nU hB Θ n W O (nM gr ks) C A {cenv with scope:=relabel (aJ gr) env} s2.heap.objs.size (bP r (freeOf gr)) s4 nc ((X2++[s2.heap.objs.size])++ν) H1 []:=
  ⟨F.ready,⟨[],YL,.nil⟩,fun a ha=>⟨W9 a ha,YM a ha,Ko a ha⟩,fun a ha=>ha.elim (fun h=>h.keep g4.keep.2) (Ko a)⟩
 have YN:∀a∈N,¬O a:=fun a ha h=>h.elim (fun h=>h (hN a ha).1) fun h=>by
  obtain⟨o,e⟩:=Ow.st.old a (hN a ha).2
  rw[Du a h] at e;exact no1 e
 obtain⟨P,I,hP⟩:=hI O (fun a ha=>.inl (Y.st.lz a ha)) YN A
 have YO:Goes hB Θ (au x.2 C.lk) s2 nc X2 H1 s4 nc ((X2++[s2.heap.objs.size])++ν):=(Goes.mK Ow.st (bx _) [s2.heap.objs.size] fun a ha=>by rw[aaq.mp ha];exact⟨aF _,_,aaw _ rfl⟩).trans ⟨F.st,.refl,⟨ν,rfl,F.fresh⟩,.jJ F.keep,F.os,by rw[F.gens];exact .refl _⟩
 have Xa:=I.stay hP Ow.st (W:=fun _=>False) (fun _ h=>h.elim) YO.LH
 refine qe (g:=⟨dT t,dE wI,fT ifs,0⟩) rfl rfl (fun Q Ex h=>I.self Xa h) ?_
 have hnone:∀y∈bf t++names,aK y (bP r (freeOf gr))=none:=fun y hy=>by
  cases e:aK y (bP r (freeOf gr)) with
  |none=>rfl
  |some v=>
   obtain⟨h1,_⟩:=dj e
   exact absurd (fP.mp h1) (hnf y hy)
 have hcw:∀y∈bf t,nM gr ks y=some .cell→∀ca,({cenv with scope:=relabel (aJ gr) env}:Env).cells.lookup (nm y)=some ca→W ca:=fun y hy De ca e=>
  .inr (F.cells y ca (hsc.lt _ (Ou y hy De)) (Ou y hy De) e)
 refine EV (gens:=⟨dT t,dE wI,fT ifs,0⟩::rest) (d:=0) rfl ht hcw htests (hrest A _ _ W fun y ca YQ hm e=>.inr (F.cells y ca YQ hm e)) Kn (aaA _) Y.st (fun a h=>.inl h) g4.LH L c4 hl I Xa el (by simpa using hlen) hnone fun s5 GF X5 g5 c5=>?_
 have VH:∀a,W a→s.heap.get? a=none:=fun a ha=>fj Ow.keep.2 (Du a ha)
 have Ov:Goes hB Θ C.lk s μ X H' s5 GF X5:=⟨g5.st,g5.gm,g5.gx,g5.keep.mono (fun a o e q=>q.elim id fun h=>by rw[VH a h] at e;exact no1 e),g5.os,g5.gens⟩
 obtain⟨ys,P8,q5⟩:=c5.acc
 obtain⟨Sy,VI,_⟩:=c5.wX _ L.acc
 have YR:=P8.Kg g5.st
 have S6:=g5.st.give VI YR
 have VJ:∀a∈X5.filter (· ≠s2.heap.objs.size),a∈X5:=fun a h=>(aa0.mp h).1
 have nD:s2.heap.objs.size∉X5.filter (· ≠s2.heap.objs.size):=fun h=>by simpa using(aa0.mp h).2
 have g6:Goes hB Θ C.lk s μ X H' s5 GF (X5.filter (· ≠s2.heap.objs.size)):=by
  refine⟨S6,Ov.gm,?_,Ov.keep,Ov.os,Ov.gens⟩
  obtain⟨Vd,rfl,VK⟩:=id Ov.gx
  refine⟨Vd.filter (· ≠s2.heap.objs.size),?_,fun a ha=>VK a (aa0.mp ha).1⟩
  rw[aef]
  congr 1
  refine adP.mpr fun a ha=>?_
  obtain⟨o,eo⟩:=Y.st.old a ha
  have:a≠s2.heap.objs.size:=fun h=>by subst h;rw[VH _ (.inl rfl)] at eo;exact no1 eo
  simpa using this
 obtain⟨YS,VL,_⟩:=c5.wX _ L.loc
 obtain⟨m5,Rl,_⟩:=c5.ready.fr.loc
 have YT:cenv.locals≠s2.heap.objs.size:=fun h=>by
  obtain⟨o,es,ep,ho,hd,_⟩:=Rl
  obtain⟨j,hj⟩:=P8
  have ho:s5.heap.get? cenv.locals=some o:=ho
  rw[h,hj] at ho;(first|(replace ho:=(Z8 ho).symm;subst ho)|cases ho);cases hd
 exact hR _ _ s5 ⟨⟨GF,_,m5,g6,.lst P8 nD (by simpa using q5.shrink VJ),aa0.mpr ⟨YS,by simpa using YT⟩,VL,Rl⟩,VH _ L.loc⟩
theorem BB{fr:List Nat}{t:Tg}{ci:CI}{tests:CB}{inner:CL}(h:cz fr t ci tests inner C r H≠.bad):∃vs H',cz fr t ci tests inner C r H=.ok (.lst vs) H':=by
 unfold cz at h ⊢
 cases e:ci C r H with
 |bad=>rw[e] at h;exact absurd rfl h
 |exc _ _ _=>rw[e] at h;exact absurd rfl h
 |ok x H1=>
 rw[e] at h
 obtain⟨_,h1,h2⟩:=bY h
 simp only [h2]
 cases el:c7 (tests (C.lock x.2)) (inner (C.lock x.2)) t x.1 (bP r fr) H1 with
 |bad=>rw[el] at h1;exact absurd rfl h1
 |exc _ _ _=>rw[el] at h1;exact absurd rfl h1
 |ok vs H2=>
  rw[el] at h1
  obtain⟨_,h3,h4⟩:=bY h1
  exact⟨vs,H2,h4⟩
theorem vG(S0:St hB Θ s.heap μ X H)(g:iE hB Θ lk W s μ X H' s' aG X'){c:Addr}(hX:c∈X')(hμ:c∉aG)(hf:s.heap.get? c=none){h':aal}(hs:acE c s'.heap h'):
 ∃X1,iE hB Θ lk W s μ X H' {s' with heap:=h'} aG X1∧(∀v u,VR Θ s'.heap aG X' v u→VR Θ h' aG X1 v u)∧
  ∀{n:Nat}{ks:Kinds}{C:Cx}{A:aav}{env:Env}{r:aR},Ready hB Θ n ks C A env r s' aG X' H'→(∀a,Own ks env a→cP s.heap a)→(∀a,nP A a→cP s.heap a)→Ready hB Θ n ks C A env r {s' with heap:=h'} aG X1 H':=by
 obtain⟨X1,g1,hv,_,_,hY⟩:=vA (O:=cP s.heap) (N0:=s.gens.size) (s':={s' with heap:=h'}) (aaA _) S0 (fun a h=>h) S0.lz g.st g ⟨fun a o e q=>(hs.2 a fun h=>by subst h;exact q.elim (fun q=>q hf) fun q=>q.elim (fun q=>q hX) hμ).trans e,rfl,.refl _⟩
 exact⟨X1,g1,hv,hY⟩
theorem iE.none(g:iE hB Θ lk (fun _=>False) s μ X H' s' aG X'):Goes hB Θ lk s μ X H' s' aG X':=⟨g.st,g.gm,g.gx,g.keep.mono fun _ _ _ q=>q.elim id ahZ,g.os,g.gens⟩
structure zJ(w:aaC)(hB:aal)(Θ:Th)(n:Nat)(ks:Kinds)(elt:Expr)(gr:List (Nat×aam))(pos:Pos)(t:T)(wI:E)(ifs:List E)(rest:List Comprehension)(ci:CI)(tests:CB)(inner:CL)(names:List Nat):Prop where
 sc:zI ks gr
 it:jj w hB Θ n ks ci (dE wI) (dT t)
 fold:∀(env:Env)x,foldedSetIterable (dE wI) env x=pure x
 tg:w5 (nM gr ks) t
 VM:∀x∈bf t,nM gr ks x=some .cell→(x,aaV)∈gr
 tests:sG w hB Θ n (nM gr ks) tests ifs
 rest:∀(A:aav)(cenv:Env)(D:Addr)(W:Addr→Prop),(∀x c,x<138→(x,aaV)∈gr→cenv.cells.lookup (nm x)=some c→W c)→oG w hB Θ n (nM gr ks) elt (⟨dT t,dE wI,fT ifs,0⟩::rest) (aJ gr) pos A cenv D W 1 inner names
 VN:∀y∈names,y∉bf t
 nf:∀y∈bf t++names,(y,abm)∉gr
theorem EW{gr:List (Nat×aam)}(hsc:zI ks gr)(Y:Ready hB Θ n ks C A env r s μ X H):closureFor (aJ gr) env=pure (mO env gr []):=by
 refine w6 fun p hp hf=>?_
 obtain⟨c,vo,e,_⟩:=Y.fr.AI p.1 (hsc.lt p hp) (hsc.free p hp hf)
 rw[e];rfl
theorem BC{gr:List (Nat×aam)}(hsc:zI ks gr):∀x∈(aJ gr).names,x.2=NameKind.local→(aJ gr).names.lookup x.1=some .local:=by
 intro x hx hl
 obtain⟨p,hp,rfl⟩:=aa8.mp hx
 have hl:p.2=NameKind.local:=hl
 show(gr.map fun p=>(nm p.1,p.2)).lookup (nm p.1)=some .local
 rw[nC hsc.lt (hsc.lt p hp),←jy]
 have:=mem_lookup hsc.nodup (x:=p.1) (k:=p.2) hp
 rw[this,hl]
theorem Kq{elt:Expr}{gr:List (Nat×aam)}{pos:Pos}{t:T}{wI:E}{ifs:List E}{rest:List Comprehension}{ci:CI}{tests:CB}{inner:CL}{names:List Nat}(h:zJ w hB Θ n ks elt gr pos t wI ifs rest ci tests inner names):
 aX w hB Θ n ks (cz (freeOf gr) (tV t) ci tests inner) (.ListComp elt (⟨dT t,dE wI,fT ifs,0⟩::rest) (aJ gr) pos):=fun C A env r s μ X H Y hne=>by
 obtain⟨vs,H',hw⟩:=BB hne
 rw[eval_ListComp]
 refine aeJ (use:=none) rfl (h.fold env) (EW h.sc Y) rfl (BC h.sc) ?_
 refine x9 (gs:=[]) h.sc h.it h.tg h.VM h.tests h.rest h.VN h.nf Y hw (Rr:=fun acc c=>compPost (model pw w) A _ none _ acc c) fun D c s1 E=>?_
 obtain⟨aZ,X1,m,g1,q1,hX,hμ,hn⟩:=E.ex
 refine⟨m,hn,fun h' hs=>?_⟩
 obtain⟨X2,g2,hv,_⟩:=vG Y.st (g1.LH (W:=fun _=>False)) hX hμ E.fresh hs
 exact⟨_,_,_,_,hw,g2.none,hv _ _ q1⟩
theorem w7{elt:Expr}{gr:List (Nat×aam)}{pos:Pos}{t:T}{wI:E}{ifs:List E}{rest:List Comprehension}{ci:CI}{tests:CB}{inner:CL}{names:List Nat}(h:zJ w hB Θ n ks elt gr pos t wI ifs rest ci tests inner names){x:Nat}{px p:Pos}(hx:x<138)(hk:ks x=some .local∨ks x=some .cell)
 (hsw:∀env:Env,env.scope.kind=.function→(∀y,y<138→env.kindOf (nm y)=ks y)→swapsWith (.ListComp elt (⟨dT t,dE wI,fT ifs,0⟩::rest) (aJ gr) pos) (some (.Name (nm x) px)) p.line env=pure true):
 jM w hB Θ n ks (bH x (cz (freeOf gr) (tV t) ci tests inner)) (.Assign [.Name (nm x) px] (.ListComp elt (⟨dT t,dE wI,fT ifs,0⟩::rest) (aJ gr) pos) p):=fun C A env r s μ X H Y hne=>by
 obtain⟨vs,H',hw⟩:=BB (R.m8 (show(cz (freeOf gr) (tV t) ci tests inner C r H).bind (fun v H=>R.ok (Fl.on (dc x v r)) H)≠.bad from hne))
 have P7:bH x (cz (freeOf gr) (tV t) ci tests inner) C r H=.ok (.on (dc x (.lst vs) r)) H':=by
  show(cz (freeOf gr) (tV t) ci tests inner C r H).bind _=_
  rw[hw];rfl
 rw[exec_Assign_Name_used (hs:=hsw env Y.fr.kind Y.fr.kinds)]
 refine aab (aa3 (aab ?_))
 show aai (model pw w) A (comprehension _ (aJ gr) env _ (newList []) false (eval (dE wI) env) (some (assign (.Name (nm x) px) env))>>=_) _ _ s
 refine aab (aeJ (use:=some (assign (.Name (nm x) px) env)) rfl (h.fold env) (EW h.sc Y) rfl (BC h.sc) ?_)
 refine x9 (gs:=[]) h.sc h.it h.tg h.VM h.tests h.rest h.VN h.nf Y hw (Rr:=fun acc c=>compPost (model pw w) A _ (some (assign (.Name (nm x) px) env)) _ acc c) fun D c s1 E=>?_
 obtain⟨aZ,X1,m,g1,q1,hX,hμ,hn⟩:=E.ex
 have Y1:=Y.go g1
 refine abZ (mJ (lk:=C.lk) Y1 hx hk q1 fun s2 g2 Y2=>?_)
 have hno:¬(Wr C.lk aZ c∨Own ks env c):=fun q=>by
  rcases q with q|q
  ·rcases q with q|⟨j,e,_⟩
   ·exact Y.st.lz c q E.fresh
   ·exact hμ (aaU e)
  ·exact Y.fr.xT q E.fresh
 obtain⟨o,es,ep,ho,rest'⟩:=hn
 have ho2:=g2.keep.1 c o ho hno
 refine⟨m,⟨o,es,ep,ho2,rest'⟩,fun h' hs=>?_⟩
 obtain⟨X3,g3,_,hY⟩:=vG Y.st (g1.xR.trans g2) hX hμ E.fresh hs
 have Y3:=hY Y2 (fun a ha=>Y.fr.xT ha) fun a ha=>Y.ja.JO ha
 exact aag (aag ⟨_,_,_,_,P7,g3,Y3.ja,rfl,Y3.fr⟩)
end
noncomputable abbrev HL:aac→aad→Prop:=fun _ _=>False
section
variable{M:Model}{A:aav}{R:GenEnd}{Y:Protocol}{n:Nat}{s₀:aad}{c:Code}{fs:List afp}{s:aad}{env:Env}
 {K:Flow→Sem ab7} {H:aac→Sem ab7} {gd:Bool→Bool} {lv:List aac→List aac}
theorem nF{α:Type}{m:Sem α}{K:α→Sem ab7}(h:aai M (A.over c fs) m (fun a s'=>Seg M A R Y n s₀ c (K a) fs s') HL s):Seg M A R Y n s₀ c (m.wrap K H gd lv) fs s:=
 seg_wrap (aas h (fun _ _ x=>x) fun _ _ x=>x.elim)
theorem dN{α β:Type}{m:Sem α}{k:α→Sem β}{K:β→Sem ab7}(h:aai M (A.over c fs) m (fun a s'=>Seg M A R Y n s₀ c ((k a).wrap K H gd lv) fs s') HL s):Seg M A R Y n s₀ c ((m>>=k).wrap K H gd lv) fs s:=by
 rw[agl,ahg];exact seg_wrap (aas h (fun _ _ x=>x) fun _ _ x=>x.elim)
theorem Dv{test:Expr}{body orelse:List Stmt}{pos:Pos}
 (h:aai M (A.over c fs) (isTrue test env (eval test env)) (fun b s'=>Seg M A R Y n s₀ c ((execs (if b=true then body else orelse) env).wrap K H gd lv) fs s') HL s):
 Seg M A R Y n s₀ c ((exec (.If test body orelse pos) env).wrap K H gd lv) fs s:=by
 rw[exec_If]
 refine dN (aa3 ?_)
 refine dN (aas h (fun b s' hb=>?_) fun _ _ x=>x)
 cases b<;>exact hb
theorem M9{target iter:Expr}{body orelse:List Stmt}{pos:Pos}(hs:∀x,foldedSetIterable iter env x=pure x)
 (h:aai M (A.over c fs) (eval iter env) (fun x s₁=>aai M (A.over c fs) (pyIter x) (fun it s₂=>∀p,Seg M A R Y n s₀ (.forLoop target it body orelse env) (M.den (.forLoop target it body orelse env))
  (.ret (fun r=>((match r with|.ok f=>(.pure f:Sem Flow)|.error e=>.raise e).onRaise fun(x:aac)=>do
    if(←field x 1)==abd then unsupported "frame.own-activation:exception-without-traceback"
    setFlight x env.frame).wrap K H gd lv) none (gd false) (lv []) c p []::fs) s₂) HL s₁) HL s):
 Seg M A R Y n s₀ c ((exec (.For target iter body orelse pos) env).wrap K H gd lv) fs s:=by
 rw[exec_For]
 refine dN (aa3 ?_)
 refine dN (aas h (fun x s₁ h₁=>?_) fun _ _ x=>x)
 refine dN (aaN (hs x) ?_)
 refine dN (aa3 ?_)
 refine dN (aaP (aas h₁ (fun it s₂ h₂=>?_) fun _ _ x=>x))
 exact seg_call h₂
end
section
variable{prog:Program}{w:aaC}{A:aav}{R:GenEnd}{Y:Protocol}{n:Nat}{s₀:aad}{fs:List afp}{s:aad}{env:Env}
noncomputable def Dw(env:Env):aac→Sem ab7:=fun e=>(do noteFrame e env;theTreesLotGoes e:Sem Unit).wrap (fun _=>.raise e) .raise id id
noncomputable def Dy(target:Expr)(it:aac)(body orelse:List Stmt)(env:Env):Flow→Sem ab7:=fun f=>match f with
 |.next|.cont=>.pure (.again (.forLoop target it body orelse env))
 |.brk=>.pure (.done .next)
 |.ret v=>.pure (.done (.ret v))
theorem sJ{target:Expr}{it:aac}{body:List Stmt}
 (h:aai (model prog w) (A.over (.forLoop target it body [] env) fs) (pyNext it) (fun r s₁=>match r with
  |none=>Seg (model prog w) A R Y n s₀ (.block [] env) (.pure (.done .next)) fs s₁
  |some v=>aai (model prog w) (A.over (.forLoop target it body [] env) fs) (letOwnedTupleGo target it v) (fun _ s₂=>aai (model prog w) (A.over (.forLoop target it body [] env) fs) (assign target env v) (fun _ s₃=>
   Seg (model prog w) A R Y n s₀ (.forLoop target it body [] env) ((execs body env).wrap (Dy target it body [] env) (Dw env) id id) fs s₃) HL s₂) HL s₁) HL s):
 Seg (model prog w) A R Y n s₀ (.forLoop target it body [] env) ((model prog w).den (.forLoop target it body [] env)) fs s:=by
 show Seg _ A R Y n s₀ _ ((forTurn target it body [] env).onRaise (fun x=>do noteFrame x env;theTreesLotGoes x)) fs s
 unfold forTurn
 rw[Sem.onRaise_eq_wrap]
 refine dN (aa3 ?_)
 refine dN (afK (aas h (fun r s₁ h₁=>?_) fun _ _ x=>x.elim))
 cases r with
 |none=>
  exact agC rfl h₁
 |some v=>
  refine dN (aas h₁ (fun _ s₂ h₂=>?_) fun _ _ x=>x)
  refine dN (aas h₂ (fun _ s₃ h₃=>?_) fun _ _ x=>x)
  rw[agl,ahg]
  rw[Sem.wrap_congr (execs body env) _ _ (K':=Dy target it body [] env) (H':=Dw env) (fun f=>by cases f<;>rfl)
   (fun e=>by first|exact agD _ _|(show(do noteFrame e env;theTreesLotGoes e:Sem Unit).bind (fun _=>.raise e)=_;rw[agD];rfl))]
  exact h₃
end
noncomputable def qP:Str:=Z9 "pos"
noncomputable def qE:Str:=Z9 "escape"
noncomputable def qC:Str:=Z9 "ch"
noncomputable def qA:Str:=Z9 "addr"
noncomputable def Na:Str:=Z9 "\\"
noncomputable def Tf:Stmt:=.Expr (.Yield (some (.Tuple [.Name qP (ps 64 19 64 22),.BinOp (.Constant (.str Na) 0 (ps 64 24 64 28)) .Add (.Name qC (ps 64 31 64 33)) (ps 64 24 64 33)] 0 (ps 64 18 64 34))) (ps 64 12 64 34)) (ps 64 12 64 34)
noncomputable def Ti:Stmt:=.Assign [.Name qE (ps 65 12 65 18)] (.Constant (.bool false) 0 (ps 65 21 65 26)) (ps 65 12 65 26)
noncomputable def Tj:Stmt:=.Assign [.Name qE (ps 67 12 67 18)] (.Constant (.bool true) 0 (ps 67 21 67 25)) (ps 67 12 67 25)
noncomputable def Tn:Stmt:=.Expr (.Yield (some (.Tuple [.Name qP (ps 69 19 69 22),.Name qC (ps 69 24 69 26)] 0 (ps 69 18 69 27))) (ps 69 12 69 27)) (ps 69 12 69 27)
noncomputable def To:Stmt:=.Expr (.Yield (some (.Tuple [.Name qP (ps 71 15 71 18),.Constant (.str Na) 0 (ps 71 20 71 24)] 0 (ps 71 14 71 25))) (ps 71 8 71 25)) (ps 71 8 71 25)
noncomputable def BD:List Stmt:=[.If (.Name qE (ps 63 11 63 17)) [Tf,Ti] [.If (.Compare (.Name qC (ps 66 13 66 15)) [.Eq] [.Constant (.str Na) 0 (ps 66 19 66 23)] (ps 66 13 66 23)) [Tj] [Tn] (ps 66 8 69 27)] (ps 63 8 69 27)]
noncomputable def Rn:Expr:=.Tuple [.Name qP (ps 62 8 62 11),.Name qC (ps 62 13 62 15)] 0 (ps 62 8 62 15)
noncomputable def Kr:List Stmt:=[.If (.Name qE (ps 70 7 70 13)) [To] [] (ps 70 4 71 25)]
noncomputable def BE:List Stmt:=.Assign [.Name qP (ps 60 4 60 7)] (.Constant (.int 0) 0 (ps 60 10 60 11)) (ps 60 4 60 11)::.Assign [.Name qE (ps 61 4 61 10)] (.Constant (.bool false) 0 (ps 61 13 61 18)) (ps 61 4 61 18)::
 .For Rn (.Call (.Name (Z9 "enumerate") (ps 62 19 62 28)) [.Name qA (ps 62 29 62 33)] [] (ps 62 19 62 34)) BD [] (ps 62 4 69 27)::Kr
theorem Nb:(aq 8).2.1=BE:=⋯
structure GS(env:Env):Prop where
 kind:env.scope.kind=.function
 kP:env.kindOf qP=some .local
 kE:env.kindOf qE=some .local
 kC:env.kindOf qC=some .local
 kA:env.kindOf qA=some .local
 co:env.scope.isCoroutine=false
 int:interactive env=false
structure GI(l:List Nat)(t:Tok)(L E I:Addr)(i:Nat)(fK:Bool)(h:aal):Prop where
 ns:∃m,h.Ns L m∧m qE=some (.bool fK)∧∃tk,m qP=some (.int (aaa (ahz i)) tk)
 en:∃old,IsEnum h E I i old
 it:h.IsStrIter I (strIterType (bu l)) (bu l) t i
structure GT(l:List Nat)(t:Tok)(L E I:Addr)(i:Nat)(fK:Bool)(c:Nat)(h:aal):Prop where
 ns:∃m,h.Ns L m∧m qE=some (.bool fK)∧(∃tk,m qP=some (.int (aaa i) tk))∧∃tk,m qC=some (.str (bu [c]) tk)
 en:∃old,IsEnum h E I (i+1) old
 it:h.IsStrIter I (strIterType (bu l)) (bu l) t (i+1)
noncomputable def gu(L E I:Addr)(s₀ s:aad):Prop:=∃h' tk,s={s₀ with heap:=h',toks:=tk}∧∀b o,b≠L→b≠E→b≠I→s₀.heap.get? b=some o→h'.get? b=some o
section
variable{w:aaC}{A:aav}{s s₀ s':aad}{l:List Nat}{t:Tok}{L E I:Addr}{i:Nat}{fK:Bool}{c:Nat}{env:Env}{h h':aal}
theorem gu.refl:gu L E I s s:=⟨s.heap,s.toks,rfl,fun _ _ _ _ _ e=>e⟩
theorem gu.step(x:gu L E I s₀ s){h':aal}{tk:Nat}(k:∀b o,b≠L→b≠E→b≠I→s.heap.get? b=some o→h'.get? b=some o):gu L E I s₀ {s with heap:=h',toks:=tk}:=by
 obtain⟨h1,t1,rfl,k1⟩:=x
 exact⟨h',tk,rfl,fun b o a1 a2 a3 e=>k b o a1 a2 a3 (k1 b o a1 a2 a3 e)⟩
theorem GI.keep(g:GI l t L E I i fK h)(k:∀b∈[L,E,I],∀o,h.get? b=some o→h'.get? b=some o):GI l t L E I i fK h':=by
 obtain⟨⟨m,n1,n2⟩,⟨old,e⟩,o,ho,r⟩:=g
 exact⟨⟨m,n1.at' fun o e=>k L (by simp) o e,n2⟩,⟨old,k E (by simp) _ e⟩,o,k I (by simp) o ho,r⟩
theorem GT.keep(g:GT l t L E I i fK c h)(k:∀b∈[L,E,I],∀o,h.get? b=some o→h'.get? b=some o):GT l t L E I i fK c h':=by
 obtain⟨⟨m,n1,n2⟩,⟨old,e⟩,o,ho,r⟩:=g
 exact⟨⟨m,n1.at' fun o e=>k L (by simp) o e,n2⟩,⟨old,k E (by simp) _ e⟩,o,k I (by simp) o ho,r⟩
theorem GT.gi(g:GT l t L E I i fK c h):GI l t L E I (i+1) fK h:=by
 obtain⟨⟨m,n1,n2,n3,n4⟩,e,it⟩:=g
 exact⟨⟨m,n1,n2,n3⟩,e,it⟩
theorem Ks{prog:Program}(hh:A.handled=none)(I:Addr)(x:Str)(t:Tok):Draws prog w A I [I] x.cps.size (fun i v=>∃c u,x.cps[i]?=some c∧v=.str ⟨#[c]⟩ u) (fun i h=>h.IsStrIter I (strIterType x) x t i):=by
 cases ha:x.cps.all (· <128)
 ·have e:strIterType x="str_iterator":=by simp[strIterType,ha]
  rw[e];exact Draws.strWide hh I x t
 ·have e:strIterType x="str_ascii_iterator":=by simp[strIterType,ha]
  rw[e];exact Draws.strAscii hh I x t
theorem iM{x:Str}{p:Pos}{v:aac}{m:Str→Option aac}{M:Model}{Ex:aac→aad→Prop}(k1:env.scope.kind=.function)(k2:env.kindOf x=some .local)(hd:(x==("__debug__":Str))=false)(n:s.heap.Ns env.locals m)(e:m x=some v){Q:aac→aad→Prop}(q:Q v s):aai M A (eval (.Name x p) env) Q Ex s:=
 ade (acR k1 k2 n e q) hd
theorem GU(hh:A.handled=none)(ge:GS env)(g:GI l t env.locals E I i fK s.heap)(hne:E≠I)(GW:env.locals≠E)(hLI:env.locals≠I)(hi:l[i]?=some c){Q:aad→Prop}
 (q:∀h' tk,GT l t env.locals E I i fK c h'→(∀b o,b≠env.locals→b≠E→b≠I→s.heap.get? b=some o→h'.get? b=some o)→Q {s with heap:=h',toks:=tk}):
 aai (model pw w) A (pyNext (.ref E)) (fun r s₁=>match r with
  |none=>False
  |some v=>aai (model pw w) A (letOwnedTupleGo Rn (.ref E) v) (fun _ s₂=>aai (model pw w) A (assign Rn env v) (fun _ s₃=>Q s₃) HL s₂) HL s₁) HL s:=by
 obtain⟨⟨m,n1,n2,n3⟩,⟨old,e⟩,it⟩:=g
 obtain⟨hil,hic⟩:=aay.mp hi
 have hsz:(bu l).cps.size=l.length:=by simp[bu]
 refine wpAny_pyNext_enum_itemD (Ks (A:=A.in1) hh I (bu l) t) e it (by rw[hsz];exact hil) hne (by simpa using hne) fun x h1 tk hP YU VO ht1 hz1 hk1=>?_
 obtain⟨c',u,hc',rfl⟩:=hP
 have hcc:c'=c:=by
  have:(bu l).cps[i]?=some c:=by simp[bu,hil,hic]
  rw[this] at hc';exact(Z8 hc').symm
 subst hcc
 have Tp:s.heap.get? s.heap.objs.size=none:=aF _
 have Z3:s.heap.objs.size≠env.locals:=fun q=>by
  obtain⟨o,es,ep,ho,_⟩:=n1
  rw[←q,Tp] at ho;exact no1 ho
 have YW:s.heap.objs.size≠E:=fun q=>by
  rw[q] at Tp
  exact absurd (Tp.symm.trans e) nofun
 have Z4:s.heap.objs.size≠I:=fun q=>by
  obtain⟨o,ho,_⟩:=it
  rw[q] at Tp;rw[Tp] at ho;exact no1 ho
 refine aeg YU fun h2 YX hs2=>?_
 have YY:h2.get? s.heap.objs.size=some {cls:=.type "tuple",data:=.seq #[.int i tk,.str ⟨#[c']⟩ u]}:=(hs2.2 _ YW).trans ht1
 have VP:h2.IsStrIter I (strIterType (bu l)) (bu l) t (i+1):=by
  obtain⟨o,ho,r⟩:=VO
  exact⟨o,(hs2.2 I (acp hne)).trans ho,r⟩
 have YZ:h2.Ns env.locals m:=n1.at' fun o e=>(hs2.2 _ GW).trans (hk1 _ o GW hLI e)
 refine afX (elts:=[.Name qP (ps 62 8 62 11),.Name qC (ps 62 13 62 15)]) hh ⟨_,YY,rfl,_,rfl⟩ rfl rfl fun h3 Y7=>?_
 have K3:∀b o,h2.get? b=some o→h3.get? b=some o:=fun b o e=>Y7 b o (abx (aa7 e)) e
 show aai _ _ (assignInOrder [assign (.Name qP (ps 62 8 62 11)) env,assign (.Name qC (ps 62 13 62 15)) env] [.int i tk,.str ⟨#[c']⟩ u]) _ _ _
 have pl:(env.scope.kind==.class||(env.scope.kind==.module&&env.locals !=env.globals))=false:=by rw[ge.kind];rfl
 refine abO (abZ (aa6 ge.kP (YZ.at' fun o e=>K3 _ o e) (fun h4 n4 Ro=>?_) pl))
 refine abO (abZ (aa6 ge.kC n4 (fun h5 n5 Ku=>?_) pl))
 refine aeI ?_
 have ne1:qE≠qC:=by decide+kernel
 have ne2:qE≠qP:=by decide+kernel
 have ne3:qP≠qC:=by decide+kernel
 refine q h5 _ ⟨⟨_,n5,?_,⟨tk,?_⟩,⟨u,?_⟩⟩,⟨.str ⟨#[c']⟩ u,(Ku.2 _ GW.symm).trans ((Ro.2 _ GW.symm).trans (K3 _ _ YX))⟩,?_⟩ fun b o b1 b2 b3 e=>?_
 ·show(if qE=qC then _ else if qE=qP then _ else m qE)=_
  rw[if_neg ne1,if_neg ne2];exact n2
 ·show(if qP=qC then _ else if qP=qP then _ else m qP)=_
  rw[if_neg ne3,if_pos rfl];rfl
 ·show(if qC=qC then _ else _)=_
  rw[if_pos rfl];rfl
 ·obtain⟨o,ho,r⟩:=VP
  exact⟨o,(Ku.2 _ hLI.symm).trans ((Ro.2 _ hLI.symm).trans (K3 _ _ ho)),r⟩
 ·exact(Ku.2 b b1).trans ((Ro.2 b b1).trans (K3 b o ((hs2.2 b b2).trans (hk1 b o b2 b3 e))))
theorem Kv(hh:A.handled=none)(g:GI l t L E I i fK s.heap)(hi:i=l.length)(hLI:L≠I)(hne:E≠I){Q:Option aac→aad→Prop}
 (q:∀h',(∃m,h'.Ns L m∧m qE=some (.bool fK)∧∃tk,m qP=some (.int (aaa (ahz i)) tk))→(∀b o,b≠L→b≠E→b≠I→s.heap.get? b=some o→h'.get? b=some o)→Q none {s with heap:=h'}):
 aai (model pw w) A (pyNext (.ref E)) Q HL s:=by
 obtain⟨⟨m,n1,n2,n3⟩,⟨old,e⟩,it⟩:=g
 have hsz:(bu l).cps.size=i:=by rw[hi];simp[bu]
 refine wpAny_pyNext_enum_endD (Ks (A:=A.in1) hh I (bu l) t) e (by show s.heap.IsStrIter _ _ _ _ _;rw[hsz];exact it) fun h' hk=>?_
 exact q h' ⟨m,n1.at' fun o e=>hk _ o hLI e,n2,n3⟩ fun b o _ _ b3 e=>hk b o b3 e
end
noncomputable def YV(L E I:Addr)(item:V)(v:aac)(s₀ s:aad):Prop:=
 ∃T p q tk tk',v=.ref T∧s.heap.IsTuple T #[.int p tk,.str (bu q) tk']∧s₀.heap.get? T=none∧T≠L∧T≠E∧T≠I∧item=.tup [.int p,.str q]
noncomputable def RG(L E I:Addr):GenEnd:=fun n s₀ r s₁=>r=.ok (.ret .none)∧(n=0∧gu L E I s₀ s₁)
noncomputable def YG(l:List Nat)(t:Tok)(L E I:Addr):Protocol:=fun m s₀ v s κ=>
 (∃item,(d9 l 0 false)[(d9 l 0 false).length - 1 - m]?=some item∧YV L E I item v s₀ s)∧gu L E I s₀ s∧(∃i fK,GI l t L E I i fK s.heap)∧
  ∀s'':aad,(∀b∈[L,E,I],∀o,s.heap.get? b=some o→s''.heap.get? b=some o)→κ (.send .none) s''
set_option backward.match.sparseCases true in
noncomputable def VQ:Flow→Sem ab7:=fun f=>.pure (.done (.ret (match f with|.ret v=>v|_=>.none)))
noncomputable def VS(env:Env):aac→Sem ab7:=fun e=>(leaving env e).wrap (fun _=>.raise e) .raise id id
set_option backward.match.sparseCases true in
noncomputable def Y8(env:Env):Flow→Sem ab7:=fun f=>match f with|.next=>(execs Kr env).wrap VQ (VS env) id id|f=>VQ f
noncomputable def VT(env:Env)(p:Pos):afp:=.ret (fun r=>((match r with|.ok f=>(.pure f:Sem Flow)|.error e=>.raise e).onRaise fun(x:aac)=>do
 if(←field x 1)==abd then unsupported "frame.own-activation:exception-without-traceback"
 setFlight x env.frame).wrap (Y8 env) (VS env) id id) none (id false) (id []) (.func BE env) p []
noncomputable def EX(env:Env)(E:Addr):Code:=.forLoop Rn (.ref E) BD [] env
section
variable{w:aaC}{A:aav}{s s₀ s':aad}{l:List Nat}{t:Tok}{L E I:Addr}{i:Nat}{fK:Bool}{c:Nat}{env:Env}{h h':aal}{p:Pos}
theorem qg(hh:A.handled=none):(A.over (EX env E) [VT env p]).handled=none:=hh
theorem GX(c:Nat)(tl:List Nat)(i:Nat)(fK:Bool):d9 (c::tl) i fK=az fK (.tup [.int (aaa i),.str [92,c]]::d9 tl (i+1) false)
 (az (aap c 92) (d9 tl (i+1) true) (.tup [.int (aaa i),.str [c]]::d9 tl (i+1) false)):=rfl
theorem BF(c:Nat)(tl:List Nat)(fK:Bool):cM (c::tl) fK=az fK (cM tl false) (cM tl (aap c 92)):=rfl
theorem vH{items pre rest:List V}{item:V}(h:items=pre++item::rest):items[items.length - 1 - rest.length]?=some item:=by
 subst h
 rw[aao,aaD,show pre.length+(rest.length+1) - 1 - rest.length=pre.length from ad9 ..,abA (aaA _),aeW]
 rfl
theorem vI{x:Str}{p:Pos}{b:Bool}{m:Str→Option aac}{M:Model}{Ex:aac→aad→Prop}(k1:env.scope.kind=.function)(k2:env.kindOf x=some .local)(hd:(x==("__debug__":Str))=false)(n:s.heap.Ns env.locals m)(e:m x=some (.bool b)){Q:Bool→aad→Prop}(q:Q b s):
 aai M A (isTrue (.Name x p) env (eval (.Name x p) env)) Q Ex s:=
 aea (iM k1 k2 hd n e (abY q))
theorem VU:(qP==("__debug__":Str))=false:=by decide+kernel
theorem Tq:(qE==("__debug__":Str))=false:=by decide+kernel
theorem P9:(qC==("__debug__":Str))=false:=by decide+kernel
theorem EY:Na=bu [92]:=by decide+kernel
theorem BH(sn:gu L E I s₀ s)(h1:s.heap.get? L≠none)(h2:s.heap.get? E≠none)(h3:s.heap.get? I≠none):s₀.heap.get? s.heap.objs.size=none∧s.heap.objs.size≠L∧s.heap.objs.size≠E∧s.heap.objs.size≠I:=by
 have hn:s.heap.get? s.heap.objs.size=none:=aF _
 have n1:s.heap.objs.size≠L:=fun q=>h1 (q▸hn)
 have n2:s.heap.objs.size≠E:=fun q=>h2 (q▸hn)
 have n3:s.heap.objs.size≠I:=fun q=>h3 (q▸hn)
 refine⟨?_,n1,n2,n3⟩
 obtain⟨h',tk,rfl,k⟩:=sn
 cases e:s₀.heap.get? h'.objs.size with
 |none=>rfl
 |some o=>have:=k _ o n1 n2 n3 e;rw[aF] at this;exact no1 this
theorem GI.stood(g:GI l t L E I i fK h):h.get? L≠none∧h.get? E≠none∧h.get? I≠none:=by
 obtain⟨⟨m,⟨o,es,ep,ho,_⟩,_⟩,⟨old,e⟩,o',ho',_⟩:=g
 exact⟨fun q=>absurd (q.symm.trans ho) nofun,fun q=>absurd (q.symm.trans e) nofun,fun q=>absurd (q.symm.trans ho') nofun⟩
theorem vJ{n:Nat}{e2:Expr}{p1 p2 p3 p4:Pos}{q:List Nat}{m:Str→Option aac}{tk:Tok}{c:Code}{fs:List afp}{K:Flow→Sem ab7}{H:aac→Sem ab7}(ge:GS env){j:Nat}{b':Bool}(g:GI l t env.locals E I j b' s.heap)(hn:s.heap.Ns env.locals m)(hm:m qP=some (.int (aaa i) tk))(sn:gu env.locals E I s₀ s)
 (h2:∀{A':aav}{Ex:aac→aad→Prop}{Q:aac→aad→Prop},(∀t' k,Q (.str (bu q) t') {s with toks:=k})→aai (model pw w) A' (eval e2 env) Q Ex s) (hst:starEach [.Name qP p1,e2] env=[(false,eval (.Name qP p1) env),(false,eval e2 env)])
 (hfs:splitAtGen fs=none) (hfg:fs.any ahV=false)
 (hit:(d9 l 0 false)[(d9 l 0 false).length - 1 - n]?=some (.tup [.int (aaa i),.str q]))
 (k:∀s'':aad,(∀b∈[env.locals,E,I],∀o,s.heap.get? b=some o→s''.heap.get? b=some o)→Seg (model pw w) A (RG env.locals E I) (YG l t env.locals E I) n s'' c (K .next) fs s''):
 Seg (model pw w) A (RG env.locals E I) (YG l t env.locals E I) (n+1) s₀ c ((exec (.Expr (.Yield (some (.Tuple [.Name qP p1,e2] 0 p2)) p3) p4) env).wrap K H id id) fs s:=by
 refine seg_Expr_Yield hfs rfl hfg ?_ ge.co ge.int
 refine wpAny_Tuple ?_
 rw[hst]
 refine g8 (iM ge.kind ge.kP VU hn hm ?_)
 refine g8 (h2 fun t' k'=>?_)
 refine aag ⟨aak rfl,fun Z5 hk=>?_⟩
 obtain⟨o1,o2,o3⟩:=g.stood
 obtain⟨f0,f1,f2,f3⟩:=BH sn o1 o2 o3
 refine⟨⟨_,hit,s.heap.objs.size,aaa i,q,tk,t',rfl,⟨_,aaw _ rfl,rfl,_,rfl⟩,f0,f1,f2,f3,rfl⟩,sn.step fun b o _ _ _ e=>aat _ e,
  ⟨j,b',g.keep fun b _ o e=>aat _ e⟩,fun s'' hs=>hk .none s'' (k s'' fun b hb o e=>hs b hb o (aat _ e))⟩
theorem qh(hh:A.handled=none)(ge:GS env)(hne:E≠I)(GW:env.locals≠E)(hLI:env.locals≠I):∀(tl:List Nat)(i:Nat)(fK:Bool)(pre:List V)(s₀ s:aad),l.drop i=tl→i+tl.length=l.length→cM tl fK=false→d9 l 0 false=pre++d9 tl i fK→
 GI l t env.locals E I i fK s.heap→gu env.locals E I s₀ s→Seg (model pw w) A (RG env.locals E I) (YG l t env.locals E I) (d9 tl i fK).length s₀ (EX env E) ((model pw w).den (EX env E)) [VT env p] s
 |[],i,fK,pre,s₀,s,hd,hl,he,hp,g,sn=>by
  have he:fK=false:=he
  subst he
  refine sJ (Kv (qg hh) g (by simpa using hl) hLI hne fun h' hm hk=>?_)
  obtain⟨m,n1,n2,_⟩:=hm
  refine seg_leaf (.ok .next) ?_
  show Seg _ _ _ _ _ _ _ ((execs Kr env).wrap VQ (VS env) id id) [] _
  refine abC (Dv (vI ge.kind ge.kE Tq n1 n2 ?_))
  refine abP (abP ?_)
  exact seg_end (.ok (.ret .none)) ⟨rfl,rfl,sn.step fun b o b1 b2 b3 e=>hk b o b1 b2 b3 e⟩
 |c::tl,i,fK,pre,s₀,s,hd,hl,he,hp,g,sn=>by
  obtain⟨hc,hd',hil⟩:l[i]?=some c∧l.drop (i+1)=tl∧i<l.length:=by
   have hp:i<l.length:=by simp at hl;omega
   rw[abr hp] at hd
   obtain⟨h1,h2⟩:=ahf hd
   exact⟨by rw[aax hp,h1],h2,hp⟩
  have hl':i+1+tl.length=l.length:=by simp at hl;omega
  have pl:(env.scope.kind==.class||(env.scope.kind==.module&&env.locals !=env.globals))=false:=by rw[ge.kind];rfl
  refine sJ (aas (GU (qg hh) ge g hne GW hLI hc (Q:=fun s3=>Seg (model pw w) A (RG env.locals E I) (YG l t env.locals E I) (d9 (c::tl) i fK).length s₀ (EX env E) ((execs BD env).wrap (Dy Rn (.ref E) BD [] env) (Dw env) id id) [VT env p] s3) fun h' tk gt hk=>?_) (fun r s1 hr=>?_) fun _ _ x=>x)
  ·have sn':gu env.locals E I s₀ {s with heap:=h',toks:=tk}:=sn.step hk
   obtain⟨⟨m,n1,n2,⟨tp,n3⟩,tc,n4⟩,en,it⟩:=id gt
   rw[BF] at he
   rw[GX] at hp ⊢
   refine abC (Dv (vI ge.kind ge.kE Tq n1 n2 ?_))
   cases fK with
   |true=>
    rw[c8] at hp he ⊢
    rw[aaD]
    refine abC (vJ (q:=[92,c]) ge gt.gi n1 n3 sn' (fun{A' Ex Q}q=>?_) rfl rfl rfl (vH hp) fun s'' hs=>?_)
    ·refine wpAny_BinOp (ad3 (iM ge.kind ge.kC P9 n1 n4 ?_))
     rw[EY]
     refine add_str (fun t' k=>?_) (aak rfl)
     rw[←kK]
     exact q t' k
    ·have g2:=gt.keep hs
     obtain⟨⟨m2,p1,p2,⟨Y9,p3⟩,Z6,p4⟩,Za,VP⟩:=id g2
     refine abC (nF (acq (ab3 (aa6 ge.kE p1 (fun h5 n5 Ku=>?_) pl))))
     refine abP (abP ?_)
     refine agC rfl (qh hh ge hne GW hLI tl (i+1) false (pre++[.tup [.int (aaa i),.str [92,c]]]) s'' _ hd' hl' he (by rw[hp,aaE];rfl) ?_ (gu.refl.step fun b o b1 _ _ e=>(Ku.2 b b1).trans e))
     exact⟨⟨_,n5,if_pos rfl,Y9,(if_neg (by decide+kernel)).trans p3⟩,Za.imp fun _ e=>(Ku.2 E GW.symm).trans e,by obtain⟨o,ho,r⟩:=VP;exact⟨o,(Ku.2 I hLI.symm).trans ho,r⟩⟩
   |false=>
    rw[eZ] at hp he ⊢
    refine abC (Dv (acL (iM ge.kind ge.kC P9 n1 n4 (ad3 (agW (abY ?_)))) rfl))
    rw[EY,zf]
    by_cases Rh:c=92
    ·subst Rh
     rw[show aap 92 92=true from rfl] at hp he ⊢
     rw[c8] at hp ⊢
     refine abC (nF (acq (ab3 (aa6 ge.kE (n1.at' fun o e=>e) (fun h5 n5 Ku=>?_) pl))))
     refine abP (abP (abP ?_))
     refine agC rfl (qh hh ge hne GW hLI tl (i+1) true pre s₀ _ hd' hl' he hp ?_ (sn'.step fun b o b1 _ _ e=>(Ku.2 b b1).trans e))
     exact⟨⟨_,n5,if_pos rfl,tp,(if_neg (by decide+kernel)).trans n3⟩,en.imp fun _ e=>(Ku.2 E GW.symm).trans e,by obtain⟨o,ho,r⟩:=it;exact⟨o,(Ku.2 I hLI.symm).trans ho,r⟩⟩
    ·have hb:aap c 92=false:=by
      cases e:aap c 92 with
      |false=>rfl
      |true=>exact absurd (aan e) Rh
     rw[hb] at hp he ⊢
     rw[eZ] at hp ⊢
     have VV:decide ([c]=[92])=false:=by simp[Rh]
     rw[VV,aaD]
     refine abC (vJ (s:={s with heap:=h',toks:=_}) (q:=[c]) ge gt.gi n1 n3 (sn.step hk) (fun{A' Ex Q}q=>?_) rfl rfl rfl (vH hp) fun s'' hs=>?_)
     ·exact iM ge.kind ge.kC P9 n1 n4 (q _ _)
     ·refine abP (abP (abP ?_))
      exact agC rfl (qh hh ge hne GW hLI tl (i+1) false (pre++[.tup [.int (aaa i),.str [c]]]) s'' s'' hd' hl' he (by rw[hp,aaE];rfl) (gt.keep hs).gi gu.refl)
  ·cases r with
   |none=>exact hr.elim
   |some v=>exact hr
end
theorem zK{pos:Pos}{c:aac}(l:List aac)(h:TriplesOk l):TriplesOk (l++[rawInt pos.line,rawInt pos.col,c]):=by
 fun_induction TriplesOk l with
 |case1=>simp[TriplesOk,rawInt]
 |case2 a b c d e rest ih=>exact ih h
 |case3 l h1 h2=>exact h.elim
theorem Dz{pos pos':Pos}{c v:aac}(l:List aac)(h:TriplesOk l)(e:codeAmong pos' (l++[rawInt pos.line,rawInt pos.col,c])=some v):codeAmong pos' l=some v∨v=c:=by
 fun_induction TriplesOk l with
 |case1=>
  right
  simp only [aaZ,codeAmong,rawInt] at e
  split at e
  ·exact(Z8 e).symm
  ·exact no1 e
 |case2 a b x d y rest ih=>
  have e:(if a==pos'.line&&x==pos'.col then some y else codeAmong pos' (rest++[rawInt pos.line,rawInt pos.col,c]))=some v:=e
  show(if a==pos'.line&&x==pos'.col then some y else codeAmong pos' rest)=some v∨v=c
  split at e
  ·rename_i hh;rw[if_pos hh];exact .inl e
  ·rename_i hh;rw[if_neg hh];exact ih h e
 |case3 l h1 h2=>exact h.elim
section
variable{w:aaC}{K:Frag}{hB hF:aal}{O W:Addr→Prop}{N0:Nat}{Θ:Th}{A:aav}{lk:List Nat}{s s0 s' s'' s1:aad}{μ j4 aG bZ X X0 X' gJ aZ X1:List Addr}{H H0 H' iz H1:HP}{n:Nat}{C:Cx}{env cenv:Env}{outer:List Env}{r r0 r' r1:aR}{ks:Kinds}{Ex:aac→aad→Prop}{D:Addr}{av:List V}
theorem DA{vs ws:Array aac}(h:tabObj vs=tabObj ws):vs=ws:=by injection h with _ _ h;injection h
theorem Goes.tab(S:St hB Θ s.heap μ X H){c P:Addr}(hp:(c,P)∈tabs){ps:Array aac}(hP:s.heap.get? P=some (tabObj ps)){pos:Pos}{c':Addr}{h':aal}{tk:Nat}(hx:agJ P s.heap h')(hn:s.heap.get? c'=none)(hrec:h'.CodeRec (.ref c') (kF c))
 (Oq:h'.get? P=some (tabObj (ps++#[rawInt pos.line,rawInt pos.col,.ref c']))):Goes hB Θ lk s μ X H {s with heap:=h',toks:=tk} μ X:=by
 have UH:P∈ao:=za _ hp
 have Zb:P∈X:=S.lG P UH
 have KX:∀a o,s.heap.get? a=some o→a∉X→h'.get? a=some o:=fun a o e hX=>hx a o (fun h=>hX (h▸Zb)) e
 have Zc:∀a xs,LstAt s.heap a xs→a≠P:=fun a xs h q=>by
  subst q
  obtain⟨j,e⟩:=h
  rw[hP] at e;(first|(replace e:=(Z8 e).symm;subst e)|cases e)
 refine⟨?_,.refl,.refl,⟨fun a o e hnw=>hx a o (fun h=>hnw (.inl (h▸UH))) e,fun a o e=>?_⟩,rfl,.refl _⟩
 ·exact{
   base:=fun a o e=>KX a o (S.base a o e) (S.Vg e)
   gK:=S.gK
   lG:=S.lG
   wH:=S.wH
   old:=fun a ha=>by
    obtain⟨o,e⟩:=S.old a ha
    by_cases hq:a=P
    ·subst hq;exact⟨_,Oq⟩
    ·exact⟨o,hx a o hq e⟩
   nodup:=S.nodup
   len:=S.len
   obj:=fun j l e=>by
    obtain⟨a,xs,e1,e2,e3⟩:=S.obj j l e
    exact⟨a,xs,e1,bS e2 fun o e=>hx a o (Zc a _ e2) e,e3.mono KX .refl .refl⟩
   tab:=fun p FF=>by
    have t:=S.tab p FF
    by_cases hpq:p.2=P
    ·obtain⟨p1,p2⟩:=p
     obtain rfl:p2=P:=hpq
     obtain rfl:p1=c:=L5 _ FF _ hp rfl
     refine⟨CodeHd.Oa t.hd fun o e=>KX _ o e t.cX,t.cX,?_⟩
     obtain⟨vs,e,ok,q⟩:=t.ent
     obtain rfl:ps=vs:=DA (Z8 (hP.symm.trans e))
     refine⟨_,Oq,by rw[afD];exact zK ps.toList ok,fun pos' cv e'=>?_⟩
     rw[afD] at e'
     rcases Dz ps.toList ok e' with h1|h1
     ·obtain⟨c2,oc,ws,tt,a,b,d,e5,f⟩:=q pos' cv h1
      exact⟨c2,oc,ws,tt,a,KX _ _ b f,d,e5,f⟩
     ·obtain⟨c2,oc,ws,tt,a,b,d,e5⟩:=hrec
      cases a
      exact⟨c',oc,ws,tt,h1,b,d,e5,S.fresh hn⟩
    ·exact t.go (fun a o e q=>⟨KX a o e q,q⟩) fun o e=>hx _ _ hpq e}
 ·by_cases hq:a=P
  ·subst hq;exact⟨_,Oq⟩
  ·exact⟨o,hx a o hq e⟩
theorem Nc(F:Fix w K hB Θ){k x:Nat}{px pos:Pos}{b:E}{sc:List (Nat×aam)}(hq:jX[k]?=some (x,px,b,sc))(hfr:∀p∈sc,p.2≠abm)(hc:ks 200=some .local∨ks 201=some .local):
 aX w hB Θ n ks (cV (.lam k)) (.Lambda (ku x px) (dE b) (aJ sc) pos):=fun C A env r s μ X H Y hne=>by
 refine kla_eval rfl ?_
 have hcl:closureFor (aJ sc) env=pure []:=closureFor_none fun p hp=>by
  obtain⟨q,hq',rfl⟩:=aa8.mp hp
  exact hfr q hq'
 obtain⟨c,P,hp,hcode,Tt⟩:∃c P,(c,P)∈tabs∧env.code=.ref c∧env.qual++"<lambda>"=kF c:=by
  rcases hc with h|h
  ·obtain⟨h1,h2⟩:=Y.fr.code.1 h
   exact⟨309,305,by decide,h1,by rw[h2];decide+kernel⟩
  ·obtain⟨h1,h2⟩:=Y.fr.code.2 h
   exact⟨328,326,by decide,h1,by rw[h2];decide+kernel⟩
 have T:=Y.st.tab _ hp
 obtain⟨vs,hP,ok,q⟩:=T.ent
 obtain⟨mg,mb,hg,hb,_,_,bm,ob,b1,b2,b3,b4,b5,b6,b7⟩:=F.base.glob
 have UH:P∈ao:=by simp only [tabs,aar,aaM,or_false,Prod.mk.injEq] at hp;rcases hp with⟨_,rfl⟩|⟨_,rfl⟩<;>simp[ao]
 have Xb:hB.get? P=none:=Y.st.gK P (Y.st.lG P UH)
 have hg':s.heap.Ns mainGlobals mg:=hg.at' fun o q=>Y.st.base _ o q
 have hbm:s.heap.BuiltinsAt mg P:=⟨bm,ob,b1,b2,b3,(fun h=>by rw[h,Xb] at b4;exact no1 b4),Y.st.base _ _ b4,b5,b6,b7⟩
 have hgP:mainGlobals≠P:=fun h=>by
  obtain⟨o,_,_,e,_⟩:=hg
  rw[h,Xb] at e;exact no1 e
 have Tu:∀{h:aal}{X:List Addr}{f c':Addr}{pm ctv:aac}{oc:Obj}{ws:Array aac}{t:Tok},h.get? f=some {cls:=.type "function",data:=.func (kla_fn "<lambda>" (kF c) (ku x px) (dE b) (aJ sc) [] pm (.ref c') ctv)}→
  h.get? c'=some oc→oc.data=.fields ws→ws[1]?=some (.str (kF c) t)→f∉X→c'∉X→VR Θ h μ X (.lam k) (.ref f):=fun h1 h2 h3 h4 h5 h6=>
  .lam h1 rfl ⟨hq,rfl,rfl,rfl,rfl,rfl,rfl,rfl,rfl⟩ rfl h2 h3 h4 h5 h6
 rw[Tt]
 cases hf:codeAmong pos vs.toList with
 |none=>
  refine kla_makeFunction hcl Y.fr.glob hg' hcode T.hd hP ok hf hgP hbm fun c' ctv h' tk hx hge hlt hrec Oq=>?_
  have hn:s.heap.get? c'=none:=abT hge
  have g1:Goes hB Θ C.lk s μ X H {s with heap:=h',toks:=tk} μ X:=Goes.tab Y.st hp hP hx hn hrec Oq
  obtain⟨c2,oc,ws,t,e2,h2,h3,h4⟩:=hrec
  cases e2
  have g2:Goes hB Θ C.lk s μ X H {s with heap:=h'.push (kla_obj "<lambda>" (kF c) (ku x px) (dE b) (aJ sc) [] ((mg "__name__").getD .none) c' ctv),toks:=tk} μ X:=g1.trans (.bE g1.st (bx _))
  exact aV rfl g2 (Tu (aaw _ rfl) (aat _ h2) h3 h4 (g1.st.fresh (aF _)) (Y.st.fresh hn))
 |some cv=>
  obtain⟨c',oc,ws,t,rfl,h2,h3,h4,h5⟩:=q pos cv hf
  refine kla_makeFunctionHit hcl Y.fr.glob hg' hcode T.hd hP ok hf hbm fun ctv h' tk hk hsz=>?_
  have g1:Goes hB Θ C.lk s μ X H {s with heap:=h',toks:=tk} μ X:=.bE Y.st hk
  have g2:Goes hB Θ C.lk s μ X H {s with heap:=h'.push {cls:=.type "function",data:=.func (kla_fn "<lambda>" (kF c) (ku x px) (dE b) (aJ sc) [] ((mg "__name__").getD .none) (.ref c') ctv)},toks:=tk} μ X:=g1.trans (.bE g1.st (bx _))
  exact aV rfl g2 (Tu (aaw _ rfl) (aat _ (hk _ _ h2)) h3 h4 (g1.st.fresh (aF _)) h5)
structure cF(Θ:Th)(sc:List (Nat×aam))(h:aal)(μ X:List Addr)(r:aR)(binds:List (Nat×aac)):Prop where
 rel:∀x v,aK x r=some v→∃u,(x,u)∈binds∧VR Θ h μ X v u
 nodup:(binds.map (·.1)).Nodup
 kind:∀p∈binds,p.1<138∧(sc.lookup p.1=some .local∨sc.lookup p.1=some .cell)
theorem cF.go{sc:List (Nat×aam)}(S:St hB Θ s.heap μ X H){binds:List (Nat×aac)}(b:cF Θ sc s.heap μ X r binds)(g:Goes hB Θ lk s μ X H' s' aG X'):cF Θ sc s'.heap aG X' r binds:=
 ⟨fun x v e=>(b.rel x v e).imp fun u h=>⟨h.1,g.vr S h.2⟩,b.nodup,b.kind⟩
noncomputable abbrev sM (binds:List (Nat×aac)):List (Str×aac):=binds.map fun p=>(nm p.1,p.2)
structure qR(sc:List (Nat×aam)):Prop where
 lt:∀p∈sc,p.1<138
 nodup:(sc.map (·.1)).Nodup
 free:∀p∈sc,p.2≠.free
noncomputable def iZ(sc:List (Nat×aam))(cd:Nat):Kinds:=fun x=>if x<138 then sc.lookup x else if x=cd then some .local else none
theorem GY{f:Str→Option aam}:∀(l:List (Nat×aac))(m:Str→Option aac),(∀p∈l,p.1<138)→(l.map (·.1)).Nodup→∀{x:Nat}{u:aac},x<138→f (nm x)=some .local→(x,u)∈l→bindL f (sM l) m (nm x)=some u:=by
 have off:∀(l:List (Nat×aac))(m:Str→Option aac),(∀p∈l,p.1<138)→∀{x:Nat},x<138→x∉l.map (·.1)→bindL f (sM l) m (nm x)=m (nm x):=by
  intro l
  induction l with
  |nil=>intros;rfl
  |cons p l ih=>
   intro m hl x hx hn
   show bindL f (sM l) _ (nm x)=_
   rw[ih _ (fun q hq=>hl q (aaf _ hq)) hx fun h=>hn (aaf _ h)]
   split
   ·exact if_neg fun h=>hn (by rw[fN hx (hl p (aae ..)) h];exact aae ..)
   ·rfl
 intro l
 induction l with
 |nil=>intro m _ _ x u _ _ h;cases h
 |cons p l ih=>
  intro m hl hn x u hx hk h
  rw[aaz,abE] at hn
  show bindL f (sM l) _ (nm x)=_
  rcases aar.mp h with e|h
  ·subst e
   rw[off l _ (fun q hq=>hl q (aaf _ hq)) hx hn.1,if_pos hk]
   exact if_pos rfl
  ·exact ih _ (fun q hq=>hl q (aaf _ hq)) hn.2 hx hk h
theorem GZ{f:Str→Option aam}:∀(l:List (Nat×aac))(m:Str→Option aac),(∀p∈l,p.1<138)→(l.map (·.1)).Nodup→∀{x:Nat}{u:aac},x<138→f (nm x)≠some .local→(x,u)∈l→bindC f (sM l) m (nm x)=some u:=by
 have off:∀(l:List (Nat×aac))(m:Str→Option aac),(∀p∈l,p.1<138)→∀{x:Nat},x<138→x∉l.map (·.1)→bindC f (sM l) m (nm x)=m (nm x):=by
  intro l
  induction l with
  |nil=>intros;rfl
  |cons p l ih=>
   intro m hl x hx hn
   show bindC f (sM l) _ (nm x)=_
   rw[ih _ (fun q hq=>hl q (aaf _ hq)) hx fun h=>hn (aaf _ h)]
   split
   ·rfl
   ·exact if_neg fun h=>hn (by rw[fN hx (hl p (aae ..)) h];exact aae ..)
 intro l
 induction l with
 |nil=>intro m _ _ x u _ _ h;cases h
 |cons p l ih=>
  intro m hl hn x u hx hk h
  rw[aaz,abE] at hn
  show bindC f (sM l) _ (nm x)=_
  rcases aar.mp h with e|h
  ·subst e
   rw[off l _ (fun q hq=>hl q (aaf _ hq)) hx hn.1,if_neg hk]
   exact if_pos rfl
  ·exact ih _ (fun q hq=>hl q (aaf _ hq)) hn.2 hx hk h
structure Kw(hB:aal)(Θ:Th)(n:Nat)(ks:Kinds)(C:Cx)(A:aav)(r:aR)(s1:aad)(aZ X1:List Addr)(H1:HP)(env:Env)(s2:aad)(X2:List Addr):Prop where
 go:Goes hB Θ C.lk s1 aZ X1 H1 s2 aZ X2
 ready:Ready hB Θ n ks C (A.deeper env) env r s2 aZ X2 H1
 own:∀a,Own ks env a→s1.heap.get? a=none
 frame:env.frame=some env.locals
theorem vK{sc:List (Nat×aam)}(hsc:qR sc){S0:Scope}(VW:S0.kind=.function)(UI:S0.names=(aJ sc).names){cd:Nat}{q:Str}{f:Addr}{c:aac}(hcd:(cd=200→c=.ref 309∧q=Z9 "_law_laid.<locals>.")∧(cd=201→c=.ref 328∧q=Z9 "law.<locals>."))
 {binds:List (Nat×aac)} (M8:tu Θ n C (A.deeper {scope:=aJ sc,locals:=0,globals:=0,cells:=[],qual:=q,func:=none,code:=c,frame:=none,builtins:=0}))
 (B:jg hB A s.heap μ X) (S:St hB Θ s.heap μ X H) (b:cF Θ sc s.heap μ X r binds) {Q:Env→aad→Prop}
 (k:∀env s2 X2,Kw hB Θ n (iZ sc cd) C A r s μ X H env s2 X2→Q env s2):
 aai (model pw w) A.in1 (newFunctionEnv S0 mainGlobals [] (sM binds) q (some f) c none builtinsNs) Q Ex s:=by
 have kn:∀x,x<138→(aJ sc).names.lookup (nm x)=sc.lookup x:=fun x hx=>by
  show(sc.map fun p=>(nm p.1,p.2)).lookup (nm x)=_
  rw[nC hsc.lt hx,jy]
 have hmem:∀x k',sc.lookup x=some k'→(x,k')∈sc:=fun x k' h=>lookup_mem h
 have ia:∀x,x<138→sc.lookup x=some .cell→∃ca,(cellsFrom (s.heap.objs.size+1) (aJ sc).names []).lookup (nm x)=some ca:=fun x hx h=>
  abw.mp (qc hx sc _ _ hsc.lt (.inl (hmem _ _ h)))
 refine wpAny_newFunctionEnv_cells VW (fun p hp=>?_) fun env he s2 I=>?_
 ·obtain⟨q',hq',rfl⟩:=aa8.mp hp
  obtain⟨h1,h2⟩:=b.kind q' hq'
  rcases h2 with h2|h2
  ·exact .inl (by rw[UI];exact(kn _ h1).trans h2)
  ·exact .inr (by rw[UI];exact⟨(kn _ h1).trans h2,abw.mpr (ia _ h1 h2)⟩)
 ·obtain⟨⟨⟨h2,tk,rfl⟩,hns,Kp,hfr⟩,MZ,hap,hab⟩:=I
  have Kp:∀a o,s.heap.get? a=some o→h2.get? a=some o:=Kp
  have hns:h2.Ns env.locals (bindL env.kindOf (sM binds) fun _=>none):=hns
  have kE:∀x,x<138→env.kindOf (nm x)=sc.lookup x:=fun x hx=>by
   have:env.kindOf (nm x)=(aJ sc).names.lookup (nm x):=by rw[he,←UI];rfl
   rw[this,kn x hx]
  have hloc:env.locals=s.heap.objs.size:=by rw[he];rfl
  have Qa:env.cells=cellsFrom (s.heap.objs.size+1) (aJ sc).names []:=by rw[he,←UI];rfl
  have jh:∀a∈env.locals::sc.filterMap fun p=>env.cells.lookup (nm p.1),s.heap.get? a=none∧∃o,h2.get? a=some o:=fun a ha=>by
   rcases aar.mp ha with rfl|ha
   ·exact⟨by rw[hloc];exact aF _,by obtain⟨o,_,_,e,_⟩:=hns;exact⟨o,e⟩⟩
   ·obtain⟨p,hp,e⟩:=acJ.mp ha
    obtain⟨o,ho,_⟩:=MZ _ _ e
    exact⟨abT (adl (hloc▸hab _ _ (mem_of_lookup e))),o,ho⟩
  have g:Goes hB Θ C.lk s μ X H {s with heap:=h2,toks:=tk} μ (X++(env.locals::sc.filterMap fun p=>env.cells.lookup (nm p.1))):=Goes.mK S Kp _ jh
  have b2:=b.go S g
  have B2:=B.go g
  have hframe:env.frame=some env.locals:=by rw[he];rfl
  have Tv:env.locals∈X++(env.locals::sc.filterMap fun p=>env.cells.lookup (nm p.1)):=aau _ (aae ..)
  have VX:s.heap.get? env.locals=none:=by rw[hloc];exact aF _
  have cellIn:∀x k' ca,(x,k')∈sc→env.cells.lookup (nm x)=some ca→ca∈env.locals::sc.filterMap fun p=>env.cells.lookup (nm p.1):=fun x k' ca hm e=>aaf _ (acJ.mpr ⟨_,hm,e⟩)
  refine k env _ _ ⟨g,⟨⟨M8.par,M8.ph,M8.hh,M8.depth,M8.units⟩,?_,?_,g.st⟩,fun a ha=>?_,hframe⟩
  ·obtain⟨l,el,hl⟩:=B2.fr
   refine⟨env::l,by show A.frames.map (env::·)=_;rw[el];rfl,fun env' he'=>?_⟩
   rcases aar.mp he' with rfl|he'
   ·refine⟨(by rw[he];show S0.kind≠_;rw[VW];exact fun h=>by cases h),env'.locals,_,hframe,Tv,fun h=>?_,fun h=>?_,hns⟩
    ·obtain⟨o,e⟩:=S.old _ (S.lG _ h);rw[VX] at e;exact no1 e
    ·obtain⟨o,e⟩:=S.old _ (S.wH _ h);rw[VX] at e;exact no1 e
   ·exact hl env' he'
  ·have VY:∀{x:Nat}{kk:aam},x<138→iZ sc cd x=some kk→sc.lookup x=some kk:=fun hx h=>by unfold iZ at h;rwa[if_pos hx] at h
   exact{
    kind:=by rw[he];exact VW
    code:=by
     have hq:env.qual=q:=by rw[he];rfl
     have hc':env.code=c:=by rw[he];rfl
     rw[hq,hc']
     refine⟨fun h=>hcd.1 ?_,fun h=>hcd.2 ?_⟩
     ·unfold iZ at h;rw[if_neg (by decide)] at h;split at h
      ·rename_i h1;exact h1.symm
      ·exact no1 h
     ·unfold iZ at h;rw[if_neg (by decide)] at h;split at h
      ·rename_i h1;exact h1.symm
      ·exact no1 h
    glob:=by rw[he];rfl
    HJ:=by rw[he];rfl
    kinds:=fun x hx=>by rw[kE x hx];unfold iZ;rw[if_pos hx]
    loc:=⟨_,hns,fun x v e kk=>by
     obtain⟨u,hu,qu⟩:=b2.rel x v e
     have hx:=(b.kind _ hu).1
     exact⟨u,GY binds _ (fun p hp=>(b.kind p hp).1) b.nodup hx ((kE x hx).trans (VY hx kk)) hu,qu⟩⟩
    AI:=fun x hx kk=>by
     have hkc:sc.lookup x=some .cell:=by
      rcases kk with kk|kk
      ·exact VY hx kk
      ·exact absurd rfl (hsc.free _ (hmem _ _ (VY hx kk)))
     obtain⟨ca,hca⟩:=ia x hx hkc
     rw[←Qa] at hca
     refine⟨ca,_,hca,MZ (nm x) ca hca,aau _ (cellIn x _ ca (hmem _ _ hkc) hca),fun v e=>?_⟩
     obtain⟨u,hu,qu⟩:=b2.rel x v e
     exact⟨u,GZ binds _ (fun p hp=>(b.kind p hp).1) b.nodup hx (by rw[kE x hx,hkc];exact fun h=>by (first|(replace h:=(Z8 h).symm;subst h)|cases h)) hu,qu⟩
    inj:=fun x y ca hx hy _ _ ex ey=>fN hx hy (name_of_addr hap (mem_of_lookup ex) (mem_of_lookup ey))
    dom:=fun x v e=>by
     obtain⟨u,hu,_⟩:=b.rel x v e
     obtain⟨hx,hk⟩:=b.kind _ hu
     refine⟨hx,?_⟩
     unfold iZ;rw[if_pos hx]
     rcases hk with hk|hk
     ·exact .inl hk
     ·exact .inr (.inl hk)
    kG:=Tv}
  ·rcases ha with rfl|⟨x,hx,kk,e⟩
   ·exact VX
   ·exact abT (adl (hloc▸hab _ _ (mem_of_lookup e)))
structure ek(w:aaC)(hB:aal)(k:Nat)(d:O2)(body:List S)(sc:List (Nat×aam))(cd:Nat):Prop where
 Zd:qR sc
 ex:∃o fd,hB.get? (fu k)=some o∧o.data=.func fd∧fd.body=.stmts (gR body)∧fd.scope.kind=.function∧fd.scope.names=(aJ sc).names∧fd.scope.isCoroutine=false∧fd.scope.isGenerator=false∧fd.globals=mainGlobals∧fd.closure=[]∧fd.builtins=builtinsNs∧hB.CodeRec fd.code fd.qualname∧
  ((cd=200→fd.code=.ref 309∧fd.qualname++".<locals>."=Z9 "_law_laid.<locals>.")∧(cd=201→fd.code=.ref 328∧fd.qualname++".<locals>."=Z9 "law.<locals>."))∧
  ∀(Θ:Th)(A:aav)(s:aad)(μ X:List Addr)(H:HP)(lk:List Nat)(pos:List V)(kws r:aR)(us kvs:List aac)(Q:List (Str×aac)→aad→Prop)(Ex:aac→aad→Prop),St hB Θ s.heap μ X H→uI d pos kws=some r→VRs Θ s.heap μ X pos us→VRs Θ s.heap μ X (kws.map (·.2)) kvs→
   (∀binds s1,Goes hB Θ lk s μ X H s1 μ X→cF Θ sc s1.heap μ X r binds→Q (sM binds) s1)→aai (model pw w) A (bindArgs fd ⟨us,((kws.map (·.1)).map nm).zip kvs⟩) Q Ex s
theorem UJ(B:jg hB A s.heap μ X):jg hB A.in1 s.heap μ X:=⟨B.fr⟩
theorem BI{res:R Fl}(S:St hB Θ s.heap μ X H)(B:jg hB A s.heap μ X){s2:aad}{X2:List Addr}(F:Kw hB Θ n ks C A r s μ X H env s2 X2)(hb:aai (model pw w) (A.deeper env) (execs l env) (QS hB Θ (A.deeper env) C.lk ks env s2 μ X2 res) (ES hB Θ (A.deeper env) C.lk ks env s2 μ X2 res) s2):
 codeAny (model pw w) A (.func l env) (fun r' s'=>match r' with|.ok (.ret v)=>QG (VR Θ) hB Θ C.lk s μ X (yT res) v s'|.ok _=>False|.error e=>EG hB Θ A C.lk s μ X (yT res) e s') s2:=by
 have stood:∀a o,s.heap.get? a=some o→¬Own ks env a:=fun a o e h=>by rw[F.own a h] at e;exact no1 e
 refine codeAny_func (aas hb (fun f s3 h=>?_) fun e s3 h=>?_)
 ·obtain⟨fl,H3,wU,X3,e3,g3,B3,q⟩:=h
  have g:Goes hB Θ C.lk s μ X H3 s3 wU X3:=⟨g3.st,F.go.gm.trans F.go.keep.2 g3.gm,F.go.gx.trans F.go.keep.2 g3.gx,⟨fun a o e hn=>g3.keep.1 a o (F.go.keep.1 a o e hn) fun q=>q.elim hn (stood a o e),fun a o e=>(F.go.keep.2 a o e).elim (g3.keep.2 a)⟩,g3.os.trans F.go.os,F.go.gens.trans g3.gens⟩
  cases fl with
  |on r3=>
   obtain⟨rfl,_⟩:=q
   exact⟨.none,H3,wU,X3,by rw[e3];rfl,g,.none⟩
  |back v=>
   obtain⟨u,rfl,q⟩:=q
   exact⟨v,H3,wU,X3,by rw[e3];rfl,g,q⟩
 ·obtain⟨c,m,H3,wU,X3,ea,e1,rfl,S3,Ze,Zf,k3,f3,o3,Zg,ex3,B3⟩:=h
  have VZ:∀a o,s.heap.get? a=some o→∃o',s3.heap.get? a=some o':=fun a o e=>(F.go.keep.2 a o e).elim (k3.2 a)
  have ex:ExcAt s.heap Θ s3.heap wU X3 c m ea:=ex3.back F.go.keep.2
  obtain⟨l0,UK,W6⟩:=B.fr
  have hfr:(A.deeper env).frames=some (env::l0):=by show A.frames.map (env::·)=_;rw[UK];rfl
  have Xc:∀a,nP A a→nP (A.deeper env) a:=fun a ⟨l1,e1,h1,h2,h3⟩=>by
   rw[UK] at h1;(first|(replace h1:=Z8 h1;subst h1)|cases h1)
   exact⟨_,e1,hfr,aaf _ h2,h3⟩
  have Sv:∀a o,s.heap.get? a=some o→nP (A.deeper env) a→nP A a:=fun a o e ⟨l1,e1,h1,h2,h3⟩=>by
   rw[hfr] at h1;(first|(replace h1:=(Z8 h1).symm;subst h1)|cases h1)
   rcases aar.mp h2 with rfl|h2
   ·rw[F.frame] at h3;(first|(replace h3:=(Z8 h3).symm;subst h3)|cases h3)
    exact absurd (.inl rfl) (stood _ o e)
   ·exact⟨l0,e1,UK,h2,h3⟩
  refine aab (ET hfr F.frame B3 S3 ex S.lz VZ fun h4 X4 N=>?_)
  have gx:Grows s.heap X X4:=(F.go.gx.trans F.go.keep.2 Zf).trans VZ N.gx
  have stay:∀a o,s.heap.get? a=some o→∃o',h4.get? a=some o':=fun a o e=>(VZ a o e).elim (N.stay a)
  have nA:∀a o,s.heap.get? a=some o→¬nP A a→¬nP (A.deeper env) a:=fun a o e h q=>h (Sv a o e q)
  refine⟨c,m,H3,wU,X4,ea,by rw[e1];rfl,rfl,N.st,F.go.gm.trans F.go.keep.2 Ze,gx,⟨fun a o e hn=>?_,stay⟩,fun a o ha e=>?_,o3.trans F.go.os,F.go.gens.trans Zg,N.exc⟩
  ·have e2:=F.go.keep.1 a o e fun h=>hn (.inl h)
   have e3:=k3.1 a o e2 fun q=>by
    rcases q with q|q|q
    ·exact hn (.inl (q.back F.go.gm e))
    ·exact hn (.inr (Sv a o e q))
    ·exact stood a o e q
   exact N.keep a o e3 (.inl fun h=>by rw[e] at h;exact no2 h) (nA a o e fun h=>hn (.inr h))
  ·have hW:¬Wr C.lk μ a:=by
    obtain⟨l1,env',h1,h2,h3⟩:=ha
    rw[UK] at h1;(first|(replace h1:=Z8 h1;subst h1)|cases h1)
    obtain⟨_,L,m',hf',_,ht,hm,_⟩:=W6 env' h2
    rw[h3] at hf';(first|(replace hf':=Z8 hf';subst hf')|cases hf')
    exact l7 ⟨ht,hm⟩
   have e2:=F.go.keep.1 a o e hW
   obtain⟨sl,e3⟩:=f3 a o (Xc a ha) (stood a o e) e2
   obtain⟨Zh,e4⟩:=N.frames a _ (Xc a ha) e3
   exact⟨Zh,e4⟩
theorem Rp(sc:List (Nat×aam)):(aJ sc).isCoroutine=false:=rfl
theorem tu.down(c:tu Θ (n+1) C A)(env:Env):tu Θ n ⟨C.par,iD C.par n,C.lk⟩ (A.deeper env):=
 ⟨c.par,rfl,fun h=>c.hh h,by have:=c.depth;show A.depth+1+n≤600;omega,by have:=c.units;show A.units+3+20*n≤9000;omega⟩
theorem Kx(F:Fix w K hB Θ){k:Nat}{d:O2}{body:List Internal.S}{sc:List (Nat×aam)}{cd:Nat}(hd:jR LW k=some d)(Df:ek w hB k d body sc cd)(hbody:fV w hB Θ n (iZ sc cd) d.code (gR body))
 {as:List V} {kr:aR} {xs kvs:List aac} (c:tu Θ (n+1) C A) (B:jg hB A s.heap μ X) (S:St hB Θ s.heap μ X H) (q:VRs Θ s.heap μ X as xs) (qk:VRs Θ s.heap μ X (kr.map (·.2)) kvs) (hne:eF C (.fn k) as kr H≠.bad):
 aai (model pw w) A (call (.ref (fu k)) xs (((kr.map (·.1)).map nm).zip kvs)) (QG (VR Θ) hB Θ C.lk s μ X (eF C (.fn k) as kr H)) (EG hB Θ A C.lk s μ X (eF C (.fn k) as kr H)) s:=by
 have hw:eF C (.fn k) as kr H=xu ⟨C.par,iD C.par n,C.lk⟩ k as kr H:=by
  show C.iD k as kr C.lk H=_
  rw[c.ph];rfl
 have P7:xu ⟨C.par,iD C.par n,C.lk⟩ k as kr H=(match uI d as kr with
  |some r=>yT (d.code ⟨C.par,iD C.par n,C.lk⟩ r H)
  |none=>.bad):=by(unfold xu;rw[hd])<;>rfl
 rw[P7] at hw
 cases eb:uI d as kr with
 |none=>rw[eb] at hw;exact absurd hw hne
 |some r=>
 rw[eb] at hw
 have hw:eF C (.fn k) as kr H=yT (d.code ⟨C.par,iD C.par n,C.lk⟩ r H):=hw
 rw[hw] at hne ⊢
 have hnb:d.code ⟨C.par,iD C.par n,C.lk⟩ r H≠.bad:=fun h=>hne (by rw[h];rfl)
 obtain⟨o,fd,e1,e2,e3,e4,Zi,Zj,Zk,e5,e6,e7,e8,e9,FA⟩:=Df.ex
 have ho:=S.base _ _ e1
 have hroom:A.depth<recursionLimit:=by have:=c.depth;show A.depth<1000;omega
 refine aee (ady hroom ho e2 Zj Zk e3 (e8.keeps fun b o e=>S.base b o e) ?_)
 refine FA Θ A.in1 s μ X H C.lk as kr r xs kvs _ _ S eb q qk fun binds s1 g1 b1=>?_
 rw[e5,e6,e7]
 refine vK (C:=⟨C.par,iD C.par n,C.lk⟩) Df.Zd e4 Zi (cd:=cd) ⟨fun h=>(e9.1 h),fun h=>(e9.2 h)⟩ (c.down _) (B.go g1) g1.st b1 fun env s2 X2 Fr=>?_
 refine⟨F.base.nolimit.keeps fun b o e=>Fr.go.st.base b o e,?_⟩
 have:=BI (l:=gR body) g1.st (B.go g1) Fr (hbody _ _ env r s2 μ X2 H Fr.ready hnb)
 refine codeAny_mono this fun r' s' h=>?_
 cases r' with
 |ok f=>
  cases f with
  |ret v=>
   obtain⟨v',H',aG,X',h1,h2,h3⟩:=h
   exact⟨v',H',aG,X',h1,g1.trans h2,h3⟩
  |_=>exact h
 |error e=>exact EG.trans B g1 h
theorem G0{fd:FuncData}{x:Nat}{px:Pos}(hx:x=77∨x=125)(h1:fd.params=ku x px)(h2:fd.defaults=.none)(h3:fd.kwdefaults=.none)(u:aac):bindArgs fd ⟨[u],[]⟩=pure (sM [(x,u)]):=by
 obtain⟨a1,a2,a3,a4,a5,a6,a7,a8,a9,S9,Zl,Zm,Zn,Zo,Zp⟩:=fd
 subst h1 h2 h3
 rcases hx with rfl|rfl<;>rfl
theorem Ky(F:Fix w K hB Θ){k:Nat}{q:Nat×Pos×E×List (Nat×aam)}(hq:jX[k]?=some q)(hbody:aX w hB Θ n (iZ q.2.2.2 0) (cE q.2.2.1) (dE q.2.2.1))(hsc:qR q.2.2.2)(hx:(q.1=77∨q.1=125)∧q.2.2.2.lookup q.1=some .local)
 {f:aac} {as:List V} {kr:aR} {xs kvs:List aac} (c:tu Θ (n+1) C A) (B:jg hB A s.heap μ X) (S:St hB Θ s.heap μ X H) (qf:VR Θ s.heap μ X (.lam k) f) (qa:VRs Θ s.heap μ X as xs) (qk:VRs Θ s.heap μ X (kr.map (·.2)) kvs) (hne:eF C (.lam k) as kr H≠.bad):
 aai (model pw w) A (call f xs (((kr.map (·.1)).map nm).zip kvs)) (QG (VR Θ) hB Θ C.lk s μ X (eF C (.lam k) as kr H)) (EG hB Θ A C.lk s μ X (eF C (.lam k) as kr H)) s:=by
 have hk:k<5:=by
  have:=(aay.mp hq).1
  have e:jX.length=5:=rfl
  omega
 have hl:jR O3 k=some (q.1,cE q.2.2.1):=by
  rw[eU,←Fz,agm,hq];rfl
 have hw:eF C (.lam k) as kr H=H8 ⟨C.par,iD C.par n,C.lk⟩ (q.1,cE q.2.2.1) as kr H:=by
  show C.iD (100+k) as kr C.lk H=_
  rw[c.ph]
  show xu ⟨C.par,iD C.par n,C.lk⟩ (100+k) as kr H=_
  have h1:jR LW (100+k)=none:=by
   rw[eU]
   refine adw ?_
   have e:LW.length=21:=rfl
   omega
  have h2:aap (100+k) 21=false:=by
   cases hb:aap (100+k) 21 with
   |false=>rfl
   |true=>have:=aan hb;omega
  unfold xu
  rw[h1,h2,show 100+k - 100=k by omega,hl]
  rfl
 replace qf:=qf.inv;cases qf with
 |@lam a ca o oc vs t fd q' ha hd hf hcode hc hcd hq1 hX tn=>
 have Zq:q'=q:=by have:=hf.at_;rw[hq] at this;exact(Z8 this).symm
 subst Zq
 cases as with
 |nil=>exact absurd hw hne
 |cons v vs'=>
 cases vs' with
 |cons _ _=>exact absurd hw hne
 |nil=>
 obtain⟨u,rfl,q1⟩:=qa.one
 cases kr with
 |cons p kr=>exact absurd hw hne
 |nil=>
 have hw:eF C (.lam k) [v] [] H=(match cE q'.2.2.1 ⟨C.par,iD C.par n,C.lk⟩ [(q'.1,v)] H with
  |.ok w H=>.ok w H
  |_=>.bad):=hw
 cases eb:cE q'.2.2.1 ⟨C.par,iD C.par n,C.lk⟩ [(q'.1,v)] H with
 |bad=>rw[eb] at hw;exact absurd hw hne
 |exc _ _ _=>rw[eb] at hw;exact absurd hw hne
 |ok v' H2=>
 rw[eb] at hw
 have hw:eF C (.lam k) [v] [] H=.ok v' H2:=hw
 have hroom:A.depth<recursionLimit:=by have:=c.depth;show A.depth<1000;omega
 rw[adZ,adZ,agn]
 have hco:fd.scope.isCoroutine=false:=by rw[hf.scope];rfl
 refine aee (kla_callFunE hroom ha hd hco (by rw[hf.scope];rfl) hf.body ⟨ca,oc,vs,t,hcode,hc,hcd,hq1⟩ ?_)
 rw[G0 hx.1 hf.params hf.defaults hf.kwdefaults,hf.scope,hf.globals,hf.closure,hf.builtins]
 have b1:cF Θ q'.2.2.2 s.heap μ X [(q'.1,v)] [(q'.1,u)]:=by
  refine⟨fun x v'' e=>?_,by simp,fun p hp=>?_⟩
  ·rw[cZ] at e
   split at e
   ·rename_i h;(first|(replace e:=Z8 e;subst e)|cases e);exact⟨u,by rw[h];exact aae ..,q1⟩
   ·exact no1 e
  ·rw[aaq.mp hp]
   exact⟨by rcases hx.1 with h|h<;>rw[h]<;>decide,.inl hx.2⟩
 refine aag (vK (C:=⟨C.par,iD C.par n,C.lk⟩) hsc rfl rfl (cd:=0) ⟨(fun h=>by cases h),(fun h=>by cases h)⟩ (c.down _) B S b1 fun env s2 X2 Fr=>?_)
 refine⟨F.base.nolimit.keeps fun b o e=>Fr.go.st.base b o e,?_⟩
 refine kla_codeExpr (rB eb (hbody _ _ env _ s2 μ X2 H Fr.ready) fun u2 s3 wU X3 g3 q3=>?_)
 exact⟨v',H2,wU,X3,hw,Fr.go.trans g3,q3⟩
noncomputable def BJ(w:aaC)(hB:aal)(Θ:Th):Prop:=∀(A:aav)(s:aad)(μ X:List Addr)(H:HP)(lk:List Nat)(Ex:aac→aad→Prop),A.handled=none→A.depth+1≤600→A.units+20≤9000→jg hB A s.heap μ X→St hB Θ s.heap μ X H→
 aai (model pw w) A (call (.ref 282) [] []) (fun u s'=>∃aG X',Goes hB Θ lk s μ X (au H [[]]) s' aG X'∧VR Θ s'.heap aG X' (.inst (aC H)) u) Ex s
structure zL(w:aaC)(hB:aal)(Kz:Nat→List Internal.S)(KA:Nat→List (Nat×aam))(KC:Nat→Nat):Prop where
 all:∀k d,jR LW k=some d→ek w hB k d (Kz k) (KA k) (KC k)
noncomputable def BK(w:aaC)(hB:aal)(Θ:Th)(n:Nat)(Kz:Nat→List Internal.S)(KA:Nat→List (Nat×aam))(KC:Nat→Nat):Prop:=
 (∀k d,jR LW k=some d→fV w hB Θ n (iZ (KA k) (KC k)) d.code (gR (Kz k)))∧
 ∀(k:Nat)(q:Nat×Pos×E×List (Nat×aam)),jX[k]?=some q→aX w hB Θ n (iZ q.2.2.2 0) (cE q.2.2.1) (dE q.2.2.1)
theorem ya:∀(k:Nat)(q:Nat×Pos×E×List (Nat×aam)),jX[k]?=some q→qR q.2.2.2∧(q.1=77∨q.1=125)∧q.2.2.2.lookup q.1=some NameKind.local:=by
 have:∀q∈jX,qR q.2.2.2∧(q.1=77∨q.1=125)∧q.2.2.2.lookup q.1=some NameKind.local:=by
  intro q hq
  simp only [jX,aar,aaM,or_false] at hq
  rcases hq with rfl|rfl|rfl|rfl|rfl
  all_goals exact⟨⟨by decide,by decide,by decide⟩,by decide,by decide⟩
 intro k q h
 exact this q (aaU h)
theorem sN(F:Fix w K hB Θ)(Hd:BJ w hB Θ){Kz:Nat→List Internal.S}{KA:Nat→List (Nat×aam)}{KC:Nat→Nat}(Df:zL w hB Kz KA KC)(hb:∀m,n=m+1→BK w hB Θ m Kz KA KC):uY w hB Θ n:=fun C A s μ X H g as kr f xs kvs c B S qf qa qk hne=>by
 cases g with
 |fn k=>
  replace qf:=qf.inv;cases qf with
  |fn hk=>
  cases n with
  |zero=>
   exact absurd (show C.iD k as kr C.lk H=.bad by rw[c.ph];rfl) hne
  |succ m=>
   by_cases h21:k=21
   ·subst h21
    cases as with
    |cons _ _=>exact absurd (show C.iD 21 _ kr C.lk H=.bad by rw[c.ph];cases kr<;>rfl) hne
    |nil=>
    cases kr with
    |cons _ _=>exact absurd (show C.iD 21 [] _ C.lk H=.bad by rw[c.ph];rfl) hne
    |nil=>
    (replace qa:=qa.inv;cases qa)
    have hw:eF C (.fn 21) [] [] H=az (bh b9 C.lk) (R.ok (.inst (aC H)) (au H [[]])) .bad:=by
     show C.iD 21 [] [] C.lk H=_
     rw[c.ph];rfl
    rw[hw] at hne ⊢
    cases hl:bh b9 C.lk with
    |false=>rw[hl] at hne;exact absurd rfl hne
    |true=>
    have:=c.depth
    have:=c.units
    refine aas (Hd A s μ X H C.lk _ (c.hh hl) (by omega) (by omega) B S) (fun u s' h=>?_) fun _ _ x=>x
    obtain⟨aG,X',g',q'⟩:=h
    exact⟨_,_,aG,X',rfl,g',q'⟩
   ·have:∃d,jR LW k=some d:=by
     rw[eU]
     have e:LW.length=21:=rfl
     exact⟨_,aax (by omega)⟩
    obtain⟨d,hd⟩:=this
    exact Kx F hd (Df.all k d hd) ((hb m rfl).1 k d hd) c B S qa qk hne
 |lam k=>
  cases n with
  |zero=>
   exact absurd (show C.iD (100+k) as kr C.lk H=.bad by rw[c.ph];rfl) hne
  |succ m=>
   have:∃q,jX[k]?=some q:=by
    replace qf:=qf.inv;cases qf with
    |lam ha hd hf hk hc hcd hq hX tn=>exact⟨_,hf.at_⟩
   obtain⟨q,hq⟩:=this
   obtain⟨h1,h2⟩:=ya k q hq
   exact Ky F hq ((hb m rfl).2 k q hq) h1 h2 c B S qf qa qk hne
 |bi b=>
  cases kr with
  |cons p kr=>exact absurd rfl hne
  |nil=>
  (replace qf:=qf.inv;cases qf)
  have hw:eF C (.bi b) as [] H=rV C.lk b as H:=rfl
  rw[hw] at hne ⊢
  obtain⟨v,e,h⟩:=IX F.ps F.th (A:=A) (E:=EG hB Θ A C.lk s μ X (rV C.lk b as H)) c.uX c.hh S qa hne
  rw[adZ,adZ,agn]
  refine aas h (fun u s' h=>?_) fun _ _ x=>x
  exact QG.rY (.refl S) e h
 |_=>exact absurd rfl hne
end
noncomputable def V0(ks:Kinds)(x:Nat):Bool:=decide (x<138)&&decide (ks x=some .globalImplicit)
noncomputable def isName:E→Bool
 |.nm _ _=>true
 |.gl _ _=>true
 |_=>false
noncomputable def Rq(a b:Pos):Bool:=decide (a=b)
theorem ai{a b:Bool}(h:(a&&b)=true):a=true∧b=true:=aa1.mp h
theorem vL{a b:Pos}(h:Rq a b=true):a=b:=of_decide_eq_true h
noncomputable def vM{α β:Type}(x:Option α)(y:Option β)(f:α→β→Bool):Bool:=x.rec false fun u=>y.rec false (f u)
theorem ic{α β:Type}{x:Option α}{y:Option β}{f:α→β→Bool}(h:vM x y f=true):∃u v,x=some u∧y=some v∧f u v=true:=by
 cases x with
 |none=>exact nb1 h
 |some u=>cases y with
  |none=>exact nb1 h
  |some v=>exact⟨u,v,rfl,rfl,h⟩
noncomputable def V1:E→Option (Nat×Pos)
 |.nm x p=>some (x,p)
 |_=>none
noncomputable def KD:E→Option (Nat×Pos)
 |.gl x p=>some (x,p)
 |_=>none
noncomputable def V2:E→Option (E×Nat×Pos×List E×List Internal.K×Pos)
 |.bA o m p a k q=>some (o,m,p,a,k,q)
 |_=>none
noncomputable def UL:E→Option (E×List E×List Internal.K×Pos)
 |.call o a k q=>some (o,a,k,q)
 |_=>none
theorem KG{e:E}{q:Nat×Pos}(h:V1 e=some q):e=.nm q.1 q.2:=by
 cases e with
 |nm x p=>exact Z8 h▸rfl
 |_=>exact no1 h
theorem zM{e:E}{q:Nat×Pos}(h:KD e=some q):e=.gl q.1 q.2:=by
 cases e with
 |gl x p=>exact Z8 h▸rfl
 |_=>exact no1 h
theorem KH{e:E}{q:E×Nat×Pos×List E×List Internal.K×Pos}(h:V2 e=some q):e=.bA q.1 q.2.1 q.2.2.1 q.2.2.2.1 q.2.2.2.2.1 q.2.2.2.2.2:=by
 cases e with
 |bA=>exact Z8 h▸rfl
 |_=>exact no1 h
theorem DB{e:E}{q:E×List E×List Internal.K×Pos}(h:UL e=some q):e=.call q.1 q.2.1 q.2.2.1 q.2.2.2:=by
 cases e with
 |call=>exact Z8 h▸rfl
 |_=>exact no1 h
noncomputable def Qc(u v:Nat×Pos):Bool:=aap u.1 v.1&&Rq u.2 v.2
theorem EZ{u v:Nat×Pos}(h:Qc u v=true):u=v:=
 have h:=ai h
 Prod.ext (aan h.1) (vL h.2)
theorem gW{α:Type}{l:List α}(h:l.isEmpty=true):l=[]:=List.isEmpty_iff.mp h
noncomputable def UM(a b:E):Bool:=vM (V1 a) (V1 b) Qc
noncomputable def Xd(a b:E):Bool:=vM (KD a) (KD b) Qc
theorem DC{a b:E}(h:UM a b=true):a=b:=by
 obtain⟨u,v,e1,e2,h⟩:=ic h
 rw[KG e1,KG e2,EZ h]
theorem Qd{a b:E}(h:Xd a b=true):a=b:=by
 obtain⟨u,v,e1,e2,h⟩:=ic h
 rw[zM e1,zM e2,EZ h]
noncomputable def Xe(a b:E):Bool:=vM (V2 a) (V2 b) fun u v=>UM u.1 v.1&&(aap u.2.1 v.2.1&&(Rq u.2.2.1 v.2.2.1&&(u.2.2.2.1.isEmpty&&(v.2.2.2.1.isEmpty&&(u.2.2.2.2.1.isEmpty&&(v.2.2.2.2.1.isEmpty&&Rq u.2.2.2.2.2 v.2.2.2.2.2))))))
theorem Qe{a b:E}(h:Xe a b=true):a=b:=by
 obtain⟨u,v,e1,e2,h⟩:=ic h
 have h:=ai h
 have h2:=ai h.2
 have h3:=ai h2.2
 have h4:=ai h3.2
 have h5:=ai h4.2
 have h6:=ai h5.2
 have h7:=ai h6.2
 rw[KH e1,KH e2,DC h.1,aan h2.1,vL h3.1,gW h4.1,gW h5.1,gW h6.1,gW h7.1,vL h7.2]
noncomputable def Xf(a b:E):Bool:=vM (UL a) (UL b) fun u v=>Xd u.1 v.1&&(vM u.2.1.head? v.2.1.head? UM&&(u.2.1.tail.isEmpty&&(v.2.1.tail.isEmpty&&(u.2.2.1.isEmpty&&(v.2.2.1.isEmpty&&Rq u.2.2.2 v.2.2.2)))))
theorem DE{l:List E}{x:E}(h:l.head?=some x)(g:l.tail.isEmpty=true):l=[x]:=by
 cases l with
 |nil=>exact no1 h
 |cons y l=>rw[show y=x from Z8 h,show l=[] from gW g]
theorem Qf{a b:E}(h:Xf a b=true):a=b:=by
 obtain⟨u,v,e1,e2,h⟩:=ic h
 have h:=ai h
 have h2:=ai h.2
 have h3:=ai h2.2
 have h4:=ai h3.2
 have h5:=ai h4.2
 have h6:=ai h5.2
 obtain⟨x,y,f1,f2,g⟩:=ic h2.1
 rw[DB e1,DB e2,Qd h.1,DE f1 h3.1,DE f2 h4.1,DC g,gW h5.1,gW h6.1,vL h6.2]
noncomputable def KI(k x:Nat)(px:Pos)(b:E)(sc:List (Nat×aam)):Bool:=
 vM jX[k]? (some ()) fun q _=>aap q.1 x&&(Rq q.2.1 px&&((UM q.2.2.1 b||(Xe q.2.2.1 b||Xf q.2.2.1 b))&&decide (q.2.2.2=sc)))
theorem KJ{k x:Nat}{px:Pos}{b:E}{sc:List (Nat×aam)}(h:KI k x px b sc=true):jX[k]?=some (x,px,b,sc):=by
 obtain⟨⟨x',Zr,b',sc'⟩,_,e1,_,h⟩:=ic h
 have h:=ai h
 have h2:=ai h.2
 have h3:=ai h2.2
 rw[e1,show x'=x from aan h.1,show Zr=px from vL h2.1,show sc'=sc from of_decide_eq_true h3.2,show b'=b from(aaQ.mp h3.1).elim DC fun h=>(aaQ.mp h).elim Qe Qf]
noncomputable def yb(ks:Kinds)(sc:List (Nat×aam)):Bool:=
 sc.all (fun p=>decide (p.1<138))&&decide ((sc.map (·.1)).Nodup)&&sc.all fun p=>!(decide (p.2=.free))||decide (ks p.1=some .cell)||decide (ks p.1=some .free)
theorem BL{ks:Kinds}{sc:List (Nat×aam)}(h:yb ks sc=true):zI ks sc:=by
 unfold yb at h
 simp only [abq,aaG,decide_eq_true_eq,adK,aa9,decide_eq_false_iff_not] at h
 obtain⟨⟨h1,h2⟩,h3⟩:=h
 exact⟨h1,h2,fun p hp hf=>by rcases h3 p hp with(h|h)|h;exact absurd hf h;exact .inl h;exact .inr h⟩
noncomputable def gy(ks:Kinds)(x:Nat):Bool:=decide (x<138)&&(decide (ks x=some .local)||decide (ks x=some .cell))
theorem dm{ks:Kinds}{x:Nat}(h:gy ks x=true):oB ks x:=by
 unfold gy at h
 simp only [abq,decide_eq_true_eq,adK] at h
 exact h
noncomputable def vN(ks:Kinds)(sc:List (Nat×aam))(t:T):Bool:=(bf t).all fun x=>gy ks x&&(!(decide (ks x=some .cell))||decide ((x,aaV)∈sc))
theorem BO{ks:Kinds}{sc:List (Nat×aam)}{t:T}(h:vN ks sc t=true):w5 ks t∧∀x∈bf t,ks x=some .cell→(x,aaV)∈sc:=by
 unfold vN at h
 simp only [aaG,abq,adK,aa9,decide_eq_false_iff_not,decide_eq_true_eq] at h
 refine⟨?_,fun x hx hc=>(h x hx).2.elim (fun q=>absurd hc q) id⟩
 cases t with
 |one x p=>exact dm (h x (by simp[bf])).1
 |two x px y py p=>exact⟨dm (h x (by simp[bf])).1,dm (h y (by simp[bf])).1⟩
noncomputable def yc:T→Bool
 |.one _ _=>true
 |_=>false
noncomputable def k6:List Internal.G→List Nat
 |[]=>[]
 |.mk t _ _::l=>bf t++k6 l
noncomputable def namesOk(sc:List (Nat×aam))(gs:List Internal.G):Bool:=decide ((k6 gs).Nodup)&&(k6 gs).all fun y=>!(decide ((y,abm)∈sc))
noncomputable def Tw(ks:Kinds):Bool:=decide (ks 200=some .local)||decide (ks 201=some .local)
noncomputable def rF(o:E)(n:Nat)(ap p:Pos)(na nk:Nat):Bool:=(yz n).isSome&&baseOk o&&(ap.endLine==p.line)&&decide (na+nk<29)
noncomputable def V3(ks:Kinds)(as:List E)(kl:List Internal.K)(t:T)(x:Nat):Bool:=
 az (aap x 59) (kl.isEmpty&&(yc t&&decide (ks 59=some .globalImplicit)))
 (az (aap x 129) (kl.isEmpty&&(!yc t&&(aap as.length 1&&decide (ks 129=some .globalImplicit))))
 (az (aap x 127) (kl.isEmpty&&(!yc t&&(aap as.length 2&&decide (ks 127=some .globalImplicit))))
 (az (aap x 17) (kl.isEmpty&&(!yc t&&(aap as.length 1&&decide (ks 17=some .globalImplicit)))) (V0 ks x))))
noncomputable def V4(o:E)(n:Nat)(ap p:Pos)(as:List E)(kl:List Internal.K):Bool:=
 az (aap n 54) ((O0 o==some 53)&&(as.isEmpty&&(kl.isEmpty&&(baseOk o&&(ap.endLine==p.line))))) (rF o n ap p as.length kl.length)
mutual
noncomputable def ez(ks:Kinds):E→Bool
 |.kN _=>true
 |.kB _ _=>true
 |.kI _ _=>true
 |.kS _ _=>true
 |.kY _ _=>true
 |.nm _ _=>true
 |.gl x _=>V0 ks x
 |.As _ l _=>aap l.length 2&&lJ ks l
 |.bin a _ b _=>ez ks a&&ez ks b
 |.neg a _=>ez ks a
 |.nt _ _=>false
 |.lam k x px b sc _=>KI k x px b sc&&Tw ks
 |.ite t a b _=>DF ks t&&(ez ks a&&ez ks b)
 |.cmp a _ b _=>ez ks a&&ez ks b
 |.lst l _=>lJ ks l
 |.tup l _=>lJ ks l
 |.comp e gs sc _=>yb ks sc&&(namesOk sc gs&&(Tz ks sc gs&&ez (nM sc ks) e))
 |.call g as kl _=>isName g&&(ez ks g&&(lJ ks as&&tF ks kl))
 |.bA o n ap as kl p=>(yz n).isNone||(rF o n ap p as.length kl.length&&(ez ks o&&(lJ ks as&&tF ks kl)))
 |.attr o n _=>(n==48)&&(baseOk o&&ez ks o)
 |.sub o i _=>ez ks o&&ez ks i
 |.slc o l u s _ _=>ez ks o&&(LI ks l&&(LI ks u&&LI ks s))
noncomputable def lJ(ks:Kinds):List E→Bool
 |[]=>true
 |e::l=>ez ks e&&lJ ks l
noncomputable def tF(ks:Kinds):List Internal.K→Bool
 |[]=>true
 |k::l=>Xg ks k&&tF ks l
noncomputable def Xg(ks:Kinds):Internal.K→Bool
 |.mk _ e _=>ez ks e
noncomputable def LI(ks:Kinds):Option E→Bool
 |none=>true
 |some e=>ez ks e
noncomputable def Tz(ks:Kinds)(sc:List (Nat×aam)):List Internal.G→Bool
 |[]=>false
 |g::l=>Qg ks sc g&&Nd (nM sc ks) sc l
noncomputable def Qg(ks:Kinds)(sc:List (Nat×aam)):Internal.G→Bool
 |.mk t it ifs=>HM ks it t&&(vN (nM sc ks) sc t&&DG (nM sc ks) ifs)
noncomputable def Nd(ks:Kinds)(sc:List (Nat×aam)):List Internal.G→Bool
 |[]=>true
 |g::l=>Xh ks sc g&&Nd ks sc l
noncomputable def Xh(ks:Kinds)(sc:List (Nat×aam)):Internal.G→Bool
 |.mk t it ifs=>HM ks it t&&(vN ks sc t&&DG ks ifs)
noncomputable def DG(ks:Kinds):List E→Bool
 |[]=>true
 |e::l=>DF ks e&&DG ks l
noncomputable def DF(ks:Kinds):E→Bool
 |.kN _=>false
 |.kB _ _=>false
 |.kI _ _=>false
 |.kS _ _=>false
 |.kY _ _=>false
 |.nm _ _=>true
 |.gl _ _=>false
 |.As _ l _=>DG ks l
 |.bin a _ b _=>ez ks a&&ez ks b
 |.neg _ _=>false
 |.nt a _=>DF ks a
 |.lam _ _ _ _ _ _=>false
 |.ite _ _ _ _=>false
 |.cmp a _ b _=>ez ks a&&ez ks b
 |.lst _ _=>false
 |.tup _ _=>false
 |.comp _ _ _ _=>false
 |.call g as kl _=>isName g&&(ez ks g&&(lJ ks as&&tF ks kl))
 |.bA o n ap as kl p=>(yz n).isNone||(rF o n ap p as.length kl.length&&(ez ks o&&(lJ ks as&&tF ks kl)))
 |.attr _ _ _=>false
 |.sub _ _ _=>false
 |.slc _ _ _ _ _ _=>false
noncomputable def HM(ks:Kinds):E→T→Bool
 |.kN _,_=>false
 |.kB _ _,_=>false
 |.kI _ _,_=>false
 |.kS _ _,_=>false
 |.kY _ _,_=>false
 |.nm _ _,_=>true
 |.gl _ _,_=>false
 |.As _ _ _,_=>false
 |.bin _ _ _ _,_=>false
 |.neg _ _,_=>false
 |.nt _ _,_=>false
 |.lam _ _ _ _ _ _,_=>false
 |.ite _ _ _ _,_=>false
 |.cmp _ _ _ _,_=>false
 |.lst _ _,_=>false
 |.tup l _,_=>lJ ks l
 |.comp _ _ _ _,_=>false
 |.call g as kl _,t=>isName g&&(lJ ks as&&(tF ks kl&&@acs Nat (fun _=>Bool) true (V3 ks as kl t) (LV g)))
 |.bA o n ap as kl p,_=>ez ks o&&(lJ ks as&&(tF ks kl&&V4 o n ap p as kl))
 |.attr o n _,_=>(n==48)&&(baseOk o&&ez ks o)
 |.sub _ _ _,_=>false
 |.slc o l u s _ _,_=>ez ks o&&(LI ks l&&(LI ks u&&LI ks s))
end
section
variable{w:aaC}{K:Frag}{hB hF:aal}{O W:Addr→Prop}{N0:Nat}{Θ:Th}{A:aav}{lk:List Nat}{s s0 s' s'' s1:aad}{μ j4 aG bZ X X0 X' gJ aZ X1:List Addr}{H H0 H' iz H1:HP}{n:Nat}{C:Cx}{env cenv:Env}{outer:List Env}{r r0 r' r1:aR}{ks:Kinds}{Ex:aac→aad→Prop}{D:Addr}{av:List V}
noncomputable def BP(w:aaC)(hB:aal)(Θ:Th)(n:Nat):Prop:=∀(ks:Kinds)(ca:CE)(a:E)(np p:Pos)(x y:Nat)(px py pp:Pos),ks 17=some .globalImplicit→aX w hB Θ n ks ca (dE a)→jj w hB Θ n ks (Fw ca) (.Call (.Name (nm 17) np) (fT [a]) (rX []) p) (dT (.two x px y py pp))
structure fy(w:aaC)(K:Frag)(hB:aal)(Θ:Th)(n:Nat):Prop where
 fix:Fix w K hB Θ
 mr:mz w hB Θ
 co:uY w hB Θ n
 fK:BP w hB Θ n
theorem Qh{b:List UInt8}{p:Pos}:aX w hB Θ n ks (cV (.m7 (b.map (·.toNat)))) (.Constant (.bytes b) 0 p):=fun C A env r s μ X H Y hne=>by
 have e:b.toArray=fH (b.map (·.toNat)):=by
  unfold fH
  rw[aaY]
  congr 1
  conv=>lhs;rw[←ahI b]
  refine abD fun x _=>?_
  simp
 refine aas (Q:=fun v s'=>v=.bytes b.toArray s.toks∧s'={s with toks:=s.toks+1}) (E:=fun _ _=>False) (fun Γ p hΓ=>⟨rfl,rfl⟩) (fun v s' h=>?_) fun _ _ h=>h.elim
 obtain⟨rfl,rfl⟩:=h
 exact aV rfl (.tok Y.st _) (e▸.m7 _ _)
noncomputable def DH(w:aaC)(hB:aal)(Θ:Th)(n:Nat)(ks:Kinds)(l:List E):Prop:=∀e∈l,aX w hB Θ n ks (cE e) (dE e)
noncomputable def Nf(w:aaC)(hB:aal)(Θ:Th)(n:Nat)(ks:Kinds)(l:List E):Prop:=∀e∈l,lH w hB Θ n ks (cT e) (dE e)
noncomputable def Zs(w:aaC)(hB:aal)(Θ:Th)(n:Nat)(ks:Kinds):Internal.K→Prop
 |.mk _ e _=>aX w hB Θ n ks (cE e) (dE e)
noncomputable def AllK(w:aaC)(hB:aal)(Θ:Th)(n:Nat)(ks:Kinds)(l:List Internal.K):Prop:=∀k∈l,Zs w hB Θ n ks k
noncomputable def TA(w:aaC)(hB:aal)(Θ:Th)(n:Nat)(ko ks:Kinds)(sc:List (Nat×aam)):Internal.G→Prop
 |.mk t it ifs=>jj w hB Θ n ko (cI it) (dE it) (dT t)∧vN ks sc t=true∧Nf w hB Θ n ks ifs
theorem jz:∀{l:List E},DH w hB Θ n ks l→uO w hB Θ n ks (aL (uD l)) (fT l)
 |[],_=>mw
 |e::l,h=>iK (h e (aae ..)) (jz fun x hx=>h x (aaf _ hx))
theorem uh:∀{l:List Internal.K},AllK w hB Θ n ks l→CR w hB Θ n ks (kL (Cu l)) l
 |[],_=>I5
 |.mk x e p::l,h=>F1 (h _ (aae ..)) (uh fun x hx=>h x (aaf _ hx))
theorem qj:∀{c:Bool}{l:List E},Nf w hB Θ n ks l→sd w hB Θ n ks (AH c (O1 l)) (match c with|true=>.And|false=>.Or) (fT l)
 |true,[],_=>zp
 |false,[],_=>AX
 |true,e::l,h=>FZ (h e (aae ..)) (qj (c:=true) fun x hx=>h x (aaf _ hx))
 |false,e::l,h=>I1 (h e (aae ..)) (qj (c:=false) fun x hx=>h x (aaf _ hx))
theorem vO:∀{l:List E},Nf w hB Θ n ks l→sG w hB Θ n ks (AH true (O1 l)) l
 |[],_=>GK
 |e::l,h=>Ds (h e (aae ..)) (vO fun x hx=>h x (aaf _ hx))
theorem Ng{e:Expr}:aX w hB Θ n ks wN e:=fun C A env r s μ X H Y hne=>absurd rfl hne
theorem TF{e:Expr}:lH w hB Θ n ks oW e:=fun C A env r s μ X H Y hne=>absurd rfl hne
theorem Ox{f:E}{as:List E}{kl:List Internal.K}{p:Pos}(env:Env)(whole:Sem aac):isTrue (dE (.call f as kl p)) env whole=(do let v←whole;standAt (dE (.call f as kl p)).pos;holding [v] (truthy v)):=rfl
theorem rG(E0:fy w K hB Θ n){g:E}{as:List E}{kl:List Internal.K}{p:Pos}(hn:isName g=true)(hg:aX w hB Θ n ks (cE g) (dE g))(ha:DH w hB Θ n ks as)(hk:AllK w hB Θ n ks kl):aX w hB Θ n ks (aB (cE g) (aL (uD as)) (kL (Cu kl))) (dE (.call g as kl p)):=by
 cases g with
 |nm x np=>exact AZ E0.fix E0.co hg (jz ha) (uh hk)
 |gl x np=>exact AZ E0.fix E0.co hg (jz ha) (uh hk)
 |_=>exact nb1 hn
theorem yd(E0:fy w K hB Θ n){o:E}{m:Nat}{ap:Pos}{as:List E}{kl:List Internal.K}{p:Pos}(hb:rF o m ap p as.length kl.length=true)(ho:aX w hB Θ n ks (cE o) (dE o))(ha:DH w hB Θ n ks as)(hk:AllK w hB Θ n ks kl):
 aX w hB Θ n ks (jC (cE o) m (uD as) (Cu kl)) (dE (.bA o m ap as kl p)):=by
 unfold rF at hb
 simp only [abq,decide_eq_true_eq] at hb
 obtain⟨⟨⟨h1,h2⟩,h3⟩,h4⟩:=hb
 obtain⟨me,hm⟩:=abw.mp h1
 unfold jC
 rw[hm]
 exact Jh E0.fix E0.mr E0.co hm h2 h3 h4 ho (jz ha) (uh hk)
theorem KL(E0:fy w K hB Θ n){o:E}{m:Nat}{p:Pos}(hm:(m==48)=true)(hb:baseOk o=true)(ho:aX w hB Θ n ks (cE o) (dE o)):aX w hB Θ n ks (D9 (cE o) m) (dE (.attr o m p)):=by
 have:m=48:=by simpa using hm
 subst this
 have e:nm 48=hdr:=by decide+kernel
 show aX w hB Θ n ks (Cz (cE o)) (.Attribute (dE o) (nm 48) p)
 rw[e]
 exact MP E0.fix hb ho
theorem zN(e:E)(env:Env)(x:aac):foldedSetIterable (dE e) env x=pure x:=by cases e<;>rfl
theorem G1{gs:List Internal.G}:∀{pre rest:List Internal.G}{g:Internal.G},gs=pre++g::rest→(N7 gs)[pre.length]?=some (dG g):=by
 intro pre rest g e
 subst e
 induction pre with
 |nil=>rfl
 |cons q pre ih=>exact ih
theorem KN{gs:List Internal.G}:(N7 gs)[gs.length]?=none:=by
 induction gs with
 |nil=>rfl
 |cons q gs ih=>exact ih
theorem Nh{elt:E}{gs:List Internal.G}{sc:List (Nat×aam)}{pos:Pos}(he:aX w hB Θ n ks (cE elt) (dE elt))(hl:∀p∈sc,p.1<138){A:aav}{cenv:Env}{D:Addr}{W:Addr→Prop}(hW:∀x c,x<138→(x,aaV)∈sc→cenv.cells.lookup (nm x)=some c→W c):
 ∀(rest pre:List Internal.G),gs=pre++rest→(∀g∈rest,TA w hB Θ n ks ks sc g)→(k6 rest).Nodup→oG w hB Θ n ks (dE elt) (N7 gs) (aJ sc) pos A cenv D W pre.length (gens (RI rest) (g1 (cE elt))) (k6 rest):=by
 intro rest
 induction rest with
 |nil=>
  intro pre e _ _
  rw[aaO] at e
  subst e
  exact GO KN he
 |cons g rest ih=>
  intro pre e hg hn
  obtain⟨t,it,ifs⟩:=g
  obtain⟨h1,h2,h3⟩:=hg _ (aae ..)
  obtain⟨h4,h5⟩:=BO h2
  have hn':(bf t++k6 rest).Nodup:=hn
  rw[aes] at hn'
  obtain⟨_,hn2,V5⟩:=hn'
  have ih':=ih (pre++[.mk t it ifs]) (by rw[e];simp) (fun g hg'=>hg g (aaf _ hg')) hn2
  rw[aao] at ih'
  exact GR (G1 e) h1 (zN it) h4 (fun x hx hc ca ec=>hW x ca (hl _ (h5 x hx hc)) (h5 x hx hc) ec) (vO h3) ih' fun y hy V6=>V5 y V6 y hy rfl
theorem G2{elt:E}{sc:List (Nat×aam)}{pos:Pos}{t:T}{it:E}{ifs:List E}{rest:List Internal.G}(hsc:yb ks sc=true)(hnm:namesOk sc (.mk t it ifs::rest)=true)(hf:TA w hB Θ n ks (nM sc ks) sc (.mk t it ifs))(hr:∀g∈rest,TA w hB Θ n (nM sc ks) (nM sc ks) sc g)
 (he:aX w hB Θ n (nM sc ks) (cE elt) (dE elt)):zJ w hB Θ n ks (dE elt) sc pos t it ifs (N7 rest) (cI it) (AH true (O1 ifs)) (gens (RI rest) (g1 (cE elt))) (k6 rest):=by
 unfold namesOk at hnm
 simp only [abq,decide_eq_true_eq,aaG,aa9,decide_eq_false_iff_not] at hnm
 obtain⟨hn,hfree⟩:=hnm
 have hS:=BL hsc
 have hn':(bf t++k6 rest).Nodup:=hn
 rw[aes] at hn'
 obtain⟨_,hn2,V5⟩:=hn'
 obtain⟨h1,h2,h3⟩:=hf
 obtain⟨h4,h5⟩:=BO h2
 exact{
  sc:=hS
  it:=h1
  fold:=zN it
  tg:=h4
  VM:=h5
  tests:=vO h3
  rest:=fun A cenv D W hW=>Nh (gs:=.mk t it ifs::rest) he hS.lt hW rest [.mk t it ifs] rfl hr hn2
  VN:=fun y hy V6=>V5 y V6 y hy rfl
  nf:=hfree}
theorem UN{t:T}{e:E}{c:CE}(h:aX w hB Θ n ks c (dE e)):jj w hB Θ n ks (iV c) (dE e) (dT t):=iA h
theorem DI{t:T}(h:(!yc t)=true):∃x px y py p,t=.two x px y py p:=by
 cases t with
 |one=>exact nb1 h
 |two x px y py p=>exact⟨x,px,y,py,p,rfl⟩
theorem vP{x a b:Bool}(h:az x a b=true):(x=true∧a=true)∨(x=false∧b=true):=by
 cases x with
 |true=>exact .inl ⟨rfl,h⟩
 |false=>exact .inr ⟨rfl,h⟩
theorem DJ{α:Type}{l:List α}(h:aap l.length 1=true):∃e,l=[e]:=List.length_eq_one_iff.mp (aan h)
theorem zO{α:Type}{l:List α}(h:aap l.length 2=true):∃a b,l=[a,b]:=by
 cases l with
 |nil=>exact nb1 h
 |cons a l=>obtain⟨b,rfl⟩:=DJ (l:=l) h;exact⟨a,b,rfl⟩
theorem KO{x:Nat}(h:V0 ks x=true):x<138∧ks x=some .globalImplicit:=(ai h).imp of_decide_eq_true of_decide_eq_true
theorem KQ{kl:List Internal.K}{t:T}{b g:Bool}(h:(kl.isEmpty&&(!yc t&&(b&&g)))=true):kl=[]∧(∃x px y py p,t=.two x px y py p)∧b=true∧g=true:=
 have h:=ai h
 have h2:=ai h.2
 ⟨gW h.1,DI h2.1,ai h2.2⟩
theorem KS{e:Expr}{t:T}:jj w hB Θ n ks jc e (dT t):=fun C A env r s μ X H Y hl z H' he=>by exact nW he
theorem KU(E0:fy w K hB Θ n){x:Nat}{np p:Pos}{as:List E}{kl:List Internal.K}{t:T}(ha:DH w hB Θ n ks as)(hk:AllK w hB Θ n ks kl)(h:V3 ks as kl t x=true):jj w hB Θ n ks (cI (.call (.gl x np) as kl p)) (dE (.call (.gl x np) as kl p)) (dT t):=by
 show jj w hB Θ n ks (NZ (some x) (CC x) (uD as) (Cu kl)) _ _
 rcases vP h with⟨e,h⟩|⟨e1,h⟩
 ·obtain rfl:=aan e
  have h:=ai h
  obtain rfl:=gW h.1
  have h:=ai h.2
  cases t with
  |one y py=>exact Dj E0.fix (of_decide_eq_true h.2) (jz ha)
  |two=>exact nb1 h.1
 rcases vP h with⟨e,h⟩|⟨e2,h⟩
 ·obtain rfl:=aan e
  obtain⟨rfl,⟨a,pa,b,pb,pp,rfl⟩,h3,h4⟩:=KQ h
  obtain⟨e,rfl⟩:=DJ h3
  exact GB E0.fix (of_decide_eq_true h4) (ha e (aae ..))
 rcases vP h with⟨e,h⟩|⟨e3,h⟩
 ·obtain rfl:=aan e
  obtain⟨rfl,⟨a,pa,b,pb,pp,rfl⟩,h3,h4⟩:=KQ h
  obtain⟨e,f,rfl⟩:=zO h3
  exact J2 E0.fix (of_decide_eq_true h4) (ha e (aae ..)) (ha f (aaf _ (aae ..)))
 rcases vP h with⟨e,h⟩|⟨e4,h⟩
 ·obtain rfl:=aan e
  obtain⟨rfl,⟨a,pa,b,pb,pp,rfl⟩,h3,h4⟩:=KQ h
  obtain⟨e,rfl⟩:=DJ h3
  exact E0.fK ks (cE e) e np p a b pa pb pp (of_decide_eq_true h4) (ha e (aae ..))
 have hg:=KO h
 cases kl with
 |cons k kl=>exact KS
 |nil=>
  have e:yC (CC x) (uD as) x=iV (aB (CC x) (aL (uD as)) ay):=by unfold yC;rw[e1,e2,e3,e4];rfl
  show jj w hB Θ n ks (yC (CC x) (uD as) x) _ _
  rw[e]
  exact iA (rG E0 (g:=.gl x np) (p:=p) rfl (IZ E0.fix hg.1 hg.2) ha hk)
theorem KW(E0:fy w K hB Θ n){o:E}{m:Nat}{ap p:Pos}{as:List E}{kl:List Internal.K}{t:T}(ho:aX w hB Θ n ks (cE o) (dE o))(ha:DH w hB Θ n ks as)(hk:AllK w hB Θ n ks kl)(h:V4 o m ap p as kl=true):jj w hB Θ n ks (cI (.bA o m ap as kl p)) (dE (.bA o m ap as kl p)) (dT t):=by
 show jj w hB Θ n ks (HW (O0 o) (cE o) m (uD as) (Cu kl)) _ _
 rcases vP h with⟨e,h⟩|⟨e,h⟩
 ·obtain rfl:=aan e
  have h:=ai h
  have h2:=ai h.2
  have h3:=ai h2.2
  have h4:=ai h3.2
  obtain rfl:=gW h2.1
  obtain rfl:=gW h3.1
  rw[eq_of_beq h.1]
  exact J4 ho h4.1 h4.2
 ·unfold HW
  rw[e]
  exact iA (yd E0 (p:=p) h ho ha hk)
noncomputable def PE(w:aaC)(hB:aal)(Θ:Th)(n:Nat)(e:E):Prop:=∀ks,(ez ks e=true→aX w hB Θ n ks (cE e) (dE e))∧(DF ks e=true→lH w hB Θ n ks (cT e) (dE e))∧∀t,HM ks e t=true→jj w hB Θ n ks (cI e) (dE e) (dT t)
theorem PE.e{e:E}(h:PE w hB Θ n e)(q:ez ks e=true):aX w hB Θ n ks (cE e) (dE e):=(h ks).1 q
theorem PE.t{e:E}(h:PE w hB Θ n e)(q:DF ks e=true):lH w hB Θ n ks (cT e) (dE e):=(h ks).2.1 q
theorem PE.i{e:E}{t:T}(h:PE w hB Θ n e)(q:HM ks e t=true):jj w hB Θ n ks (cI e) (dE e) (dT t):=(h ks).2.2 t q
theorem HN{e:E}(h:∀ks,ez ks e=true→aX w hB Θ n ks (cE e) (dE e))(ht:∀ks,DF ks e=false)(hi:∀ks t,HM ks e t=false):PE w hB Θ n e:=fun ks=>⟨h ks,fun q=>nb1 ((ht ks).symm.trans q),fun t q=>nb1 ((hi ks t).symm.trans q)⟩
theorem UO{e:E}(h:∀ks,ez ks e=true→aX w hB Θ n ks (cE e) (dE e))(ht:∀ks,DF ks e=true→lH w hB Θ n ks (cT e) (dE e))(hi:∀ks t,HM ks e t=false):PE w hB Θ n e:=fun ks=>⟨h ks,ht ks,fun t q=>nb1 ((hi ks t).symm.trans q)⟩
theorem V7{e:E}(h:∀ks,ez ks e=true→aX w hB Θ n ks (cE e) (dE e))(ht:∀ks,DF ks e=false)(hi:∀ks t,HM ks e t=true→jj w hB Θ n ks (cI e) (dE e) (dT t)):PE w hB Θ n e:=fun ks=>⟨h ks,fun q=>nb1 ((ht ks).symm.trans q),hi ks⟩
noncomputable def PL(w:aaC)(hB:aal)(Θ:Th)(n:Nat)(l:List E):Prop:=∀e∈l,PE w hB Θ n e
noncomputable def PK(w:aaC)(hB:aal)(Θ:Th)(n:Nat):Internal.K→Prop
 |.mk _ e _=>PE w hB Θ n e
noncomputable def PG(w:aaC)(hB:aal)(Θ:Th)(n:Nat):Internal.G→Prop
 |.mk _ it ifs=>PE w hB Θ n it∧PL w hB Θ n ifs
theorem all_cons{α:Type}{p:α→Prop}{a:α}{l:List α}(h:p a)(g:∀x∈l,p x):∀x∈a::l,p x:=aco.mpr ⟨h,g⟩
theorem all_nil{α:Type}{p:α→Prop}:∀x∈([]:List α),p x:=fun _ h=>nomatch h
theorem um{α:Type}{f:α→Bool}{g:List α→Bool}(hg:∀a l,g (a::l)=(f a&&g l)){p q:α→Prop}(hp:∀a,p a→f a=true→q a):∀{l:List α},(∀x∈l,p x)→g l=true→∀x∈l,q x:=by
 intro l
 induction l with
 |nil=>exact fun _ _=>all_nil
 |cons a l ih=>
  intro h e
  have e:=ai ((hg a l).symm.trans e)
  exact all_cons (hp a (h a (aae ..)) e.1) (ih (fun x hx=>h x (aaf _ hx)) e.2)
theorem PL.ss{l:List E}(h:PL w hB Θ n l)(q:lJ ks l=true):DH w hB Θ n ks l:=um (f:=ez ks) (fun _ _=>rfl) (fun _ h q=>h.e q) h q
theorem PL.t{l:List E}(h:PL w hB Θ n l)(q:DG ks l=true):Nf w hB Θ n ks l:=um (f:=DF ks) (fun _ _=>rfl) (fun _ h q=>h.t q) h q
theorem PK.ss{l:List Internal.K}(h:∀k∈l,PK w hB Θ n k)(q:tF ks l=true):AllK w hB Θ n ks l:=um (f:=Xg ks) (fun _ _=>rfl) (fun k h q=>by
 induction k using Internal.K.casesOn with
 |mk x e p=>exact PE.e h q) h q
theorem PG.f{g:Internal.G}{sc:List (Nat×aam)}(h:PG w hB Θ n g)(q:Qg ks sc g=true):TA w hB Θ n ks (nM sc ks) sc g:=by
 induction g using Internal.G.casesOn with
 |mk t it ifs=>
  have q:=ai (show(HM ks it t&&(vN (nM sc ks) sc t&&DG (nM sc ks) ifs))=true from q)
  have q2:=ai q.2
  exact⟨h.1.i q.1,q2.1,h.2.t q2.2⟩
theorem PG.ss{gs:List Internal.G}{sc:List (Nat×aam)}(h:∀g∈gs,PG w hB Θ n g)(q:Nd ks sc gs=true):∀g∈gs,TA w hB Θ n ks ks sc g:=um (f:=Xh ks sc) (fun _ _=>rfl) (fun g h q=>by
 induction g using Internal.G.casesOn with
 |mk t it ifs=>
  have q:=ai (show(HM ks it t&&(vN ks sc t&&DG ks ifs))=true from q)
  have q2:=ai q.2
  exact⟨h.1.i q.1,q2.1,h.2.t q2.2⟩) h q
noncomputable def PO(w:aaC)(hB:aal)(Θ:Th)(n:Nat)(o:Option E):Prop:=∀ks,LI ks o=true→F0 w hB Θ n ks (cO o) (dO o)
theorem TG{x:Nat}{p:Pos}:PE w hB Θ n (.nm x p):=fun _=>⟨fun _=>zo,fun _=>kM zo (fun _ _=>rfl),fun _ _=>iA zo⟩
theorem TH(E0:fy w K hB Θ n){x:Nat}{p:Pos}:PE w hB Θ n (.gl x p):=HN (fun _ h=>have h:=KO h;IZ E0.fix h.1 h.2) (fun _=>rfl) fun _ _=>rfl
theorem Qi{c:Bool}{l:List E}{p:Pos}(hl:PL w hB Θ n l):PE w hB Θ n (.As c l p):=UO (fun ks h=>by
 have h:=ai (show(aap l.length 2&&lJ ks l)=true from h)
 obtain⟨a,b,rfl⟩:=zO (l:=l) h.1
 have hl:=hl.ss h.2
 cases c with
 |true=>exact ME (hl a (aae ..)) (hl b (aaf _ (aae ..)))
 |false=>exact Pk (hl a (aae ..)) (hl b (aaf _ (aae ..))))
 (fun ks h=>by
  cases c with
  |true=>exact AY (qj (c:=true) (hl.t h))
  |false=>exact AY (qj (c:=false) (hl.t h))) fun _ _=>rfl
theorem Qj(E0:fy w K hB Θ n){a b:E}{o:Op}{p:Pos}(ha:PE w hB Θ n a)(hb:PE w hB Θ n b):PE w hB Θ n (.bin a o b p):=
 have h:∀ks,ez ks (.bin a o b p)=true→aX w hB Θ n ks (cE (.bin a o b p)) (dE (.bin a o b p)):=fun ks h=>have h:=ai (show(ez ks a&&ez ks b)=true from h);Mx E0.fix (ha.e h.1) (hb.e h.2)
 UO h (fun ks q=>kM (h ks q) fun _ _=>rfl) fun _ _=>rfl
theorem BQ(o:Cm)(b:E):behindInMarks o.py (dE b)=false:=by
 cases b<;>rfl
theorem Qk(E0:fy w K hB Θ n){a b:E}{o:Cm}{p:Pos}(ha:PE w hB Θ n a)(hb:PE w hB Θ n b):PE w hB Θ n (.cmp a o b p):=
 UO (fun ks h=>have h:=ai (show(ez ks a&&ez ks b)=true from h);Mz E0.fix (ha.e h.1) (hb.e h.2) (BQ o b)) (fun ks h=>have h:=ai (show(ez ks a&&ez ks b)=true from h);I0 E0.fix (ha.e h.1) (hb.e h.2) (BQ o b)) fun _ _=>rfl
theorem Ql(E0:fy w K hB Θ n){k x:Nat}{px p:Pos}{b:E}{sc:List (Nat×aam)}:PE w hB Θ n (.lam k x px b sc p):=HN (fun ks h=>by
 have h:=ai (show(KI k x px b sc&&Tw ks)=true from h)
 have hq:=KJ h.1
 exact Nc E0.fix hq (fun p hp=>(ya k _ hq).1.free p hp) ((aaQ.mp h.2).imp of_decide_eq_true of_decide_eq_true)) (fun _=>rfl) fun _ _=>rfl
theorem Qm{t a b:E}{p:Pos}(ht:PE w hB Θ n t)(ha:PE w hB Θ n a)(hb:PE w hB Θ n b):PE w hB Θ n (.ite t a b p):=HN (fun ks h=>
 have h:=ai (show(DF ks t&&(ez ks a&&ez ks b))=true from h)
 have h2:=ai h.2
 MB (ht.t h.1) (ha.e h2.1) (hb.e h2.2)) (fun _=>rfl) fun _ _=>rfl
theorem Qn{l:List E}{p:Pos}(hl:PL w hB Θ n l):PE w hB Θ n (.lst l p):=HN (fun ks h=>by
 have hl:=hl.ss h
 cases l with
 |nil=>exact MD
 |cons a l=>exact MC (jz hl)) (fun _=>rfl) fun _ _=>rfl
theorem Qo{l:List E}{p:Pos}(hl:PL w hB Θ n l):PE w hB Θ n (.tup l p):=
 V7 (fun _ h=>Et (jz (hl.ss h))) (fun _=>rfl) fun _ _ h=>iA (Et (jz (hl.ss h)))
theorem vQ{e:E}{gs:List Internal.G}{sc:List (Nat×aam)}(he:PE w hB Θ n e)(hg:∀g∈gs,PG w hB Θ n g)(h:(yb ks sc&&(namesOk sc gs&&(Tz ks sc gs&&ez (nM sc ks) e)))=true):yb ks sc=true∧∃t it ifs rest,gs=.mk t it ifs::rest∧∀pos,zJ w hB Θ n ks (dE e) sc pos t it ifs (N7 rest) (cI it) (AH true (O1 ifs)) (gens (RI rest) (g1 (cE e))) (k6 rest):=by
 have h:=ai h
 have h2:=ai h.2
 have h3:=ai h2.2
 cases gs with
 |nil=>exact nb1 h3.1
 |cons g rest=>
  have h4:=ai (show(Qg ks sc g&&Nd (nM sc ks) sc rest)=true from h3.1)
  have hf:=(hg g (aae ..)).f h4.1
  have hr:=PG.ss (fun g q=>hg g (aaf _ q)) h4.2
  obtain⟨t,it,ifs⟩:=g
  exact⟨h.1,t,it,ifs,rest,rfl,fun _=>G2 h.1 h2.1 hf hr (he.e h3.2)⟩
theorem Ni{e:E}{gs:List Internal.G}{sc:List (Nat×aam)}{p:Pos}(he:PE w hB Θ n e)(hg:∀g∈gs,PG w hB Θ n g):PE w hB Θ n (.comp e gs sc p):=HN (fun ks h=>by
 obtain⟨_,t,it,ifs,rest,rfl,hc⟩:=vQ he hg h
 exact Kq (hc p)) (fun _=>rfl) fun _ _=>rfl
theorem Nj(E0:fy w K hB Θ n){g:E}{as:List E}{kl:List Internal.K}{p:Pos}(hg:PE w hB Θ n g)(ha:PL w hB Θ n as)(hk:∀k∈kl,PK w hB Θ n k):PE w hB Θ n (.call g as kl p):=
 have h:∀ks,ez ks (.call g as kl p)=true→aX w hB Θ n ks (cE (.call g as kl p)) (dE (.call g as kl p)):=fun ks h=>
  have h:=ai (show(isName g&&(ez ks g&&(lJ ks as&&tF ks kl)))=true from h)
  have h2:=ai h.2
  have h3:=ai h2.2
  rG E0 h.1 (hg.e h2.1) (ha.ss h3.1) (PK.ss hk h3.2)
 fun ks=>⟨h ks,fun q=>kM (h ks q) fun _ _=>rfl,fun t q=>by
  have q:=ai (show(isName g&&(lJ ks as&&(tF ks kl&&@acs Nat (fun _=>Bool) true (V3 ks as kl t) (LV g))))=true from q)
  have q2:=ai q.2
  have q3:=ai q2.2
  have ha:=ha.ss q2.1
  have hk:=PK.ss hk q3.1
  have q1:=q.1
  have q4:=q3.2
  clear q q2 q3 h hg
  cases g with
  |nm x np=>exact iA (rG E0 (g:=.nm x np) (p:=p) rfl zo ha hk)
  |gl x np=>exact KU E0 ha hk q4
  |_=>exact nb1 q1⟩
theorem Nk(E0:fy w K hB Θ n){o:E}{m:Nat}{ap p:Pos}{as:List E}{kl:List Internal.K}(ho:PE w hB Θ n o)(ha:PL w hB Θ n as)(hk:∀k∈kl,PK w hB Θ n k):PE w hB Θ n (.bA o m ap as kl p):=
 have h:∀ks,((yz m).isNone||(rF o m ap p as.length kl.length&&(ez ks o&&(lJ ks as&&tF ks kl))))=true→jC (cE o) m (uD as) (Cu kl)=wN∨aX w hB Θ n ks (jC (cE o) m (uD as) (Cu kl)) (dE (.bA o m ap as kl p)):=fun ks h=>by
  rcases aaQ.mp h with h|h
  ·refine .inl ?_
   unfold jC
   rw[aen.mp h]
  ·have h:=ai h
   have h2:=ai h.2
   have h3:=ai h2.2
   exact .inr (yd E0 h.1 (ho.e h2.1) (ha.ss h3.1) (PK.ss hk h3.2))
 fun ks=>⟨fun q=>(h ks q).elim (fun e=>by show aX w hB Θ n ks (jC (cE o) m (uD as) (Cu kl)) _;rw[e];exact Ng) id,
  fun q=>(h ks q).elim (fun e=>by show lH w hB Θ n ks (bV (jC (cE o) m (uD as) (Cu kl))) _;rw[e];exact fun C A env r s μ X H Y hne=>absurd rfl hne) fun q=>kM q fun _ _=>rfl,
  fun t q=>
   have q:=ai (show(ez ks o&&(lJ ks as&&(tF ks kl&&V4 o m ap p as kl)))=true from q)
   have q2:=ai q.2
   have q3:=ai q2.2
   KW E0 (ho.e q.1) (ha.ss q2.1) (PK.ss hk q3.1) q3.2⟩
theorem Nl(E0:fy w K hB Θ n){o:E}{m:Nat}{p:Pos}(ho:PE w hB Θ n o):PE w hB Θ n (.attr o m p):=
 have h:∀ks,((m==48)&&(baseOk o&&ez ks o))=true→aX w hB Θ n ks (D9 (cE o) m) (dE (.attr o m p)):=fun ks h=>
  have h:=ai h
  have h2:=ai h.2
  KL E0 h.1 h2.1 (ho.e h2.2)
 V7 h (fun _=>rfl) fun ks _ q=>iA (h ks q)
theorem Qp{o i:E}{p:Pos}(ho:PE w hB Θ n o)(hi:PE w hB Θ n i):PE w hB Θ n (.sub o i p):=HN (fun ks h=>
 have h:=ai (show(ez ks o&&ez ks i)=true from h)
 MF (ho.e h.1) (hi.e h.2)) (fun _=>rfl) fun _ _=>rfl
theorem Qq{o:E}{l u st:Option E}{sp p:Pos}(ho:PE w hB Θ n o)(hl:PO w hB Θ n l)(hu:PO w hB Θ n u)(hs:PO w hB Θ n st):PE w hB Θ n (.slc o l u st sp p):=
 have h:∀ks,(ez ks o&&(LI ks l&&(LI ks u&&LI ks st)))=true→aX w hB Θ n ks (cE (.slc o l u st sp p)) (dE (.slc o l u st sp p)):=fun ks h=>
  have h:=ai h
  have h2:=ai h.2
  have h3:=ai h2.2
  MG (ho.e h.1) (hl ks h2.1) (hu ks h3.1) (hs ks h3.2)
 V7 h (fun _=>rfl) fun ks _ q=>iA (h ks q)
theorem pe(E0:fy w K hB Θ n)(e:E):PE w hB Θ n e:=
 @E.rec (PE w hB Θ n) (PG w hB Θ n) (PK w hB Θ n) (PL w hB Θ n) (fun gs=>∀g∈gs,PG w hB Θ n g) (fun kl=>∀k∈kl,PK w hB Θ n k) (PO w hB Θ n)
  (fun _=>HN (fun _ _=>O7) (fun _=>rfl) fun _ _=>rfl) (fun _ _=>HN (fun _ _=>O8) (fun _=>rfl) fun _ _=>rfl) (fun _ _=>HN (fun _ _=>O9) (fun _=>rfl) fun _ _=>rfl)
  (fun _ _=>HN (fun _ _=>Pa) (fun _=>rfl) fun _ _=>rfl) (fun _ _=>HN (fun _ _=>Qh) (fun _=>rfl) fun _ _=>rfl) (fun _ _=>TG) (fun _ _=>TH E0)
  (fun _ _ _=>Qi) (fun _ _ _ _=>Qj E0) (fun _ _ h=>HN (fun _ q=>My (h.e q)) (fun _=>rfl) fun _ _=>rfl)
  (fun _ _ h=>UO (fun _ q=>nb1 q) (fun _ q=>MA (h.t q)) fun _ _=>rfl) (fun _ _ _ _ _ _ _=>Ql E0) (fun _ _ _ _=>Qm) (fun _ _ _ _=>Qk E0) (fun _ _=>Qn) (fun _ _=>Qo)
  (fun _ _ _ _=>Ni) (fun _ _ _ _=>Nj E0) (fun _ _ _ _ _ _=>Nk E0) (fun _ _ _=>Nl E0) (fun _ _ _=>Qp) (fun _ _ _ _ _ _=>Qq)
  (fun _ _ _ h g=>⟨h,g⟩) (fun _ _ _ h=>h) all_nil (fun _ _ h g=>all_cons h g) all_nil (fun _ _ h g=>all_cons h g) all_nil (fun _ _ h g=>all_cons h g) (fun _ _=>I2) (fun _ h _ q=>I3 (h.e q)) e
theorem Zt(E0:fy w K hB Θ n)(gs:List Internal.G):∀g∈gs,PG w hB Θ n g:=fun g _=>by
 induction g using Internal.G.casesOn with
 |mk t it ifs=>exact⟨pe E0 it,fun e _=>pe E0 e⟩
theorem Zu(E0:fy w K hB Θ n)(l:List E):PL w hB Θ n l:=fun e _=>pe E0 e
theorem qp(E0:fy w K hB Θ n)(ks:Kinds)(e:E)(h:ez ks e=true):aX w hB Θ n ks (cE e) (dE e):=(pe E0 e).e h
theorem V8(E0:fy w K hB Θ n)(ks:Kinds)(l:List E)(h:lJ ks l=true):DH w hB Θ n ks l:=(Zu E0 l).ss h
theorem Oz(E0:fy w K hB Θ n)(ks:Kinds)(e:E)(h:DF ks e=true):lH w hB Θ n ks (cT e) (dE e):=(pe E0 e).t h
theorem TJ(E0:fy w K hB Θ n)(ks:Kinds)(e:E)(t:T)(h:HM ks e t=true):jj w hB Θ n ks (cI e) (dE e) (dT t):=(pe E0 e).i h
end
noncomputable def oH:E→Bool
 |.comp _ _ _ _=>true
 |_=>false
noncomputable def OA(ks:Kinds)(x:Nat)(px:Pos):E→Bool
 |.comp _ _ _ pc=>decide (ks x=some .local)&&decide (px.line=pc.line)
 |_=>false
noncomputable def Qs(ks:Kinds)(x:Nat)(px:Pos):E→Bool
 |.comp ce gs sc pc=>!(OA ks x px (.comp ce gs sc pc))||sc.all fun q=>!(decide (q.1=x))||!(decide (q.2=.local)||decide (q.2=.cell))
 |_=>true
noncomputable def E1(xs:List (Nat×Pos)):Nat:=(xs.head?.map (·.2.line)).getD 0
noncomputable def V9(ks:Kinds)(xs:List (Nat×Pos)):E→Bool
 |.tup l _=>(xs.length==2||xs.length==3)&&((l.length==xs.length)&&az (xs.all (fun q=>decide (ks q.1=some .local)&&decide (q.2.line=E1 xs))) (decide ((xs.map (·.1)).Nodup)&&((fT l).all (foldedForSure 8)||!((fT l).all (constantsAlone 8)))) true)
 |_=>true
noncomputable def Qt:Op→Bool
 |.add=>true
 |.sub=>true
 |_=>false
noncomputable def KY(ks:Kinds)(e:E):Bool:=vM (UL e) (some ()) fun u _=>u.2.2.1.isEmpty&&(u.2.1.tail.isEmpty&&vM (KD u.1) u.2.1.head? fun g m=>(decide (g.1=7)||decide (g.1=41))&&(decide (ks g.1=some .globalImplicit)&&ez ks m))
noncomputable def UP(ks:Kinds)(t:T):Bool:=(bf t).all (gy ks)
theorem Qu{ks:Kinds}{t:T}(h:UP ks t=true):w5 ks t:=by
 unfold UP at h
 rw[aaG] at h
 cases t with
 |one x p=>exact dm (h x (by simp[bf]))
 |two x px y py p=>exact⟨dm (h x (by simp[bf])),dm (h y (by simp[bf]))⟩
mutual
noncomputable def Qv(ks:Kinds):Internal.S→Bool
 |.expr e _=>!oH e&&ez ks e
 |.asg x px e _=>gy ks x&&(Qs ks x px e&&ez ks e)
 |.kj xs _ e _=>xs.all (fun q=>gy ks q.1)&&(V9 ks xs e&&ez ks e)
 |.aug x _ o e _=>gy ks x&&(Qt o&&ez ks e)
 |.ifs t b o _=>DF ks t&&(dw ks b&&dw ks o)
 |.Cv t b _=>DF ks t&&dw ks b
 |.lO t it b _=>UP ks t&&(HM ks it t&&dw ks b)
 |.ret e _=>ez ks e
 |.Cw e _=>KY ks e
 |.Cy _ _ _ _ _ _=>false
noncomputable def dw(ks:Kinds):List Internal.S→Bool
 |[]=>true
 |s::l=>Qv ks s&&dw ks l
end
section
variable{w:aaC}{K:Frag}{hB hF:aal}{O W:Addr→Prop}{N0:Nat}{Θ:Th}{A:aav}{lk:List Nat}{s s0 s' s'' s1:aad}{μ j4 aG bZ X X0 X' gJ aZ X1:List Addr}{H H0 H' iz H1:HP}{n:Nat}{C:Cx}{env cenv:Env}{outer:List Env}{r r0 r' r1:aR}{ks:Kinds}{Ex:aac→aad→Prop}{D:Addr}{av:List V}
theorem mP{e:E}(h:oH e=false)(t:Option Expr)(l:Nat)(env:Env):swapsWith (dE e) t l env=pure false:=by cases e<;>first|rfl|exact nb2 h
theorem BR(e:E)(xs:List Expr)(k:Nat)(pt:Pos)(l:Nat)(env:Env):swapsWith (dE e) (some (.Tuple xs k pt)) l env=pure false:=by cases e<;>rfl
theorem BS(h:env.scope.kind=.function):env.blockKind=.function:=by
 unfold Env.blockKind
 rw[h];rfl
theorem vR{ce:Expr}{gs:List Comprehension}{sc:Scope}{pc px:Pos}{x:Str}{l:Nat}:swapsWith (.ListComp ce gs sc pc) (some (.Name x px)) l env=pure (env.blockKind==.function&&env.kindOf x==some .local&&px.line==pc.line&&!(sc.names.any fun(n,k)=>n==x&&(k==.local||k==.cell))):=rfl
theorem sw_eq(env:Env):∃(f:Expr→Bool)(g:List Expr→Expr→Option Str),(∀e:E,f (dE e)=false)∧(∀ts x(p:Pos),g ts (.Name x p)=if(env.kindOf x==some .local&&p.line==(ts.head?.map (·.pos.line)).getD 0)=true then some x else none)∧
 ∀(ts vs:List Expr)(k1 k2:Nat)(pt p:Pos),swappedStores [.Tuple ts k1 pt] (.Tuple vs k2 p) env=
 (if(!(ts.length==2||ts.length==3)||vs.length !=ts.length||env.blockKind !=.function)=true then pure none
  else if vs.any f=true then pure none
  else if((ts.filterMap (g ts)).length !=ts.length||(ts.filterMap (g ts)).eraseDups.length !=(ts.filterMap (g ts)).length)=true then pure none
  else if vs.all (foldedForSure 8)=true then pure none
  else if vs.all (constantsAlone 8)=true then unsupported "assign.tuple-of-constant-expressions:order-of-the-stores"
  else pure (some (ts.filterMap (g ts)))):=by
 refine⟨_,_,?_,?_,fun ts vs k1 k2 pt p=>rfl⟩
 ·intro e
  cases e<;>exact@rfl _ false
 ·exact fun _ _ _=>rfl
theorem noStar{f:Expr→Bool}(hf:∀e:E,f (dE e)=false)(l:List E):(fT l).any f=false:=by
 induction l with
 |nil=>rfl
 |cons e l ih=>exact(congrArg (· ||(fT l).any f) (hf e)).trans ih
section
variable{g:Expr→Option Str}{ln:Nat}(hg:∀x(p:Pos),g (.Name x p)=if(env.kindOf x==some .local&&p.line==ln)=true then some x else none)
include hg
theorem G3(hk:∀y,y<138→env.kindOf (nm y)=ks y)(xs:List (Nat×Pos))(h:∀q∈xs,q.1<138)(hl:∀q∈xs,(decide (ks q.1=some .local)&&decide (q.2.line=ln))=true):
 ((xs.map fun q=>ad2 (nm q.1) q.2).filterMap g)=xs.map fun q=>nm q.1:=by
 induction xs with
 |nil=>rfl
 |cons q xs ih=>
  have e:=ai (hl q (aae ..))
  have e2:(env.kindOf (nm q.1)==some NameKind.local&&q.2.line==ln)=true:=by
   rw[hk q.1 (h q (aae ..)),of_decide_eq_true e.1,of_decide_eq_true e.2];exact aa1.mpr ⟨rfl,beq_self_eq_true ln⟩
  rw[aaz,ac2 ((hg _ _).trans (if_pos e2)),ih (fun p hp=>h p (aaf _ hp)) fun p hp=>hl p (aaf _ hp)];rfl
theorem G4(hk:∀y,y<138→env.kindOf (nm y)=ks y)(xs:List (Nat×Pos))(h:∀q∈xs,q.1<138)(hl:xs.all (fun q=>decide (ks q.1=some .local)&&decide (q.2.line=ln))=false):
 (((xs.map fun q=>ad2 (nm q.1) q.2).filterMap g).length !=(xs.map fun q=>ad2 (nm q.1) q.2).length)=true:=by
 refine bne_iff_ne.mpr fun e=>?_
 have e:=List.filterMap_length_eq_length.mp e
 refine abJ (hl.symm.trans (aaG.mpr fun q hq=>?_))
 have e:=e _ (afE hq)
 rw[hg,hk q.1 (h q hq)] at e
 rcases acy (ks q.1==some NameKind.local&&q.2.line==ln) with c|c
 ·exact aa1.mpr ((ai c).imp (fun c=>decide_eq_true (eq_of_beq c)) fun c=>decide_eq_true (eq_of_beq c))
 ·rw[c] at e;exact nb1 e
end
theorem E2{a b c:Str}:(a≠b→[a,b].eraseDups.length=2)∧(a≠b→a≠c→b≠c→[a,b,c].eraseDups.length=3):=by
 constructor
 ·intro h
  have h1:(b==a)=false:=beq_false_of_ne (acp h)
  simp[afF,h1]
 ·intro h1 h2 h3
  have e1:(b==a)=false:=beq_false_of_ne (acp h1)
  have e2:(c==a)=false:=beq_false_of_ne (acp h2)
  have e3:(c==b)=false:=beq_false_of_ne (acp h3)
  simp[afF,e1,e2,e3]
theorem G5{α:Type}{l:List α}(h:l.length=3):∃a b c,l=[a,b,c]:=by
 cases l with
 |nil=>cases h
 |cons a l=>obtain⟨b,c,rfl⟩:=zO (l:=l) (by rw[af6 h];rfl);exact⟨a,b,c,rfl⟩
theorem Qw{xs:List (Nat×Pos)}(hx:∀q∈xs,q.1<138)(hl:(xs.length==2||xs.length==3)=true)(hnd:(xs.map (·.1)).Nodup):(xs.map fun q=>nm q.1).eraseDups.length=xs.length:=by
 rcases aaQ.mp hl with hh|hh
 ·obtain⟨a,b,rfl⟩:=zO (l:=xs) (by rw[eq_of_beq hh];rfl)
  exact(E2 (c:=nm 0)).1 fun q=>(abE.mp hnd).1 (aaq.mpr (fN (hx a (aae ..)) (hx b (by simp)) q))
 ·obtain⟨a,b,c,rfl⟩:=G5 (eq_of_beq hh)
  simp only [aaz,adZ,abE,aar,aaM,or_false,not_or,not_false_eq_true,afb,and_true] at hnd
  obtain⟨⟨n1,n2⟩,n3⟩:=hnd
  exact E2.2 (fun q=>n1 (fN (hx a (by simp)) (hx b (by simp)) q)) (fun q=>n2 (fN (hx a (by simp)) (hx c (by simp)) q)) fun q=>n3 (fN (hx b (by simp)) (hx c (by simp)) q)
theorem Qx{xs:List (Nat×Pos)}{pt:Pos}{e:E}(hx:∀q∈xs,q.1<138)(h:V9 ks xs e=true):J5 ks xs pt (dE e):=by
 refine⟨fun env hf hk=>?_,fun env l=>BR e _ _ _ l env⟩
 cases e with
 |tup l p=>
  have h:=ai (show((xs.length==2||xs.length==3)&&((l.length==xs.length)&&az (xs.all (fun q=>decide (ks q.1=some .local)&&decide (q.2.line=E1 xs))) (decide ((xs.map (·.1)).Nodup)&&((fT l).all (foldedForSure 8)||!((fT l).all (constantsAlone 8)))) true))=true from h)
  have h2:=ai h.2
  obtain⟨f,g,hf1,hg,hsw⟩:=sw_eq env
  rw[show swappedStores [.Tuple (xs.map fun q=>.Name (nm q.1) q.2) 0 pt] (dE (.tup l p)) env=_ from hsw ..]
  have hb:=BS hf
  have TL:((xs.map fun q=>ad2 (nm q.1) q.2).head?.map (·.pos.line)).getD 0=E1 xs:=by cases xs<;>rfl
  have hg:=TL▸hg (xs.map fun q:Nat×Pos=>ad2 (nm q.1) q.2)
  have hl2:l.length=xs.length:=eq_of_beq h2.1
  rcases acy (xs.all (fun q=>decide (ks q.1=some .local)&&decide (q.2.line=E1 xs))) with hall|hall
  ·have h4:=h2.2
   rw[hall] at h4
   have h4:=ai h4
   have hnd:=of_decide_eq_true h4.1
   rw[G3 hg hk xs hx (aaG.mp hall),aaj,aaj,Qw hx h.1 hnd,ud,hb,noStar hf1,hl2,h.1,if_neg (by simp),if_neg (by simp),if_neg (by simp)]
   cases hfo:(fT l).all (foldedForSure 8) with
   |true=>exact .inl rfl
   |false=>
    have hco:(fT l).all (constantsAlone 8)=false:=(aaQ.mp h4.2).elim (fun q=>nb1 (hfo.symm.trans q)) (aa9 _).mp
    rw[hco]
    exact .inr ⟨(aaQ.mp h.1).imp eq_of_beq eq_of_beq,hnd,by rw[aaY];rfl⟩
  ·left
   rw[G4 hg hk xs hx hall,Bool.true_or,if_pos rfl,aaj,ud,hb,noStar hf1,hl2,h.1,if_neg (by simp),if_neg (by simp)]
 |_=>exact .inl rfl
theorem BU{e:E}(h:KY ks e=true):∃c np m cp,e=.call (.gl c np) [m] [] cp∧(c=7∨c=41)∧ks c=some .globalImplicit∧ez ks m=true:=by
 obtain⟨u,_,e1,_,h⟩:=ic h
 have h:=ai h
 have h2:=ai h.2
 obtain⟨g,m,e2,e3,h3⟩:=ic h2.2
 have h3:=ai h3
 have h4:=ai h3.2
 exact⟨g.1,g.2,m,u.2.2.2,by rw[DB e1,zM e2,gW h.1,DE e3 h2.1],(aaQ.mp h3.1).imp of_decide_eq_true of_decide_eq_true,of_decide_eq_true h4.1,h4.2⟩
theorem Nm(E0:fy w K hB Θ n){e:E}{p:Pos}(h:KY ks e=true):jM w hB Θ n ks (HX e) (.Raise (some (dE e)) none p):=by
 obtain⟨c,np,m,cp,rfl,hc,hk,hm⟩:=BU h
 have:=Dn (p:=p) (np:=np) (cp:=cp) E0.fix hc hk (qp E0 ks m hm)
 rcases hc with rfl|rfl<;>exact this
theorem any_none{x:Nat}{sc:List (Nat×aam)}(hlt:∀q∈sc,q.1<138)(hx:x<138)(h:sc.all (fun q=>!(decide (q.1=x))||!(decide (q.2=.local)||decide (q.2=.cell)))=true):((aJ sc).names.any fun(n,k)=>n==nm x&&(k==.local||k==.cell))=false:=by
 rw[agj]
 intro p hp
 obtain⟨q,hq,rfl⟩:=aa8.mp hp
 show¬((nm q.1==nm x&&(q.2==.local||q.2==.cell))=true)
 rcases aaQ.mp (aaG.mp h q hq) with h|h
 ·rw[show(nm q.1==nm x)=false from beq_false_of_ne fun e=>of_decide_eq_false ((aa9 _).mp h) (fN (hlt q hq) hx e)]
  exact abJ
 ·have:(q.2==.local||q.2==.cell)=false:=by
   revert h
   generalize q.2=k
   intro h
   cases k<;>first|rfl|exact nb1 h
  rw[this,afq]
  exact abJ
theorem KZ(E0:fy w K hB Θ n){x:Nat}{px pc p:Pos}{ce:E}{gs:List Internal.G}{sc:List (Nat×aam)}(h1:gy ks x=true)(h2:Qs ks x px (.comp ce gs sc pc)=true)(h3:ez ks (.comp ce gs sc pc)=true):jM w hB Θ n ks (cS (.asg x px (.comp ce gs sc pc) p)) (dS (.asg x px (.comp ce gs sc pc) p)):=by
 obtain⟨hx,hk⟩:=dm h1
 rcases acy (OA ks x px (.comp ce gs sc pc)) with hu|hu
 ·obtain⟨g1,t,it,ifs,rest,rfl,hc⟩:=vQ (pe E0 ce) (Zt E0 gs) h3
  refine w7 (hc pc) hx hk fun env hf hkd=>?_
  have h2:=(aaQ.mp h2).resolve_left fun q=>by rw[hu] at q;exact nb1 q
  have hu:=ai hu
  rw[vR,BS hf,hkd x hx,of_decide_eq_true hu.1,any_none (BL g1).lt hx h2,of_decide_eq_true hu.2,beq_self_eq_true pc.line]
  rfl
 ·refine Br (qp E0 ks _ h3) hx hk fun env hkd=>?_
  show swapsWith (.ListComp (dE ce) (N7 gs) (aJ sc) pc) _ _ _=_
  rw[vR,hkd x hx]
  rcases Bool.and_eq_false_iff.mp hu with hu|hu
  ·rw[beq_false_of_ne (of_decide_eq_false hu),afq];rfl
  ·rw[beq_false_of_ne (of_decide_eq_false hu),afq];rfl
theorem Qy(E0:fy w K hB Θ n){x:Nat}{px p:Pos}{e:E}(h:(gy ks x&&(Qs ks x px e&&ez ks e))=true):jM w hB Θ n ks (cS (.asg x px e p)) (dS (.asg x px e p)):=by
 have h:=ai h
 have h2:=ai h.2
 rcases acy (oH e) with hc|hc
 ·obtain⟨ce,gs,sc,pc,rfl⟩:∃ce gs sc pc,e=.comp ce gs sc pc:=by
   cases e with
   |comp=>exact⟨_,_,_,_,rfl⟩
   |_=>exact nb1 hc
  exact KZ E0 h.1 h2.1 h2.2
 ·obtain⟨hx,hk⟩:=dm h.1
  exact Br (qp E0 ks e h2.2) hx hk fun env _=>mP hc _ _ env
theorem Nn(E0:fy w K hB Θ n){xs:List (Nat×Pos)}{pt p:Pos}{e:E}(h:(xs.all (fun q=>gy ks q.1)&&(V9 ks xs e&&ez ks e))=true):jM w hB Θ n ks (cS (.kj xs pt e p)) (dS (.kj xs pt e p)):=
 have h:=ai h
 have h2:=ai h.2
 have h1:=fun q hq=>dm (aaG.mp h.1 q hq)
 GC (qp E0 ks e h2.2) h1 (Qx (fun q hq=>(h1 q hq).1) h2.1)
theorem Np{o:Op}(h:Qt o=true):o=.add∨o=.sub:=by
 cases o<;>first|exact .inl rfl|exact .inr rfl|exact nb1 h
theorem Qz(E0:fy w K hB Θ n){x:Nat}{px p:Pos}{o:Op}{e:E}(h:(gy ks x&&(Qt o&&ez ks e))=true):jM w hB Θ n ks (cS (.aug x px o e p)) (dS (.aug x px o e p)):=
 have h:=ai h
 have h2:=ai h.2
 have h1:=dm h.1
 JL E0.fix (qp E0 ks e h2.2) (Np h2.1) h1.1 h1.2
theorem E3(E0:fy w K hB Θ n)(ks:Kinds)(l:List Internal.S):(∀st,Qv ks st=true→jM w hB Θ n ks (cS st) (dS st))∧(dw ks l=true→fV w hB Θ n ks (iH l) (gR l)):=
 have f1:=fun e(p:Pos)(h:(!oH e&&ez ks e)=true)=>have h:=ai h;Gv (qp E0 ks e h.2) fun env=>mP ((aa9 _).mp h.1) _ _ env
 have f5:=fun t b o(p:Pos)(hb:dw ks b=true→fV w hB Θ n ks (iH b) (gR b))(ho:dw ks o=true→fV w hB Θ n ks (iH o) (gR o))(h:(DF ks t&&(dw ks b&&dw ks o))=true)=>have h:=ai h;have h2:=ai h.2;M0 (Oz E0 ks t h.1) (hb h2.1) (ho h2.2)
 have f6:=fun t b(p:Pos)(hb:dw ks b=true→fV w hB Θ n ks (iH b) (gR b))(h:(DF ks t&&dw ks b)=true)=>have h:=ai h;Dh (Oz E0 ks t h.1) (hb h.2)
 have f7:=fun t it b(p:Pos)(hb:dw ks b=true→fV w hB Θ n ks (iH b) (gR b))(h:(UP ks t&&(HM ks it t&&dw ks b))=true)=>have h:=ai h;have h2:=ai h.2;JT (Qu h.1) (TJ E0 ks it t h2.1) (hb h2.2) (zN it)
 have f:=@Internal.S.rec (fun st=>Qv ks st=true→jM w hB Θ n ks (cS st) (dS st)) (fun l=>dw ks l=true→fV w hB Θ n ks (iH l) (gR l)) f1 (fun _ _ _ _ h=>Qy E0 h) (fun _ _ _ _ h=>Nn E0 h) (fun _ _ _ _ _ h=>Qz E0 h) f5 f6 f7
  (fun e _ h=>JK (qp E0 ks e h)) (fun _ _ h=>Nm E0 h) (fun _ _ _ _ _ _ _ _ h=>nb1 h) (fun _=>rA) fun st l h1 h2 h=>have h:=ai (show(Qv ks st&&dw ks l)=true from h);vz (h1 h.1) (h2 h.2)
 ⟨f,l.rec (fun _=>rA) fun st l h2 h=>have h:=ai (show(Qv ks st&&dw ks l)=true from h);vz (f st h.1) (h2 h.2)⟩
theorem TM(E0:fy w K hB Θ n)(ks:Kinds)(st:Internal.S):Qv ks st=true→jM w hB Θ n ks (cS st) (dS st):=(E3 E0 ks []).1 st
theorem K0(E0:fy w K hB Θ n)(ks:Kinds)(l:List Internal.S):dw ks l=true→fV w hB Θ n ks (iH l) (gR l):=(E3 E0 ks l).2
end
noncomputable def dW:List (Nat×aam):=[(3,.local),(4,.local),(1,.local),(5,.local),(0,.local),(2,.globalImplicit)]
noncomputable def dX:List (Nat×aam):=[(3,.local),(4,.local),(1,.local),(5,.local),(0,.local),(9,.local),(7,.globalImplicit),(8,.globalImplicit)]
noncomputable def eW:List (Nat×aam):=[(3,.local),(4,.local),(1,.local),(5,.local),(0,.local),(10,.globalImplicit)]
noncomputable def eX:List (Nat×aam):=[(3,.local),(4,.local),(1,.local),(5,.local),(0,.local),(9,.local),(7,.globalImplicit),(8,.globalImplicit)]
noncomputable def bD:List (Nat×aam):=[(11,.local),(12,.local),(13,.local),(14,.local),(15,.local),(16,.local),(17,.globalImplicit),(8,.globalImplicit)]
noncomputable def cy:List (Nat×aam):=[(11,.local),(21,.local),(15,.local),(16,.local),(20,.globalImplicit),(17,.globalImplicit)]
noncomputable def bM:List (Nat×aam):=[(24,.local),(22,.local),(23,.local),(25,.globalImplicit)]
noncomputable def gz:List (Nat×aam):=[(30,.local),(26,.globalImplicit),(28,.globalImplicit),(29,.globalImplicit)]
noncomputable def c9:List (Nat×aam):=[(32,.local),(31,.globalImplicit)]
noncomputable def gA:List (Nat×aam):=[(30,.local),(28,.globalImplicit),(29,.globalImplicit)]
noncomputable def bG:List (Nat×aam):=[(44,.local),(34,.local),(37,.local),(36,.local),(33,.globalImplicit),(35,.globalImplicit),(38,.globalImplicit),(39,.globalImplicit),(7,.globalImplicit),(41,.globalImplicit),(43,.globalImplicit)]
noncomputable def gC:List (Nat×aam):=[(44,.local),(37,.cell)]
noncomputable def j7:List (Nat×aam):=[(44,.local)]
noncomputable def i0:List (Nat×aam):=[(44,.local)]
noncomputable def dY:List (Nat×aam):=[(44,.local),(57,.local),(52,.local),(53,.local),(51,.local),(50,.local),(23,.local),(56,.globalImplicit)]
noncomputable def fF:List (Nat×aam):=[(60,.cell),(58,.local),(59,.globalImplicit),(8,.globalImplicit),(63,.globalImplicit)]
noncomputable def dZ:List (Nat×aam):=[(65,.cell),(66,.cell),(50,.local),(64,.local),(67,.local),(59,.globalImplicit),(8,.globalImplicit)]
noncomputable def gD:List (Nat×aam):=[(65,.local),(66,.local),(68,.local),(69,.local),(71,.local),(72,.local),(70,.globalImplicit),(59,.globalImplicit),(35,.globalImplicit)]
noncomputable def gE:List (Nat×aam):=[(75,.local),(74,.local),(37,.local),(76,.globalImplicit),(78,.globalImplicit)]
noncomputable def gF:List (Nat×aam):=[(81,.local),(82,.local),(83,.local),(79,.local),(72,.local),(59,.globalImplicit),(80,.globalImplicit),(8,.globalImplicit),(84,.globalImplicit),(85,.globalImplicit),(86,.globalImplicit)]
noncomputable def eY:List (Nat×aam):=[(81,.local),(66,.local),(69,.local),(60,.local),(89,.local),(90,.local),(59,.globalImplicit)]
noncomputable def k7:List (Nat×aam):=[(92,.local),(91,.cell),(66,.local),(93,.cell),(94,.local),(4,.local),(96,.local),(82,.local),(97,.cell),(98,.cell),(83,.local),(60,.cell),(79,.cell),(99,.local),(69,.cell),(100,.local),(102,.cell),(103,.local),(65,.local),(105,.local),(64,.local),(67,.cell),(107,.cell),(81,.local),(108,.local),(68,.local),(110,.local),(72,.cell),(114,.local),(115,.local),(117,.local),(120,.local),(121,.local),(122,.local),(125,.local),(126,.cell),(130,.cell),(131,.cell),(132,.local),(134,.cell),(135,.cell),(136,.local),(63,.globalImplicit),(8,.globalImplicit),(59,.globalImplicit),(95,.globalImplicit),(101,.globalImplicit),(104,.globalImplicit),(25,.globalImplicit),(106,.globalImplicit),(109,.globalImplicit),(111,.globalImplicit),(118,.globalImplicit),(35,.globalImplicit),(41,.globalImplicit),(123,.globalImplicit),(78,.globalImplicit),(76,.globalImplicit),(127,.globalImplicit),(128,.globalImplicit),(129,.globalImplicit),(80,.globalImplicit),(7,.globalImplicit)]
theorem tG:(aq 3).2.2.kind=.function∧(aq 3).2.2.names=(aJ dW).names∧(aq 3).2.2.isCoroutine=false∧(aq 3).2.2.isGenerator=false:=⟨⋯,⋯,⋯,⋯⟩
theorem tH:(aq 4).2.2.kind=.function∧(aq 4).2.2.names=(aJ dX).names∧(aq 4).2.2.isCoroutine=false∧(aq 4).2.2.isGenerator=false:=⟨⋯,⋯,⋯,⋯⟩
theorem vS:(aq 5).2.2.kind=.function∧(aq 5).2.2.names=(aJ eW).names∧(aq 5).2.2.isCoroutine=false∧(aq 5).2.2.isGenerator=false:=⟨⋯,⋯,⋯,⋯⟩
theorem vU:(aq 6).2.2.kind=.function∧(aq 6).2.2.names=(aJ eX).names∧(aq 6).2.2.isCoroutine=false∧(aq 6).2.2.isGenerator=false:=⟨⋯,⋯,⋯,⋯⟩
theorem i6:(aq 9).2.2.kind=.function∧(aq 9).2.2.names=(aJ bD).names∧(aq 9).2.2.isCoroutine=false∧(aq 9).2.2.isGenerator=false:=⟨⋯,⋯,⋯,⋯⟩
theorem lK:(aq 10).2.2.kind=.function∧(aq 10).2.2.names=(aJ cy).names∧(aq 10).2.2.isCoroutine=false∧(aq 10).2.2.isGenerator=false:=⟨⋯,⋯,⋯,⋯⟩
theorem jN:(aq 11).2.2.kind=.function∧(aq 11).2.2.names=(aJ bM).names∧(aq 11).2.2.isCoroutine=false∧(aq 11).2.2.isGenerator=false:=⟨⋯,⋯,⋯,⋯⟩
theorem zP:(aq 17).2.2.kind=.function∧(aq 17).2.2.names=(aJ gz).names∧(aq 17).2.2.isCoroutine=false∧(aq 17).2.2.isGenerator=false:=⟨⋯,⋯,⋯,⋯⟩
theorem qt:(aq 18).2.2.kind=.function∧(aq 18).2.2.names=(aJ c9).names∧(aq 18).2.2.isCoroutine=false∧(aq 18).2.2.isGenerator=false:=⟨⋯,⋯,⋯,⋯⟩
theorem zQ:(aq 19).2.2.kind=.function∧(aq 19).2.2.names=(aJ gA).names∧(aq 19).2.2.isCoroutine=false∧(aq 19).2.2.isGenerator=false:=⟨⋯,⋯,⋯,⋯⟩
theorem jk:(aW 1).2.2.kind=.function∧(aW 1).2.2.names=(aJ bG).names∧(aW 1).2.2.isCoroutine=false∧(aW 1).2.2.isGenerator=false:=⟨⋯,⋯,⋯,⋯⟩
theorem zR:(aW 7).2.2.kind=.function∧(aW 7).2.2.names=(aJ gC).names∧(aW 7).2.2.isCoroutine=false∧(aW 7).2.2.isGenerator=false:=⟨⋯,⋯,⋯,⋯⟩
theorem G6:(aW 9).2.2.kind=.function∧(aW 9).2.2.names=(aJ j7).names∧(aW 9).2.2.isCoroutine=false∧(aW 9).2.2.isGenerator=false:=⟨⋯,⋯,⋯,⋯⟩
theorem DK:(aW 11).2.2.kind=.function∧(aW 11).2.2.names=(aJ i0).names∧(aW 11).2.2.isCoroutine=false∧(aW 11).2.2.isGenerator=false:=⟨⋯,⋯,⋯,⋯⟩
theorem tK:(aW 16).2.2.kind=.function∧(aW 16).2.2.names=(aJ dY).names∧(aW 16).2.2.isCoroutine=false∧(aW 16).2.2.isGenerator=false:=⟨⋯,⋯,⋯,⋯⟩
theorem w9:(aq 27).2.2.kind=.function∧(aq 27).2.2.names=(aJ fF).names∧(aq 27).2.2.isCoroutine=false∧(aq 27).2.2.isGenerator=false:=⟨⋯,⋯,⋯,⋯⟩
theorem tL:(aq 28).2.2.kind=.function∧(aq 28).2.2.names=(aJ dZ).names∧(aq 28).2.2.isCoroutine=false∧(aq 28).2.2.isGenerator=false:=⟨⋯,⋯,⋯,⋯⟩
theorem zS:(aq 29).2.2.kind=.function∧(aq 29).2.2.names=(aJ gD).names∧(aq 29).2.2.isCoroutine=false∧(aq 29).2.2.isGenerator=false:=⟨⋯,⋯,⋯,⋯⟩
theorem zT:(aq 30).2.2.kind=.function∧(aq 30).2.2.names=(aJ gE).names∧(aq 30).2.2.isCoroutine=false∧(aq 30).2.2.isGenerator=false:=⟨⋯,⋯,⋯,⋯⟩
theorem zU:(aq 31).2.2.kind=.function∧(aq 31).2.2.names=(aJ gF).names∧(aq 31).2.2.isCoroutine=false∧(aq 31).2.2.isGenerator=false:=⟨⋯,⋯,⋯,⋯⟩
theorem vV:(aq 32).2.2.kind=.function∧(aq 32).2.2.names=(aJ eY).names∧(aq 32).2.2.isCoroutine=false∧(aq 32).2.2.isGenerator=false:=⟨⋯,⋯,⋯,⋯⟩
theorem QA:(aq 33).2.2.kind=.function∧(aq 33).2.2.names=(aJ k7).names∧(aq 33).2.2.isCoroutine=false∧(aq 33).2.2.isGenerator=false:=⟨⋯,⋯,⋯,⋯⟩
noncomputable def Wa:List (List Internal.S):=[eH,eN,fB,fC,bF,cA,bQ,ie,dJ,ig,bK,ir,lT,jW,eO,gj,eT,iu,iw,iy,fD]
noncomputable def Zv:List (List (Nat×aam)):=[dW,dX,eW,eX,bD,cy,bM,gz,c9,gA,bG,gC,j7,i0,dY,fF,dZ,gD,gE,gF,eY]
noncomputable def Kz(k:Nat):List Internal.S:=Wa.getD k []
noncomputable def KA(k:Nat):List (Nat×aam):=Zv.getD k []
noncomputable def KC(k:Nat):Nat:=if k=18 then 200 else 0
theorem tM:dw (iZ dW 0) eH=true:=⋯
theorem tN:qR dW:=⟨by decide,by decide,by decide⟩
theorem tO:dw (iZ dX 0) eN=true:=⋯
theorem tP:qR dX:=⟨by decide,by decide,by decide⟩
theorem vW:dw (iZ eW 0) fB=true:=⋯
theorem vX:qR eW:=⟨by decide,by decide,by decide⟩
theorem vY:dw (iZ eX 0) fC=true:=⋯
theorem vZ:qR eX:=⟨by decide,by decide,by decide⟩
theorem i7:dw (iZ bD 0) bF=true:=⋯
theorem i8:qR bD:=⟨by decide,by decide,by decide⟩
theorem lM:dw (iZ cy 0) cA=true:=⋯
theorem lN:qR cy:=⟨by decide,by decide,by decide⟩
theorem jO:dw (iZ bM 0) bQ=true:=⋯
theorem jP:qR bM:=⟨by decide,by decide,by decide⟩
theorem zV:dw (iZ gz 0) ie=true:=⋯
theorem zW:qR gz:=⟨by decide,by decide,by decide⟩
theorem qw:dw (iZ c9 0) dJ=true:=⋯
theorem qB:qR c9:=⟨by decide,by decide,by decide⟩
theorem zX:dw (iZ gA 0) ig=true:=⋯
theorem zY:qR gA:=⟨by decide,by decide,by decide⟩
theorem jl:dw (iZ bG 0) bK=true:=⋯
theorem jm:qR bG:=⟨by decide,by decide,by decide⟩
theorem zZ:dw (iZ gC 0) ir=true:=⋯
theorem z0:qR gC:=⟨by decide,by decide,by decide⟩
theorem G7:dw (iZ j7 0) lT=true:=⋯
theorem G8:qR j7:=⟨by decide,by decide,by decide⟩
theorem DL:dw (iZ i0 0) jW=true:=⋯
theorem DM:qR i0:=⟨by decide,by decide,by decide⟩
theorem tQ:dw (iZ dY 0) eO=true:=⋯
theorem tR:qR dY:=⟨by decide,by decide,by decide⟩
theorem xd:dw (iZ fF 0) gj=true:=⋯
theorem xe:qR fF:=⟨by decide,by decide,by decide⟩
theorem tS:dw (iZ dZ 0) eT=true:=⋯
theorem tT:qR dZ:=⟨by decide,by decide,by decide⟩
theorem z3:dw (iZ gD 0) iu=true:=⋯
theorem z4:qR gD:=⟨by decide,by decide,by decide⟩
theorem z5:dw (iZ gE 200) iw=true:=⋯
theorem z6:qR gE:=⟨by decide,by decide,by decide⟩
theorem z7:dw (iZ gF 0) iy=true:=⋯
theorem z8:qR gF:=⟨by decide,by decide,by decide⟩
theorem wc:dw (iZ eY 0) fD=true:=⋯
theorem we:qR eY:=⟨by decide,by decide,by decide⟩
theorem QB:qR k7:=⟨by decide,by decide+kernel,by decide⟩
theorem Nq:(jX[0]?).map (fun q=>ez (iZ q.2.2.2 0) q.2.2.1)=some true:=⋯
theorem Nr:(jX[1]?).map (fun q=>ez (iZ q.2.2.2 0) q.2.2.1)=some true:=⋯
theorem Nt:(jX[2]?).map (fun q=>ez (iZ q.2.2.2 0) q.2.2.1)=some true:=⋯
theorem Nu:(jX[3]?).map (fun q=>ez (iZ q.2.2.2 0) q.2.2.1)=some true:=⋯
theorem Nv:(jX[4]?).map (fun q=>ez (iZ q.2.2.2 0) q.2.2.1)=some true:=⋯
section
variable{w:aaC}{K:Frag}{hB hF:aal}{O W:Addr→Prop}{N0:Nat}{Θ:Th}{A:aav}{lk:List Nat}{s s0 s' s'' s1:aad}{μ j4 aG bZ X X0 X' gJ aZ X1:List Addr}{H H0 H' iz H1:HP}{n:Nat}{C:Cx}{env cenv:Env}{outer:List Env}{r r0 r' r1:aR}{ks:Kinds}{Ex:aac→aad→Prop}{D:Addr}{av:List V}
noncomputable def Xi:Internal.S→Option (E×Pos)
 |.expr e p=>some (e,p)
 |_=>none
noncomputable def Xj:Internal.S→Option (E×Pos)
 |.ret e p=>some (e,p)
 |_=>none
noncomputable def Xk:E→Option (Bool×Pos)
 |.kB e p=>some (e,p)
 |_=>none
theorem QC{e:Internal.S}{q:E×Pos}(h:Xi e=some q):e=.expr q.1 q.2:=by
 induction e using Internal.S.casesOn with
 |expr=>exact Z8 h▸rfl
 |_=>exact no1 h
theorem QD{e:Internal.S}{q:E×Pos}(h:Xj e=some q):e=.ret q.1 q.2:=by
 induction e using Internal.S.casesOn with
 |ret=>exact Z8 h▸rfl
 |_=>exact no1 h
theorem QE{e:E}{q:Bool×Pos}(h:Xk e=some q):e=.kB q.1 q.2:=by
 cases e with
 |kB=>exact Z8 h▸rfl
 |_=>exact no1 h
noncomputable def pop{α:Type}(l:List α)(f:α→List α→Bool):Bool:=l.rec false fun x l _=>f x l
theorem K4{α:Type}{l:List α}{f:α→List α→Bool}(h:pop l f=true):∃x m,l=x::m∧f x m=true:=by
 cases l with
 |nil=>exact nb1 h
 |cons x m=>exact⟨x,m,rfl,h⟩
noncomputable def QF(ks:Kinds)(b:List Internal.S)(ty:E)(x:Nat)(hb:List Internal.S):Bool:=
 pop b fun s1 l=>pop l fun s2 l=>l.isEmpty&&vM (Xi s1) (Xj s2) fun u v=>vM (Xk v.1) (KD ty) fun _ g=>!hb.isEmpty&&((decide (g.1=7)||decide (g.1=41))&&(decide (ks g.1=some .globalImplicit)&&(decide (x<138)&&(decide (ks x=some .local)&&(!oH u.1&&(ez ks u.1&&dw ks hb))))))
noncomputable def Nx(ks:Kinds):Internal.S→Bool
 |.Cy b ty x hb _ _=>QF ks b ty x hb
 |st=>Qv ks st
noncomputable def sO(ks:Kinds):List Internal.S→Bool
 |[]=>true
 |st::l=>Nx ks st&&sO ks l
inductive QH(ks:Kinds)(x:Nat):List Internal.S→E→List Internal.S→Prop
 |mk(e:E)(p1:Pos)(bb:Bool)(bp p2:Pos)(c:Nat)(np:Pos)(sb:Internal.S)(suite:List Internal.S)(h1:c=7∨c=41)(h2:ks c=some .globalImplicit)(h3:x<138)(h4:ks x=some .local)(h5:oH e=false)(h6:ez ks e=true)(h7:dw ks (sb::suite)=true):QH ks x [.expr e p1,.ret (.kB bb bp) p2] (.gl c np) (sb::suite)
theorem b8{a b c d e f g h:Bool}(x:(a&&(b&&(c&&(d&&(e&&(f&&(g&&h)))))))=true):a=true∧b=true∧c=true∧d=true∧e=true∧f=true∧g=true∧h=true:=by simpa using x
theorem G9{ks:Kinds}{x:Nat}{hb:List Internal.S}{e:E}{p1:Pos}{y:Bool×Pos}{p2:Pos}{g:Nat×Pos}(h:(!hb.isEmpty&&((decide (g.1=7)||decide (g.1=41))&&(decide (ks g.1=some .globalImplicit)&&(decide (x<138)&&(decide (ks x=some .local)&&(!oH e&&(ez ks e&&dw ks hb)))))))=true):QH ks x [.expr e p1,.ret (.kB y.1 y.2) p2] (.gl g.1 g.2) hb:=by
 obtain⟨h0,h1,h2,h3,h4,h5,h6,h7⟩:=b8 h
 cases hb with
 |nil=>exact nb1 h0
 |cons sb suite=>exact .mk _ _ _ _ _ _ _ _ _ ((aaQ.mp h1).imp of_decide_eq_true of_decide_eq_true) (of_decide_eq_true h2) (of_decide_eq_true h3) (of_decide_eq_true h4) ((aa9 _).mp h5) h6 h7
theorem DN{b:List Internal.S}{ty:E}{x:Nat}{hb:List Internal.S}(h:QF ks b ty x hb=true):QH ks x b ty hb:=by
 obtain⟨s1,l,e1,h⟩:=K4 h
 obtain⟨s2,l',e2,h⟩:=K4 h
 have h:=ai h
 obtain⟨u,v,f1,f2,h2⟩:=ic h.2
 obtain⟨y,g,f3,f4,h3⟩:=ic h2
 rw[e1,e2,gW h.1,QC f1,QD f2,QE f3,zM f4]
 exact G9 h3
theorem K5(E0:fy w K hB Θ n)(ks:Kinds)(st:Internal.S)(h:Nx ks st=true):EU w hB Θ n ks (cS st) (dS st):=by
 cases st with
 |Cy b ty x hb hp p=>
  have h:QF ks b ty x hb=true:=h
  cases DN h
  exact GH E0.fix h1 h2 h3 h4 (qp E0 ks e h6) (fun env=>mP h5 _ _ env) (K0 E0 ks _ h7)
 |_=>exact(TM E0 ks _ h).one
theorem z9(E0:fy w K hB Θ n)(ks:Kinds):∀(l:List Internal.S),sO ks l=true→vD w hB Θ n ks (iH l) (gR l)
 |[],_=>Dp
 |st::l,h=>by
  have h:(Nx ks st&&sO ks l)=true:=h
  rw[abq] at h
  exact Bw (K5 E0 ks st h.1) (z9 E0 ks l h.2)
theorem QI:sO (iZ k7 201) bk=true:=⋯
theorem bodies(E0:fy w K hB Θ n):BK w hB Θ n Kz KA KC:=by
 refine⟨fun k d hd=>?_,fun k q hq=>?_⟩
 ·have hk:k<21:=by
   rw[eU] at hd
   have:=(aay.mp hd).1
   have e:LW.length=21:=rfl
   omega
  have fin:∀{sc:List (Nat×aam)}{cd:Nat}{b:List Internal.S}{c:CS},dw (iZ sc cd) b=true→iH b=c→fV w hB Θ n (iZ sc cd) c (gR b):=fun h e=>e▸K0 E0 _ _ h
  rcases k with _|_|_|_|_|_|_|_|_|_|_|_|_|_|_|_|_|_|_|_|_|k
  ·(first|(replace hd:=(Z8 hd).symm;subst hd)|cases hd);exact fin tM sU
  ·(first|(replace hd:=(Z8 hd).symm;subst hd)|cases hd);exact fin tO sV
  ·(first|(replace hd:=(Z8 hd).symm;subst hd)|cases hd);exact fin vW uE
  ·(first|(replace hd:=(Z8 hd).symm;subst hd)|cases hd);exact fin vY uF
  ·(first|(replace hd:=(Z8 hd).symm;subst hd)|cases hd);exact fin i7 iQ
  ·(first|(replace hd:=(Z8 hd).symm;subst hd)|cases hd);exact fin lM lE
  ·(first|(replace hd:=(Z8 hd).symm;subst hd)|cases hd);exact fin jO jF
  ·(first|(replace hd:=(Z8 hd).symm;subst hd)|cases hd);exact fin zV yD
  ·(first|(replace hd:=(Z8 hd).symm;subst hd)|cases hd);exact fin qw oY
  ·(first|(replace hd:=(Z8 hd).symm;subst hd)|cases hd);exact fin zX yE
  ·(first|(replace hd:=(Z8 hd).symm;subst hd)|cases hd);exact fin jl je
  ·(first|(replace hd:=(Z8 hd).symm;subst hd)|cases hd);exact fin zZ yF
  ·(first|(replace hd:=(Z8 hd).symm;subst hd)|cases hd);exact fin G7 Fx
  ·(first|(replace hd:=(Z8 hd).symm;subst hd)|cases hd);exact fin DL CD
  ·(first|(replace hd:=(Z8 hd).symm;subst hd)|cases hd);exact fin tQ sW
  ·(first|(replace hd:=(Z8 hd).symm;subst hd)|cases hd);exact fin xd wO
  ·(first|(replace hd:=(Z8 hd).symm;subst hd)|cases hd);exact fin tS sX
  ·(first|(replace hd:=(Z8 hd).symm;subst hd)|cases hd);exact fin z3 yG
  ·(first|(replace hd:=(Z8 hd).symm;subst hd)|cases hd);exact fin z5 yH
  ·(first|(replace hd:=(Z8 hd).symm;subst hd)|cases hd);exact fin z7 yI
  ·(first|(replace hd:=(Z8 hd).symm;subst hd)|cases hd);exact fin wc uH
  ·omega
 ·have hk:k<5:=by
   have:=(aay.mp hq).1
   have e:jX.length=5:=rfl
   omega
  have fin:∀{j:Nat},(jX[j]?).map (fun q=>ez (iZ q.2.2.2 0) q.2.2.1)=some true→jX[j]?=some q→ez (iZ q.2.2.2 0) q.2.2.1=true:=fun h e=>by rw[e] at h;exact Z8 h
  refine qp E0 _ _ ?_
  rcases k with _|_|_|_|_|k
  ·exact fin Nq hq
  ·exact fin Nr hq
  ·exact fin Nt hq
  ·exact fin Nu hq
  ·exact fin Nv hq
  ·omega
theorem QJ(F:Fix w K hB Θ)(MR:mz w hB Θ)(Hd:BJ w hB Θ)(Df:zL w hB Kz KA KC)(fK:∀n,BP w hB Θ n):∀n,fy w K hB Θ n
 |0=>⟨F,MR,sN F Hd Df (fun m h=>by cases h),fK 0⟩
 |n+1=>⟨F,MR,sN F Hd Df (fun m h=>by cases h;exact bodies (QJ F MR Hd Df fK n)),fK (n+1)⟩
theorem UQ(F:Fix w K hB Θ)(MR:mz w hB Θ)(Hd:BJ w hB Θ)(Df:zL w hB Kz KA KC)(fK:∀n,BP w hB Θ n)(n:Nat):vD w hB Θ n (iZ k7 201) (iH bk) (gR bk):=
 z9 (QJ F MR Hd Df fK n) _ _ QI
end
end Internal
set_option maxHeartbeats 2000000
namespace Internal
open PySem PySem.W PyProof.Rows
noncomputable def mQ(h:aal):aal:=(h.update 305 fun o=>{o with data:=.freed}).update 326 fun o=>{o with data:=.freed}
theorem ye(h:aal)(a:Addr):(h.update a fun o=>{o with data:=.freed}).get? a=none:=by
 cases h with|mk objs _=>?_
 unfold Heap.update Heap.get?
 simp only [Array.getElem?_modify,if_true]
 cases objs[a]?<;>rfl
theorem wg(h:aal){a:Addr}(ha:a∈ao):(mQ h).get? a=none:=by
 unfold mQ
 rcases aar.mp ha with rfl|ha
 ·rw[aaS _ _ (by decide)];exact ye h 305
 ·rw[aaq.mp ha];exact ye _ 326
theorem mR(h:aal){a:Addr}(ha:a∉ao):(mQ h).get? a=h.get? a:=by
 have h1:(305:Addr)≠a:=fun e=>ha (by rw[←e];decide)
 have h2:(326:Addr)≠a:=fun e=>ha (by rw[←e];decide)
 unfold mQ
 rw[aaS _ _ h2,aaS _ _ h1]
theorem K7{h:aal}{a:Addr}{o:Obj}(e:(mQ h).get? a=some o):a∉ao∧h.get? a=some o:=by
 by_cases ha:a∈ao
 ·rw[wg h ha] at e;exact no1 e
 ·exact⟨ha,(mR h ha).symm.trans e⟩
theorem wh{α:Type}:∀(l m:List (Addr×α))(a:Addr)(o:α),l.lookup a=some o→(l++m).lookup a=some o
 |[],_,_,_,e=>by exact no1 e
 |(b,x)::l,m,a,o,e=>by
  simp only [abc,ahK] at e ⊢
  split at e
  ·exact e
  ·exact wh l m a o e
variable{P:Params}{h:aal}
theorem OB(hK:(Kp P++Kt).In h):(Kp P).In h:=fun a o e=>hK a o (wh _ _ _ _ e)
theorem QK:∀a∈ao,(Kp P).lookup a=none:=by
 intro a ha
 rcases aar.mp ha with rfl|ha
 ·kernel_rfl
 ·rw[aaq.mp ha];kernel_rfl
theorem qD(hK:(Kp P++Kt).In h):(Kp P).In (mQ h):=fun a o e=>by
 rw[mR h fun ha=>by rw[QK a ha] at e;exact no1 e]
 exact OB hK a o e
theorem qF{a:Addr}{m:Str→Option aac}(ha:a∉ao)(n:h.Ns a m):(mQ h).Ns a m:=by
 obtain⟨o,es,ep,h1,h2⟩:=n
 exact⟨o,es,ep,(mR h ha).trans h1,h2⟩
noncomputable def QL(P:Params):Array DictEntry:=match(Kp P).lookup 3 with
 |some ⟨_,_,.dict es _,_⟩=>es
 |_=>#[]
noncomputable def Zw(P:Params):Nat:=match(Kp P).lookup 3 with
 |some ⟨_,_,.dict _ n,_⟩=>n
 |_=>0
theorem OC:(Kp P).lookup 3=some ⟨.type "dict",none,.dict (QL P) (Zw P),[].toArray⟩:=⋯
theorem K8(hK:(Kp P++Kt).In h){mg:Str→Option aac}(n:h.Ns mainGlobals mg)(x:Str):mg x=nsFind (QL P) x:=by
 obtain⟨o,es,ep,h1,h2,_,h3⟩:=n
 have:=OB hK _ _ OC
 rw[show(3:Addr)=mainGlobals from rfl,h1] at this
 (first|(replace this:=(Z8 this).symm;subst this)|cases this)
 cases h2
 exact(h3 x).symm
end Internal
set_option maxHeartbeats 2000000
namespace Internal
open PySem PySem.W PyProof.Rows
section
variable{w:aaC}{hB:aal}{Θ:Th}{A:aav}{lk:List Nat}{s s':aad}{μ X:List Addr}{H:HP}{P:Params}{K:Frag}{fd:FuncData}{sc:List (Nat×aam)}{d:O2}{r:aR}
noncomputable def fW(P:Params)(a:Addr):FuncData:=match(Kp P).lookup a with
 |some ⟨_,_,.func f,_⟩=>f
 |_=>default
noncomputable def oJ(w:aaC)(hB:aal)(d:O2)(sc:List (Nat×aam))(fd:FuncData):Prop:=∀(Θ:Th)(A:aav)(s:aad)(μ X:List Addr)(H:HP)(lk:List Nat)(pos:List V)(kws r:aR)(us kvs:List aac)(Q:List (Str×aac)→aad→Prop)(Ex:aac→aad→Prop),St hB Θ s.heap μ X H→uI d pos kws=some r→VRs Θ s.heap μ X pos us→VRs Θ s.heap μ X (kws.map (·.2)) kvs→
 (∀binds s1,Goes hB Θ lk s μ X H s1 μ X→cF Θ sc s1.heap μ X r binds→Q (sM binds) s1)→aai (model pw w) A (bindArgs fd ⟨us,((kws.map (·.1)).map nm).zip kvs⟩) Q Ex s
theorem bN{k:Nat}{body:List Internal.S}{cd:Nat}{c:Addr}{vs:Array aac}{t:Tok}(hs:qR sc)(hK:K.In hB)(e1:K.lookup (fu k)=some ⟨.type "function",none,.func fd,[].toArray⟩)(e2:fd.body=.stmts (gR body))
 (e3:fd.scope.kind=.function∧fd.scope.names=(aJ sc).names∧fd.scope.isCoroutine=false∧fd.scope.isGenerator=false) (e4:fd.globals=mainGlobals∧fd.closure=[]∧fd.builtins=builtinsNs)
 (e5:fd.code=.ref c) (e6:K.lookup c=some ⟨.type "code",none,.fields vs,[].toArray⟩) (e7:vs[1]?=some (.str fd.qualname t))
 (e8:(cd=200→fd.code=.ref 309∧fd.qualname++".<locals>."=Z9 "_law_laid.<locals>.")∧(cd=201→fd.code=.ref 328∧fd.qualname++".<locals>."=Z9 "law.<locals>.")) (b:oJ w hB d sc fd):ek w hB k d body sc cd:=
 ⟨hs,⟨_,fd,hK _ _ e1,rfl,e2,e3.1,e3.2.1,e3.2.2.1,e3.2.2.2,e4.1,e4.2.1,e4.2.2,⟨c,_,vs,t,e5,hK _ _ e6,rfl,e7⟩,e8,b⟩⟩
theorem j8(x:Nat)(v:V)(t:aR):aK x ((x,v)::t)=some v:=by
 show@abQ _ _ _ (aap x x)=_;rw[abn]
theorem uo{x y:Nat}(h:aap x y=false)(v:V)(t:aR):aK x ((y,v)::t)=aK x t:=by
 show@abQ _ _ _ (aap x y)=_;rw[h];rfl
theorem cF.of{binds:List (Nat×aac)}{h:aal}(hn:r.map (·.1)=binds.map (·.1))(hv:VRs Θ h μ X (r.map (·.2)) (binds.map (·.2)))(nd:(binds.map (·.1)).Nodup)(hk:∀x∈binds.map (·.1),x<138∧(sc.lookup x=some .local∨sc.lookup x=some .cell)):cF Θ sc h μ X r binds:=by
 refine⟨fun x v e=>?_,nd,fun p hp=>hk _ (afE hp)⟩
 clear nd hk
 induction r generalizing binds with
 |nil=>exact no1 e
 |cons p r ih=>
  cases binds with
  |nil=>cases hn
  |cons q binds=>
   obtain⟨x',v'⟩:=p
   obtain⟨y,u⟩:=q
   injection hn with h1 h2
   replace hv:=hv.inv;cases hv with
   |cons q1 q2=>
    by_cases hx:x=x'
    ·have e:aK x ((x',v')::r)=some v':=by show@abQ _ _ _ (aap x x')=_;rw[hx,abn]
     rename_i e0
     rw[e] at e0;(first|(replace e0:=(Z8 e0).symm;subst e0)|cases e0)
     have h1:x'=y:=h1
     exact⟨u,by rw[hx,h1];exact aae ..,q1⟩
    ·have hb:aap x x'=false:=by
      cases hb:aap x x' with
      |false=>rfl
      |true=>exact absurd (aan hb) hx
     rw[uo hb] at e
     obtain⟨u',m,q⟩:=ih h2 q2 e
     exact⟨u',aaf _ m,q⟩
theorem mS(S:St hB Θ s.heap μ X H)(hK:K.In hB){us kvs:List aac}{kn:List Nat}{binds:List (Nat×aac)}(hp:∀S,peek K S (bindArgs fd ⟨us,(kn.map nm).zip kvs⟩)=some (sM binds))(hb:cF Θ sc s.heap μ X r binds)
 {Q:List (Str×aac)→aad→Prop} {Ex:aac→aad→Prop} (k:∀binds s1,Goes hB Θ lk s μ X H s1 μ X→cF Θ sc s1.heap μ X r binds→Q (sM binds) s1):aai (model pw w) A (bindArgs fd ⟨us,(kn.map nm).zip kvs⟩) Q Ex s:=
 kp_binds (hK.keeps fun b o e=>S.base b o e) hp _ A Ex Q (k _ _ (.refl S) hb)
theorem QM{x:Nat}{c:CS}{pos:List V}{kws:aR}(h:uI ⟨[x],[],[],none,c⟩ pos kws=some r):∃v,pos=[v]∧kws=[]∧r=[(x,v)]:=by
 cases pos with
 |nil=>cases kws<;>exact no1 h
 |cons v t=>
  cases t with
  |cons _ _=>exact no1 h
  |nil=>
   cases kws with
   |cons _ _=>exact no1 h
   |nil=>
    have e:uI ⟨[x],[],[],none,c⟩ [v] []=some [(x,v)]:=by
     show aT (match aK x [(x,v)] with|some v=>some [(x,v)]|none=>none) _=_
     rw[j8];rfl
    rw[e] at h;(first|(replace h:=(Z8 h).symm;subst h)|cases h);exact⟨v,rfl,rfl,rfl⟩
theorem bind1{x:Nat}{c:CS}(hK:K.In hB)(hp:∀u S,peek K S (bindArgs fd ⟨[u],[]⟩)=some [(nm x,u)])(hx:x<138∧(sc.lookup x=some .local∨sc.lookup x=some .cell)):oJ w hB ⟨[x],[],[],none,c⟩ sc fd:=fun Θ A s μ X H lk pos kws r us kvs Q Ex S e q qk k=>by
 obtain⟨v,rfl,rfl,rfl⟩:=QM e
 replace q:=q.inv;cases q with
 |cons q1 q2=>
  (replace q2:=q2.inv;cases q2)
  exact mS S hK (kn:=[]) (hp _) (cF.of (r:=[(x,v)]) (binds:=[(x,_)]) rfl (.cons q1 .nil) (by simp) (by intro y hy;rw[aaq.mp hy];exact hx)) k
theorem E4{x y:Nat}{c:CS}(hK:K.In hB)(hxy:aap x y=false∧aap y x=false)(hp:∀u v S,peek K S (bindArgs fd ⟨[u,v],[]⟩)=some [(nm x,u),(nm y,v)])
 (hx:x<138∧(sc.lookup x=some .local∨sc.lookup x=some .cell)) (hy:y<138∧(sc.lookup y=some .local∨sc.lookup y=some .cell)):oJ w hB ⟨[x,y],[],[],none,c⟩ sc fd:=fun Θ A s μ X H lk pos kws r us kvs Q Ex S e q qk k=>by
 have hr:∃v1 v2,pos=[v1,v2]∧kws=[]∧r=[(x,v1),(y,v2)]:=by
  rcases pos with _|⟨v1,_|⟨v2,_|⟨v3,t⟩⟩⟩
  ·cases kws with
   |nil=>exact no1 e
   |cons _ _=>exact no1 e
  ·cases kws with
   |nil=>
    have e:aT (aT (match aK y [(x,v1)] with|some v=>some [(y,v)]|none=>none) fun r=>match aK x [(x,v1)] with|some v=>some ((x,v)::r)|none=>none) _=some r:=e
    rw[uo hxy.2] at e;exact no1 e
   |cons _ _=>exact no1 e
  ·cases kws with
   |nil=>
    have e:aT (aT (match aK y [(x,v1),(y,v2)] with|some v=>some [(y,v)]|none=>none) fun r=>match aK x [(x,v1),(y,v2)] with|some v=>some ((x,v)::r)|none=>none) (fun r=>some r)=some r:=e
    rw[uo hxy.2,j8,j8] at e;(first|(replace e:=(Z8 e).symm;subst e)|cases e);exact⟨v1,v2,rfl,rfl,rfl⟩
   |cons _ _=>exact no1 e
  ·exact no1 e
 obtain⟨v1,v2,rfl,rfl,rfl⟩:=hr
 obtain⟨u1,_,rfl,q1,q2⟩:=q.more
 obtain⟨u2,rfl,q3⟩:=q2.one
 cases qk.zero
 have hne:¬x=y:=fun h=>by rw[h,abn] at hxy;cases hxy.1
 exact mS S hK (kn:=[]) (hp _ _) (cF.of (r:=[(x,v1),(y,v2)]) (binds:=[(x,u1),(y,u2)]) rfl (.cons q1 (.cons q3 .nil)) (by simp[hne]) (by
  intro z hz
  rcases aar.mp hz with rfl|hz
  ·exact hx
  ·rw[aaq.mp hz];exact hy)) k
end
end Internal
set_option maxHeartbeats 2000000
namespace Internal
open PySem PySem.W PyProof.Rows
section
variable{w:aaC}{hB:aal}{Θ:Th}{A:aav}{lk:List Nat}{s s':aad}{μ X:List Addr}{H:HP}{P:Params}{K:Frag}{fd:FuncData}{sc:List (Nat×aam)}{d:O2}{r:aR}
theorem BV(x:Nat)(v:V):∀g:aR,∃u,aK x (au g [(x,v)])=some u
 |[]=>⟨v,j8 x v []⟩
 |(y,u)::g=>by
  show∃z,aK x ((y,u)::au g [(x,v)])=some z
  cases hb:aap x y with
  |true=>rw[aan hb];exact⟨u,j8 y u _⟩
  |false=>rw[uo hb];exact BV x v g
theorem Xl{y:Nat}{kws g g':aR}(h:N1 [y] kws g=some g'):(kws=[]∧g'=g)∨∃v,kws=[(y,v)]∧g'=au g [(y,v)]:=by
 have step:∀{p:Nat×V}{t g g':aR},N1 [y] (p::t) g=some g'→p.1=y∧aK y g=none∧N1 [y] t (au g [p])=some g':=by
  intro p t g g' h
  have h:az (az (aap p.1 y) true false) (match aK p.1 g with|none=>N1 [y] t (au g [p])|some _=>none) none=some g':=h
  cases hb:aap p.1 y with
  |false=>rw[hb] at h;exact no1 h
  |true=>
   have e:=aan hb
   rw[hb,e] at h
   have h:(match aK y g with|none=>N1 [y] t (au g [p])|some _=>none)=some g':=h
   cases hr:aK y g with
   |none=>rw[hr] at h;exact⟨e,rfl,h⟩
   |some _=>rw[hr] at h;exact no1 h
 cases kws with
 |nil=>(first|(replace h:=Z8 h;subst h)|cases h);exact .inl ⟨rfl,rfl⟩
 |cons p t=>
  obtain⟨e1,_,h2⟩:=step h
  cases t with
  |nil=>(first|(replace h2:=(Z8 h2).symm;subst h2)|cases h2);exact .inr ⟨p.2,by rw[←e1],by rw[←e1]⟩
  |cons q t=>
   obtain⟨_,e2,_⟩:=step h2
   obtain⟨u,e3⟩:=BV y p.2 g
   rw[show p=(y,p.2) by rw[←e1],e3] at e2;exact no2 e2
noncomputable def BW(sc:List (Nat×aam))(l:List Nat):Bool:=l.all fun x=>decide (x<138)&&(decide (sc.lookup x=some .local)||decide (sc.lookup x=some .cell))
theorem cF.TN{binds:List (Nat×aac)}{h:aal}{l:List Nat}(hl:binds.map (·.1)=l)(hn:r.map (·.1)=l)(hv:VRs Θ h μ X (r.map (·.2)) (binds.map (·.2)))(nd:l.Nodup)(hk:BW sc l=true):cF Θ sc h μ X r binds:=
 .of (hn.trans hl.symm) hv (hl▸nd) fun x hx=>by
  have:=aaG.mp hk x (hl▸hx)
  simpa using this
theorem bindB{c:CS}{t:Tok}(hK:K.In hB)(hn:BW sc [3,4,1,5,0]=true)
 (h2:∀a b S,peek K S (bindArgs fd ⟨[a,b],[]⟩)=some (sM [(3,a),(4,b),(1,.int 0 t),(5,.none),(0,.none)]))
 (h3:∀a b e S,peek K S (bindArgs fd ⟨[a,b,e],[]⟩)=some (sM [(3,a),(4,b),(1,e),(5,.none),(0,.none)]))
 (h4:∀a b e f S,peek K S (bindArgs fd ⟨[a,b,e,f],[]⟩)=some (sM [(3,a),(4,b),(1,e),(5,f),(0,.none)]))
 (k2:∀a b k S,peek K S (bindArgs fd ⟨[a,b],[(nm 0,k)]⟩)=some (sM [(3,a),(4,b),(1,.int 0 t),(5,.none),(0,k)]))
 (k3:∀a b e k S,peek K S (bindArgs fd ⟨[a,b,e],[(nm 0,k)]⟩)=some (sM [(3,a),(4,b),(1,e),(5,.none),(0,k)]))
 (k4:∀a b e f k S,peek K S (bindArgs fd ⟨[a,b,e,f],[(nm 0,k)]⟩)=some (sM [(3,a),(4,b),(1,e),(5,f),(0,k)])):
 oJ w hB ⟨[3,4,1,5],[0],jH,none,c⟩ sc fd:=fun Θ A s μ X H lk pos kws r us kvs Q Ex S e q qk k=>by
 have nd:[3,4,1,5,0].Nodup:=by decide
 obtain⟨g,e1,e⟩:=ah e
 obtain⟨g',e2,e⟩:=ah e
 obtain⟨r',e3,e⟩:=ah e
 (first|(replace e:=(Z8 e).symm;subst e)|cases e)
 have e1:O4 [3,4,1,5] pos=some g:=e1
 have e2:N1 [0] kws g=some g':=e2
 have e3:HZ g' jH [3,4,1,5,0]=some r:=e3
 have fin:∀(binds:List (Nat×aac)),binds.map (·.1)=[3,4,1,5,0]→r.map (·.1)=[3,4,1,5,0]→VRs Θ s.heap μ X (r.map (·.2)) (binds.map (·.2))→(∀S,peek K S (bindArgs fd ⟨us,((kws.map (·.1)).map nm).zip kvs⟩)=some (sM binds))→aai (model pw w) A (bindArgs fd ⟨us,((kws.map (·.1)).map nm).zip kvs⟩) Q Ex s:=
  fun binds b1 b2 b3 b4=>mS S hK b4 (.TN b1 b2 b3 nd hn) k
 rcases Xl e2 with⟨rfl,rfl⟩|⟨kv,rfl,rfl⟩
 ·cases qk.zero
  rcases pos with _|⟨v1,_|⟨v2,_|⟨v3,_|⟨v4,_|⟨v5,vt⟩⟩⟩⟩⟩
  ·(first|(replace e1:=(Z8 e1).symm;subst e1)|cases e1);exact no1 e3
  ·(first|(replace e1:=(Z8 e1).symm;subst e1)|cases e1);exact no1 e3
  ·(first|(replace e1:=(Z8 e1).symm;subst e1)|cases e1);(first|(replace e3:=(Z8 e3).symm;subst e3)|cases e3)
   obtain⟨u1,_,rfl,q1,q⟩:=q.more
   obtain⟨u2,rfl,q2⟩:=q.one
   exact fin [(3,u1),(4,u2),(1,.int 0 t),(5,.none),(0,.none)] rfl rfl (.cons q1 (.cons q2 (.cons (.int _ _) (.cons .none (.cons .none .nil))))) (h2 _ _)
  ·(first|(replace e1:=(Z8 e1).symm;subst e1)|cases e1);(first|(replace e3:=(Z8 e3).symm;subst e3)|cases e3)
   obtain⟨u1,_,rfl,q1,q⟩:=q.more
   obtain⟨u2,_,rfl,q2,q⟩:=q.more
   obtain⟨u3,rfl,q3⟩:=q.one
   exact fin [(3,u1),(4,u2),(1,u3),(5,.none),(0,.none)] rfl rfl (.cons q1 (.cons q2 (.cons q3 (.cons .none (.cons .none .nil))))) (h3 _ _ _)
  ·(first|(replace e1:=(Z8 e1).symm;subst e1)|cases e1);(first|(replace e3:=(Z8 e3).symm;subst e3)|cases e3)
   obtain⟨u1,_,rfl,q1,q⟩:=q.more
   obtain⟨u2,_,rfl,q2,q⟩:=q.more
   obtain⟨u3,_,rfl,q3,q⟩:=q.more
   obtain⟨u4,rfl,q4⟩:=q.one
   exact fin [(3,u1),(4,u2),(1,u3),(5,u4),(0,.none)] rfl rfl (.cons q1 (.cons q2 (.cons q3 (.cons q4 (.cons .none .nil))))) (h4 _ _ _ _)
  ·exact no1 e1
 ·obtain⟨uk,rfl,TP⟩:=qk.one
  rcases pos with _|⟨v1,_|⟨v2,_|⟨v3,_|⟨v4,_|⟨v5,vt⟩⟩⟩⟩⟩
  ·(first|(replace e1:=(Z8 e1).symm;subst e1)|cases e1);exact no1 e3
  ·(first|(replace e1:=(Z8 e1).symm;subst e1)|cases e1);exact no1 e3
  ·(first|(replace e1:=(Z8 e1).symm;subst e1)|cases e1);(first|(replace e3:=(Z8 e3).symm;subst e3)|cases e3)
   obtain⟨u1,_,rfl,q1,q⟩:=q.more
   obtain⟨u2,rfl,q2⟩:=q.one
   exact fin [(3,u1),(4,u2),(1,.int 0 t),(5,.none),(0,uk)] rfl rfl (.cons q1 (.cons q2 (.cons (.int _ _) (.cons .none (.cons TP .nil))))) (k2 _ _ _)
  ·(first|(replace e1:=(Z8 e1).symm;subst e1)|cases e1);(first|(replace e3:=(Z8 e3).symm;subst e3)|cases e3)
   obtain⟨u1,_,rfl,q1,q⟩:=q.more
   obtain⟨u2,_,rfl,q2,q⟩:=q.more
   obtain⟨u3,rfl,q3⟩:=q.one
   exact fin [(3,u1),(4,u2),(1,u3),(5,.none),(0,uk)] rfl rfl (.cons q1 (.cons q2 (.cons q3 (.cons .none (.cons TP .nil))))) (k3 _ _ _ _)
  ·(first|(replace e1:=(Z8 e1).symm;subst e1)|cases e1);(first|(replace e3:=(Z8 e3).symm;subst e3)|cases e3)
   obtain⟨u1,_,rfl,q1,q⟩:=q.more
   obtain⟨u2,_,rfl,q2,q⟩:=q.more
   obtain⟨u3,_,rfl,q3,q⟩:=q.more
   obtain⟨u4,rfl,q4⟩:=q.one
   exact fin [(3,u1),(4,u2),(1,u3),(5,u4),(0,uk)] rfl rfl (.cons q1 (.cons q2 (.cons q3 (.cons q4 (.cons TP .nil))))) (k4 _ _ _ _ _)
  ·exact no1 e1
theorem QN{c:CS}(hK:K.In hB)(hn:BW sc [44,34,37]=true)(hp:∀a b k S,peek K S (bindArgs fd ⟨[a,b],[(nm 37,k)]⟩)=some (sM [(44,a),(34,b),(37,k)])):oJ w hB ⟨[44,34],[37],[],none,c⟩ sc fd:=fun Θ A s μ X H lk pos kws r us kvs Q Ex S e q qk k=>by
 obtain⟨g,e1,e⟩:=ah e
 obtain⟨g',e2,e⟩:=ah e
 obtain⟨r',e3,e⟩:=ah e
 (first|(replace e:=(Z8 e).symm;subst e)|cases e)
 have e1:O4 [44,34] pos=some g:=e1
 have e2:N1 [37] kws g=some g':=e2
 have e3:HZ g' [] [44,34,37]=some r:=e3
 rcases Xl e2 with⟨rfl,rfl⟩|⟨kv,rfl,rfl⟩
 ·rcases pos with _|⟨v1,_|⟨v2,_|⟨v3,t⟩⟩⟩
  ·(first|(replace e1:=(Z8 e1).symm;subst e1)|cases e1);exact no1 e3
  ·(first|(replace e1:=(Z8 e1).symm;subst e1)|cases e1);exact no1 e3
  ·(first|(replace e1:=(Z8 e1).symm;subst e1)|cases e1);exact no1 e3
  ·exact no1 e1
 ·obtain⟨uk,rfl,TP⟩:=qk.one
  rcases pos with _|⟨v1,_|⟨v2,_|⟨v3,t⟩⟩⟩
  ·(first|(replace e1:=(Z8 e1).symm;subst e1)|cases e1);exact no1 e3
  ·(first|(replace e1:=(Z8 e1).symm;subst e1)|cases e1);exact no1 e3
  ·(first|(replace e1:=(Z8 e1).symm;subst e1)|cases e1);(first|(replace e3:=(Z8 e3).symm;subst e3)|cases e3)
   obtain⟨u1,_,rfl,q1,q⟩:=q.more
   obtain⟨u2,rfl,q2⟩:=q.one
   exact mS S hK (hp _ _ _) (cF.TN (l:=[44,34,37]) (r:=[(44,v1),(34,v2),(37,kv)]) (binds:=[(44,u1),(34,u2),(37,uk)]) rfl rfl (.cons q1 (.cons q2 (.cons TP .nil))) (by decide) hn) k
  ·exact no1 e1
theorem TQ{c:CS}(hK:K.In hB)(hn:BW sc [81,82,83]=true)(hp:∀a b k S,peek K S (bindArgs fd ⟨[a,b,k],[]⟩)=some (sM [(81,a),(82,b),(83,k)])):oJ w hB ⟨[81,82,83],[],[],none,c⟩ sc fd:=fun Θ A s μ X H lk pos kws r us kvs Q Ex S e q qk k=>by
 rcases pos with _|⟨v1,_|⟨v2,_|⟨v3,_|⟨v4,t⟩⟩⟩⟩
 ·cases kws<;>exact no1 e
 ·cases kws<;>exact no1 e
 ·cases kws<;>exact no1 e
 ·cases kws with
  |cons _ _=>exact no1 e
  |nil=>
   (first|(replace e:=(Z8 e).symm;subst e)|cases e)
   cases qk.zero
   obtain⟨u1,_,rfl,q1,q⟩:=q.more
   obtain⟨u2,_,rfl,q2,q⟩:=q.more
   obtain⟨u3,rfl,q3⟩:=q.one
   exact mS S hK (kn:=[]) (hp _ _ _) (cF.TN (l:=[81,82,83]) (r:=[(81,v1),(82,v2),(83,v3)]) (binds:=[(81,u1),(82,u2),(83,u3)]) rfl rfl (.cons q1 (.cons q2 (.cons q3 .nil))) (by decide) hn) k
 ·exact no1 e
set_option tactic.hygienic true in
theorem BX{α:Type}{M:Model}{E:aac→aad→Prop}{Q:α→aad→Prop}{o:Obj}{r:Addr→α}(X:K.In s.heap)
 (q:Q (r s.heap.objs.size) {s with heap:=s.heap.push o}):∀(t:Sem α)(g:Addr→Option α),peek1 K ⟨M.prog,M.w.params⟩ t=some (o,g)→(∀D,g D=some (r D))→aai M A t Q E s:=by
 intro t
 induction t with
 |rule _ k ih=>intro g e hg Γ p hΓ;exact ih () g e hg Γ p hΓ
 |point _ k ih=>intro g e hg Γ p hΓ;exact ih () g e hg Γ p hΓ
 |ask k ih=>intro g e hg Γ p hΓ;exact ih _ g e hg Γ p hΓ
 |load a _ k ih=>
  intro g e hg Γ p hΓ
  simp only [peek1] at e
  split at e
  ·rename_i ob ho;exact⟨ob,X _ _ ho,ih ob g e hg Γ p hΓ⟩
  ·exact no1 e
 |alloc ob k _=>
  intro g e hg
  have e:some (ob,fun D=>peek K ⟨M.prog,M.w.params⟩ (k D))=some (o,g):=e
  obtain⟨e1,e2⟩:=ahB (Z8 e)
  subst e1
  subst e2
  have X':K.In (s.heap.push ob):=X.keeps fun b x hb=>aat _ hb
  show aai M A (alloc ob>>=k) Q E s
  refine aab (wpAny_alloc ?_)
  exact(Looks.of_peek (M:=M) (h:=s.heap.push ob) X' (hg s.heap.objs.size)).here (s:={s with heap:=s.heap.push ob}) q
 |_=>intro g e;exact no1 e
theorem TR{c:CS}(hK:K.In hB)(hn:BW sc [44,57,52,53]=true)
 (hp:∀a b k S,peek1 K S (bindArgs fd ⟨[a,b,k],[]⟩)=some (({cls:=.type "dict",data:=.dict #[]}:Obj),fun D=>some (sM [(44,a),(57,b),(52,k),(53,.ref D)]))) (h3:∃o,hB.get? 3=some o):oJ w hB ⟨[44,57,52],[],[],some 53,c⟩ sc fd:=fun Θ A s μ X H lk pos kws r us kvs Q Ex S e q qk k=>by
 rcases pos with _|⟨v1,_|⟨v2,_|⟨v3,_|⟨v4,t⟩⟩⟩⟩
 ·cases kws<;>exact no1 e
 ·cases kws<;>exact no1 e
 ·cases kws<;>exact no1 e
 ·cases kws with
  |cons _ _=>exact no1 e
  |nil=>
   (first|(replace e:=(Z8 e).symm;subst e)|cases e)
   cases qk.zero
   obtain⟨u1,_,rfl,q1,q⟩:=q.more
   obtain⟨u2,_,rfl,q2,q⟩:=q.more
   obtain⟨u3,rfl,q3⟩:=q.one
   have K2:∀a o,s.heap.get? a=some o→(s.heap.push ({cls:=.type "dict",data:=.dict #[]}:Obj)).get? a=some o:=fun a o e=>aat _ e
   have hf:s.heap.get? s.heap.objs.size=none:=aF _
   have g2:Goes hB Θ lk s μ X H {s with heap:=s.heap.push ({cls:=.type "dict",data:=.dict #[]}:Obj)} μ X:=⟨S.bE K2,.refl,.refl,.jJ K2,rfl,.refl _⟩
   obtain⟨o3,h3⟩:=h3
   have hl:=aa7 (S.base _ _ h3)
   refine BX (M:=model pw w) (A:=A) (hK.keeps fun b o e=>S.base b o e) ?_ _ _ (hp u1 u2 u3 _) (fun _=>rfl)
   refine k [(44,u1),(57,u2),(52,u3),(53,.ref s.heap.objs.size)] _ g2 (cF.TN (l:=[44,57,52,53]) rfl rfl (.cons (g2.vr S q1) (.cons (g2.vr S q2) (.cons (g2.vr S q3) (.cons (.dct (n:=0) (aaw _ rfl) ?_ (S.fresh hf)) .nil)))) (by decide) hn)
   rw[beq_eq_false_iff_ne]
   intro h
   rw[h] at hl
   exact absurd hl (by decide)
 ·exact no1 e
end
end Internal
set_option maxHeartbeats 2000000
namespace Internal
open PySem PySem.W PyProof.Rows
section
variable{w:aaC}{hB:aal}{P:Params}
noncomputable def gG(P:Params)(c:Addr):Array aac:=match(Kp P).lookup c with
 |some ⟨_,_,.fields vs,_⟩=>vs
 |_=>#[]
theorem df_0(hK:(Kp P).In hB):ek w hB 0 ⟨[3,4,1,5],[0],jH,none,iO⟩ eH dW 0:=
 bN (fd:=fW P 47) (c:=46) (vs:=gG P 46) (t:=294) tN hK ⋯ (by rw[sY];kernel_rfl) tG ⟨⋯,⋯,⋯⟩ ⋯ ⋯ ⋯ ⟨nofun,nofun⟩ (bindB (t:=291) hK (by decide) (fun _ _ _=>⋯) (fun _ _ _ _=>⋯) (fun _ _ _ _ _=>⋯) (fun _ _ _ _=>⋯) (fun _ _ _ _ _=>⋯) (fun _ _ _ _ _ _=>⋯))
theorem df_1(hK:(Kp P).In hB):ek w hB 1 ⟨[3,4,1,5],[0],jH,none,iP⟩ eN dX 0:=
 bN (fd:=fW P 56) (c:=55) (vs:=gG P 55) (t:=307) tP hK ⋯ (by rw[sZ];kernel_rfl) tH ⟨⋯,⋯,⋯⟩ ⋯ ⋯ ⋯ ⟨nofun,nofun⟩ (bindB (t:=304) hK (by decide) (fun _ _ _=>⋯) (fun _ _ _ _=>⋯) (fun _ _ _ _ _=>⋯) (fun _ _ _ _=>⋯) (fun _ _ _ _ _=>⋯) (fun _ _ _ _ _ _=>⋯))
theorem df_2(hK:(Kp P).In hB):ek w hB 2 ⟨[3,4,1,5],[0],jH,none,jD⟩ fB eW 0:=
 bN (fd:=fW P 65) (c:=64) (vs:=gG P 64) (t:=321) vX hK ⋯ (by rw[uK];kernel_rfl) vS ⟨⋯,⋯,⋯⟩ ⋯ ⋯ ⋯ ⟨nofun,nofun⟩ (bindB (t:=318) hK (by decide) (fun _ _ _=>⋯) (fun _ _ _ _=>⋯) (fun _ _ _ _ _=>⋯) (fun _ _ _ _=>⋯) (fun _ _ _ _ _=>⋯) (fun _ _ _ _ _ _=>⋯))
theorem df_3(hK:(Kp P).In hB):ek w hB 3 ⟨[3,4,1,5],[0],jH,none,jE⟩ fC eX 0:=
 bN (fd:=fW P 74) (c:=73) (vs:=gG P 73) (t:=334) vZ hK ⋯ (by rw[uL];kernel_rfl) vU ⟨⋯,⋯,⋯⟩ ⋯ ⋯ ⋯ ⟨nofun,nofun⟩ (bindB (t:=331) hK (by decide) (fun _ _ _=>⋯) (fun _ _ _ _=>⋯) (fun _ _ _ _ _=>⋯) (fun _ _ _ _=>⋯) (fun _ _ _ _ _=>⋯) (fun _ _ _ _ _ _=>⋯))
theorem df_4(hK:(Kp P).In hB):ek w hB 4 ⟨[11],[],[],none,bl⟩ bF bD 0:=
 bN (fd:=fW P 88) (c:=87) (vs:=gG P 87) (t:=358) i8 hK ⋯ (by rw[iT];kernel_rfl) i6 ⟨⋯,⋯,⋯⟩ ⋯ ⋯ ⋯ ⟨nofun,nofun⟩ (bind1 hK (fun _ _=>⋯) (by decide))
theorem df_5(hK:(Kp P).In hB):ek w hB 5 ⟨[11],[],[],none,cB⟩ cA cy 0:=
 bN (fd:=fW P 95) (c:=94) (vs:=gG P 94) (t:=370) lN hK ⋯ (by rw[lF];kernel_rfl) lK ⟨⋯,⋯,⋯⟩ ⋯ ⋯ ⋯ ⟨nofun,nofun⟩ (bind1 hK (fun _ _=>⋯) (by decide))
theorem df_6(hK:(Kp P).In hB):ek w hB 6 ⟨[24],[],[],none,bR⟩ bQ bM 0:=
 bN (fd:=fW P 102) (c:=101) (vs:=gG P 101) (t:=380) jP hK ⋯ (by rw[jI];kernel_rfl) jN ⟨⋯,⋯,⋯⟩ ⋯ ⋯ ⋯ ⟨nofun,nofun⟩ (bind1 hK (fun _ _=>⋯) (by decide))
theorem df_7(hK:(Kp P).In hB):ek w hB 7 ⟨[30],[],[],none,lU⟩ ie gz 0:=
 bN (fd:=fW P 124) (c:=123) (vs:=gG P 123) (t:=467) zW hK ⋯ (by rw[yU];kernel_rfl) zP ⟨⋯,⋯,⋯⟩ ⋯ ⋯ ⋯ ⟨nofun,nofun⟩ (bind1 hK (fun _ _=>⋯) (by decide))
theorem df_8(hK:(Kp P).In hB):ek w hB 8 ⟨[32],[],[],none,gQ⟩ dJ c9 0:=
 bN (fd:=fW P 131) (c:=130) (vs:=gG P 130) (t:=474) qB hK ⋯ (by rw[pK];kernel_rfl) qt ⟨⋯,⋯,⋯⟩ ⋯ ⋯ ⋯ ⟨nofun,nofun⟩ (bind1 hK (fun _ _=>⋯) (by decide))
theorem df_9(hK:(Kp P).In hB):ek w hB 9 ⟨[30],[],[],none,lV⟩ ig gA 0:=
 bN (fd:=fW P 138) (c:=137) (vs:=gG P 137) (t:=481) zY hK ⋯ (by rw[yV];kernel_rfl) zQ ⟨⋯,⋯,⋯⟩ ⋯ ⋯ ⋯ ⟨nofun,nofun⟩ (bind1 hK (fun _ _=>⋯) (by decide))
theorem df_10(hK:(Kp P).In hB):ek w hB 10 ⟨[44,34],[37],[],none,dg⟩ bK bG 0:=
 bN (fd:=fW P 183) (c:=182) (vs:=gG P 182) (t:=616) jm hK ⋯ (by rw[jf];kernel_rfl) jk ⟨⋯,⋯,⋯⟩ ⋯ ⋯ ⋯ ⟨nofun,nofun⟩ (QN hK (by decide) (fun _ _ _ _=>⋯))
theorem df_11(hK:(Kp P).In hB):ek w hB 11 ⟨[44,37],[],[],none,lW⟩ ir gC 0:=
 bN (fd:=fW P 221) (c:=220) (vs:=gG P 220) (t:=664) z0 hK ⋯ (by rw[yZ];kernel_rfl) zR ⟨⋯,⋯,⋯⟩ ⋯ ⋯ ⋯ ⟨nofun,nofun⟩ (E4 hK ⟨rfl,rfl⟩ (fun _ _ _=>⋯) (by decide) (by decide))
theorem df_12(hK:(Kp P).In hB):ek w hB 12 ⟨[44],[],[],none,uG⟩ lT j7 0:=
 bN (fd:=fW P 234) (c:=233) (vs:=gG P 233) (t:=681) G8 hK ⋯ (by rw[Fy];kernel_rfl) G6 ⟨⋯,⋯,⋯⟩ ⋯ ⋯ ⋯ ⟨nofun,nofun⟩ (bind1 hK (fun _ _=>⋯) (by decide))
theorem df_13(hK:(Kp P).In hB):ek w hB 13 ⟨[44],[],[],none,qY⟩ jW i0 0:=
 bN (fd:=fW P 246) (c:=245) (vs:=gG P 245) (t:=693) DM hK ⋯ (by rw[CF];kernel_rfl) DK ⟨⋯,⋯,⋯⟩ ⋯ ⋯ ⋯ ⟨nofun,nofun⟩ (bind1 hK (fun _ _=>⋯) (by decide))
theorem df_14(hK:(Kp P).In hB):ek w hB 14 ⟨[44,57,52],[],[],some 53,iR⟩ eO dY 0:=
 bN (fd:=fW P 279) (c:=278) (vs:=gG P 278) (t:=729) tR hK ⋯ (by rw[s9];kernel_rfl) tK ⟨⋯,⋯,⋯⟩ ⋯ ⋯ ⋯ ⟨nofun,nofun⟩ (TR hK (by decide) (fun _ _ _ _=>⋯) ⟨_,hK 3 _ OC⟩)
theorem df_15(hK:(Kp P).In hB):ek w hB 15 ⟨[60],[],[],none,gq⟩ gj fF 0:=
 bN (fd:=fW P 291) (c:=290) (vs:=gG P 290) (t:=753) xe hK ⋯ (by rw[wQ];kernel_rfl) w9 ⟨⋯,⋯,⋯⟩ ⋯ ⋯ ⋯ ⟨nofun,nofun⟩ (bind1 hK (fun _ _=>⋯) (by decide))
theorem df_16(hK:(Kp P).In hB):ek w hB 16 ⟨[65,66],[],[],none,iS⟩ eT dZ 0:=
 bN (fd:=fW P 296) (c:=295) (vs:=gG P 295) (t:=759) tT hK ⋯ (by rw[s8];kernel_rfl) tL ⟨⋯,⋯,⋯⟩ ⋯ ⋯ ⋯ ⟨nofun,nofun⟩ (E4 hK ⟨rfl,rfl⟩ (fun _ _ _=>⋯) (by decide) (by decide))
theorem df_17(hK:(Kp P).In hB):ek w hB 17 ⟨[65,66],[],[],none,lY⟩ iu gD 0:=
 bN (fd:=fW P 303) (c:=302) (vs:=gG P 302) (t:=765) z4 hK ⋯ (by rw[yW];kernel_rfl) zS ⟨⋯,⋯,⋯⟩ ⋯ ⋯ ⋯ ⟨nofun,nofun⟩ (E4 hK ⟨rfl,rfl⟩ (fun _ _ _=>⋯) (by decide) (by decide))
theorem df_18(hK:(Kp P).In hB):ek w hB 18 ⟨[75],[],[],none,lZ⟩ iw gE 200:=
 bN (fd:=fW P 310) (c:=309) (vs:=gG P 309) (t:=777) z6 hK ⋯ (by rw[yX];kernel_rfl) zT ⟨⋯,⋯,⋯⟩ ⋯ ⋯ ⋯ ⟨fun _=>⟨⋯,⋯⟩,nofun⟩ (bind1 hK (fun _ _=>⋯) (by decide))
theorem df_19(hK:(Kp P).In hB):ek w hB 19 ⟨[81,82,83],[],[],none,l5⟩ iy gF 0:=
 bN (fd:=fW P 317) (c:=316) (vs:=gG P 316) (t:=786) z8 hK ⋯ (by rw[yY];kernel_rfl) zU ⟨⋯,⋯,⋯⟩ ⋯ ⋯ ⋯ ⟨nofun,nofun⟩ (TQ hK (by decide) (fun _ _ _ _=>⋯))
theorem df_20(hK:(Kp P).In hB):ek w hB 20 ⟨[81,66],[],[],none,jG⟩ fD eY 0:=
 bN (fd:=fW P 324) (c:=323) (vs:=gG P 323) (t:=797) we hK ⋯ (by rw[uM];kernel_rfl) vV ⟨⋯,⋯,⋯⟩ ⋯ ⋯ ⋯ ⟨nofun,nofun⟩ (E4 hK ⟨rfl,rfl⟩ (fun _ _ _=>⋯) (by decide) (by decide))
theorem QO(hK:(Kp P).In hB):zL w hB Kz KA KC:=⟨fun k d hd=>by
 have hk:k<21:=by
  rw[eU] at hd
  exact(aay.mp hd).1
 match k,hk,hd with
 |0,_,hd=>exact Z8 hd▸df_0 hK
 |1,_,hd=>exact Z8 hd▸df_1 hK
 |2,_,hd=>exact Z8 hd▸df_2 hK
 |3,_,hd=>exact Z8 hd▸df_3 hK
 |4,_,hd=>exact Z8 hd▸df_4 hK
 |5,_,hd=>exact Z8 hd▸df_5 hK
 |6,_,hd=>exact Z8 hd▸df_6 hK
 |7,_,hd=>exact Z8 hd▸df_7 hK
 |8,_,hd=>exact Z8 hd▸df_8 hK
 |9,_,hd=>exact Z8 hd▸df_9 hK
 |10,_,hd=>exact Z8 hd▸df_10 hK
 |11,_,hd=>exact Z8 hd▸df_11 hK
 |12,_,hd=>exact Z8 hd▸df_12 hK
 |13,_,hd=>exact Z8 hd▸df_13 hK
 |14,_,hd=>exact Z8 hd▸df_14 hK
 |15,_,hd=>exact Z8 hd▸df_15 hK
 |16,_,hd=>exact Z8 hd▸df_16 hK
 |17,_,hd=>exact Z8 hd▸df_17 hK
 |18,_,hd=>exact Z8 hd▸df_18 hK
 |19,_,hd=>exact Z8 hd▸df_19 hK
 |20,_,hd=>exact Z8 hd▸df_20 hK
 |k+21,hk,_=>exact absurd hk (by omega)⟩
end
end Internal
set_option maxHeartbeats 2000000
namespace Internal
open PySem PySem.W PyProof.Rows
section
variable{w:aaC}{h:aal}{P:Params}{p:Program}{loose:List Str}{mean:ExcName→Option aac}{mg mb:Str→Option aac}
theorem K9(P:Params):(acF 22).all (fun k=>keepIn (Kp P) (.ref (fu k)))=true:=⋯
noncomputable def UR:V→Bool
 |.bi _=>true|_=>false
noncomputable def US:V→aac
 |.fn k=>.ref (fu k)|.pat p=>.ref (kD p)|.bi b=>xw b|.str l=>.str (bu l) 464|_=>.none
noncomputable def TS:V→Bool
 |.fn k=>aba k 22|.pat _=>true|.bi _=>true|.str _=>true|_=>false
theorem TU{v:V}(h:TS v=true):GV v (US v):=by
 cases v with
 |fn k=>exact .fn k (aak h)
 |pat p=>exact .pat p
 |bi b=>exact .bi b
 |str l=>exact .str l _
 |_=>exact nb1 h
theorem Zx(P:Params):xr.map (fun p=>nsFind (QL P) (nm p.1))=xr.map (fun p=>az (UR p.2) none (some (US p.2))):=⋯
theorem Zy:xr.map (fun p=>az (UR p.2) (bootBuiltins (nm p.1)) none)=xr.map (fun p=>az (UR p.2) (some (US p.2)) none):=⋯
theorem Zz:xr.all (fun p=>TS p.2&&!(nm p.1==("__name__":Str)))=true:=by decide+kernel
theorem ZA(P:Params):rj.map (fun p=>nsFind (QL P) (nm p.1))=rj.map (fun p=>az (aap p.1 17) (some p.2) none):=⋯
theorem ZC:rj.map (fun p=>az (aap p.1 17) none (bootBuiltins (nm p.1)))=rj.map (fun p=>az (aap p.1 17) none (some p.2)):=⋯
theorem ZD:rj.all (fun p=>!(nm p.1==("__name__":Str)))=true:=by decide+kernel
theorem TV(P:Params):RE.all (fun p=>match instMeth p.2 with|none=>true|some k=>aba k 22&&(aeN (Kp P) 282 (nm p.1)&&(isFn (Kp P) (.ref (fu k))&&!(nm p.1==hdr))))=true:=⋯
theorem QT(P:Params):RE.map (fun p=>match instMeth p.2 with|none=>none|some k=>findIn (Kp P) (.ref 282) (nm p.1))=RE.map (fun p=>match instMeth p.2 with|none=>none|some k=>some (some (.ref (fu k)))):=⋯
theorem Ny(hK:(Kp P++Kt).In h)(T:Top p loose mean mg mb h):xF (Kp P) (mQ h) where
 Rd:=qD hK
 keeps k hk:=aaG.mp (K9 P) k (adm.mpr hk)
 meths n m k h1 h2:=by
  have h3:=aaG.mp (TV P) _ (jT h1)
  have h4:=acO.mp (QT P) _ (jT h1)
  dsimp only at h3 h4
  rw[h2] at h3 h4
  simp only [abq,aa9,beq_eq_false_iff_ne] at h3
  exact⟨aak h3.1,h3.2.1,h4,h3.2.2.1,h3.2.2.2⟩
 Sk:=⟨⋯,⋯,⋯⟩
 glob:=by
  have hm:=K8 hK T.g
  have hb:∀x:Str,x≠"__name__"→mb x=bootBuiltins x:=T.builtins
  refine⟨mg,mb,qF (by decide) T.g,qF (by decide) T.b,fun x v e=>?_,fun x u e=>?_,?_⟩
  ·have e:=jT e
   have h1:=acO.mp (Zx P) _ e
   have h2:=acO.mp Zy _ e
   have h3:=aaG.mp Zz _ e
   dsimp only at h1 h2 h3
   simp only [abq,aa9,beq_eq_false_iff_ne] at h3
   refine⟨US v,TU h3.1,?_⟩
   rw[←hm] at h1
   cases hq:UR v with
   |false=>rw[hq] at h1;exact .inl h1
   |true=>rw[hq] at h1 h2;exact .inr ⟨h1,(hb _ h3.2).trans h2⟩
  ·have e:=jT e
   have h1:=acO.mp (ZA P) _ e
   have h2:=acO.mp ZC _ e
   have h3:=aaG.mp ZD _ e
   dsimp only at h1 h2 h3
   simp only [aa9,beq_eq_false_iff_ne] at h3
   rw[←hm] at h1
   cases hq:aap x 17 with
   |true=>rw[hq] at h1;exact .inl h1
   |false=>rw[hq] at h1 h2;exact .inr ⟨h1,(hb _ h3).trans h2⟩
  ·exact⟨4,_,(hm _).trans ⋯,by decide,by decide,qD hK 4 ⟨.type "module",some 0,.plain,#[]⟩ ⋯,rfl,rfl,rfl⟩
 nolimit:=by
  obtain⟨mc,h1,h2⟩:=T.nolimit
  exact⟨mc,qF (by decide) h1,h2⟩
noncomputable def sP(P:Params)(hB:aal):Prop:=∃mg mb,hB.Ns mainGlobals mg∧hB.Ns builtinsNs mb∧(∀x,mg x=nsFind (QL P) x)∧∀x:Str,x≠"__name__"→mb x=bootBuiltins x
theorem La(hK:(Kp P++Kt).In h)(T:Top p loose mean mg mb h):sP P (mQ h):=⟨mg,mb,qF (by decide) T.g,qF (by decide) T.b,K8 hK T.g,T.builtins⟩
end
end Internal
set_option maxHeartbeats 2000000
namespace Internal
open PySem PySem.W PyProof.Rows
section
variable{w:aaC}{hB:aal}{Θ:Th}{A:aav}{s s':aad}{μ X X2:List Addr}{H H1 H2:HP}{P:Params}{K:Frag}{n:Nat}{r r1 r2:aR}{ks:Kinds}{C:Cx}{env:Env}{Q:Flow→aad→Prop}{Ex:aac→aad→Prop}
noncomputable def wJ(v:V):Prop:=∀(Θ:Th)(h:aal)(μ aG X:List Addr)(u:aac),VR Θ h μ X v u→VR Θ h aG X v u
theorem wJ.all{Θ:Th}{h:aal}{μ X:List Addr}(aG:List Addr){l:List V}{xs:List aac}(q:VRs Θ h μ X l xs)(i:∀v∈l,wJ v):VRs Θ h aG X l xs:=by
 induction l generalizing xs with
 |nil=>rw[q.zero];exact .nil
 |cons v l ih=>
  obtain⟨x,xs,rfl,q1,q2⟩:=q.more
  exact .cons (i _ (aae ..) _ _ _ _ _ _ q1) (ih q2 fun v hv=>i v (aaf _ hv))
theorem wJ.int(i:Int):wJ (.int i):=fun _ _ _ _ _ _ q=>by(replace q:=q.inv;cases q);exact .int _ _
theorem wJ.str(l:List Nat):wJ (.str l):=fun _ _ _ _ _ _ q=>by(replace q:=q.inv;cases q);exact .str _ _
theorem wJ.lst{l:List V}(i:∀v∈l,wJ v):wJ (.lst l):=fun _ _ _ _ _ _ q=>by
 replace q:=q.inv;cases q with
 |lst ha hX hl=>exact .lst ha hX (wJ.all _ hl i)
noncomputable def LJ(Θ:Th)(v v':V):Prop:=∀h μ X u,VR Θ h μ X v u→VR Θ h (μ.take 2) X v' u
theorem wJ.abs{Θ:Th}{v:V}(i:wJ v):LJ Θ v v:=fun _ _ _ _ q=>i _ _ _ _ _ _ q
theorem LJ.ref{Θ:Th}{m:Nat}(hm:m<2):LJ Θ (.ref m) (.ref m):=fun _ _ _ _ q=>by
 replace q:=q.inv;cases q with
 |ref hn=>exact .ref ((ac6 hm).trans hn)
theorem St.take2{h:aal}(S:St hB Θ h μ X H)(i:∀m l,m<2→H[m]?=some l→∀v∈l,wJ v):St hB Θ h (μ.take 2) X (H.take 2) where
 base:=S.base
 gK:=S.gK
 lG:=S.lG
 wH:=fun a ha=>S.wH a (abz ha)
 old:=S.old
 nodup:=S.nodup.sublist (aga _ _)
 len:=by rw[abH,abH,S.len]
 obj:=fun m l e=>by
  by_cases hm:m<2
  ·rw[ac6 hm] at e
   obtain⟨a,xs,e1,e2,e3⟩:=S.obj m l e
   exact⟨a,xs,(ac6 hm).trans e1,e2,wJ.all _ e3 (i m l hm e)⟩
  ·rw[List.getElem?_take_eq_none (abt.mp hm)] at e;exact no1 e
 tab:=S.tab
theorem jg.take2{h:aal}(B:jg hB A h μ X):jg hB A h (μ.take 2) X:=B.move fun L m _ hn hX hm _=>⟨hX,fun q=>hm (abz q),m,hn⟩
theorem uf.take2{lk:List Nat}(g:uf hB Θ lk ks env s [] X H s' μ X2)(i:∀m l,m<2→H[m]?=some l→∀v∈l,wJ v):uf hB Θ lk ks env s [] X (H.take 2) s' (μ.take 2) X2:=
 ⟨g.st.take2 i,by
  obtain⟨ν,e,k⟩:=g.gm
  rw[aaZ] at e
  subst e
  exact⟨μ.take 2,rfl,fun a ha=>k a (abz ha)⟩,g.gx,g.keep,g.os,g.gens⟩
theorem FR.abs{h:aal}(F:FR hB Θ ks env r h μ X)(e:∀x v,aK x r2=some v→∃v0,aK x r=some v0∧LJ Θ v0 v):FR hB Θ ks env r2 h (μ.take 2) X:=
 F.move (fun x v q=>(e x v q).imp fun v0 p=>⟨p.1,fun u h=>p.2 _ _ _ _ h⟩) (fun m hn=>⟨m,hn,fun _ _ _=>rfl⟩) (fun _ _ _ _ _ _ hc hX=>⟨hc,hX⟩) F.kG
theorem BY(E0:fy w K hB Θ n){l2:List Stmt}(tp:vC A env)(l:List Internal.S)(ok:sO ks l=true){r:aR}{s:aad}{μ X:List Addr}{H:HP}(Y:Ready hB Θ n ks C A env r s μ X H)(e:iH l C r H=.ok (.on r1) H1)
 (k:∀s' aG X',uf hB Θ C.lk ks env s μ X H1 s' aG X'→Ready hB Θ n ks C A env r1 s' aG X' H1→aai (model pw w) A (execs l2 env) Q Ex s'):aai (model pw w) A (execs (gR l++l2) env) Q Ex s:=by
 induction l generalizing r s μ X H with
 |nil=>cases e;exact k s μ X (Goes.refl Y.st).xR Y
 |cons st l ih=>
  have ok:=aa1.mp (show(Nx ks st&&sO ks l)=true from ok)
  replace e:(cS st C r H).bind (fun f H=>match f with|.on r=>iH l C r H|.back v=>.ok (.back v) H)=.ok (.on r1) H1:=e
  refine abp (aas (K5 E0 ks st ok.1 C A env r s μ X H Y tp fun h=>by rw[h] at e;exact nW e) (fun f s' h=>?_) fun x s' h=>?_)
  ·obtain⟨fl,H',aG,X',e1,g,B',q⟩:=h
   rw[e1] at e
   cases fl with
   |back v=>cases e
   |on r'=>
    obtain⟨rfl,F'⟩:=q
    exact ih ok.2 ⟨Y.cx,B',F',g.st⟩ e fun s'' bZ gJ g' Y'=>k s'' bZ gJ (g.trans g') Y'
  ·obtain⟨c,m,H',aG,X',e0,e1,_⟩:=h
   rw[e1] at e;exact LM e
theorem Hf{fd:FuncData}(h1:fd.params=(aq 33).1)(h2:fd.defaults=.none)(h3:fd.kwdefaults=.none)(u:aac):bindArgs fd ⟨[u],[]⟩=pure (sM [(92,u)]):=by
 obtain⟨a1,a2,a3,a4,a5,a6,a7,a8,a9,S9,Zl,Zm,Zn,Zo,Zp⟩:=fd
 subst h1 h2 h3
 kernel_rfl
theorem Nz(l m:List Internal.S):gR (l++m)=gR l++gR m:=by
 induction l with
 |nil=>rfl
 |cons s l ih=>exact congrArg (dS s::·) ih
theorem yf:sO (iZ k7 201) (bk.take 13)=true∧sO (iZ k7 201) (bk.drop 13)=true:=⟨⋯,⋯⟩
theorem Lb(E0:fy w (Kp P) hB Θ 6)(hK:(Kp P).In hB)(hA:A.frames=some [])(hh:A.handled=none)(hd:A.depth+7≤600)(hu:A.units+140≤9000){par:Bool}(hp:par=decide (Θ.T%2=1)){u:aac}{v:V}(S:St hB Θ s.heap [] X [])(q:VR Θ s.heap [] X v u)
 (e1:iH (bk.take 13) (cx par) [(92,v)] []=.ok (.on r1) H1) (eI:∀m l,m<2→H1[m]?=some l→∀v∈l,wJ v) (e2:∀x v,aK x r2=some v→∃v0,aK x r1=some v0∧LJ Θ v0 v) (e3:iH (bk.drop 13) (cx par) r2 (H1.take 2)=.ok (.back (.bool true)) H2) {Ex:aac→aad→Prop}:
 aai (model pw w) A (call (.ref 329) [u]) (fun x s'=>x=.bool true∧∃aG X',Goes hB Θ [] s [] X H2 s' aG X') Ex s:=by
 have B:jg hB A s.heap [] X:=⟨[],hA,fun _ h=>by cases h⟩
 have k1:=hK 329 ⟨.type "function",none,.func (fW P 329),[].toArray⟩ ⋯
 have k2:=hK 328 ⟨.type "code",none,.fields (gG P 328),[].toArray⟩ ⋯
 have f1:(fW P 329).body=.stmts (gR bk):=by rw[O5];kernel_rfl
 have f2:(fW P 329).scope=(aq 33).2.2:=⋯
 have f3:(fW P 329).globals=mainGlobals:=⋯
 have f4:(fW P 329).closure=[]:=⋯
 have f5:(fW P 329).builtins=builtinsNs:=⋯
 have f6:(fW P 329).code=.ref 328:=⋯
 have f7:(fW P 329).qualname++".<locals>."=Z9 "law.<locals>.":=⋯
 have f8:(gG P 328)[1]?=some (.str (fW P 329).qualname 809):=⋯
 have f9:(fW P 329).params=(aq 33).1:=⋯
 have ZE:(fW P 329).defaults=.none:=⋯
 have ZF:(fW P 329).kwdefaults=.none:=⋯
 generalize fW P 329=fd at*
 obtain⟨d1,d2,d3,d4⟩:=QA
 have ho:=S.base _ _ k1
 have hroom:A.depth<recursionLimit:=by show A.depth<1000;omega
 refine aee (ady hroom ho rfl (by rw[f2];exact d3) (by rw[f2];exact d4) f1 ⟨328,_,_,809,f6,S.base _ _ k2,rfl,f8⟩ ?_)
 rw[Hf f9 ZE ZF]
 refine aag ?_
 rw[f3,f4,f5]
 have b1:cF Θ k7 s.heap [] X [(92,v)] [(92,u)]:=cF.TN (l:=[92]) rfl rfl (.cons q .nil) (by decide) ⋯
 refine vK (C:=cx par) QB (by rw[f2];exact d1) (by rw[f2];exact d2) (cd:=201) ⟨nofun,fun _=>⟨f6,f7⟩⟩ ⟨hp,rfl,fun h=>hh,by show A.depth+1+6≤600;omega,by show A.units+3+20*6≤9000;omega⟩ B S b1 fun env s2 X2 Fr=>?_
 refine⟨E0.fix.base.nolimit.keeps fun b o e=>Fr.go.st.base b o e,?_⟩
 have tp:vC (A.deeper env) env:=⟨by show A.frames.map (env::·)=_;rw[hA];rfl,Fr.frame⟩
 have main:aai (model pw w) (A.deeper env) (execs (gR bk) env) (QS hB Θ (A.deeper env) [] (iZ k7 201) env s2 [] X2 (.ok (.back (.bool true)) H2)) (ES hB Θ (A.deeper env) [] (iZ k7 201) env s2 [] X2 (.ok (.back (.bool true)) H2:R Fl)) s2:=by
  rw[show bk=bk.take 13++bk.drop 13 from(List.take_append_drop 13 bk).symm,Nz]
  refine BY E0 (C:=cx par) tp _ yf.1 Fr.ready e1 fun s3 wU X3 g3 Y3=>?_
  refine aas (z9 E0 _ _ yf.2 (cx par) (A.deeper env) env r2 s3 (wU.take 2) X3 (H1.take 2) ⟨Y3.cx,Y3.ja.take2,Y3.fr.abs e2,Y3.st.take2 eI⟩ tp fun h=>by rw[e3] at h;exact Ry h) (fun f s' h=>?_) fun x s' h=>?_
  ·obtain⟨fl,H',aG,X',a1,a2,a3,a4⟩:=h
   rw[e3] at a1;cases a1
   exact⟨_,_,aG,X',rfl,(g3.take2 eI).trans a2,a3,a4⟩
  ·obtain⟨c,m,H',aG,X',e0,a1,_⟩:=h
   rw[e3] at a1;exact U5 a1
 have:=BI (C:=cx par) (l:=gR bk) S B Fr main
 refine codeAny_mono this fun r' s' h=>?_
 cases r' with
 |ok f=>
  cases f with
  |ret v=>
   obtain⟨v',H',aG,X',h1,h2,h3⟩:=h
   cases h1
   (replace h3:=h3.inv;cases h3)
   exact⟨rfl,aG,X',h2⟩
  |_=>exact h
 |error e=>
  obtain⟨c,m,H',aG,X',e0,a1,_⟩:=h
  exact U5 a1
end
end Internal
set_option maxHeartbeats 2000000
namespace Internal
open PySem PySem.W PyProof.Rows
structure Aa(w:aaC)(hB:aal)(Θ:Th):Prop where
 ps:mq w
 mr:mz w hB Θ
 hdr:BJ w hB Θ
 fK:∀n,BP w hB Θ n
structure E5(l:List Int)(Θ:Th)(par:Bool):Prop where
 th:ji Θ
 hp:par=decide (Θ.T%2=1)
 run:∃r1 H1 r2 H2,iH (bk.take 13) (cx par) [(92,.lst (l.map .int))] []=.ok (.on r1) H1∧(∀m l,m<2→H1[m]?=some l→∀v∈l,wJ v)∧(∀x v,aK x r2=some v→∃v0,aK x r1=some v0∧LJ Θ v0 v)∧iH (bk.drop 13) (cx par) r2 (H1.take 2)=.ok (.back (.bool true)) H2
theorem NB{R:WRecords}{ds:List WData}(h:ae6 R ds .int=true):∃l:List Int,ds=l.map .int:=by
 induction ds with
 |nil=>exact⟨[],rfl⟩
 |cons d ds ih=>
  have h:(ah0 R d .int&&ae6 R ds .int)=true:=h
  rw[abq] at h
  obtain⟨h1,h2⟩:=h
  obtain⟨l,rfl⟩:=ih h2
  cases d with
  |int i=>exact⟨i::l,rfl⟩
  |_=>exact nb1 h1
theorem Lc{P:Params}{h:aal}{Θ:Th}{μ X:List Addr}:∀{l:List Int}{vs:List aac},WellAll P h vs (l.map .int)→VRs Θ h μ X (l.map .int) vs
 |[],_,.nil=>.nil
 |_::_,_,.cons h1 h2=>by
  cases h1
  exact .cons (.int _ _) (Lc h2)
theorem QU{args:List WData}(h:PySem.Challenge.rw_ta0097_01.row.toRowW.claim.pre args=true):∃l:List Int,args=[.list (l.map .int)]∧l.length≤63:=by
 obtain⟨h1,h2⟩:=pre_splitW h
 have ea:PySem.Challenge.rw_ta0097_01.row.toRowW.args=[.list .int]:=rfl
 have ep:PySem.Challenge.rw_ta0097_01.row.toRowW.pre=.and (.not (.lt (.lit (.int 63)) (.len (.arg 0)))) (.lit (.bool true)):=rfl
 rw[ea] at h1
 rw[ep] at h2
 generalize PySem.Challenge.rw_ta0097_01.row.toRowW.records=R at h1 h2
 cases args with
 |nil=>exact nb1 h1
 |cons d t=>
  have h1:(ah0 R d (.list .int)&&WShape.hasAll R t [])=true:=h1
  rw[abq] at h1
  obtain⟨g1,g3⟩:=h1
  clear h1
  cases t with
  |cons _ _=>exact nb1 g3
  |nil=>
   cases d with
   |list ds=>
    have g1:(ae6 R ds .int||false)=true:=g1
    rw[Bool.or_false] at g1
    obtain⟨l,rfl⟩:=NB g1
    refine⟨l,rfl,?_⟩
    have h2:WTm.holds R (.and (.not (.lit (.bool (decide ((63:Int)<((l.map WData.int).length:Int)))))) (.lit (.bool true))) {args:=[.list (l.map .int)]}=true:=h2
    rw[aaj] at h2
    refine abt.mp fun q=>?_
    have e:decide ((63:Int)<(l.length:Int))=true:=decide_eq_true (abK.mpr q)
    rw[e] at h2
    exact nb1 h2
   |_=>exact nb1 g1
theorem walk(rest:∀w hB Θ,(Kp w.params).In hB→xF (Kp w.params) hB→sP w.params hB→ji Θ→Aa w hB Θ)(run:∀l:List Int,l.length≤63→∃Θ par,E5 l Θ par):
 WalkO vw y9 (XL vw []) (ahh hk) PySem.Challenge.rw_ta0097_01.row.toRowW l6 [] fun f vs=>agR f vs:=by
 intro w s₀ s₁ mg mb G Y a o pm cd doc dV kV ho hd hcd hD hmg hgens args vals as hpre hlay hrd hwl hlo
 have hK:(Kp w.params++Kt).In s₁.heap:=kIn_of Y
 have ha:a=329:=by
  have e:=K8 hK G.T.g (Z9 "law")
  have hmg:mg (Z9 "law")=some (.ref a):=hmg
  have e2:nsFind (QL w.params) (Z9 "law")=some (.ref 329):=⋯
  rw[hmg,e2] at e
  (first|(replace e:=(Z8 e).symm;subst e)|cases e);rfl
 subst ha
 obtain⟨l,rfl,hl⟩:=QU hpre
 obtain⟨Θ,par,R⟩:=run l hl
 obtain⟨r1,H1,r2,H2,e1,eI,e2,e3⟩:=R.run
 have hB:=Ny hK G.T
 have RB:=rest w (mQ s₁.heap) Θ (qD hK) hB (La hK G.T) R.th
 have E0:=QJ ⟨R.th,hB,RB.ps⟩ RB.mr RB.hdr (QO (qD hK)) RB.fK 6
 have t1:s₁.heap.get? 305=some (tabObj #[]):=hK _ _ ⋯
 have t2:s₁.heap.get? 326=some (tabObj #[]):=hK _ _ ⋯
 have tA:∀b∈ao,s₁.heap.get? b=some (tabObj #[]):=fun b hb=>by
  rcases aar.mp hb with rfl|hb
  ·exact t1
  ·rw[aaq.mp hb];exact t2
 have c1:=hK 309 ⟨.type "code",none,.fields (gG w.params 309),[].toArray⟩ ⋯
 have c2:=hK 328 ⟨.type "code",none,.fields (gG w.params 328),[].toArray⟩ ⋯
 have S:St (mQ s₁.heap) Θ s₁.heap [] ao []:=by
  refine⟨fun b o e=>(K7 e).2,fun b hb=>wg _ hb,fun b hb=>hb,nofun,fun b hb=>⟨_,tA b hb⟩,.nil,rfl,fun n l e=>(by exact no1 e),fun p hp=>?_⟩
  rcases aar.mp hp with rfl|hp
  ·exact⟨⟨_,_,_,_,_,_,_,_,_,c1,rfl,rfl,(⋯:(gG w.params 309)[11]?=some (.ref 305)),⋯,(⋯:_=abI (Z9 "/claim/cut.py") 783),(⋯:_=acK 3 0),(⋯:_=ah1 true),(⋯:_=acK 276 0),by decide⟩,by decide,_,t1,trivial,fun pos cv e=>(by exact no1 e)⟩
  ·rw[aaq.mp hp]
   exact⟨⟨_,_,_,_,_,_,_,_,_,c2,rfl,rfl,(⋯:(gG w.params 328)[11]?=some (.ref 326)),⋯,(⋯:_=abI (Z9 "/claim/cut.py") 812),(⋯:_=acK 3 0),(⋯:_=ah1 true),(⋯:_=acK 276 0),by decide⟩,by decide,_,t2,trivial,fun pos cv e=>(by exact no1 e)⟩
 cases hwl with
 |cons hw1 P7=>
 cases P7
 cases hw1 with
 |@list u vs _ hu hvs=>
 have q:VR Θ s₁.heap [] ao (.lst (l.map .int)) (.ref u):=.lst ⟨0,hu⟩ (fun hm=>by rw[tA u hm] at hu;(first|(replace hu:=(Z8 hu).symm;subst hu)|cases hu)) (Lc hvs)
 show aai (model pw w) callerA (agR (.ref 329) [.ref u]) _ _ s₁
 refine aas (Lb E0 (qD hK) (A:=callerA) rfl rfl (by decide) (by decide) R.hp S q e1 eI e2 e3 (Ex:=fun _ _=>False)) (fun v s' h=>?_) fun _ _ h=>h.elim
 obtain⟨rfl,aG,X',g⟩:=h
 refine⟨.inl ⟨_,.bool true,[],rfl,fun _=>rfl,.bool true,⋯,fun _=>⟨.nil,nofun⟩⟩,⟨fun b o e=>?_,g.keep.2⟩,g.os,fun y hy=>?_⟩
 ·by_cases hb:b∈ao
  ·refine .inr (.inl ?_)
   rw[tA b hb] at e;(first|(replace e:=(Z8 e).symm;subst e)|cases e)
   rcases aar.mp hb with rfl|hb
   ·obtain⟨vs',e',_⟩:=(g.st.tab (309,305) (by decide)).ent
    exact⟨⟨309,_,_,c1,rfl,rfl,⋯⟩,rfl,#[],vs',rfl,by rw[e'];simp⟩
   ·rw[aaq.mp hb]
    obtain⟨vs',e',_⟩:=(g.st.tab (328,326) (by decide)).ent
    exact⟨⟨328,_,_,c2,rfl,rfl,⋯⟩,rfl,#[],vs',rfl,by rw[e'];simp⟩
  ·exact .inl (g.keep.1 b o e fun q=>q.elim hb fun q=>q.elim fun _ q=>no1 q.1)
 ·obtain⟨i,hi,e⟩:=Array.getElem_of_mem hy
  exact g.gens.2.2 i y (by rw[hgens];exact abk _) (by rw[aep hi,e])
theorem holds_of(rest:∀w hB Θ,(Kp w.params).In hB→xF (Kp w.params) hB→sP w.params hB→ji Θ→Aa w hB Θ)(run:∀l:List Int,l.length≤63→∃Θ par,E5 l Θ par):PySem.Challenge.rw_ta0097_01.Holds:=LZ (walk rest run)
end Internal
set_option maxHeartbeats 2000000
namespace Internal
open PySem PySem.W PyProof.Rows
section
variable{w:aaC}{hB:aal}{Θ:Th}{A:aav}{s s':aad}{μ X:List Addr}{H:HP}{P:Params}{env:Env}{Ex:aac→aad→Prop}
noncomputable def Ld:Str:=Z9 "self"
noncomputable def hds:Str:=Z9 "headers"
theorem yg(hK:(Kp P).In hB){a c:Addr}{t:Tok}{q:Str}(e1:(fW P a).code=.ref c)(e2:(fW P a).qualname=q)(e6:(Kp P).lookup c=some ⟨.type "code",none,.fields (gG P c),[].toArray⟩)(e7:(gG P c)[1]?=some (.str q t)):hB.CodeRec (fW P a).code (fW P a).qualname:=
 ⟨c,_,_,t,e1,hK _ _ e6,rfl,by rw[e2];exact e7⟩
theorem yh{x y:Str}{np yp p:Pos}{f v:aac}{Q:aac→aad→Prop}(hf:∀Q':aac→aad→Prop,Q' f s→aai (model pw w) A (eval (.Name x np) env) Q' Ex s)(hk:jL (model pw w) f s.heap)
 (hv:∀Q':aac→aad→Prop,Q' v s→aai (model pw w) A (eval (.Name y yp) env) Q' Ex s) (h:aai (model pw w) A (call f [v]) Q Ex s):aai (model pw w) A (eval (.Call (.Name x np) [.Name y yp] [] p) env) Q Ex s:=by
 refine aew (hf _ ?_)
 refine aev (P:=jL (model pw w) f) rfl (fun h p=>p) ?_
 refine fh rfl rfl ?_
 refine g8 (hv _ ?_)
 exact aag (aag ⟨hk,h⟩)
noncomputable def OD:List Stmt:=[
 .Assign [.Name hds (ps 135 8 135 15)] (.IfExp (.Compare (.Name hds (ps 135 29 135 36)) [.IsNot] [.Constant .none 0 (ps 135 44 135 48)] (ps 135 29 135 48)) (.Name hds (ps 135 18 135 25)) (.List [] (ps 135 54 135 56)) (ps 135 18 135 56)) (ps 135 8 135 56),
 .If (.Compare (.Call (.Name (Z9 "type") (ps 136 11 136 15)) [.Name hds (ps 136 16 136 23)] [] (ps 136 11 136 24)) [.IsNot] [.Name (Z9 "list") (ps 136 32 136 36)] (ps 136 11 136 36))
  [.Raise (some (.Call (.Name (Z9 "TypeError") (ps 137 18 137 27)) [.Constant (.str (Z9 "Headers must be a list of name/value tuples")) 0 (ps 137 28 137 73)] [] (ps 137 18 137 74))) none (ps 137 12 137 74)] [] (ps 136 8 137 74),
 .Assign [.Attribute (.Name Ld (ps 138 8 138 12)) hdr (ps 138 8 138 21)] (.Name hds (ps 138 24 138 31)) (ps 138 8 138 31),
 .If (.Constant (.bool true) 0 (ps 139 11 139 20)) [.For (.Tuple [.Name (Z9 "k") (ps 140 16 140 17),.Name (Z9 "v") (ps 140 19 140 20)] 0 (ps 140 16 140 20)) (.Name hds (ps 140 24 140 31)) (match(aW 0).2.1[3]? with|some (PySem.Stmt.If _ [PySem.Stmt.For _ _ b _ _] _ _)=>b|_=>[]) [] (ps 140 12 142 56)] [] (ps 139 8 142 56)]
theorem Le:(fW P 176).body=.stmts OD:=⋯
theorem QV(hK:(Kp w.params).In hB)(BG:xF (Kp w.params) hB)(BN:sP w.params hB):BJ w hB Θ:=by
 intro A s μ X H lk Ex hh hd hu B S
 obtain⟨mg,mb,hg,hb,hmg,hmb⟩:=BN
 have S0:=S
 obtain⟨h,g,d,t,os⟩:=s
 have X0:(Kp w.params).In h:=hK.keeps S.base
 refine Rw fun PP hPP=>?_
 refine aee (make_core (makes_of X0 ⋯) (looks_findIn X0 (r:=some (.ref 176)) ⋯) (fun self=>bind_fn X0 self ⋯) (.inl rfl) ?_)
 have k1:∀b o,h.get? b=some o→((h.push acr).push (instObj 282 h.objs.size)).get? b=some o:=fun b o e=>aat _ (aat _ e)
 have g1:((h.push acr).push (instObj 282 h.objs.size)).get? (h.objs.size+1)=some (instObj 282 h.objs.size):=by heap_get
 have g2:((h.push acr).push (instObj 282 h.objs.size)).get? h.objs.size=some acr:=by heap_get
 have sz:((h.push acr).push (instObj 282 h.objs.size)).objs.size=h.objs.size+2:=by rw[adt,adt]
 generalize(h.push acr).push (instObj 282 h.objs.size)=h1 at*
 have X1:=X0.keeps k1
 refine ady (body:=OD) (by show A.depth+_<1000;have:(Code.builtin "type.__call__" ⟨[.ref 282],[]⟩).weight≤1:=(by decide);omega) (X1 176 ⟨.type "function",none,.func (fW w.params 176),[].toArray⟩ ⋯) rfl ⋯ ⋯ Le
  (yg X1 (c:=175) (t:=606) (q:=Z9 "Headers.__init__") ⋯ ⋯ ⋯ ⋯) ?_
 refine kp_binds X1 (binds:=[(Ld,.ref (h.objs.size+1)),(hds,.none)]) (fun _=>⋯) _ _ _ _ ?_
 have f3:(fW w.params 176).globals=mainGlobals:=⋯
 have f5:(fW w.params 176).builtins=builtinsNs:=⋯
 have f4:(fW w.params 176).scope=(aW 0).2.2:=⋯
 rw[f3,f4,f5]
 generalize(fW w.params 176).qualname++".<locals>."=qn
 generalize(fW w.params 176).code=cdv
 generalize(fW w.params 176).closure=Wb
 have hsc:(aW 0).2.2.names=[(Ld,.local),(hds,.local),(Z9 "k",.local),(Z9 "v",.local),(Z9 "type",.globalImplicit),(Z9 "list",.globalImplicit),(Z9 "TypeError",.globalImplicit),(Z9 "__debug__",.globalImplicit)]:=⋯
 refine afr (by rw[hsc];decide) (by rw[hsc];intro x hx;simp only [aar,aaM,or_false] at hx;rcases hx with rfl|rfl<;>kernel_rfl) (fun h2 hns UT=>?_) ⋯
 have kd:∀(y:Str)(e:Env),e.scope=(aW 0).2.2→e.kindOf y=(aW 0).2.2.names.lookup y:=fun y e he=>by
  unfold Env.kindOf;rw[he]
 generalize Ab:newEnv (aW 0).2.2 h1.objs.size mainGlobals Wb qn (some 176) cdv none builtinsNs=env
 have eS:env.scope=(aW 0).2.2:=by rw[←Ab];rfl
 have eL:env.locals=h1.objs.size:=by rw[←Ab];rfl
 have eG:env.globals=mainGlobals:=by rw[←Ab];rfl
 have eB:env.builtins=builtinsNs:=by rw[←Ab];rfl
 have eK:env.scope.kind=.function:=by rw[eS];kernel_rfl
 have k2:∀b o,h1.get? b=some o→h2.get? b=some o:=fun b o e=>UT.extBut b o (abx (aa7 e)) (aat _ e)
 have kk:∀b o,h.get? b=some o→h2.get? b=some o:=fun b o e=>k2 b o (k1 b o e)
 refine⟨BG.nolimit.keeps fun b o e=>kk b o (S.base b o e),codeAny_func ?_⟩
 have F2:Fr h env.locals h2 (fun y=>[(Ld,aaH (h.objs.size+1)),(hds,.none)].reverse.lookup y):=⟨by rw[eL];exact hns,kk,by rw[eL,sz];omega⟩
 have n1:h.get? (h.objs.size+1)=none:=abT (aeu _)
 have n0:h.get? h.objs.size=none:=aF _
 have N2:News h env.locals h2 [(h.objs.size+1,instObj 282 h.objs.size),(h.objs.size,dictOf [] 0)]:=fun p hp=>by
  simp only [aar,aaM,or_false] at hp
  rcases hp with rfl|rfl
  ·exact⟨k2 _ _ g1,by rw[eL,sz];show h.objs.size+1≠h.objs.size+2;omega,n1⟩
  ·exact⟨k2 _ _ g2,by rw[eL,sz];show h.objs.size≠h.objs.size+2;omega,n0⟩
 have TX:∀{y:Str}{p:Pos}{s':aad}{m:Str→Option aac}{v:aac}{Q:aac→aad→Prop}{E:aac→aad→Prop}{A':aav},(aW 0).2.2.names.lookup y=some .local→(y==("__debug__":Str))=false→Fr h env.locals s'.heap m→m y=some v→Q v s'→aai (model pw w) A' (eval (.Name y p) env) Q E s':=
  fun hy hd F hv q=>ade (acR eK ((kd _ _ eS).trans hy) F.ns hv q) hd
 have gl:∀{y:Str}{p:Pos}{s':aad}{v:aac}{Q:aac→aad→Prop}{E:aac→aad→Prop}{A':aav},(aW 0).2.2.names.lookup y=some .globalImplicit→(y==("__debug__":Str))=false→(∀b o,h.get? b=some o→s'.heap.get? b=some o)→nsFind (QL w.params) y=none→y≠"__name__"→bootBuiltins y=some v→Q v s'→aai (model pw w) A' (eval (.Name y p) env) Q E s':=
  fun hy hd hk h1 h2 h3 q=>ade (acG eK ((kd _ _ eS).trans hy) (abM (by rw[eG];exact hg.at' fun o e=>hk _ o (S.base _ o e)) ((hmg _).trans h1) (by rw[eB];exact hb.at' fun o e=>hk _ o (S.base _ o e)) ((hmb _ h2).trans h3) q)) hd
 have lh:(aW 0).2.2.names.lookup hds=some .local:=⋯
 have ls:(aW 0).2.2.names.lookup Ld=some .local:=⋯
 have lt:(aW 0).2.2.names.lookup (Z9 "type")=some .globalImplicit:=⋯
 have ll:(aW 0).2.2.names.lookup (Z9 "list")=some .globalImplicit:=⋯
 have dh:(hds==("__debug__":Str))=false:=⋯
 have ds:(Ld==("__debug__":Str))=false:=⋯
 have ZG:hds≠Ld:=by decide+kernel
 refine abp (acq (wpAny_IfExp (acL (TX lh dh F2 (⋯:_=some abd) (aft (isNot_none (abY ?_)))))))
 refine agY (aag ⟨abk _,?_⟩)
 have F3:=F2.push {cls:=.type "list",data:=.seq ([]:List aac).toArray}
 have N3:=N2.push F2 {cls:=.type "list",data:=.seq ([]:List aac).toArray}
 have hr0:h.get? h2.objs.size=none:=by
  cases e:h.get? h2.objs.size with
  |none=>rfl
  |some o=>have:=kk _ _ e;rw[aF] at this;exact no1 this
 generalize h2.objs.size=r0 at*
 generalize h2.push {cls:=.type "list",data:=.seq ([]:List aac).toArray}=h3 at*
 refine aa6 ((kd _ _ eS).trans lh) F3.ns (fun h4 ZH Ro=>?_) (by rw[eK];rfl)
 have F4:Fr h env.locals h4 _:=⟨ZH,fun b o e=>(Ro.2 b (fun q=>by rw[q] at e;exact absurd (aa7 e) (abt.mpr F3.above))).trans (F3.keep b o e),F3.above⟩
 have N4:News h env.locals h4 _:=fun p hp=>by obtain⟨a,b,c⟩:=N3 p hp;exact⟨(Ro.2 p.1 b).trans a,b,c⟩
 have mh:(fun x=>if x=hds then some (aaH r0) else[(Ld,aaH (h.objs.size+1)),(hds,.none)].reverse.lookup x) hds=some (aaH r0):=if_pos rfl
 have ms:(fun x=>if x=hds then some (aaH r0) else[(Ld,aaH (h.objs.size+1)),(hds,.none)].reverse.lookup x) Ld=some (aaH (h.objs.size+1)):=(if_neg fun e=>ZG e.symm).trans ⋯
 generalize(fun x=>if x=hds then some (aaH r0) else[(Ld,aaH (h.objs.size+1)),(hds,.none)].reverse.lookup x)=m4 at*
 have Wc:h4.get? r0=some {cls:=.type "list",data:=.seq ([]:List aac).toArray}:=(N4 _ (aae ..)).1
 refine abp (wpAny_If (acL (yh (fun Q' q=>gl lt ⋯ F4.keep ⋯ (by decide+kernel) (⋯:_=some (adF "type")) q) j5 (fun Q' q=>TX lh dh F4 mh q)
  (agd (Tx:="list") ⟨_,Wc,rfl⟩ (by decide+kernel) (gl ll ⋯ F4.keep ⋯ (by decide+kernel) (⋯:_=some (adF "list")) (af8 rfl (abY ?_)))))))
 refine acm ?_
 have ne1:r0≠h.objs.size:=fun q=>by rw[q] at Wc;have:=(N4 (h.objs.size,dictOf [] 0) (by simp)).1;rw[Wc] at this;have:adF "list"=adF "dict":=congrArg Obj.cls (Z8 this);exact absurd this (by decide)
 have Rg:=(N4 (h.objs.size+1,instObj 282 h.objs.size) (by simp)).1
 have Ve:=(N4 (h.objs.size,dictOf [] 0) (by simp)).1
 refine abp (plainObj_wpAny_Assign_Attribute (TX lh dh F4 mh (TX ls ds F4 ms ?_)))
 refine set_dict (K:=Kp w.params) (C:=282) (es:=[]) (n:=0) F4 X0 N4 ⟨Rg,rfl,rfl,Ve⟩ rfl ⋯ ⋯ ⋯ ⋯ rfl rfl (.tail ne1 (.tail (ab8 _) (.head (by simp)))) (aak rfl) fun h5 F5 N5=>?_
 have P8:=(N5 _ (aae ..)).1
 refine abp (wpAny_If (aea (ab3 (abY ?_))))
 rw[if_pos rfl]
 refine abp (wpAny_For (TX lh dh F5 mh (aez (items:=#[]) ⟨_,P8,rfl,_,rfl⟩ ?_)))
 have F6:=F5.push {cls:=.type "list_iterator",data:=.fields #[.ref r0,.int 0 0]}
 have N6:=N5.push F5 {cls:=.type "list_iterator",data:=.fields #[.ref r0,.int 0 0]}
 have hi0:h.get? h5.objs.size=none:=by
  cases e:h.get? h5.objs.size with
  |none=>rfl
  |some o=>have:=F5.keep _ _ e;rw[aF] at this;exact no1 this
 have ZI:h5.objs.size≠r0:=(abx (aa7 P8)).symm
 have hit:=(N6 _ (aae ..)).1
 refine sC (fun _ s'=>s'.heap=h5.push {cls:=.type "list_iterator",data:=.fields #[.ref r0,.int 0 0]}∧s'.gens=g∧s'.os=os) (fun n s' e=>?_) 0 ⟨rfl,rfl,rfl⟩
 obtain⟨e1,e2,e3⟩:=e
 refine adx hh (l:=r0) (i:=0) (items:=#[]) (by rw[e1];exact⟨_,hit,rfl,rfl⟩) (by rw[e1];exact⟨_,aat _ P8,rfl,_,rfl⟩) rfl fun h6 he=>?_
 refine acm (acm (acm ⟨rfl,?_⟩))
 rw[e1] at he
 have K6:∀b o,b≠h5.objs.size→(h5.push {cls:=.type "list_iterator",data:=.fields #[.ref r0,.int 0 0]}).get? b=some o→h6.get? b=some o:=fun b o hb e=>he b o hb e
 have kf:∀b o,h.get? b=some o→h6.get? b=some o:=fun b o e=>K6 b o (fun q=>by rw[q,hi0] at e;exact no1 e) (F6.keep b o e)
 have UU:h6.get? r0=some {cls:=.type "list",data:=.seq ([]:List aac).toArray}:=K6 _ _ ZI.symm (N6 _ (.tail _ (.head _))).1
 have Xm:=K6 _ _ (fun q=>by have:=(N5 _ (.tail _ (.head _))).1;rw[q,aF] at this;exact no1 this) (N6 _ (.tail _ (.tail _ (.head _)))).1
 have ZJ:=K6 _ _ (fun q=>by have:=(N5 _ (.tail _ (.tail _ (.head _)))).1;rw[q,aF] at this;exact no1 this) (N6 _ (.tail _ (.tail _ (.tail _ (.head _))))).1
 have gN:Goes hB Θ lk ⟨h,g,d,t,os⟩ μ X (au H [[]]) {s' with heap:=h6} (μ++[r0]) (X++[r0]):=Goes.l8 S0 kf hr0 (xs:=[]) ⟨_,UU⟩ .nil e3 e2
 refine hPP _ _ ⟨μ++[r0],X++[r0],gN,.inst (r:=r0) ?_ Xm ZJ (fun name=>?_) ?_ ?_⟩
 ·rw[aN,←S0.len];simp
 ·show getL name [⟨_,.str hdr _,.ref r0⟩]=_
  unfold getL
  by_cases hn:name=hdr
  ·rw[if_pos hn,hn]
   simp[ahL]
  ·rw[if_neg hn]
   have:(hdr==name)=false:=beq_eq_false_iff_ne.mpr fun q=>hn q.symm
   simp[ahL,this,agA]
 ·intro q
  rcases aaW.mp q with q|q
  ·exact S0.fresh n1 q
  ·have q:=aaq.mp q
   rw[←q] at UU;rw[Xm] at UU;exact absurd (congrArg Obj.dict (Z8 UU)) (by simp)
 ·intro q
  rcases aaW.mp q with q|q
  ·exact S0.fresh n0 q
  ·exact ne1 (aaq.mp q).symm
end
end Internal
set_option maxHeartbeats 2000000
namespace Internal
open PySem PySem.W PyProof.Rows
section
variable{w:aaC}{A:aav}{s:aad}{E:aac→aad→Prop}
theorem Wd:kas_sort 2=.ask 1 0 fun c=>.ret (if c=true then #[1,0] else #[0,1]):=by
 show KasT.ask 1 0 _=_
 refine congrArg _ (funext fun c=>?_)
 cases c<;>kernel_rfl
theorem NC{x y:Addr}{i j:Int}{t u t' u':Tok}{p q:List Nat}(hx:s.heap.IsTuple x #[.int i t,.str (bu p) t']) (hy:s.heap.IsTuple y #[.int j u,.str (bu q) u']) {Q:Bool→aad→Prop} (h:Q (HG (i,p) (j,q)) s):
 aai (model pw w) A (keyLt' (tuples' true) (.ref x) (.ref y)) Q E s:=by
 obtain⟨ox,e1,_,n1,d1⟩:=hx
 obtain⟨oy,e2,_,n2,d2⟩:=hy
 refine kat_lt e1 d1 e2 d2 (kat_cons ?_)
 refine(afe i j t u).at A s _ _ _ _ ?_
 have hp:HG (i,p) (j,q)=az (uz i j) (HR p q) (jS i j):=rfl
 have hd:decide (i=j)=(i==j):=by rw[abF];simp
 rw[hp,kH,hd] at h
 refine kat_go (fun e=>kat_yes (kat_cons ?_)) (fun e=>kat_no ?_)
 ·rw[e] at h
  refine(ae8 (bu p) (bu q) t' u').at A s _ _ _ _ ?_
  have h:Q (HR p q) s:=h
  rw[zf]
  refine kat_go (fun e=>kat_yes (kat_nil ?_)) (fun e=>kat_no (kat_one _ _ ?_))
  ·have:=of_decide_eq_true e
   subst this
   have hl:HR p p=false:=by rw[zb];simp[List.lt_irrefl]
   rw[hl] at h
   exact h
  ·rw[zb] at h
   exact afw h
 ·rw[e] at h
  have h:Q (jS i j) s:=h
  rw[fM] at h
  exact oneLt_int h
theorem j9{h:aal}{o:Obj}{b:Addr}{x:Obj}(e:h.get? b=some x):(h.push o).get? b=some x:=aat _ e
theorem Ac{h:aal}{f:Obj→Obj}{a b:Addr}{x:Obj}(hn:a≠b)(e:h.get? b=some x):(h.update a f).get? b=some x:=(aaS h f hn).trans e
theorem DO{D a b:Addr}{i j:Int}{t u t' u':Tok}{p q:List Nat}{n:Nat}{P:ab7→aad→Prop}(ho:s.heap.get? D=some (seqObj "list" #[.ref a,.ref b] n)) (ha:s.heap.IsTuple a #[.int i t,.str (bu p) t']) (hb:s.heap.IsTuple b #[.int j u,.str (bu q) u'])
 (k:∀h' n',(∀c o,c≠D→s.heap.get? c=some o→h'.get? c=some o)→h'.get? D=some (seqObj "list" (if HG (j,q) (i,p) then #[.ref b,.ref a] else #[.ref a,.ref b]) n')→P (.done (.ret .none)) {s with heap:=h'}):
 aai (model pw w) A (Builtin.«list.sort» ⟨[.ref D],[]⟩) P E s:=by
 have ne:∀{c:Addr}{xs:Array aac},s.heap.IsTuple c xs→D≠c:=fun x q=>by
  obtain⟨o,e,hc,_⟩:=x
  rw[←q,ho] at e;(first|(replace e:=(Z8 e).symm;subst e)|cases e)
  have:adF "list"=adF "tuple":=hc
  exact absurd this (by decide)
 obtain⟨e1,Xn⟩:∃e1,(s.heap.update D (aa4 fun _=>(#[]:Array aac))).get? D=some (seqObj "list" #[] e1):=⟨_,agQ ho fun _=>#[]⟩
 rw[list_sort_plain]
 refine aab (listItems_at ho rfl ?_)
 refine aab (listUpdate_at ho rfl ?_ (by rw[aeC];exact aak rfl) (abk _))
 refine aab (seqEpoch_at Xn rfl ?_)
 refine aab (wpAny_newTuple ?_ (by rw[aeC];exact aak rfl))
 refine aab (aeH ?_ (abk _))
 refine aaP ?_
 have K1:∀c o,c≠D→s.heap.get? c=some o→(((s.heap.update D (aa4 fun _=>(#[]:Array aac))).push (seqObj "tuple" #[.ref a,.ref b] 0)).push (seqObj "list" #[] 0)).get? c=some o:=fun c o hc e=>j9 (j9 (Ac (acp hc) e))
 have ho2:(((s.heap.update D (aa4 fun _=>(#[]:Array aac))).push (seqObj "tuple" #[.ref a,.ref b] 0)).push (seqObj "list" #[] 0)).get? D=some (seqObj "list" #[] e1):=j9 (j9 Xn)
 show aai _ _ _ _ _ {s with heap:=((s.heap.update D (aa4 fun _=>(#[]:Array aac))).push (seqObj "tuple" #[.ref a,.ref b] 0)).push (seqObj "list" #[] 0)}
 have ha2:=bW ha fun o e=>K1 a o (ne ha).symm e
 have hb2:=bW hb fun o e=>K1 b o (ne hb).symm e
 generalize((s.heap.update D (aa4 fun _=>(#[]:Array aac))).push (seqObj "tuple" #[.ref a,.ref b] 0)).push (seqObj "list" #[] 0)=h2 at*
 dsimp only
 have hn2:¬(#[aaH a,aaH b].size<2):=aeD 2
 rw[if_neg hn2,if_neg hn2]
 have hk:aai (model pw w) A (keyKind' #[.ref a,.ref b]) (fun κ s'=>s'={s with heap:=h2}∧κ=tuples' true) E {s with heap:=h2}:=by
  obtain⟨oa,a1,a2,_,a3⟩:=ha2
  obtain⟨ob,b1,b2,_,b3⟩:=hb2
  refine kat_kind (vs:=[.ref a,.ref b]) (fs:=[.int i t,.int j u]) (T:=.type "int") (.cons a1 a2 a3 rfl (.cons b1 b2 b3 rfl .nil)) (adV _) (fun v hv=>?_) (by decide) ⟨rfl,rfl⟩
  simp only [aar,aaM,or_false] at hv
  rcases hv with rfl|rfl<;>exact Looks.of_pure rfl
 refine aab (aas hk (fun κ s0 hk=>?_) fun _ _ x=>x)
 obtain⟨rfl,rfl⟩:=hk
 have ask:(kas_sort [aaH a,.ref b].length).kasWp (kas_ask pw w A (tuples' true) [aaH a,.ref b]) (fun r s'=>s'={s with heap:=h2}∧r=if HG (j,q) (i,p)=true then #[1,0] else #[0,1]) {s with heap:=h2}:=by
  show(kas_sort 2).kasWp _ _ _
  rw[Wd]
  exact NC (s:={s with heap:=h2}) hb2 ha2 ⟨rfl,rfl⟩
 refine aab (aas (kat_run (vs:=[aaH a,.ref b]) (ks:=[aaH a,.ref b]) (Q:=fun st' s'=>∃r:Array Nat,arrOf st'=r.map (kas_item ([aaH a,.ref b].toArray.zip [aaH a,.ref b].toArray))∧failedOf st'=none∧s'={s with heap:=h2}∧r=if HG (j,q) (i,p)=true then #[1,0] else #[0,1])
  rfl (aaA 2) (aak rfl) (fun r st' s' _ a2 a3 a4=>⟨r,a2,a3,a4.1,a4.2⟩) ask) ?_ fun _ _ e=>e)
 rintro ⟨⟨⟩,st'⟩ s' ⟨r,har,hf,rfl,hr⟩
 dsimp only
 have hout:=kat_snds (vs:=[aaH a,.ref b]) (ks:=[aaH a,.ref b]) rfl har
 have hsz:((arrOf st').map (·.2))=if HG (j,q) (i,p)=true then #[aaH b,.ref a] else #[aaH a,.ref b]:=by
  rw[hout,hr];cases HG (j,q) (i,p)<;>rfl
 rw[hsz]
 refine aab (seqEpoch_at ho2 rfl ?_)
 refine aab (listUpdate_at ho2 rfl ?_ (abk _) (by rw[aeC];cases HG (j,q) (i,p)<;>exact aak rfl))
 rw[hf]
 simp only [bne_self_eq_false,abl,if_false]
 refine aag (k _ _ (fun c o hc e=>Ac (acp hc) (K1 c o hc e)) (agQ ho2 _))
theorem yi:mq w:=by
 intro A E s l a b i j t u t' u' p q Q hu hl ha hb k
 refine Calls.call_function_entry kind_sorted plain_sorted entry_sorted (args_sorted1 _) ?_
 unfold Builtin.«sorted»
 refine aab (m:=checkCount "sorted" 1 1 _) (aag ?_)
 refine aab (collect_list (vs:=[.ref a,.ref b]) hl ?_ (by rw[aeC];exact aak rfl))
 refine aab (aeH ?_ (by rw[aeC];exact aak rfl))
 have hsz:((s.heap.push (seqObj "list" #[] 0)).update s.heap.objs.size (aa4 (· ++[aaH a,.ref b].toArray))).objs.size=s.heap.objs.size+1:=by rw[Heap.size_update,size_push']
 have K1:∀c o,s.heap.get? c=some o→(((s.heap.push (seqObj "list" #[] 0)).update s.heap.objs.size (aa4 (· ++[aaH a,.ref b].toArray))).push (seqObj "list" [aaH a,.ref b].toArray 0)).get? c=some o:=
  fun c o e=>j9 (Ac (adW (aa7 e)) (j9 e))
 have hD:(((s.heap.push (seqObj "list" #[] 0)).update s.heap.objs.size (aa4 (· ++[aaH a,.ref b].toArray))).push (seqObj "list" [aaH a,.ref b].toArray 0)).get? (s.heap.objs.size+1)=some (seqObj "list" [aaH a,.ref b].toArray 0):=by
  rw[←hsz];exact aaw _ rfl
 show aai _ _ _ _ _ {s with heap:=((s.heap.push (seqObj "list" #[] 0)).update s.heap.objs.size (aa4 (· ++[aaH a,.ref b].toArray))).push (seqObj "list" [aaH a,.ref b].toArray 0)}
 rw[hsz]
 generalize((s.heap.push (seqObj "list" #[] 0)).update s.heap.objs.size (aa4 (· ++[aaH a,.ref b].toArray))).push (seqObj "list" [aaH a,.ref b].toArray 0)=h1 at*
 refine aab (aaP (acT slot_list_sort ⟨_,hD,rfl⟩ entry_list_sort ?_ (args_list_sort _)))
 refine DO hD (bW ha fun o e=>K1 a o e) (bW hb fun o e=>K1 b o e) fun h' n' k' Sz=>⟨_,rfl,aag ⟨_,rfl,?_⟩⟩
 have hn:s.heap.get? (s.heap.objs.size+1)=none:=abT (aeu _)
 exact k h' _ s.toks (fun c o e=>k' c o (fun q=>by rw[q,hn] at e;exact no1 e) (K1 c o e)) hn ⟨n',Sz⟩
end
open PySem.SeqAt
section
variable{w:aaC}{A:aav}{s s₀ s':aad}{l:List Nat}{t:Tok}{L E I:Addr}{i:Nat}{fK:Bool}{c:Nat}{env:Env}{h h' hB:aal}{p:Pos}{P:Params}
theorem Lf{a:Addr}{g n:Nat}{gs:GenState}{P:Nat→aad→aad→Prop}{Y:Protocol}{Q:Option aac→aad→Prop}{Ex:aac→aad→Prop}(hh:A.handled=none)(hl:s.heap.NoLimit)(hroom:A.depth<recursionLimit)
 (hg:s.heap.IsGen a g) (hgs:s.gens[g]?=some gs)
 (hgo:gs.Goes (model pw w) A.in1 (fun n s₀ r s₁=>r=.ok (.ret .none)∧P n s₀ s₁) Y n (.send .none) (s.setGen g .running))
 (hY:∀v s₁ gs',gs'.bare=true→Y (n - 1) (s.setGen g .running) v s₁ (fun r' s''=>match n with|0=>False|m+1=>gs'.Goes (model pw w) A.in1 (fun n s₀ r s₁=>r=.ok (.ret .none)∧P n s₀ s₁) Y m r' s'')→Q (some v) (s₁.setGen g gs'))
 (hP:∀s₁,P n (s.setGen g .running) s₁→∀h',(∀b o,s₁.heap.get? b=some o→h'.get? b=some o)→Q none {s₁.setGen g .finished with heap:=h'}):aai (model pw w) A (pyNext (.ref a)) Q Ex s:=by
 unfold pyNext
 refine aab (wpAny_attempt (wpAny_callSpecial?_slot (name:=Z9 "__next__") hg.typeIs slot_gen_next (acT slot_gen_next hg.typeIs entry_gen_next ?_ (args_gen_next _))))
 show aai _ A.in1 (aeq (.ref a) (.send .none)) _ _ s
 unfold aeq
 refine aab (aaP (wpAny_genNumber hg (aab (wpAny_genState hgs ?_))))
 cases gs with
 |running=>exact hgo.elim
 |finished=>exact hgo.elim
 |_=>
  refine aab (wpAny_roomToWake hl hroom ?_)
  show aai _ A.in1 (.resume g (.send .none) [] _) _ _ s
  refine wpAny_resumeQ hgs hgo (fun x s₁ hx=>?_) (fun v s₁ gs' hb hv=>aag ⟨v,rfl,aag (hY v s₁ gs' hb hv)⟩)
  obtain⟨rfl,hp⟩:=hx
  show aai _ A.in1 (newExc (.type "StopIteration") []>>=_) _ _ _
  refine aab ?_
  unfold newExc newTuple
  refine aab (aeB ?_ (by size_fits))
  refine aab (m:=firstArgMember _ _) (aaN (a:=abd) (by rfl) ?_)
  refine aeB ?_ (by size_fits)
  unfold raiseNew
  refine aab (aab (wpAny_handled ?_))
  rw[show A.in1.handled=none from hh]
  refine wpAny_throw ?_
  refine aab (aeS (T:="StopIteration") (b:=true) ⟨_,aaw _ rfl,rfl⟩ isSubtype_stop ?_)
  exact aag (hP s₁ hp _ fun b o hb=>aat _ (aat _ hb))
noncomputable def Xo:Str:=Z9 "enumerate"
structure We(env:Env):Prop where
 ZK:env.kindOf Xo=some .globalImplicit
 glob:env.globals=mainGlobals
 HJ:env.builtins=builtinsNs
theorem Hg(hh:A.handled=none)(ge:GS env)(gg:We env)(BN:sP P hB)(hb:∀b o,hB.get? b=some o→s.heap.get? b=some o){m:Str→Option aac}(hn:s.heap.Ns env.locals m)(hm:m qA=some (.str (bu l) t))(he:cM l false=false)(ZL:hB.get? env.locals=none):
 Seg (model pw w) A (RG env.locals (s.heap.objs.size+1) s.heap.objs.size) (YG l t env.locals (s.heap.objs.size+1) s.heap.objs.size) (d9 l 0 false).length s (.func BE env) ((model pw w).den (.func BE env)) [] s:=by
 obtain⟨mg,mb,hg,hbn,hmg,hmb⟩:=BN
 have Xp:env.locals<s.heap.objs.size:=by obtain⟨o,_,_,ho,_⟩:=hn;exact aa7 ho
 have pl:(env.scope.kind==.class||(env.scope.kind==.module&&env.locals !=env.globals))=false:=by rw[ge.kind];rfl
 have ne1:qE≠qP:=by decide+kernel
 have ne2:qA≠qE:=by decide+kernel
 have ne3:qA≠qP:=by decide+kernel
 refine seg_func ?_
 refine abC (nF (acq (afM (aa6 ge.kP (hn.at' fun o e=>e) (fun h1 n1 hs1=>?_) pl))))
 refine abC (nF (acq (ab3 (aa6 ge.kE n1 (fun h2 n2 hs2=>?_) pl))))
 have hz:h2.objs.size=s.heap.objs.size:=hs2.1.trans hs1.1
 have k2:∀b o,b≠env.locals→s.heap.get? b=some o→h2.get? b=some o:=fun b o q e=>(hs2.2 b q).trans ((hs1.2 b q).trans e)
 have kB:∀b o,hB.get? b=some o→h2.get? b=some o:=fun b o e=>k2 b o (fun q=>by rw[q,ZL] at e;exact no1 e) (hb b o e)
 refine abC (M9 (fun _=>rfl) ?_)
 refine yh (f:=.type "enumerate") (v:=.str (bu l) t) (fun Q' q=>?_) j5 (fun Q' q=>?_) ?_
 ·exact ade (acG ge.kind gg.ZK (abM (by rw[gg.glob];exact hg.at' fun o e=>kB _ o e) ((hmg _).trans ⋯) (by rw[gg.HJ];exact hbn.at' fun o e=>kB _ o e) ((hmb _ (by decide+kernel)).trans ⋯) q)) (by decide+kernel)
 ·exact iM ge.kind ge.kA (by decide+kernel) n2 ((if_neg ne2).trans ((if_neg ne3).trans hm)) q
 ·refine call_enumerate_str fun h3 UW Wf Z7 K3=>?_
  refine aeA UW fun p=>?_
  have hz2:h2.objs.size=s.heap.objs.size:=hz
  simp only at UW Wf
  rw[hz2] at UW Wf
  have hne:s.heap.objs.size+1≠s.heap.objs.size:=ab8 _
  have GW:env.locals≠s.heap.objs.size+1:=abx (ago Xp)
  have hLI:env.locals≠s.heap.objs.size:=abx Xp
  show Seg _ _ _ _ _ _ (.forLoop Rn (.ref (h2.objs.size+1)) BD [] env) _ _ _
  rw[hz2]
  refine qh (p:=p) hh ge hne GW hLI l 0 false [] s {s with heap:=h3,toks:=_} rfl (by simp) he rfl ⟨⟨_,n2.at' fun o e=>K3 _ o e,if_pos rfl,⟨_,(if_neg (acp ne1)).trans (if_pos rfl)⟩⟩,⟨_,UW⟩,Wf⟩ ⟨_,_,rfl,fun b o b1 b2 b3 e=>K3 b o (k2 b o b1 e)⟩
end
section
variable{w:aaC}{hB:aal}{O W:Addr→Prop}{N0:Nat}{Θ:Th}{A:aav}{lk:List Nat}{s s₀ s':aad}{μ X:List Addr}{H:HP}{l:List Nat}{t:Tok}{a L E I:Addr}{g:Nat}{env:Env}{P:Params}{vs:List V}
inductive ZM(g:Nat)(L:Addr)(vs:List V)(s:aad):Prop
 |mk(l:List Nat)(t:Tok)(env:Env)(m:Str→Option aac)(h1:vs=d9 l 0 false)(h2:cM l false=false)(h3:GS env)(h4:We env)(h5:env.locals=L)(h6:s.gens[g]?=some (.fresh (.func BE env)))(h7:s.heap.Ns L m)(h8:m qA=some (.str (bu l) t))
inductive ZN(w:aaC)(O:Addr→Prop)(A:aav)(a:Addr)(g:Nat)(L:Addr)(vs:List V)(s:aad)(μ X:List Addr):Prop
 |mk(l:List Nat)(t:Tok)(E I:Addr)(gs:GenState)(i:Nat)(fK:Bool)(pre:List V)(h1:E≠I)(h2:a≠E)(h2':a≠I)(h3:aQ O μ X E)(h4:aQ O μ X I)(h5:s.gens[g]?=some gs)(h6:GI l t L E I i fK s.heap)(h7:d9 l 0 false=pre++vs)
  (h8:A.handled=none→∀s'':aad,(∀b∈[L,E,I],∀o,s.heap.get? b=some o→s''.heap.get? b=some o)→gs.Goes (model pw w) A.in1 (RG L E I) (YG l t L E I) vs.length (.send .none) s'')
structure Lg(w:aaC)(O:Addr→Prop)(N0:Nat)(A:aav)(a:Addr)(g:Nat)(L:Addr)(vs:List V)(s:aad)(μ X:List Addr):Prop where
 gen:s.heap.IsGen a g
 oa:aQ O μ X a
 oL:aQ O μ X L
 aL:a≠L
 n0:N0≤g
 ph:ZM g L vs s∨ZN w O A a g L vs s μ X
theorem Ad(h:aQ O μ X I){b:Addr}(q:O b∨b∉X∨b∈μ):b≠I:=fun e=>by
 subst e
 exact q.elim (fun q=>h.2.2 q) fun q=>q.elim (fun q=>q h.1) fun q=>h.2.1 q
theorem OE{x y:Array GenState}{z:GenState}(h:GenOnly g x y)(hz:y[g]?=some z)(hb:z.bare=true)(hn:N0≤g):GN N0 x y:=
 ⟨abo h.1.symm,fun i hi _=>h.2 i (abx (aaX hi hn)),fun i v e=>by
  by_cases q:i=g
  ·subst q;rw[hz] at e;(first|(replace e:=Z8 e;subst e)|cases e);exact .inr hb
  ·exact .inl ((h.2 i q).symm.trans e)⟩
theorem Hh{elts:List Expr}{x1:Nat}{pos:Pos}{T:Addr}(hg:s.heap.IsGen a g){Q:Unit→aad→Prop}{Ex:aac→aad→Prop}(q:Q () s):aai (model pw w) A (letOwnedTupleGo (.Tuple elts x1 pos) (.ref a) (.ref T)) Q Ex s:=by
 obtain⟨o,nm,qn,ho,hc,hd,_⟩:=hg
 unfold letOwnedTupleGo
 refine aab (wpAny_load ho ?_)
 rw[hc,hd]
 show aai _ A (if(["enumerate","zip","dict_itemiterator","dict_reverseitemiterator","odict_iterator","itertools.zip_longest","itertools.pairwise"].contains "generator"&&_)=true then _ else _) Q Ex s
 rw[if_neg (by
  intro h
  rw[show(["enumerate","zip","dict_itemiterator","dict_reverseitemiterator","odict_iterator","itertools.zip_longest","itertools.pairwise"].contains "generator")=false from by decide,afm] at h
  exact nb1 h)]
 exact aag q
inductive lB(O:Addr→Prop)(s:aad)(μ X:List Addr)(E I:Addr):List Addr→Prop
 |old(h1:aQ O μ X E)(h2:aQ O μ X I):lB O s μ X E I []
 |new(h1:s.heap.get? E=none)(h2:s.heap.get? I=none):lB O s μ X E I [E,I]
section
variable{ν:List Addr}
theorem lB.ne(h:lB O s μ X E I ν){b:Addr}{o:Obj}(e:s.heap.get? b=some o)(q:O b∨b∉X∨b∈μ):b≠E∧b≠I:=by
 cases h with
 |old h1 h2=>exact⟨Ad h1 q,Ad h2 q⟩
 |new h1 h2=>exact⟨fun h=>no1 (h1.symm.trans (h▸e)),fun h=>no1 (h2.symm.trans (h▸e))⟩
theorem lB.grow(h:lB O s μ X E I ν):Grows s.heap X (X++ν):=by
 refine⟨ν,rfl,fun b hb=>?_⟩
 cases h with
 |old h1 h2=>cases hb
 |new h1 h2=>exact(aar.mp hb).elim (fun e=>e▸h1) fun hb=>aaq.mp hb▸h2
theorem lB.mem(h:lB O s μ X E I ν){b:Addr}(hb:b∈ν):b∈[L,E,I]:=by
 cases h with
 |old h1 h2=>cases hb
 |new h1 h2=>exact aaf _ hb
theorem aQ.up(h:aQ O μ X I):aQ O μ (X++ν) I:=⟨aaT _ h.1,h.2.1,h.2.2⟩
theorem lB.own(h:lB O s μ X E I ν)(hO:∀a,O a→s.heap.get? a≠none)(S:St hB Θ s.heap μ X H):aQ O μ (X++ν) E∧aQ O μ (X++ν) I:=by
 have new:∀{b:Addr}{ν:List Addr},b∈ν→s.heap.get? b=none→aQ O μ (X++ν) b:=fun{b ν}hb hn=>⟨aau _ hb,fun hm=>S.fresh hn (S.wH _ hm),fun h=>hO b h hn⟩
 cases h with
 |old h1 h2=>exact⟨h1.up,h2.up⟩
 |new h1 h2=>exact⟨new (aae ..) h1,new (aaf _ (aae ..)) h2⟩
theorem Lh{s₁:aad}{gs gs':GenState}(n0:N0≤g)(hgs:s.gens[g]?=some gs)(hb:gs'.bare=true)(TY:s₁.gens=(s.setGen g .running).gens)(ho:s₁.os=s.os)(k1:∀b o,b≠L→b≠E→b≠I→s.heap.get? b=some o→s₁.heap.get? b=some o)(st:∀b∈[L,E,I],∃o,s₁.heap.get? b=some o)(oL:aQ O μ X L)(jh:lB O s μ X E I ν):
 Turn O N0 s μ X (s₁.setGen g gs') (X++ν) where
 gx:=jh.grow
 new b hb hn:=st b (jh.mem ((aaW.mp hb).resolve_left hn))
 keep b o e q:=k1 b o (Ad oL q) (jh.ne e q).1 (jh.ne e q).2 e
 stay b o e:=by
  by_cases q:b∈[L,E,I]
  ·exact st b q
  ·exact⟨o,k1 b o (fun h=>q (h▸aae ..)) (fun h=>q (h▸aaf _ (aae ..))) (fun h=>q (h▸aaf _ (aaf _ (aae ..)))) e⟩
 os:=ho
 gens:=by
  have h1:GenOnly g s.gens (s₁.setGen g gs').gens:=(aei s g .running).trans (TY▸aei s₁ g gs')
  have h2:(s₁.setGen g gs').gens[g]?=some gs':=adH (gs:=.running) (TY▸adH hgs)
  exact OE h1 h2 hb n0
theorem GI.there{i:Nat}{fK:Bool}{h:aal}(gi:GI l t L E I i fK h):∀b∈[L,E,I],∃o,h.get? b=some o:=fun b hb=>by
 obtain⟨sL,sE,sI⟩:=gi.stood
 have ex:h.get? b≠none:=by
  rcases aar.mp hb with rfl|hb
  ·exact sL
  ·rcases aar.mp hb with rfl|hb
   ·exact sE
   ·exact aaq.mp hb▸sI
 cases e:h.get? b with
 |none=>exact absurd e ex
 |some o=>exact⟨o,rfl⟩
end
theorem BZ{elts:List Expr}{x1:Nat}{pos:Pos}{gs:GenState}{pre:List V}{ν:List Addr}(hh:A.handled=none)(hd:A.depth≤600)(hO:∀a,O a→s.heap.get? a≠none)(nl:s.heap.NoLimit)(S:St hB Θ s.heap μ X H)(hg:s.heap.IsGen a g)(oa:aQ O μ X a)(oL:aQ O μ X L)(aL:a≠L)(aE:a≠E)(aI:a≠I)(ZO:E≠I)(n0:N0≤g)
 (hgs:s.gens[g]?=some gs) (hpre:d9 l 0 false=pre++vs) (hgo:gs.Goes (model pw w) A.in1 (RG L E I) (YG l t L E I) vs.length (.send .none) (s.setGen g .running))
 (jh:lB O s μ X E I ν) {Ex:aac→aad→Prop}:
 aai (model pw w) A (pyNext (.ref a)) (fun o s1=>match(generalizing:=false) vs with
  |[]=>o=none∧Bs O N0 s μ X s1
  |v::vs'=>∃u X1,o=some u∧Turn O N0 s μ X s1 X1∧VR Θ s1.heap μ X1 v u∧∀M3:aac→aad→Prop,aai (model pw w) A (letOwnedTupleGo (.Tuple elts x1 pos) (.ref a) u) (fun _ s2=>∃X2,Turn O N0 s1 μ X1 s2 X2∧VR Θ s2.heap μ X2 v u∧Lg w O N0 A a g L vs' s2 μ X2) M3 s1) Ex s:=by
 refine Lf (P:=fun n s₀ s₁=>n=0∧gu L E I s₀ s₁) hh nl (acf hd (by decide)) hg hgs hgo (fun v s₁ gs' hb hY=>?_) fun s₁ hP h' K'=>?_
 ·obtain⟨⟨item,hi,T,p,q,tk,tk',rfl,hT,ZP,T1,T2,T3,Li⟩,sn,⟨i,fK,gi⟩,hk⟩:=hY
  cases vs with
  |nil=>exact(hk _ fun _ _ _ e=>e).elim
  |cons v0 vs'=>
   rw[hpre,aaD,ad9,vH (pre:=pre) (rest:=vs') (item:=v0) rfl] at hi
   obtain rfl:=Z8 hi
   subst Li
   have f1:s₁.gens=(s.setGen g .running).gens∧s₁.os=s.os∧∀b o,b≠L→b≠E→b≠I→s.heap.get? b=some o→s₁.heap.get? b=some o:=by
    obtain⟨h1,t1,rfl,k1⟩:=sn
    exact⟨rfl,rfl,k1⟩
   obtain⟨TY,ho,k1⟩:=f1
   have tX:T∉X++ν:=fun hm=>(aaW.mp hm).elim (S.fresh ZP) fun hm=>by
    rcases aar.mp (jh.mem (L:=L) hm) with h|h
    ·exact T1 h
    ·exact(aar.mp h).elim T2 fun h=>T3 (aaq.mp h)
   have tr:=Lh n0 hgs hb TY ho k1 gi.there oL jh
   have vr:VR Θ s₁.heap μ (X++ν) (.tup [.int p,.str q]) (.ref T):=.tup (xs:=[.int p tk,.str (bu q) tk']) hT tX (.cons (.int _ _) (.cons (.str _ _) .nil))
   have TZ:s₁.heap.IsGen a g:=by
    obtain⟨o,nm,qn,ho,r⟩:=hg
    exact⟨o,nm,qn,k1 a o aL aE aI ho,r⟩
   obtain⟨oE,oI⟩:=jh.own hO S
   refine⟨_,X++ν,rfl,tr,vr,fun M3=>Hh (s:=s₁.setGen g gs') TZ ?_⟩
   exact⟨X++ν,.refl,vr,TZ,oa.up,oL.up,aL,n0,.inr ⟨l,t,E,I,gs',i,fK,pre++[.tup [.int p,.str q]],ZO,aE,aI,oE,oI,adH (gs:=.running) (TY▸adH hgs),gi,by rw[hpre,aaE];rfl,fun _ s'' hs=>hk s'' hs⟩⟩
 ·obtain⟨h0,h1,t1,rfl,k1⟩:=hP
  cases vs with
  |cons v0 vs'=>cases h0
  |nil=>
   exact⟨rfl,fun b o e q=>K' b o (k1 b o (Ad oL q) (jh.ne e q).1 (jh.ne e q).2 e),rfl,OE ((aei s g .running).trans (aei _ g .finished)) (adH (gs:=.running) (adH hgs)) rfl n0⟩
theorem Lj{elts:List Expr}{x1:Nat}{pos:Pos}(BN:sP P hB)(hnl:hB.NoLimit)(hT:∀a∈ao,O a):kW w hB Θ O N0 lk A (.ref a) (.Tuple elts x1 pos) (Lg w O N0 A a g L) where
 stay:=fun{W vs s s' μ X aG X' H H'}Pp S ho gw=>by
  obtain⟨o,nm,qn,hoa,ra⟩:=Pp.gen
  have own:∀{b:Addr}{o:Obj},aQ O μ X b→s.heap.get? b=some o→s'.heap.get? b=some o:=fun hb e=>gw.keep.1 _ _ e (hb.no hT ho)
  have own':∀{b:Addr},aQ O μ X b→(∃o,s.heap.get? b=some o)→aQ O aG X' b:=fun hb e=>e.elim fun _ e=>hb.go e gw.gm gw.gx
  have hgs:∀gs,s.gens[g]?=some gs→s'.gens[g]?=some gs:=fun gs e=>(gw.gens.1 g (abB.mp e).1).trans e
  have ga:s'.heap.IsGen a g:=⟨o,nm,qn,own Pp.oa hoa,ra⟩
  have Xq:=own' Pp.oa ⟨o,hoa⟩
  rcases Pp.ph with ph|ph
  ·obtain⟨l,t,env,m,p1,p2,p3,p4,p5,p6,p7,p8⟩:=ph
   exact⟨ga,Xq,own' Pp.oL (qZ p7),Pp.aL,Pp.n0,.inl ⟨l,t,env,m,p1,p2,p3,p4,p5,hgs _ p6,p7.at' fun o e=>own Pp.oL e,p8⟩⟩
  ·obtain⟨l,t,E,I,gs,i,fK,pre,q1,q2,Ob,q3,q4,q5,q6,q7,q8⟩:=ph
   have kp:∀b∈[L,E,I],∀o,s.heap.get? b=some o→s'.heap.get? b=some o:=fun b hb o e=>own ((aar.mp hb).elim (fun h=>h▸Pp.oL) fun hb=>(aar.mp hb).elim (fun h=>h▸q3) fun hb=>aaq.mp hb▸q4) e
   have th:=q6.there
   exact⟨ga,Xq,own' Pp.oL (th _ (aae ..)),Pp.aL,Pp.n0,.inr ⟨l,t,E,I,gs,i,fK,pre,q1,q2,Ob,own' q3 (th _ (aaf _ (aae ..))),own' q4 (th _ (aaf _ (aaf _ (aae ..)))),hgs _ q5,q6.keep kp,q7,
    fun hh s'' hs=>q8 hh s'' fun b hb o e=>hs b hb o (kp b hb o e)⟩⟩
 self:=fun Pp h=>agE Pp.gen h
 step:=fun{vs s μ X H Ex}hh hd _ hO Pp S=>by
  have nl:s.heap.NoLimit:=hnl.keeps S.base
  rcases Pp.ph with ph|ph
  ·obtain⟨l,t,env,m,p1,p2,p3,p4,rfl,p6,p7,p8⟩:=ph
   have alt:a<s.heap.objs.size:=by
    obtain⟨o,nm,qn,hoa,ra⟩:=Pp.gen
    exact aa7 hoa
   have sf:=Hg (w:=w) (A:=A.in1) (s:=s.setGen g .running) hh p3 p4 BN (fun b o e=>S.base b o e) p7 p8 p2 (S.gK _ Pp.oL.1)
   rw[←p1] at sf
   refine aas (BZ (elts:=elts) (x1:=x1) (pos:=pos) (l:=l) (t:=t) (E:=s.heap.objs.size+1) (I:=s.heap.objs.size) (pre:=[]) hh hd hO nl S Pp.gen Pp.oa Pp.oL Pp.aL (abx (ago alt)) (abx alt) (ab8 _) Pp.n0 p6 p1.symm ⟨rfl,sf⟩ (.new (kX _ 1) (aF _))) (fun o s1 h=>?_) fun _ _ x=>x
   cases vs<;>exact h
  ·obtain⟨l,t,E,I,gs,i,fK,pre,q1,q2,Ob,q3,q4,q5,q6,q7,q8⟩:=ph
   refine aas (BZ (elts:=elts) (x1:=x1) (pos:=pos) hh hd hO nl S Pp.gen Pp.oa Pp.oL Pp.aL q2 Ob q1 Pp.n0 q5 q7 (q8 hh _ fun _ _ _ e=>e) (.old q3 q4)) (fun o s1 h=>?_) fun _ _ x=>x
   cases vs<;>exact h
end
end Internal
set_option maxHeartbeats 1000000
namespace Internal
open PySem PySem.W PyProof.Rows PySem.SeqAt
section
variable{w:aaC}{hB:aal}{Θ:Th}{n:Nat}{P:Params}
theorem Hi(P:Params)(u:aac):bindArgs (fW P 81) ⟨[u],[]⟩=pure [(qA,u)]:=⋯
theorem Hj(P:Params):(fW P 81).scope.names=[(qA,.local),(qP,.local),(qE,.local),(qC,.local),(Xo,.globalImplicit)]∧(fW P 81).scope.kind=.function∧(fW P 81).scope.isCoroutine=false∧(fW P 81).scope.isGenerator=true:=by
 refine⟨?_,?_,?_,?_⟩<;>kernel_rfl
theorem QW(F:Fix w (Kp P) hB Θ)(BN:sP P hB):BP w hB Θ n:=fun ks ca a np p x y px py pp hk ha C A env r s μ X H Y hl z H' he Ex=>by
 have he:(ca C r H).bind (fun v H=>match v with|.str s=>az (cM s false) .bad (.ok (d9 s 0 false,[]) H)|_=>.bad)=.ok z H':=he
 cases ec:ca C r H with
 |bad=>rw[ec] at he;exact nW he
 |exc c m h=>rw[ec] at he;exact LM he
 |ok v H1=>
 rw[ec] at he
 have he:(match v with|.str s=>az (cM s false) R.bad (.ok (d9 s 0 false,[]) H1)|_=>.bad)=.ok z H':=he
 cases v with
 |str l=>
  have he:az (cM l false) R.bad (.ok (d9 l 0 false,[]) H1)=.ok z H':=he
  cases hend:cM l false with
  |true=>rw[hend] at he;exact nW he
  |false=>
  rw[hend,eZ] at he
  cases he
  have ev:aa ca aj C r H=.ok [.str l] H':=by
   show(ca C r H).bind _=_;rw[ec];rfl
  refine call2 F (f:=.ref 81) (by decide) hk rfl (fun h k=>xG ((F.base.Rd.keeps k) 81 ⟨.type "function",none,.func (fW P 81),[].toArray⟩ ⋯) rfl) Y (iK ha mw) ev fun us s1 aZ X1 g q=>?_
  obtain⟨t,rfl⟩:∃t,us=[.str (bu l) t]:=by
   replace q:=q.inv;cases q with
   |cons q q2=>(replace q2:=q2.inv;cases q2);(replace q:=q.inv;cases q);exact⟨_,rfl⟩
  have Xr:(Kp P).In s1.heap:=F.base.Rd.keeps g.st.base
  have k1:=Xr 81 ⟨.type "function",none,.func (fW P 81),[].toArray⟩ ⋯
  obtain⟨QX,Wg,Xs,ZQ⟩:=Hj P
  have hroom:A.depth<recursionLimit:=by have:=Y.cx.depth;show A.depth<1000;omega+splitNatSub
  have f1:(fW P 81).body=.stmts BE:=by rw[←Nb];kernel_rfl
  refine aee (codeAny_call_generator hroom k1 rfl Xs ZQ f1 (yg Xr (c:=80) (t:=348) (q:=Z9 "_iter_escaped_chars") ⋯ ⋯ ⋯ ⋯) ?_)
  rw[Hi]
  refine aag ?_
  have f3:(fW P 81).globals=mainGlobals:=⋯
  have f5:(fW P 81).builtins=builtinsNs:=⋯
  rw[f3,f5]
  generalize(fW P 81).qualname++".<locals>."=qn
  generalize(fW P 81).code=cdv
  generalize(fW P 81).closure=Wb
  generalize(fW P 81).name=Xu
  generalize(fW P 81).qualname=Xv
  generalize(fW P 81).scope=sc at*
  refine afr (by rw[QX];decide) (by rw[QX];intro x hx;simp only [aar,aaM,or_false] at hx;subst hx;kernel_rfl) (fun h2 hns UT=>?_) Wg
  have kd:∀(y:Str)(e:Env),e.scope=sc→e.kindOf y=sc.names.lookup y:=fun y e he=>by
   unfold Env.kindOf;rw[he]
  generalize Ab:newEnv sc s1.heap.objs.size mainGlobals Wb qn (some 81) cdv none builtinsNs=xg
  have eS:xg.scope=sc:=by rw[←Ab];rfl
  have eL:xg.locals=s1.heap.objs.size:=by rw[←Ab];rfl
  have eG:xg.globals=mainGlobals:=by rw[←Ab];rfl
  have eB:xg.builtins=builtinsNs:=by rw[←Ab];rfl
  have eI:interactive xg=false:=by unfold interactive;rw[eS,Wg];rfl
  have ge:GS xg:=⟨by rw[eS];exact Wg,by rw[kd _ _ eS,QX];kernel_rfl,by rw[kd _ _ eS,QX];kernel_rfl,by rw[kd _ _ eS,QX];kernel_rfl,by rw[kd _ _ eS,QX];kernel_rfl,by rw[eS];exact Xs,eI⟩
  have gg:We xg:=⟨by rw[kd _ _ eS,QX];kernel_rfl,eG,eB⟩
  have hz:h2.objs.size=s1.heap.objs.size+1:=UT.1.trans (adt ..)
  have k2:∀b o,s1.heap.get? b=some o→h2.get? b=some o:=fun b o e=>UT.extBut b o (abx (aa7 e)) (aat _ e)
  refine⟨F.base.nolimit.keeps fun b o e=>k2 b o (g.st.base b o e),?_⟩
  simp only []
  rw[hz]
  generalize hgo:({cls:=adF "generator",data:=Data.fields #[acK (s1.gens.size:Int) 0,abI Xu (s1.toks+[(qA,abI (bu l) t)].length),abI Xv (s1.toks+[(qA,abI (bu l) t)].length+1)]}:Obj)=OF
  have ga:(h2.push OF).get? (s1.heap.objs.size+1)=some OF:=by
   rw[←hz];exact aaw _ (by rw[←hgo];rfl)
  have hn1:s1.heap.get? s1.heap.objs.size=none:=aF _
  have hn2:s1.heap.get? (s1.heap.objs.size+1)=none:=kX _ 1
  have k3:∀b o,s1.heap.get? b=some o→(h2.push OF).get? b=some o:=fun b o e=>aat _ (k2 b o e)
  have Xw:(h2.push OF).IsGen (s1.heap.objs.size+1) s1.gens.size:=⟨OF,.str Xu (s1.toks+1),.str Xv (s1.toks+1+1),ga,by rw[←hgo],by rw[←hgo];rfl,by rw[←hgo]⟩
  refine agE Xw ?_
  have T4:(h2.push OF).Ns s1.heap.objs.size (fun x=>ahK x [(qA,abI (bu l) t)].reverse):=hns.at' fun o e=>aat _ e
  have jh:∀b∈[s1.heap.objs.size,s1.heap.objs.size+1],s1.heap.get? b=none∧∃o,(h2.push OF).get? b=some o:=fun b hb=>by
   simp only [aar,aaM,or_false] at hb
   rcases hb with rfl|rfl
   ·obtain⟨o,_,_,ho,_⟩:=T4
    exact⟨hn1,o,ho⟩
   ·exact⟨hn2,_,ga⟩
  have gf:Goes hB Θ C.lk s1 aZ X1 H' {s1 with heap:=h2.push OF,gens:=s1.gens.push (.fresh (.func BE xg)),toks:=s1.toks+[(qA,abI (bu l) t)].length+1+1} aZ (X1++[s1.heap.objs.size,s1.heap.objs.size+1]):=by
   have g0:=Goes.mK (lk:=C.lk) (tk:=s1.toks) g.st k3 _ jh
   refine⟨g0.st,g0.gm,g0.gx,g0.keep,rfl,⟨fun i hi=>?_,by simp,fun i y hi e=>?_⟩⟩
   ·show(s1.gens.push _)[i]?=_
    rw[adQ,if_neg (abx hi)]
   ·have e:(s1.gens.push (.fresh (.func BE xg)))[i]?=some y:=e
    rw[adQ] at e
    by_cases q:i=s1.gens.size
    ·rw[if_pos q] at e;(first|(replace e:=(Z8 e).symm;subst e)|cases e);rfl
    ·rw[if_neg q,aeV hi] at e;exact no1 e
  refine⟨_,_,[s1.heap.objs.size,s1.heap.objs.size+1],g.trans gf,fun b hb=>⟨fj g.keep.2 (jh b hb).1,aau _ hb⟩,fun O hT hO A'=>⟨Lg w O s.gens.size A' (s1.heap.objs.size+1) s1.gens.size s1.heap.objs.size,Lj BN F.base.nolimit hT,?_⟩⟩
  refine⟨Xw,j6 g.st (by simp) hn2 (hO _ (by simp)),j6 g.st (by simp) hn1 (hO _ (by simp)),ab8 _,g.gens.2.1,.inl ⟨l,t,xg,_,rfl,hend,ge,gg,eL,?_,T4,rfl⟩⟩
  show(s1.gens.push _)[s1.gens.size]?=_
  rw[adQ,if_pos rfl]
 |_=>exact nW he
end
end Internal
namespace Internal
open PySem PySem.W PyProof.Rows PySem.Builtin.Re
theorem ND{P:Params}{hB:aal}(hK:(Kp P).In hB):zD hB:=fun p=>by
 cases p with
 |dot=>exact⟨⟨⟨.type "re.Pattern",none,.fields [.str (Z9 "(?m)^\\.") 391,.int 40 404,.int 0 0,.none,.none,.ref 106,.int 0 0].toArray,[].toArray⟩,_,106,_,hK 107 _ ⋯,rfl,rfl,rfl,rfl,rfl,⟨⟨.type "tuple",none,.seq [.int 14 0,.int 4 0,.int 0 0,.int 1 0,.int 1 0,.int 6 0,.int 1 0,.int 16 0,.int 46 0,.int 1 0].toArray 0,[].toArray⟩,hK 106 _ ⋯,rfl,_,rfl⟩,⋯⟩,⟨.type "re.Pattern",none,.fields [.str (Z9 "(?m)^\\.") 391,.int 40 404,.int 0 0,.none,.none,.ref 106,.int 0 0].toArray,[].toArray⟩,hK 107 _ ⋯,rfl,rfl⟩
 |xm=>exact⟨⟨⟨.type "re.Pattern",none,.fields [.str (Z9 "(?:\\r\\n|\\n|\\r(?!\\n))") 423,.int 32 462,.int 0 0,.none,.none,.ref 116,.int 0 0].toArray,[].toArray⟩,_,116,_,hK 117 _ ⋯,rfl,rfl,rfl,rfl,rfl,⟨⟨.type "tuple",none,.seq [.int 14 0,.int 9 0,.int 4 0,.int 1 0,.int 2 0,.int 16 0,.int 10 0,.int 16 0,.int 13 0,.int 0 0,.int 7 0,.int 7 0,.int 16 0,.int 13 0,.int 16 0,.int 10 0,.int 15 0,.int 18 0,.int 5 0,.int 16 0,.int 10 0,.int 15 0,.int 13 0,.int 11 0,.int 16 0,.int 13 0,.int 5 0,.int 5 0,.int 0 0,.int 16 0,.int 10 0,.int 1 0,.int 15 0,.int 2 0,.int 0 0,.int 1 0].toArray 0,[].toArray⟩,hK 116 _ ⋯,rfl,_,rfl⟩,⋯⟩,⟨.type "re.Pattern",none,.fields [.str (Z9 "(?:\\r\\n|\\n|\\r(?!\\n))") 423,.int 32 462,.int 0 0,.none,.none,.ref 116,.int 0 0].toArray,[].toArray⟩,hK 117 _ ⋯,rfl,rfl⟩
 |qT=>exact⟨⟨⟨.type "re.Pattern",none,.fields [.bytes (fH [40,63,109,41,94,92,46]) 407,.int 8 420,.int 0 0,.none,.none,.ref 111,.int 1 0].toArray,[].toArray⟩,_,111,_,hK 112 _ ⋯,rfl,rfl,rfl,rfl,rfl,⟨⟨.type "tuple",none,.seq [.int 14 0,.int 4 0,.int 0 0,.int 1 0,.int 1 0,.int 6 0,.int 1 0,.int 16 0,.int 46 0,.int 1 0].toArray 0,[].toArray⟩,hK 111 _ ⋯,rfl,_,rfl⟩,⋯⟩,⟨.type "re.Pattern",none,.fields [.bytes (fH [40,63,109,41,94,92,46]) 407,.int 8 420,.int 0 0,.none,.none,.ref 111,.int 1 0].toArray,[].toArray⟩,hK 112 _ ⋯,rfl,rfl⟩
 |rU=>exact⟨⟨⟨.type "re.Pattern",none,.fields [.str (Z9 "[\\x00-\\x1F\\x7F]") 524,.int 32 547,.int 0 0,.none,.none,.ref 147,.int 0 0].toArray,[].toArray⟩,_,147,_,hK 148 _ ⋯,rfl,rfl,rfl,rfl,rfl,⟨⟨.type "tuple",none,.seq [.int 14 0,.int 10 0,.int 4 0,.int 1 0,.int 1 0,.int 22 0,.int 0 0,.int 31 0,.int 16 0,.int 127 0,.int 0 0,.int 13 0,.int 7 0,.int 22 0,.int 0 0,.int 31 0,.int 16 0,.int 127 0,.int 0 0,.int 1 0].toArray 0,[].toArray⟩,hK 147 _ ⋯,rfl,_,rfl⟩,⋯⟩,⟨.type "re.Pattern",none,.fields [.str (Z9 "[\\x00-\\x1F\\x7F]") 524,.int 32 547,.int 0 0,.none,.none,.ref 147,.int 0 0].toArray,[].toArray⟩,hK 148 _ ⋯,rfl,rfl⟩
 |Au=>exact⟨⟨⟨.type "re.Pattern",none,.fields [.str (Z9 "[\\x00-\\x08\\x0A-\\x1F\\x7F]") 550,.int 32 581,.int 0 0,.none,.none,.ref 152,.int 0 0].toArray,[].toArray⟩,_,152,_,hK 153 _ ⋯,rfl,rfl,rfl,rfl,rfl,⟨⟨.type "tuple",none,.seq [.int 14 0,.int 14 0,.int 4 0,.int 1 0,.int 1 0,.int 9 0,.int 4294966783 0,.int 0 0,.int 0 0,.int 2147483648 0,.int 0 0,.int 0 0,.int 0 0,.int 0 0,.int 0 0,.int 13 0,.int 11 0,.int 9 0,.int 4294966783 0,.int 0 0,.int 0 0,.int 2147483648 0,.int 0 0,.int 0 0,.int 0 0,.int 0 0,.int 0 0,.int 1 0].toArray 0,[].toArray⟩,hK 152 _ ⋯,rfl,_,rfl⟩,⋯⟩,⟨.type "re.Pattern",none,.fields [.str (Z9 "[\\x00-\\x08\\x0A-\\x1F\\x7F]") 550,.int 32 581,.int 0 0,.none,.none,.ref 152,.int 0 0].toArray,[].toArray⟩,hK 153 _ ⋯,rfl,rfl⟩
theorem NF(w:aaC)(hB:aal)(Θ:Th)(hK:(Kp w.params).In hB)(BG:xF (Kp w.params) hB)(BN:sP w.params hB)(jb:ji Θ):Aa w hB Θ where
 ps:=yi
 mr:=Pz jb (ND hK)
 hdr:=QV hK BG BN
 fK:=fun n=>QW ⟨jb,BG,yi⟩ BN
theorem Hl(run:∀l:List Int,l.length≤63→∃Θ par,E5 l Θ par):PySem.Challenge.rw_ta0097_01.Holds:=holds_of NF run
end Internal
namespace Internal
open PySem
section
variable{C:Cx}{r r':aR}{H H1 H2 H3 H':HP}{a b e:CE}{v x y z:V}{n:Nat}{t:CB}{c d:Bool}
theorem aU:cV v C r H=.ok v H:=rfl
theorem aH(h:aK n r=some v):af n C r H=.ok v H:=by unfold af;rw[h];rfl
theorem cQ{o:Op}(ha:a C r H=.ok x H1)(hb:b C r H1=.ok y H2)(h:Fq C.par H2 o x y=some z):aD a o b C r H=.ok z H2:=by
 unfold aD;rw[ha];show(b C r H1).bind _=_;rw[hb];show R.lift _ _=_;rw[h];rfl
theorem Lk{o:Cm}(ha:a C r H=.ok x H1)(hb:b C r H1=.ok y H2)(h:Ft H2 o x y=some c):aY a o b C r H=.ok (.bool c) H2:=by
 unfold aY;rw[ha];show(b C r H1).bind _=_;rw[hb];show R.lift (aT _ _) _=_;rw[h];rfl
theorem mT(ha:a C r H=.ok x H1)(hb:b C r H1=.ok y H2)(h:wM H2 x y=some z):dH a b C r H=.ok z H2:=by
 unfold dH;rw[ha];show(b C r H1).bind _=_;rw[hb];show R.lift _ _=_;rw[h];rfl
theorem jQ{l u s:CE}{lv uv sv:V}(ha:a C r H=.ok x H1)(hl:l C r H1=.ok lv H1)(hu:u C r H1=.ok uv H1)(hs:s C r H1=.ok sv H1)(h:nY H1 x lv uv sv=.ok z H2):cJ a l u s C r H=.ok z H2:=by
 unfold cJ;rw[ha];show(l C r H1).bind _=_;rw[hl];show(u C r H1).bind _=_;rw[hu];show(s C r H1).bind _=_;rw[hs];exact h
theorem DP{i:Int}(ha:a C r H=.ok (.int i) H1):fZ a C r H=.ok (.int (-i)) H1:=by unfold fZ;rw[ha];rfl
theorem UX:aj C r H=.ok [] H:=rfl
theorem d7{l:CL}{vs:List V}(ha:a C r H=.ok v H1)(hl:l C r H1=.ok vs H2):aa a l C r H=.ok (v::vs) H2:=by
 unfold aa;rw[ha];show(l C r H1).bind _=_;rw[hl];rfl
theorem cR(ha:a C r H=.ok v H1):aa a aj C r H=.ok [v] H1:=d7 ha rfl
theorem DQ{l:CL}{vs:List V}(hl:l C r H=.ok vs H1)(h:short vs=true):n6 l C r H=.ok (.lst vs) H1:=by
 unfold n6;rw[hl];show az _ _ _=_;rw[h];rfl
theorem wj{l:CL}{vs:List V}(hl:l C r H=.ok vs H1)(h:short vs=true):iB l C r H=.ok (.tup vs) H1:=by
 unfold iB;rw[hl];show az _ _ _=_;rw[h];rfl
theorem eu{g:CE}{as:CL}{vs:List V}{f:V}(hg:g C r H=.ok f H1)(ha:as C r H1=.ok vs H2)(h:eF C f vs [] H2=.ok z H3):aB g as ay C r H=.ok z H3:=by
 unfold aB;rw[hg];show(as C r H1).bind _=_;rw[ha];exact h
theorem uq{o:CE}{m:Me}{as:CL}{vs:List V}(ho:o C r H=.ok x H1)(hk:n7 x m=true)(ha:as C r H1=.ok vs H2)(h:nO C x m vs [] H2=.ok z H3):aS o m as ay C r H=.ok z H3:=by
 unfold aS;rw[ho];show az _ _ _=_;rw[hk,c8,ha];exact h
theorem Ll(ht:t C r H=.ok c H1)(h:az c (a C r H1) (b C r H1)=.ok z H2):nZ t a b C r H=.ok z H2:=by
 unfold nZ;rw[ht];exact h
theorem T5(ha:a C r H=.ok v H1)(h:tr v=some c):bV a C r H=.ok c H1:=by unfold bV;rw[ha];show R.lift _ _=_;rw[h];rfl
theorem cH{o:Cm}(ha:a C r H=.ok x H1)(hb:b C r H1=.ok y H2)(h:Ft H2 o x y=some c):bV (aY a o b) C r H=.ok c H2:=T5 (Lk ha hb h) rfl
theorem T6{q:CB}(h:q C r H=.ok c H1):OV q C r H=.ok (az c false true) H1:=by unfold OV;rw[h];rfl
theorem Wh{p q:CB}(hp:p C r H=.ok c H1)(hq:c=true→q C r H1=.ok d H2)(h:c=false→d=false∧H2=H1):jU p q C r H=.ok d H2:=by
 unfold jU;rw[hp];show az c _ _=_
 cases c with
 |true=>exact hq rfl
 |false=>obtain⟨rfl,rfl⟩:=h rfl;rfl
theorem Xx{p q:CB}(hp:p C r H=.ok c H1)(hq:c=false→q C r H1=.ok d H2)(h:c=true→d=true∧H2=H1):lS p q C r H=.ok d H2:=by
 unfold lS;rw[hp];show az c _ _=_
 cases c with
 |false=>exact hq rfl
 |true=>obtain⟨rfl,rfl⟩:=h rfl;rfl
theorem qG(ha:a C r H=.ok v H1):cD a C r H=.ok (.on r) H1:=by unfold cD;rw[ha];rfl
theorem fQ(ha:a C r H=.ok v H1):bH n a C r H=.ok (.on (dc n v r)) H1:=by unfold bH;rw[ha];rfl
theorem nG{xs:List Nat}{vs:List V}(hl:bh b9 C.lk=true)(ha:a C r H=.ok v H1)(hi:gc H1 v=some vs)(hb:ef xs vs r=some r'):gh xs a C r H=.ok (.on r') H1:=by
 unfold gh;rw[hl,c8,ha];show(match gc H1 v with|some vs=>_|none=>_)=_;rw[hi];show(match ef xs vs r with|some r=>_|none=>_)=_;rw[hb]
theorem DR{o:Op}(hu:aK n r=some x)(hk:D8 x=true)(ha:a C r H=.ok y H1)(h:Fq C.par H1 o x y=some z):qX n o a C r H=.ok (.on (dc n z r)) H1:=by
 unfold qX;rw[hu];show az _ _ _=_;rw[hk,c8,ha];show R.lift (aT _ _) _=_;rw[h];rfl
theorem fq{p q:CS}{f:Fl}(ht:t C r H=.ok c H1)(h:az c (p C r H1) (q C r H1)=.ok f H2):iC t p q C r H=.ok f H2:=by unfold iC;rw[ht];exact h
theorem rH(ha:a C r H=.ok v H1):dI a C r H=.ok (.back v) H1:=by unfold dI;rw[ha];rfl
theorem br{p q:CS}{f:Fl}(hp:p C r H=.ok (.on r') H1)(hq:q C r' H1=.ok f H2):ak p q C r H=.ok f H2:=by unfold ak;rw[hp];exact hq
theorem gH{p q:CS}(hp:p C r H=.ok (.back v) H1):ak p q C r H=.ok (.back v) H1:=by unfold ak;rw[hp];rfl
theorem Wi:aA C r H=.ok (.on r) H:=rfl
theorem wk{t:Tg}{it:CI}{b:CS}{l:List V}{f:Fl}(hi:it C r H=.ok (l,[]) H1)(hl:bh b9 C.lk=true)(h:bz (b C) t l r H1=.ok f H2):jd t it b C r H=.ok f H2:=by
 have hc:C.lock []=C:=by cases C;rfl
 unfold jd;rw[hi];show az _ _ _=_;rw[hl,c8];show bz (b (C.lock [])) _ _ _ _=_;rw[hc];exact h
theorem QY{l:List V}(ha:a C r H=.ok v H1)(hi:gc H1 v=some l)(hk:cY v=[]):iV a C r H=.ok (l,[]) H1:=by
 unfold iV;rw[ha];show(match gc H1 v with|some l=>_|none=>_)=_;rw[hi,hk]
theorem Ae{as:CL}{vs l:List V}(ha:as C r H=.ok vs H1)(hi:AE vs=some l):jV as C r H=.ok (l,[]) H1:=by
 unfold jV;rw[ha];show(match AE vs with|some l=>_|none=>_)=_;rw[hi]
theorem DS{l:List Nat}(ha:a C r H=.ok (.str l) H1)(he:cM l false=false):Fw a C r H=.ok (d9 l 0 false,[]) H1:=by
 unfold Fw;rw[ha];show az (cM l false) _ _=_;rw[he];rfl
theorem iN{tests:aR→HP→R Bool}{inner:aR→HP→R (List V)}{t:Tg}{f:V→V}(Inv:aR→Prop):∀(l:List V)(r:aR),Inv r→(∀v∈l,∀r,Inv r→∃r',dU t v r=some r'∧Inv r'∧tests r' H=.ok true H∧inner r' H=.ok [f v] H)→c7 tests inner t l r H=.ok (l.map f) H
 |[],_,_,_=>rfl
 |v::l,r,hr,h=>by
  obtain⟨r',h1,h2,h3,h4⟩:=h v (aae ..) r hr
  show(match dU t v r with
   |none=>(R.bad:R (List V))
   |some r=>match tests r H with
    |.ok b H=>az b (match inner r H with
     |.ok xs H=>match c7 tests inner t l r H with
      |.ok ys H=>.ok (au xs ys) H
      |_=>.bad
     |_=>.bad) (c7 tests inner t l r H)
    |_=>.bad)=_
  rw[h1];dsimp only;rw[h3];dsimp only;rw[c8,h4];dsimp only
  rw[iN Inv l r' h2 fun v hv=>h v (aaf _ hv)]
  rfl
theorem B0(ha:a C r H=.ok v H):g1 a C r H=.ok [v] H:=by unfold g1;rw[ha];rfl
theorem qH{fr:List Nat}{t:Tg}{it:CI}{tests:CB}{inner:CL}{l vs:List V}(hi:it C r H=.ok (l,[]) H1)(hl:bh b9 C.lk=true)(h:c7 (tests C) (inner C) t l (bP r fr) H1=.ok vs H2)(hs:short vs=true):cz fr t it tests inner C r H=.ok (.lst vs) H2:=by
 have hc:C.lock []=C:=by cases C;rfl
 unfold cz;rw[hi];show az _ _ _=_;rw[hl,c8];show(match c7 (tests (C.lock [])) (inner (C.lock [])) t l (bP r fr) H1 with|.ok vs H=>_|_=>_)=_;rw[hc,h];show az _ _ _=_;rw[hs];rfl
theorem T7{bd:aR→HP→R Fl}{t:Tg}{v:V}{l:List V}{r1 r2:aR}{f:Fl}(h1:dU t v r=some r1)(h2:bd r1 H=.ok (.on r2) H1)(h3:bz bd t l r2 H1=.ok f H2):bz bd t (v::l) r H=.ok f H2:=by
 show(match dU t v r with
  |none=>(R.bad:R Fl)
  |some r=>match bd r H with
   |.ok f H=>match f with
    |.on r=>bz bd t l r H
    |.back v=>.ok (.back v) H
   |_=>.bad)=_
 rw[h1];dsimp only;rw[h2];exact h3
theorem DT{bd:aR→HP→R Fl}{t:Tg}{v u:V}{l:List V}{r1:aR}(h1:dU t v r=some r1)(h2:bd r1 H=.ok (.back u) H1):bz bd t (v::l) r H=.ok (.back u) H1:=by
 show(match dU t v r with
  |none=>(R.bad:R Fl)
  |some r=>match bd r H with
   |.ok f H=>match f with
    |.on r=>bz bd t l r H
    |.back v=>.ok (.back v) H
   |_=>.bad)=_
 rw[h1];dsimp only;rw[h2]
theorem Ho{bd:aR→HP→R Fl}{t:Tg}:bz bd t [] r H=.ok (.on r) H:=rfl
end
noncomputable def qI(b:Bool):Nat:=az b 40 41
noncomputable def Lm(j:Nat):List Nat:=match j with
 |4=>[34,92,34,41,34]|5=>[92,40]|6=>[34,40,41,40,34]|7=>[92,92]|_=>[]
noncomputable def plainS(j:Nat):List Nat:=match j with
 |5=>[92,40]|7=>[92,92]|_=>[]
noncomputable def piece(p:Bool×Nat):List Nat:=qI p.1::Lm p.2
noncomputable def k8(p:Bool×Nat):List Nat:=qI p.1::plainS p.2
noncomputable def aP(ps:List (Bool×Nat)):List Nat:=ps.flatMap piece
noncomputable def gM(ps:List (Bool×Nat)):List Nat:=ps.flatMap k8
noncomputable def bB:CS:=(ak (iC (bV (aY (af 16) .eq (cV (.str [34])))) (ak (iC (bV (aY (af 13) .is (cV .none))) (ak (bH 13 (af 15))
 aA) (ak (iC (bV (aY (af 12) .ne (af 13))) (ak (cD (aS (af 14) .append (aa (cJ (af 11) (af 12) (af 13) (cV .none)) aj) ay))
 aA) aA)
 (ak (bH 12 (aD (af 15) .add (cV (.int 1))))
 (ak (bH 13 (cV .none))
 aA))))
 aA) aA)
 aA)
noncomputable def rS(s:List Nat)(a:Nat)(op:V)(n:Nat)(p q:V):aR:=[(11,.str s),(12,.int (aaa a)),(13,op),(14,.ref n),(15,p),(16,q)]
section
variable{C:Cx}{H H1 H2:HP}{s:List Nat}{a n:Nat}{op p q:V}{l:List V}
theorem Hp(l:List Nat):gP l l=true:=by rw[ju];exact decide_eq_true rfl
theorem sQ{t:List Nat}(ht:t≠[34]):bB C (rS s a op n p (.str t)) H=.ok (.on (rS s a op n p (.str t))) H:=by
 have hb:gP t [34]=false:=by rw[ju];exact decide_eq_false ht
 exact br (fq (cH (o:=.eq) (c:=false) (aH rfl) aU (show some (gP t [34])=some false by rw[hb])) rfl) rfl
theorem DU:bB C (rS s a .none n p (.str [34])) H=.ok (.on (rS s a p n p (.str [34]))) H:=
 br (fq (cH (o:=.eq) (c:=true) (aH rfl) aU rfl) (br (fq (cH (o:=.is) (c:=true) (aH rfl) aU rfl) (br (fQ (aH rfl)) rfl)) rfl)) rfl
theorem Af{α:Type}(H:List α)(x:α):jR (au H [x]) (aC H)=some x:=by rw[eU,aO,aN];simp
theorem yj{α:Type}(H:List α)(x y:α):setAt (au H [x]) (aC H) y=au H [y]:=by rw[pL,aO,aN,aO];simp
theorem kc{r:aR}{x m:Nat}{e:CE}{v:V}(hlk:C.lk=[])(hx:aK x r=some (.ref m))(he:e C r H=.ok v H1)(hn:jR H1 m=some l)(hs:short l=true):aS (af x) .append (aa e aj) ay C r H=.ok .none (setAt H1 m (au l [v])):=by
 refine uq (aH hx) rfl (cR he) ?_
 show qV C.lk m (fun l=>some (au l [v])) H1=_
 unfold qV
 rw[hlk]
 show(match jR H1 m with|some l=>(match aT (fit l) (fun l=>some (au l [v])) with|some m'=>R.ok V.none (setAt H1 m m')|none=>.bad)|none=>.bad)=_
 rw[hn]
 unfold fit
 dsimp only
 rw[hs];rfl
theorem NG{x:List Nat}{a b:Nat}(hx:short x=true)(ha:a≤b)(hb:b≤x.length):nY H (.str x) (.int (aaa a)) (.int (aaa b)) .none=.ok (.str ((x.take b).drop a)) H:=by
 have h1:bound (aC x) 0 (.int (aaa a))=some a:=by
  show some (az (aa5 a (aC x)) a (aC x))=some a
  rw[aN,aaF (by omega)];rfl
 have h2:bound (aC x) (aC x) (.int (aaa b))=some b:=by
  show some (az (aa5 b (aC x)) b (aC x))=some b
  rw[aN,aaF (by omega)];rfl
 show R.lift (aT (fit x) fun x=>aT (aT (bound (aC x) 0 (.int (aaa a))) fun a'=>aT (bound (aC x) (aC x) (.int (aaa b))) fun b'=>some (fS (dF x b') a')) fun y=>some (V.str y)) H=_
 unfold fit
 rw[hx,c8]
 show R.lift (aT (aT (bound (aC x) 0 (.int (aaa a))) fun a'=>aT (bound (aC x) (aC x) (.int (aaa b))) fun b'=>some (fS (dF x b') a')) fun y=>some (V.str y)) H=_
 rw[h1,h2]
 show R.ok (V.str (fS (dF x b) a)) H=_
 rw[dM,eV]
theorem Ln{x:List Nat}{a:Nat}(hx:short x=true)(ha:a≤x.length):nY H (.str x) (.int (aaa a)) .none .none=.ok (.str (x.drop a)) H:=by
 have h1:bound (aC x) 0 (.int (aaa a))=some a:=by
  show some (az (aa5 a (aC x)) a (aC x))=some a
  rw[aN,aaF ha];rfl
 show R.lift (aT (fit x) fun x=>aT (aT (bound (aC x) 0 (.int (aaa a))) fun a'=>aT (bound (aC x) (aC x) .none) fun b'=>some (fS (dF x b') a')) fun y=>some (V.str y)) H=_
 unfold fit
 rw[hx,c8]
 show R.lift (aT (aT (bound (aC x) 0 (.int (aaa a))) fun a'=>aT (bound (aC x) (aC x) .none) fun b'=>some (fS (dF x b') a')) fun y=>some (V.str y)) H=_
 rw[h1]
 show R.ok (V.str (fS (dF x (aC x)) a)) H=_
 rw[dM,eV,aN,acV]
theorem B4{o:Nat}{pn:Nat}(hlk:C.lk=[])(hs:short s=true)(hao:a<o)(ho:o≤s.length)(hn:jR H n=some l)(hl:short l=true):
 bB C (rS s a (.int (aaa o)) n (.int (aaa pn)) (.str [34])) H=.ok (.on (rS s (pn+1) .none n (.int (aaa pn)) (.str [34]))) (setAt H n (au l [.str ((s.take o).drop a)])):=by
 have hne:uz (aaa a) (aaa o)=false:=by rw[kH];exact decide_eq_false (by simp;omega)
 refine br (fq (cH (o:=.eq) (c:=true) (aH rfl) aU rfl) (br (fq (cH (o:=.is) (c:=false) (aH rfl) aU rfl) (br (fq (cH (o:=.ne) (c:=true) (aH rfl) (aH rfl) ?_) (br (qG (kc hlk rfl (jQ (aH rfl) (aH rfl) (aH rfl) aU (NG hs (adl hao) ho)) hn hl)) rfl)) (br (fQ (cQ (o:=.add) (aH rfl) aU rfl)) (br (fQ aU) rfl)))) rfl)) rfl
 show some (az (uz (aaa a) (aaa o)) false true)=some true
 rw[hne];rfl
end
noncomputable abbrev oS:Tg:=.two 15 16
noncomputable def Aq(s:List Nat)(a n:Nat)(r:aR):Prop:=r=[(11,.str s),(12,.int (aaa a)),(13,.none),(14,.ref n)]∨∃p q,r=rS s a .none n p q
section
variable{C:Cx}{H H1 H2:HP}{s pre post rest:List Nat}{a n:Nat}{op p q:V}{l:List (List Nat)}{r:aR}
theorem dR{bd:aR→HP→R Fl}{t:Tg}{v:V}{l:List V}{r r1 r2:aR}(h1:dU t v r=some r1)(h2:bd r1 H=.ok (.on r2) H1):bz bd t (v::l) r H=bz bd t l r2 H1:=by
 show(match dU t v r with
  |none=>(R.bad:R Fl)
  |some r=>match bd r H with
   |.ok f H=>match f with
    |.on r=>bz bd t l r H
    |.back v=>.ok (.back v) H
   |_=>.bad)=_
 rw[h1];dsimp only;rw[h2]
theorem Aq.bind(h:Aq s a n r)(p q:V):dU oS (.tup [p,q]) r=some (rS s a .none n p q):=by
 rcases h with rfl|⟨_,_,rfl⟩<;>rfl
theorem rI{t:List Nat}{v:V}{l:List V}(h:Aq s a n r)(ht:t≠[34]):bz (bB C) oS (.tup [v,.str t]::l) r H=bz (bB C) oS l (rS s a .none n v (.str t)) H:=
 dR (h.bind _ _) (sQ ht)
theorem B8{v:V}{l:List V}(h:Aq s a n r):bz (bB C) oS (.tup [v,.str [34]]::l) r H=bz (bB C) oS l (rS s a v n v (.str [34])) H:=
 dR (h.bind _ _) DU
theorem wm{t:List Nat}{v:V}{l:List V}(ht:t≠[34]):bz (bB C) oS (.tup [v,.str t]::l) (rS s a op n p q) H=bz (bB C) oS l (rS s a op n v (.str t)) H:=
 dR rfl (sQ ht)
theorem Hq{l:List (List Nat)}{o pn:Nat}{m:List V}(hlk:C.lk=[])(hs:short s=true)(hao:a<o)(ho:o≤s.length)(hl:short (l.map V.str)=true):
 bz (bB C) oS (.tup [.int (aaa pn),.str [34]]::m) (rS s a (.int (aaa o)) (aC H) p q) (au H [l.map V.str])=bz (bB C) oS m (rS s (pn+1) .none (aC H) (.int (aaa pn)) (.str [34])) (au H [(l++[(s.take o).drop a]).map V.str]):=by
 refine dR rfl ((B4 hlk hs hao ho (Af H _) hl).trans ?_)
 rw[yj,aO (l.map V.str),aaR];rfl
theorem Aq.mk(v w:V):Aq s a n (rS s a .none n v w):=.inr ⟨v,w,rfl⟩
theorem n1:([40]:List Nat)≠[34]:=by decide
theorem n2:([41]:List Nat)≠[34]:=by decide
theorem n3:([92,34]:List Nat)≠[34]:=by decide
theorem n4:([92,40]:List Nat)≠[34]:=by decide
theorem n5:([92,92]:List Nat)≠[34]:=by decide
theorem Wj(b:Bool):([qI b]:List Nat)≠[34]:=by cases b<;>decide+kernel
theorem B9(b:Bool)(l:List Nat)(i:Nat):d9 (qI b::l) i false=.tup [.int (aaa i),.str [qI b]]::d9 l (i+1) false:=by
 cases b<;>rfl
noncomputable def UY(C:Cx)(H:HP)(s pre rest:List Nat)(l:List (List Nat))(r:aR)(a:Nat)(x:Bool×Nat):Prop:=
 ∃(r':aR)(a':Nat)(l':List (List Nat)),bz (bB C) oS (d9 (piece x++rest) pre.length false) r (au H [l.map V.str])=bz (bB C) oS (d9 rest (pre.length+(piece x).length) false) r' (au H [l'.map V.str])∧
  Aq s a' (aC H) r'∧a'≤pre.length+(piece x).length∧l'.length≤l.length+1∧l'.flatten++(pre++piece x).drop a'=l.flatten++pre.drop a++k8 x
theorem kg{x:Bool×Nat}{r':aR}(ha:a≤pre.length)(e:k8 x=piece x)(h1:bz (bB C) oS (d9 (piece x++rest) pre.length false) r (au H [l.map V.str])=bz (bB C) oS (d9 rest (pre.length+(piece x).length) false) r' (au H [l.map V.str]))(h2:Aq s a (aC H) r'):UY C H s pre rest l r a x:=
 ⟨r',a,l,h1,h2,aah ha (abb ..),aeu _,by rw[e,adI ha,aaE]⟩
theorem yk{x:Bool×Nat}{r':aR}(Ew:s=pre++piece x++post)(ha:a≤pre.length)(e:k8 x=[qI x.1])(e6:(piece x).length=6)(h1:bz (bB C) oS (d9 (piece x++rest) pre.length false) r (au H [l.map V.str])=bz (bB C) oS (d9 rest (pre.length+6) false) r' (au H [(l++[(s.take (pre.length+1)).drop a]).map V.str]))(h2:Aq s (pre.length+6) (aC H) r'):UY C H s pre rest l r a x:=by
 refine⟨r',_,_,e6.symm▸h1,h2,abo (e6▸rfl),abo aao,?_⟩
 have e1:s.take (pre.length+1)=pre++[qI x.1]:=by
  rw[Ew]
  show(pre++(qI x.1::Lm x.2)++post).take (pre.length+1)=_
  simp[List.take_append]
  exact aa2 (aeu _)
 rw[e1,e,acH (l:=pre++piece x) (by rw[aao,e6];exact aaA _),aaO,adI ha,afG,aaE,abX,aeT,aaO]
theorem ZR{P:Nat→Prop}{j:Nat}(h:j<8)(h0:P 0)(h1:P 1)(h2:P 2)(h3:P 3)(h4:P 4)(h5:P 5)(h6:P 6)(h7:P 7):P j:=by
 cases j with|zero=>exact h0|succ j=>
 cases j with|zero=>exact h1|succ j=>
 cases j with|zero=>exact h2|succ j=>
 cases j with|zero=>exact h3|succ j=>
 cases j with|zero=>exact h4|succ j=>
 cases j with|zero=>exact h5|succ j=>
 cases j with|zero=>exact h6|succ j=>
 cases j with|zero=>exact h7|succ j=>exact absurd h (abt.mpr (agL 8 j))
theorem E6{x:Bool×Nat}(Ew:s=pre++piece x++post)(e6:(piece x).length=6):pre.length+5≤s.length:=by rw[Ew,aao,aao,e6];omega
theorem Ca(hlk:C.lk=[])(hs:short s=true)(x:Bool×Nat)(hx:x.2<8)(Ew:s=pre++piece x++post)(hr:Aq s a (aC H) r)(ha:a≤pre.length)(hl:l.length<4000):UY C H s pre rest l r a x:=by
 have hsl:short (l.map V.str)=true:=by
  unfold short;rw[aN,aaj];exact aaF (by omega)
 have step:∀(h:List Nat),bz (bB C) oS (d9 (qI x.1::h++rest) pre.length false) r (au H [l.map V.str])=bz (bB C) oS (d9 (h++rest) (pre.length+1) false) (rS s a .none (aC H) (.int (aaa pre.length)) (.str [qI x.1])) (au H [l.map V.str]):=fun h=>by
  rw[abc,B9]
  exact rI hr (Wj x.1)
 have close:=fun p q=>Hq (l:=l) (p:=p) (q:=q) (pn:=pre.length+5) (m:=d9 rest (pre.length+6) false) (H:=H) hlk hs (aet ha)
 refine ZR (P:=fun j=>s=pre++piece (x.1,j)++post→UY C H s pre rest l r a (x.1,j)) hx (fun _=>?_) (fun _=>?_) (fun _=>?_) (fun _=>?_) (fun h=>?_) (fun _=>?_) (fun h=>?_) (fun _=>?_) Ew
 ·exact kg ha rfl (step []) (.mk _ _)
 ·exact kg ha rfl (step []) (.mk _ _)
 ·exact kg ha rfl (step []) (.mk _ _)
 ·exact kg ha rfl (step []) (.mk _ _)
 ·exact yk h ha rfl rfl ((step [34,92,34,41,34]).trans ((B8 (.mk _ _)).trans ((wm n3).trans ((wm n2).trans (close _ _ (aah (show pre.length+1≤pre.length+5 from acB (by decide) _) (E6 h rfl)) hsl))))) (.mk _ _)
 ·exact kg ha rfl ((step [92,40]).trans (rI (.mk _ _) n4)) (.mk _ _)
 ·exact yk h ha rfl rfl ((step [34,40,41,40,34]).trans ((B8 (.mk _ _)).trans ((wm n1).trans ((wm n2).trans ((wm n1).trans (close _ _ (aah (show pre.length+1≤pre.length+5 from acB (by decide) _) (E6 h rfl)) hsl)))))) (.mk _ _)
 ·exact kg ha rfl ((step [92,92]).trans (rI (.mk _ _) n5)) (.mk _ _)
theorem gY(x:Bool×Nat)(qs:List (Bool×Nat)):aP (x::qs)=piece x++aP qs:=agp
theorem i9(x:Bool×Nat)(qs:List (Bool×Nat)):gM (x::qs)=k8 x++gM qs:=agp
theorem wu(p rest:List Nat):∀e,cM (p++rest) e=cM rest (cM p e):=by
 induction p with
 |nil=>exact fun _=>rfl
 |cons c p ih=>
  intro e
  cases e with
  |true=>exact ih false
  |false=>exact ih (aap c 92)
theorem Ag(x:Bool×Nat)(hx:x.2<8)(rest:List Nat):cM (piece x++rest) false=cM rest false:=by
 rw[wu,(by decide:∀j<8,∀b,cM (piece (b,j)) false=false) x.2 hx x.1]
theorem xh(x:Bool×Nat)(hx:x.2<8)(rest:List Nat):cM (k8 x++rest) false=cM rest false:=by
 rw[wu,(by decide:∀j<8,∀b,cM (k8 (b,j)) false=false) x.2 hx x.1]
theorem mU{α:Type}{P:α→Prop}{x:α}{l:List α}(h:∀y∈x::l,P y):∀y∈l,P y:=fun y hy=>h y (aaf _ hy)
theorem Cb(qs:List (Bool×Nat))(h:∀x∈qs,x.2<8):cM (aP qs) false=false:=by
 induction qs with
 |nil=>rfl
 |cons x qs ih=>rw[gY,Ag x (h x (aae ..))];exact ih (mU h)
theorem qJ(qs:List (Bool×Nat))(h:∀x∈qs,x.2<8):cM (gM qs) false=false:=by
 induction qs with
 |nil=>rfl
 |cons x qs ih=>rw[i9,xh x (h x (aae ..))];exact ih (mU h)
theorem DV(hlk:C.lk=[])(hs:short s=true)(qs:List (Bool×Nat)):∀(pre:List Nat)(l:List (List Nat))(a:Nat)(r:aR),(∀x∈qs,x.2<8)→s=pre++aP qs→Aq s a (aC H) r→a≤pre.length→l.length+qs.length≤4000→
 ∃(r':aR)(a':Nat)(l':List (List Nat)),bz (bB C) oS (d9 (aP qs) pre.length false) r (au H [l.map V.str])=.ok (.on r') (au H [l'.map V.str])∧Aq s a' (aC H) r'∧a'≤s.length∧l'.length≤l.length+qs.length∧l'.flatten++s.drop a'=l.flatten++pre.drop a++gM qs:=by
 induction qs with
 |nil=>
  intro pre l a r _ Ew hr ha hl
  obtain rfl:s=pre:=Ew.trans (aaO _)
  exact⟨r,a,l,rfl,hr,ha,aaA _,(aaO _).symm⟩
 |cons x qs ih=>
  intro pre l a r hq Ew hr ha hl
  rw[gY] at Ew ⊢
  rw[←aaE] at Ew
  have hl:l.length+1+qs.length≤4000:=(acv l.length qs.length).symm▸hl
  obtain⟨r1,a1,l1,e1,h1,h2,h3,h4⟩:=Ca (l:=l) (rest:=aP qs) (post:=aP qs) hlk hs x (hq x (aae ..)) Ew hr ha (aah (abb ..) hl)
  obtain⟨r2,a2,l2,e2,g1,g2,g3,g4⟩:=ih (pre++piece x) l1 a1 r1 (mU hq) Ew h1 (by rw[aao];exact h2) (aah (abV h3 _) hl)
  rw[aao] at e2
  exact⟨r2,a2,l2,e1.trans e2,g1,g2,aah g3 (aah (abV h3 _) (abo (acv ..))),by rw[g4,h4,i9,←aaE]⟩
theorem plain_text(qs:List (Bool×Nat))(h:∀x∈qs,x.2<8)(hn:34∉aP qs):gM qs=aP qs:=by
 induction qs with
 |nil=>rfl
 |cons x qs ih=>
  rw[gY] at hn ⊢
  rw[i9,ih (mU h) fun h'=>hn (aau _ h')]
  exact congrArg (· ++aP qs) ((by decide:∀j<8,∀b,34∉piece (b,j)→k8 (b,j)=piece (b,j)) x.2 (h x (aae ..)) x.1 fun h'=>hn (aaT _ h'))
theorem Lo(qs:List (Bool×Nat))(h:∀x∈qs,x.2<8):(gM qs).length≤(aP qs).length:=by
 induction qs with
 |nil=>exact aaA _
 |cons x qs ih=>
  rw[i9,gY,aao,aao]
  exact ace ((by decide:∀j<8,∀b,(k8 (b,j)).length≤(piece (b,j)).length) x.2 (h x (aae ..)) x.1) (ih (mU h))
theorem NH(ps:List (List Nat)):jo [] ps=ps.flatten:=by
 induction ps with
 |nil=>rfl
 |cons a t ih=>
  show au a _=_
  rw[aO,abX,←ih]
  cases t with
  |nil=>rfl
  |cons b t=>rfl
theorem DW(l:List (List Nat)):jn Ax (l.map V.str)=some l:=by
 induction l with
 |nil=>rfl
 |cons a l ih=>
  show(aT (some a) fun b=>aT (jn Ax (l.map V.str)) fun t=>some (b::t))=_
  rw[ih];rfl
theorem bT{α:Type}{l:List α}(h:l.length≤4000):short l=true:=by unfold short;rw[aN];exact aaF h
theorem mV{α:Type}{l:List α}(h:l.length≤4000):fit l=some l:=by unfold fit;rw[bT h];rfl
theorem E7{x:V}{e:CE}{sep:List Nat}(he:e C r H=.ok x H1)(hi:items H1 x=some (l.map V.str))(hs:l.flatten.length≤4000):aS (cV (.str [])) .join (aa e aj) ay C r H=.ok (.str l.flatten) H1:=by
 refine uq aU rfl (cR he) ?_
 show R.lift (aT (fit ([]:List Nat)) fun s=>aT (items H1 x) fun l=>aT (jn Ax l) fun ts=>aT (fit (jo s ts)) fun u=>some (V.str u)) H1=_
 rw[show fit ([]:List Nat)=some [] from rfl]
 show R.lift (aT (items H1 x) fun l=>aT (jn Ax l) fun ts=>aT (fit (jo [] ts)) fun u=>some (V.str u)) H1=_
 rw[hi]
 show R.lift (aT (jn Ax (l.map V.str)) fun ts=>aT (fit (jo [] ts)) fun u=>some (V.str u)) H1=_
 rw[DW]
 show R.lift (aT (fit (jo [] l)) fun u=>some (V.str u)) H1=_
 rw[NH,mV hs];rfl
theorem wz{x:Nat}{s:List Nat}(hx:aK x r=some (.str s))(hs:s.length≤4000):aB (cV (.bi .len)) (aa (af x) aj) ay C r H=.ok (.int (aaa s.length)) H:=by
 refine eu aU (cR (aH hx)) ?_
 show R.lift (aT (fit s) fun s=>some (V.int (aaa (aC s)))) H=_
 rw[mV hs,←aN];rfl
theorem Aq.Wk(h:Aq s a n r):aK 11 r=some (.str s):=by rcases h with rfl|⟨_,_,rfl⟩<;>rfl
theorem Aq.oR(h:Aq s a n r):aK 12 r=some (.int (aaa a)):=by rcases h with rfl|⟨_,_,rfl⟩<;>rfl
theorem Aq.Xy(h:Aq s a n r):aK 14 r=some (.ref n):=by rcases h with rfl|⟨_,_,rfl⟩<;>rfl
theorem Lp(hlk:C.lk=[])(ps:List (Bool×Nat))(hp:∀x∈ps,x.2<8)(hn:ps.length≤3900)(hs:(aP ps).length≤4000):∃g,bl C [(11,.str (aP ps))] H=.ok (.back (.str (gM ps))) (au H g):=by
 cases hm:Az 34 (aP ps) with
 |false=>
  refine⟨[],?_⟩
  have e:gM ps=aP ps:=plain_text ps hp (by rw[Ej] at hm;exact of_decide_eq_false hm)
  rw[e,aO,aaO]
  exact gH (fq (cH (o:=.Fp) (c:=true) aU (aH rfl) (show wL (OO H (.str [34]) (.str (aP ps)))=_ by show wL (some (Az 34 (aP ps)))=_;rw[hm];rfl)) (gH (rH (aH rfl))))
 |true=>
  obtain⟨r1,a1,l1,e1,h1,h2,h3,h4⟩:=DV (C:=C) (H:=H) hlk (bT hs) ps [] [] 0 [(11,.str (aP ps)),(12,.int (aaa 0)),(13,.none),(14,.ref (aC H))] hp rfl (.inl rfl) (aaA _) (aah (abo (abL _)) (aah hn (by decide)))
  have hnl:bh b9 C.lk=true:=by rw[hlk];rfl
  have h4:l1.flatten++(aP ps).drop a1=gM ps:=h4
  have hle:=Lo ps hp
  have ZS:l1.length≤3900:=aah h3 (aah (abo (abL _)) hn)
  have fin:∀(l2:List (List Nat)),l2.flatten=gM ps→(iC (bV (aY (af 12) .lt (aB (cV (.bi .len)) (aa (af 11) aj) ay))) (ak (cD (aS (af 14) .append (aa (cJ (af 11) (af 12) (cV .none) (cV .none)) aj) ay)) aA) aA) C r1 (au H [l1.map V.str])=.ok (.on r1) (au H [l2.map V.str])→
   ∃g,bl C [(11,.str (aP ps))] H=.ok (.back (.str (gM ps))) (au H g):=fun l2 hl2 hif=>by
   refine⟨[l2.map V.str],?_⟩
   rw[←hl2]
   refine br (fq (cH (o:=.Fp) (c:=false) aU (aH rfl) (show wL (OO H (.str [34]) (.str (aP ps)))=_ by show wL (some (Az 34 (aP ps)))=_;rw[hm];rfl)) rfl) ?_
   refine br (fQ aU) (br (fQ aU) (br (fQ (v:=.ref (aC H)) rfl) ?_))
   refine br (wk (DS (aH rfl) (Cb ps hp)) hnl e1) ?_
   refine br hif (gH (rH (E7 (sep:=[]) (aH h1.Xy) ?_ (by rw[hl2];exact aah hle hs))))
   exact Af H _
  by_cases ha:a1<(aP ps).length
  ·refine fin (l1++[(aP ps).drop a1]) (by rw[←h4,afG,abX,aeT,aaO]) ?_
   refine fq (c:=true) (cH (o:=.lt) (aH h1.oR) (wz h1.Wk hs) ?_) ?_
   ·show some (jS (aaa a1) (aaa (aP ps).length))=some true
    rw[fM,decide_eq_true (abK.mpr ha)]
   ·refine br (qG (v:=.none) ((kc hlk h1.Xy (jQ (aH h1.Wk) (aH h1.oR) aU aU (Ln (bT hs) h2)) (Af H _) (bT (by rw[aaj];exact aah ZS (by decide)))).trans ?_)) rfl
    rw[yj,aO (l1.map V.str),aaR];rfl
  ·refine fin l1 (by rw[←h4,acH (abt.mp ha),aaO]) ?_
   refine fq (c:=false) (cH (o:=.lt) (aH h1.oR) (wz h1.Wk hs) ?_) rfl
   show some (jS (aaa a1) (aaa (aP ps).length))=some false
   rw[fM,decide_eq_false fun h=>ha (abK.mp h)]
end
noncomputable def gI:CS:=(ak (iC (bV (aY (af 16) .eq (cV (.str [40])))) (ak (qX 21 .add (cV (.int 1)))
 aA) (ak (iC (bV (aY (af 16) .eq (cV (.str [41])))) (ak (qX 21 .sub (cV (.int 1)))
 (ak (iC (bV (aY (af 21) .lt (cV (.int 0)))) (ak (dI (cV (.bool false)))
 aA) aA)
 aA)) aA)
 aA))
 aA)
noncomputable def mW(o:Nat)(l:List Bool):Bool:=@aaB Bool (fun _=>Nat→Bool) (fun o=>aap o 0) (fun b _ ih o=>@abQ (fun _=>Bool) (@ach (fun _=>Bool) false (fun o _=>ih o) o) (ih (o+1)) b) l o
noncomputable def rC(s:List Nat)(o:Int)(p q:V):aR:=[(11,.str s),(21,.int o),(15,p),(16,q)]
noncomputable def HO(s:List Nat)(o:Nat)(r:aR):Prop:=r=[(11,.str s),(21,.int (aaa o))]∨∃p q,r=rC s (aaa o) p q
section
variable{C:Cx}{H H1 H2:HP}{s:List Nat}{o:Nat}{p q:V}{r:aR}{m:List V}{v:V}
theorem HO.bind(h:HO s o r)(p q:V):dU oS (.tup [p,q]) r=some (rC s (aaa o) p q):=by
 rcases h with rfl|⟨_,_,rfl⟩<;>rfl
theorem HO.mk(p q:V):HO s o (rC s (aaa o) p q):=.inr ⟨p,q,rfl⟩
theorem yl{t:List Nat}(h:HO s o r)(h1:t≠[40])(h2:t≠[41]):bz (gI C) oS (.tup [v,.str t]::m) r H=bz (gI C) oS m (rC s (aaa o) v (.str t)) H:=by
 have b1:gP t [40]=false:=by rw[ju];exact decide_eq_false h1
 have b2:gP t [41]=false:=by rw[ju];exact decide_eq_false h2
 exact dR (h.bind _ _) (br (fq (cH (o:=.eq) (c:=false) (aH rfl) aU (show some (gP t [40])=some false by rw[b1])) (br (fq (cH (o:=.eq) (c:=false) (aH rfl) aU (show some (gP t [41])=some false by rw[b2])) rfl) rfl)) rfl)
theorem QZ(h:HO s o r):bz (gI C) oS (.tup [v,.str [40]]::m) r H=bz (gI C) oS m (rC s (aaa (o+1)) v (.str [40])) H:=
 dR (h.bind _ _) (br (fq (cH (o:=.eq) (c:=true) (aH rfl) aU rfl) (br (DR (o:=.add) (z:=.int (aaa (o+1))) rfl rfl aU rfl) rfl)) rfl)
theorem Lq(h:HO s (o+1) r):bz (gI C) oS (.tup [v,.str [41]]::m) r H=bz (gI C) oS m (rC s (aaa o) v (.str [41])) H:=by
 have e:aaK (aaa (o+1)) (acz 1)=aaa o:=by show((o+1:Nat):Int)+-1=(o:Int);omega
 have hlt:jS (aaa o) 0=false:=by rw[fM];exact decide_eq_false (by show¬((o:Int)<0);omega)
 refine dR (h.bind _ _) (br (fq (cH (o:=.eq) (c:=false) (aH rfl) aU rfl) (br (fq (cH (o:=.eq) (c:=true) (aH rfl) aU rfl) (br (DR (o:=.sub) (z:=.int (aaa o)) rfl rfl aU (congrArg (fun i=>some (V.int i)) e)) (br (fq (cH (o:=.lt) (c:=false) (aH rfl) aU (congrArg some hlt)) rfl) rfl))) rfl)) rfl)
theorem NI(h:HO s 0 r):bz (gI C) oS (.tup [v,.str [41]]::m) r H=.ok (.back (.bool false)) H:=
 DT (h.bind _ _) (gH (fq (cH (o:=.eq) (c:=false) (aH rfl) aU rfl) (gH (fq (cH (o:=.eq) (c:=true) (aH rfl) aU rfl) (br (DR (o:=.sub) (z:=.int (-1)) rfl rfl aU rfl) (gH (fq (cH (o:=.lt) (c:=true) (aH rfl) aU rfl) (gH (rH aU)))))))))
theorem m1:([92,40]:List Nat)≠[40]:=by decide
theorem m2:([92,40]:List Nat)≠[41]:=by decide
theorem m3:([92,92]:List Nat)≠[40]:=by decide
theorem m4:([92,92]:List Nat)≠[41]:=by decide
theorem ym(j:Nat)(hj:j<8)(rest:List Nat)(pos:Nat){p q:V}:∃pos' p' q',bz (gI C) oS (d9 (plainS j++rest) pos false) (rC s (aaa o) p q) H=bz (gI C) oS (d9 rest pos' false) (rC s (aaa o) p' q') H:=by
 match j,hj with
 |0,_=>exact⟨pos,p,q,rfl⟩
 |1,_=>exact⟨pos,p,q,rfl⟩
 |2,_=>exact⟨pos,p,q,rfl⟩
 |3,_=>exact⟨pos,p,q,rfl⟩
 |4,_=>exact⟨pos,p,q,rfl⟩
 |5,_=>exact⟨pos+2,_,_,yl (.mk _ _) m1 m2⟩
 |6,_=>exact⟨pos,p,q,rfl⟩
 |7,_=>exact⟨pos+2,_,_,yl (.mk _ _) m3 m4⟩
 |k+8,h=>exact absurd h (by simp)
theorem wA:∀(qs:List (Bool×Nat))(o pos:Nat)(r:aR),(∀x∈qs,x.2<8)→HO s o r→
 ∃f,bz (gI C) oS (d9 (gM qs) pos false) r H=.ok f H∧((f=.back (.bool false)∧mW o (qs.map (·.1))=false)∨∃r' o',f=.on r'∧HO s o' r'∧mW o (qs.map (·.1))=aap o' 0)
 |[],o,pos,r,_,hr=>⟨_,rfl,.inr ⟨r,o,rfl,hr,rfl⟩⟩
 |(b,j)::qs,o,pos,r,hq,hr=>by
  have h8:=hq (b,j) (aae ..)
  have hq':∀x∈qs,x.2<8:=fun y hy=>hq y (aaf _ hy)
  rw[i9,aaz]
  show∃f,bz (gI C) oS (d9 (qI b::(plainS j++gM qs)) pos false) r H=.ok f H∧_
  rw[B9]
  cases b with
  |true=>
   obtain⟨pos',p',q',e⟩:=ym (C:=C) (H:=H) (s:=s) (o:=o+1) j h8 (gM qs) (pos+1) (p:=.int (aaa pos)) (q:=.str [40])
   obtain⟨f,e1,e2⟩:=wA qs (o+1) pos' (rC s (aaa (o+1)) p' q') hq' (.mk _ _)
   refine⟨f,(QZ hr).trans (e.trans e1),?_⟩
   exact e2
  |false=>
   cases o with
   |zero=>
    refine⟨_,NI hr,.inl ⟨rfl,rfl⟩⟩
   |succ o=>
    obtain⟨pos',p',q',e⟩:=ym (C:=C) (H:=H) (s:=s) (o:=o) j h8 (gM qs) (pos+1) (p:=.int (aaa pos)) (q:=.str [41])
    obtain⟨f,e1,e2⟩:=wA qs o pos' (rC s (aaa o) p' q') hq' (.mk _ _)
    refine⟨f,(Lq hr).trans (e.trans e1),?_⟩
    exact e2
theorem HO.ZT(h:HO s o r):aK 21 r=some (.int (aaa o)):=by rcases h with rfl|⟨_,_,rfl⟩<;>rfl
theorem Lr{par:Bool}{m:Nat}(ps:List (Bool×Nat))(hp:∀x∈ps,x.2<8)(hn:ps.length≤3900)(hs:(aP ps).length≤4000):∃g,iD par (m+2) 5 [.str (aP ps)] [] [] H=.ok (.bool (mW 0 (ps.map (·.1)))) (au H g):=by
 obtain⟨g,hg⟩:=Lp (C:=⟨par,iD par m,[]⟩) (H:=H) rfl ps hp hn hs
 have h4:iD par (m+1) 4 [.str (aP ps)] [] [] H=.ok (.str (gM ps)) (au H g):=by
  show yT (bl ⟨par,iD par m,[]⟩ [(11,.str (aP ps))] H)=_
  rw[hg];rfl
 refine⟨g,?_⟩
 obtain⟨f,e1,e2⟩:=wA (C:=⟨par,iD par (m+1),[]⟩) (H:=au H g) (s:=gM ps) ps 0 0 [(11,.str (gM ps)),(21,.int (aaa 0))] hp (.inl rfl)
 have main:cB ⟨par,iD par (m+1),[]⟩ [(11,.str (aP ps))] H=.ok (.back (.bool (mW 0 (ps.map (·.1))))) (au H g):=by
  refine br (fQ (eu aU (cR (aH rfl)) h4)) (br (fQ aU) ?_)
  rcases e2 with⟨rfl,e3⟩|⟨r',o',rfl,h1,e3⟩
  ·rw[e3]
   exact gH (wk (DS (aH rfl) (qJ ps hp)) rfl e1)
  ·rw[e3]
   refine br (wk (DS (aH rfl) (qJ ps hp)) rfl e1) (gH (rH (Lk (o:=.eq) (aH h1.ZT) aU ?_)))
   show some (uz (aaa o') 0)=_
   rw[kH]
   cases o'<;>rfl
 show yT (cB ⟨par,iD par (m+1),[]⟩ [(11,.str (aP ps))] H)=_
 rw[main];rfl
end
noncomputable def qK:List Nat:=[40,39,39,44,32,39,39,41]
noncomputable def oK(t:List (Bool×Nat)):List Nat:=az (mW 0 (t.map (·.1))) (aP t) qK
noncomputable def E8:CS:=(ak (iC (OV (bV (aB (cV (.fn 5)) (aa (af 23) aj) ay))) (ak (bH 23 (cV (.str [40,39,39,44,32,39,39,41])))
 aA) aA)
 (ak (cD (aS (af 22) .append (aa (af 23) aj) ay))
 aA))
noncomputable def Xz(x:V)(n:Nat)(r:aR):Prop:=r=[(24,x),(22,.ref n)]∨∃v,r=[(24,x),(22,.ref n),(23,v)]
section
variable{H H1 H2:HP}{x v:V}{r:aR}{par:Bool}{m:Nat}
theorem E9{α:Type}(H g:List α)(x:α):jR (au (au H [x]) g) (aC H)=some x:=by rw[eU,aO,aO,aN];simp
theorem Hr{α:Type}(H g:List α)(x y:α):setAt (au (au H [x]) g) (aC H) y=au (au H [y]) g:=by
 rw[pL,aO,aO,aO,aO,aN,aaE,aaE]
 simp
theorem Cc{C:Cx}(hC:C=⟨par,iD par (m+2),[]⟩):∀(Cd:List (List (Bool×Nat)))(acc:List (List Nat))(g:HP)(r:aR),(∀t∈Cd,(∀x∈t,x.2<8)∧t.length≤3900∧(aP t).length≤4000)→Xz x (aC H) r→acc.length+Cd.length≤4000→
 ∃r' g',bz (E8 C) (.one 23) (Cd.map fun t=>V.str (aP t)) r (au (au H [acc.map V.str]) g)=.ok (.on r') (au (au H [(acc++Cd.map oK).map V.str]) g')∧Xz x (aC H) r'
 |[],acc,g,r,_,hr,_=>⟨r,g,by simp[Ho],hr⟩
 |t::Cd,acc,g,r,ht,hr,hl=>by
  obtain⟨h1,h2,h3⟩:=ht t (aae ..)
  rw[aaD] at hl
  obtain⟨g1,hc⟩:=Lr (H:=au (au H [acc.map V.str]) g) (par:=par) (m:=m) t h1 h2 h3
  have hr1:dU (.one 23) (.str (aP t)) r=some [(24,x),(22,.ref (aC H)),(23,.str (aP t))]:=by
   rcases hr with rfl|⟨_,rfl⟩<;>rfl
  have eg:au (au (au H [acc.map V.str]) g) g1=au (au H [acc.map V.str]) (g++g1):=by simp only [aO,aaE]
  rw[eg] at hc
  have body:E8 C [(24,x),(22,.ref (aC H)),(23,.str (aP t))] (au (au H [acc.map V.str]) g)=.ok (.on [(24,x),(22,.ref (aC H)),(23,.str (oK t))]) (au (au H [(acc++[oK t]).map V.str]) (g++g1)):=by
   have first:iC (OV (bV (aB (cV (.fn 5)) (aa (af 23) aj) ay))) (ak (bH 23 (cV (.str [40,39,39,44,32,39,39,41]))) aA) aA C [(24,x),(22,.ref (aC H)),(23,.str (aP t))] (au (au H [acc.map V.str]) g)=.ok (.on [(24,x),(22,.ref (aC H)),(23,.str (oK t))]) (au (au H [acc.map V.str]) (g++g1)):=by
    refine fq (T6 (T5 (c:=mW 0 (t.map (·.1))) (eu (f:=.fn 5) aU (cR (aH rfl)) (by subst hC;exact hc)) rfl)) ?_
    unfold oK
    cases mW 0 (t.map (·.1)) with
    |true=>rfl
    |false=>rfl
   refine br first (br (qG (v:=.none) ((kc (by rw[hC]) rfl (aH rfl) (E9 H _ _) (bT (by simp;omega))).trans ?_)) rfl)
   rw[Hr,aO (acc.map V.str),aaR];rfl
  obtain⟨r',g',e,hr'⟩:=Cc hC Cd (acc++[oK t]) (g++g1) [(24,x),(22,.ref (aC H)),(23,.str (oK t))] (fun u hu=>ht u (aaf _ hu)) (.inr ⟨_,rfl⟩) (by simp;omega)
  refine⟨r',g',?_,hr'⟩
  rw[aaz,dR hr1 body,e,aaz,aaE];rfl
theorem Q0(Cd:List (List (Bool×Nat)))(ht:∀t∈Cd,(∀x∈t,x.2<8)∧t.length≤3900∧(aP t).length≤4000)(hl:Cd.length≤4000):
 ∃g,iD par (m+3) 6 [.lst (Cd.map fun t=>V.str (aP t))] [] [] H=.ok (.ref (aC H)) (au (au H [(Cd.map oK).map V.str]) g):=by
 obtain⟨r',g',e,hr'⟩:=Cc (C:=⟨par,iD par (m+2),[]⟩) (H:=H) (x:=.lst (Cd.map fun t=>V.str (aP t))) rfl Cd [] [] [(24,.lst (Cd.map fun t=>V.str (aP t))),(22,.ref (aC H))] ht (.inl rfl) (by simpa using hl)
 have e0:au (au H [([]:List (List Nat)).map V.str]) []=au H [[]]:=by simp[aO]
 rw[e0,aaZ] at e
 refine⟨g',?_⟩
 have main:bR ⟨par,iD par (m+2),[]⟩ [(24,.lst (Cd.map fun t=>V.str (aP t)))] H=.ok (.back (.ref (aC H))) (au (au H [(Cd.map oK).map V.str]) g'):=by
  refine br (fQ (v:=.ref (aC H)) rfl) (br (wk (QY (aH rfl) rfl rfl) rfl e) (gH (rH (aH ?_))))
  rcases hr' with rfl|⟨_,rfl⟩<;>rfl
 show yT (bR ⟨par,iD par (m+2),[]⟩ [(24,.lst (Cd.map fun t=>V.str (aP t)))] H)=_
 rw[main];rfl
end
noncomputable def bq(b:Bool):V:=.str [qI b]
noncomputable def qL(b:Bool)(l:List Bool):Nat:=@aaB Bool (fun _=>Nat) 0 (fun c _ ih=>az (az b c (az c false true)) (acC ih) ih) l
noncomputable def OG(bs:List Bool)(v:V):V:=match v with
 |.int k=>.int (aaK (aaa (qL true (dF bs (abu k+1)))) (acz (aaa (qL false (dF bs (abu k+1))))))
 |_=>.none
noncomputable def lC(bs:List Bool):List V:=lmap (OG bs) (fk 0 1 (aC bs))
noncomputable def fR(bs:List Bool):Option Int:=aT (uB Aw (lC bs)) fun mn=>aT (isIn (.int mn) (lC bs)) fun _=>aT (nX (.int mn) (lC bs)) fun i=>some (aaK (aaa i) 1)
section
variable{C:Cx}{H H1 H2:HP}{x v:V}{r:aR}{par:Bool}{m:Nat}{bs:List Bool}
theorem Ls(x y:V)(l:List V):kq x (y::l)=aT (uA y x) fun c=>aT (kq x l) fun n=>some (az c (acC n) n):=rfl
theorem k9(b:Bool):∀bs:List Bool,kq (.str [qI b]) (bs.map bq)=some (qL b bs)
 |[]=>rfl
 |c::bs=>by
  rw[aaz,Ls,k9 b bs]
  cases b<;>cases c<;>rfl
theorem kh:∀(n:Nat)(a:Nat)(v:V),v∈fk (aaa a) 1 n→∃k,a≤k∧k<a+n∧v=.int (aaa k)
 |0,a,v,h=>by cases h
 |n+1,a,v,h=>by
  have h:v∈V.int (aaa a)::fk (aaa (a+1)) 1 n:=h
  rcases aar.mp h with rfl|h
  ·exact⟨a,aaA _,by omega,rfl⟩
  ·obtain⟨k,h1,h2,h3⟩:=kh n (a+1) v h
   exact⟨k,by omega,by omega,h3⟩
theorem ur{n:Nat}(hn:n<1000000):AE [.int (aaa n)]=some (fk 0 1 n):=by
 have h1:bJ (aaa n)=true:=aaF hn
 show lR 0 (aaa n) 1=_
 have e:abg 0 (aaa n) 1=aaa n:=by
  cases n with
  |zero=>rfl
  |succ n=>
   unfold abg
   rw[if_pos (by decide),if_pos (abK.mpr (adV n)),ahq,Int.sub_zero]
   exact afO ..
 unfold lR
 rw[h1,e]
 show OM 0 1 (aaa n)=_
 unfold OM
 rw[h1];rfl
theorem yo:∀(n:Nat)(a c:Int),(fk a c n).length=n
 |0,_,_=>rfl
 |n+1,a,c=>congrArg (· +1) (yo n (aaK a c) c)
theorem fX{xs:List V}{a:V}(ha:items H a=some xs)(hs:∀l,a≠.str l){l u s:V}{ys:List V}(hx:short xs=true)(hw:isWhole l u s=false)(h:cW xs l u s=some ys):nY H a l u s=.ok (.lst ys) H:=by
 have e:nY H a l u s=(match items H a with
  |none=>.bad
  |some xs=>az (short xs) (az (isWhole l u s) (.ok (.ref (aC H)) (au H [xs])) (R.lift (aT (cW xs l u s) fun y=>some (.lst y)) H)) .bad):=by
  cases a<;>first|rfl|exact absurd rfl (hs _)
 rw[e,ha]
 show az (short xs) (az (isWhole l u s) _ (R.lift (aT (cW xs l u s) fun y=>some (V.lst y)) H)) .bad=_
 rw[hx,c8,hw,eZ,h];rfl
theorem mY{xs:List V}{k:Nat}(hk:k≤xs.length):cW xs .none (.int (aaa k)) .none=some (xs.take k):=by
 show(aT (bound (aC xs) 0 .none) fun a=>aT (bound (aC xs) (aC xs) (.int (aaa k))) fun b=>some (fS (dF xs b) a))=_
 have h2:bound (aC xs) (aC xs) (.int (aaa k))=some k:=by
  show some (az (aa5 k (aC xs)) k (aC xs))=some k
  rw[aN,aaF hk];rfl
 rw[h2]
 show some (fS (dF xs k) 0)=_
 rw[dM,eV,adn]
theorem oM{xs:List V}{k:Nat}(hk:k≤xs.length):cW xs (.int (aaa k)) .none .none=some (xs.drop k):=by
 show(aT (bound (aC xs) 0 (.int (aaa k))) fun a=>aT (bound (aC xs) (aC xs) .none) fun b=>some (fS (dF xs b) a))=_
 have h2:bound (aC xs) 0 (.int (aaa k))=some k:=by
  show some (az (aa5 k (aC xs)) k (aC xs))=some k
  rw[aN,aaF hk];rfl
 rw[h2]
 show some (fS (dF xs (aC xs)) k)=_
 rw[dM,eV,aN,acV]
theorem Ah{e:CE}{a:V}{xs:List V}(he:e C r H=.ok a H)(ha:items H a=some xs)(hs:∀l,a≠.str l)(hx:xs.length≤4000):aB (cV (.bi .len)) (aa e aj) ay C r H=.ok (.int (aaa xs.length)) H:=by
 refine eu aU (cR he) ?_
 have e:eF C (.bi .len) [a] [] H=R.lift (aT (items H a) fun l=>aT (fit l) fun l=>some (V.int (aaa (aC l)))) H:=by
  cases a<;>first|rfl|exact absurd rfl (hs _)
 rw[e,ha]
 show R.lift (aT (fit xs) fun l=>some (V.int (aaa (aC l)))) H=_
 rw[mV hx,←aN];rfl
theorem wB{e:CE}{y:V}{l:List V}{n:Nat}{c:V}(he:e C r H=.ok y H)(hk:AD y=true)(hi:items H y=some l)(hc:kq c l=some n):aS e .count (aa (cV c) aj) ay C r H=.ok (.int (aaa n)) H:=by
 refine uq he hk (cR aU) ?_
 have e:nO C y .count [c] [] H=R.lift (aT (items H y) fun l=>aT (kq c l) fun n=>some (V.int (aaa n))) H:=by
  cases y<;>first|rfl|cases hk
 rw[e,hi]
 show R.lift (aT (kq c l) fun n=>some (V.int (aaa n))) H=_
 rw[hc];rfl
theorem Ai(bs:List Bool)(k:Nat):(bs.map bq).take k=(dF bs k).map bq:=by rw[dM,ac7]
theorem Ce{s:Int}(hv:items H v=some (bs.map bq))(hs:∀l,v≠.str l)(hl:bs.length≤1000)(hst:fR bs=some s):iD par (m+1) 15 [v] [] [] H=.ok (.int s) H:=by
 obtain⟨mn,h1,h2⟩:=ah hst
 obtain⟨c,h3,h4⟩:=ah h2
 obtain⟨i,h5,h6⟩:=ah h4
 (first|(replace h6:=(Z8 h6).symm;subst h6)|cases h6)
 have hsl:(bs.map bq).length≤4000:=by rw[aaj];omega
 have ZU:(lC bs).length=bs.length:=by unfold lC;rw[jr,aaj,yo,aN]
 have comp:c7 (cC true ⟨par,iD par m,[]⟩) (g1 (aD (aS (cJ (af 60) (cV .none) (aD (af 50) .add (cV (.int 1))) (cV .none)) .count (aa (cV (.str [40])) aj) ay) .sub (aS (cJ (af 60) (cV .none) (aD (af 50) .add (cV (.int 1))) (cV .none)) .count (aa (cV (.str [41])) aj) ay)) ⟨par,iD par m,[]⟩) (.one 50) (fk 0 1 (bs.map bq).length) [(60,v)] H=.ok (lC bs) H:=by
  unfold lC
  rw[jr,aaj,aN]
  refine iN (f:=OG bs) (fun r=>r=[(60,v)]∨∃u,r=[(60,v),(50,u)]) _ _ (.inl rfl) fun u hu r hr=>?_
  obtain⟨k,_,hk,rfl⟩:=kh bs.length 0 u hu
  refine⟨[(60,v),(50,.int (aaa k))],?_,.inr ⟨_,rfl⟩,rfl,B0 ?_⟩
  ·rcases hr with rfl|⟨_,rfl⟩<;>rfl
  ·have sl:∀C:Cx,cJ (af 60) (cV .none) (aD (af 50) .add (cV (.int 1))) (cV .none) C [(60,v),(50,.int (aaa k))] H=.ok (.lst ((dF bs (k+1)).map bq)) H:=fun C=>by
    rw[←Ai]
    exact jQ (aH rfl) aU (cQ (o:=.add) (z:=.int (aaa (k+1))) (aH rfl) aU rfl) aU (fX hv hs (bT hsl) rfl (mY (by rw[aaj];omega)))
   exact cQ (o:=.sub) (wB (sl _) rfl rfl (k9 true _)) (wB (sl _) rfl rfl (k9 false _)) rfl
 have main:gq ⟨par,iD par m,[]⟩ [(60,v)] H=.ok (.back (.int (aaK (aaa i) 1))) H:=by
  refine br (fQ (qH (Ae (cR (Ah (aH rfl) hv hs hsl)) (ur (by omega))) rfl comp (bT (by omega)))) (gH (rH (cQ (o:=.add) (x:=.int (aaa i)) (uq (H2:=H) (aH rfl) rfl (cR (eu (z:=.int mn) (H3:=H) aU (cR (aH rfl)) ?_)) ?_) aU rfl)))
  ·show R.lift (aT (uB Aw (lC bs)) fun i=>some (V.int i)) H=_
   rw[h1];rfl
  ·show R.lift (aT (fit (lC bs)) fun l=>aT (isIn (.int mn) l) fun _=>aT (nX (.int mn) l) fun n=>some (V.int (aaa n))) H=_
   rw[mV (by omega)]
   show R.lift (aT (isIn (.int mn) (lC bs)) fun _=>aT (nX (.int mn) (lC bs)) fun n=>some (V.int (aaa n))) H=_
   rw[h3]
   show R.lift (aT (nX (.int mn) (lC bs)) fun n=>some (V.int (aaa n))) H=_
   rw[h5];rfl
 show yT (gq ⟨par,iD par m,[]⟩ [(60,v)] H)=_
 rw[main];rfl
end
noncomputable def gO:List Int:=[34,58,17,41,101,31,38,61,160,82,7]
noncomputable def bO(l:List Int):Nat:=az (aa5 3 l.length) 5 4
noncomputable abbrev iL (l:List Int):V:=.lst (l.map V.int)
noncomputable def j3(z:Int):List Nat:=match abj (z/16) 3 with
 |.ofNat 0=>[10]|.ofNat 1=>[13,10]|_=>[13]
noncomputable def xj:V:=.lst [.str [],.str [],.str [],.str [],.str [34,92,34,41,34],.str [92,40],.str [34,40,41,40,34],.str [92,92]]
noncomputable def rJ:V:=.str [97,98,99,100,101,102,103,104,105,106,107,108,109,110,111,112,113,114,115,116]
noncomputable def rK:V:=.str [65,66,67,68,69,70,71,72,73,74,75,76,77,78,79,80,81,82,83,84]
noncomputable abbrev wC (zs:List Int):V:=.lst (zs.map fun z=>V.str (j3 z))
noncomputable def Cf(zs:List Int):Int:=zs.foldl aaK 0
section
variable{par:Bool}{H:HP}{l:List Int}{r:aR}
theorem Cg(l:List Int):bO l=4∨bO l=5:=by
 unfold bO
 cases aa5 3 l.length
 ·exact .inl rfl
 ·exact .inr rfl
theorem Hs{xs:List V}{k:Nat}:cW xs .none (.int (aaa k)) .none=some (xs.take k):=by
 by_cases hk:k≤xs.length
 ·exact mY hk
 ·show(aT (bound (aC xs) 0 .none) fun a=>aT (bound (aC xs) (aC xs) (.int (aaa k))) fun b=>some (fS (dF xs b) a))=_
  have h2:bound (aC xs) (aC xs) (.int (aaa k))=some (aC xs):=by
   show some (az (aa5 k (aC xs)) k (aC xs))=some (aC xs)
   have:aa5 k (aC xs)=false:=by
    cases e:aa5 k (aC xs) with
    |false=>rfl
    |true=>have:=aak e;rw[aN] at this;exact absurd this hk
   rw[this];rfl
  rw[h2]
  show some (fS (dF xs (aC xs)) 0)=_
  rw[dM,eV,aN,adn,acV,aa2 (by omega)]
theorem min_three(n:Nat):aaK 4 (Aw 1 (aaa n/3))=aaa (az (aa5 3 n) 5 4):=by
 have e:(aaa n/3:Int)=aaa (n/3):=by simp
 rw[e]
 unfold Aw
 rw[fM]
 by_cases h:3≤n
 ·rw[aaF h,decide_eq_false (by show¬((n/3:Nat):Int)<1;omega)];rfl
 ·have hb:aa5 3 n=false:=by
   cases e:aa5 3 n with
   |false=>rfl
   |true=>exact absurd (aak e) h
  rw[hb,decide_eq_true (by show((n/3:Nat):Int)<1;omega),show n/3=0 by omega];rfl
theorem Wl(hl:l.length≤63):yJ (cx par) [(92,iL l)] H=.ok (.on [(92,iL l),(91,iL (l.take 60)),(66,.int (aaa (bO l)))]) H:=by
 have hx:(l.map V.int).length≤4000:=by rw[aaj];omega
 refine nG (v:=.tup [iL (l.take 60),.int (aaa (bO l))]) rfl (wj (d7 (jQ (z:=iL (l.take 60)) (aH rfl) aU aU aU ?_) (cR (cQ (o:=.add) (x:=.int 4) (y:=.int (Aw 1 (aaa l.length/3))) aU (eu aU (d7 aU (cR (cQ (o:=.fdiv) (z:=.int (aaa l.length/3)) (Ah (a:=iL l) (aH rfl) rfl nofun hx) aU ?_))) rfl) ?_))) rfl) rfl rfl
 ·show nY H (.lst (l.map V.int)) .none (.int (aaa 60)) .none=.ok (.lst ((l.take 60).map V.int)) H
  rw[ac7]
  exact fX (a:=.lst (l.map V.int)) rfl nofun (bT hx) rfl Hs
 ·rw[aaj];rfl
 ·exact congrArg (fun i=>some (V.int i)) (min_three l.length)
theorem Wm:yK (cx par) r H=.ok (.on (dc 93 (iL gO) r)) H:=rfl
theorem Ci:∀{vs:List V},(∀v∈vs,∃i,v=V.int i)→∃is:List Int,vs=is.map V.int
 |[],_=>⟨[],rfl⟩
 |v::vs,h=>by
  obtain⟨i,rfl⟩:=h v (aae ..)
  obtain⟨is,rfl⟩:=Ci fun u hu=>h u (aaf _ hu)
  exact⟨i::is,rfl⟩
theorem oN:∀(is:List Int)(a:Int),foldI aaK (is.map V.int) a=some (is.foldl aaK a)
 |[],_=>rfl
 |i::is,a=>oN is (aaK a i)
theorem NJ{k:Nat}(hk:k<11):∃b,wM H (iL gO) (.int (aaa k))=some (.int b):=by
 match k,hk with
 |0,_=>exact⟨34,rfl⟩
 |1,_=>exact⟨58,rfl⟩
 |2,_=>exact⟨17,rfl⟩
 |3,_=>exact⟨41,rfl⟩
 |4,_=>exact⟨101,rfl⟩
 |5,_=>exact⟨31,rfl⟩
 |6,_=>exact⟨38,rfl⟩
 |7,_=>exact⟨61,rfl⟩
 |8,_=>exact⟨160,rfl⟩
 |9,_=>exact⟨82,rfl⟩
 |10,_=>exact⟨7,rfl⟩
 |k+11,h=>exact absurd h (by omega)
theorem Q2(own:List Int)(ho:own.length≤4000){k:Nat}(hk:k<11):∃z:Int,0≤z∧z<1000000∧∀par,
 (aD (aD (dH (af 93) (af 50)) .add (aB (cV (.bi .sum)) (aa (cJ (af 91) (af 50) (cV .none) (cV (.int 11))) aj) ay)) .mod (aD (cV (.int 10)) .pow (cV (.int 6)))) (cx par) [(93,iL gO),(91,iL own),(50,.int (aaa k))] H=.ok (.int z) H:=by
 obtain⟨b,hb⟩:=NJ (H:=H) hk
 have hbd:bound (aC (own.map V.int)) 0 (.int (aaa k))=some (az (aa5 k (aC (own.map V.int))) k (aC (own.map V.int))):=rfl
 obtain⟨ys,hys⟩:∃ys:List Int,cW (own.map V.int) (.int (aaa k)) .none (.int 11)=some (ys.map V.int):=by
  have e:cW (own.map V.int) (.int (aaa k)) .none (.int 11)=some ((sliceRange (aaa (az (aa5 k (aC (own.map V.int))) k (aC (own.map V.int)))) (aaa (aC (own.map V.int))) (aaa 11)).filterMap fun i=>(own.map V.int)[i]?):=rfl
  rw[e]
  obtain⟨ys,h⟩:=Ci (vs:=(sliceRange (aaa (az (aa5 k (aC (own.map V.int))) k (aC (own.map V.int)))) (aaa (aC (own.map V.int))) (aaa 11)).filterMap fun i=>(own.map V.int)[i]?) fun v hv=>by
   obtain⟨i,_,hi⟩:=acJ.mp hv
   have:=aaU hi
   obtain⟨j,_,rfl⟩:=aa8.mp this
   exact⟨j,rfl⟩
  exact⟨ys,congrArg some h⟩
 refine⟨abj (aaK b (ys.foldl aaK 0)) 1000000,adM _ (by decide),aej _ (by decide),fun par=>?_⟩
 refine cQ (o:=.mod) (cQ (o:=.add) (z:=.int (aaK b (ys.foldl aaK 0))) (mT (aH rfl) (aH rfl) hb) (eu (z:=.int (ys.foldl aaK 0)) aU (cR (jQ (z:=iL ys) (H2:=H) (aH rfl) (aH rfl) aU aU ?_)) ?_) rfl) (cQ (o:=.pow) (z:=.int 1000000) aU aU rfl) rfl
 ·exact fX (a:=.lst (own.map V.int)) rfl nofun (bT (by rw[aaj];exact ho)) rfl hys
 ·show R.lift (aT (foldI aaK (ys.map V.int) 0) fun i=>some (V.int i)) H=_
  rw[oN];rfl
theorem qM:∀(n a:Nat),fk (aaa a) 1 n=(aaL a n).map fun k=>V.int (aaa k)
 |0,_=>rfl
 |n+1,a=>by
  show V.int (aaa a)::fk (aaa (a+1)) 1 n=_
  rw[qM n (a+1),acU];rfl
theorem Wn(own:List Int)(ho:own.length≤4000){n:Nat}(hn:n=4∨n=5)(oO:V):∃zs:List Int,zs.length=2*n+1∧(∀z∈zs,0≤z∧z<1000000)∧∀par,
 yL (cx par) [(92,oO),(91,iL own),(66,.int (aaa n)),(93,iL gO)] H=.ok (.on [(92,oO),(91,iL own),(66,.int (aaa n)),(93,iL gO),(94,iL zs)]) H:=by
 have key:∀k:Nat,∃z:Int,0≤z∧z<1000000∧(k<11→∀par,(aD (aD (dH (af 93) (af 50)) .add (aB (cV (.bi .sum)) (aa (cJ (af 91) (af 50) (cV .none) (cV (.int 11))) aj) ay)) .mod (aD (cV (.int 10)) .pow (cV (.int 6)))) (cx par) [(93,iL gO),(91,iL own),(50,.int (aaa k))] H=.ok (.int z) H):=fun k=>by
  by_cases hk:k<11
  ·obtain⟨z,h1,h2,h3⟩:=Q2 (H:=H) own ho hk
   exact⟨z,h1,h2,fun _=>h3⟩
  ·exact⟨0,by decide,by decide,fun h=>absurd h hk⟩
 obtain⟨z,hz⟩:=Classical.axiomOfChoice key
 have hz:∀k,0≤z k∧z k<1000000∧(k<11→_):=hz
 refine⟨(aaL 0 (2*n+1)).map z,by simp,fun y hy=>?_,fun par=>?_⟩
 ·obtain⟨k,_,rfl⟩:=aa8.mp hy
  exact⟨(hz k).1,(hz k).2.1⟩
 ·have it:jV (aa (aD (aD (cV (.int 2)) .mul (af 66)) .add (cV (.int 1))) aj) (cx par) [(92,oO),(91,iL own),(66,.int (aaa n)),(93,iL gO)] H=.ok (fk 0 1 (2*n+1),[]) H:=by
   refine Ae (vs:=[.int (aaa (2*n+1))]) (cR (cQ (o:=.add) (x:=.int (aaa (2*n))) (cQ (o:=.mul) aU (aH rfl) ?_) aU rfl)) (ur (by omega+splitNatSub))
   rcases hn with rfl|rfl<;>rfl
  have cm:=iN (H:=H) (tests:=cC true (cx par)) (inner:=g1 (aD (aD (dH (af 93) (af 50)) .add (aB (cV (.bi .sum)) (aa (cJ (af 91) (af 50) (cV .none) (cV (.int 11))) aj) ay)) .mod (aD (cV (.int 10)) .pow (cV (.int 6)))) (cx par)) (t:=.one 50)
   (f:=fun v=>match v with|.int k=>.int (z (abu k))|_=>.none) (fun r=>r=[(93,iL gO),(91,iL own)]∨∃u,r=[(93,iL gO),(91,iL own),(50,u)]) (fk 0 1 (2*n+1)) [(93,iL gO),(91,iL own)] (.inl rfl) fun v hv r hr=>by
    obtain⟨k,_,hk,rfl⟩:=kh (2*n+1) 0 v hv
    refine⟨[(93,iL gO),(91,iL own),(50,.int (aaa k))],?_,.inr ⟨_,rfl⟩,rfl,B0 ((hz k).2.2 (by omega+splitNatSub) par)⟩
    rcases hr with rfl|⟨_,rfl⟩<;>rfl
  have e:(fk 0 1 (2*n+1)).map (fun v=>match v with|.int k=>V.int (z (abu k))|_=>.none)=((aaL 0 (2*n+1)).map z).map V.int:=by
   rw[show fk 0 1 (2*n+1)=_ from qM (2*n+1) 0,aaY,aaY];rfl
  rw[e] at cm
  exact fQ (qH it rfl cm (bT (by simp;omega+splitNatSub)))
end
noncomputable def qS(z:Int):Bool:=uz (abj z 2) 0
noncomputable def hidx(z:Int):Nat:=abu (abj (z/2) 8)
noncomputable def cg(n:Nat)(bs:List Bool)(ev:Bool):Bool:=az (jS (aaa (qL true bs)) (aaa n)) (az ev true (jS (aaa n) (aaK (aaa (aC bs)) (acz (aaa (qL true bs)))))) false
noncomputable def cU(n:Nat)(l:List Int):List Bool→List Bool:=@aaB Int (fun _=>List Bool→List Bool) (fun bs=>bs) (fun z _ ih bs=>ih (bs++[cg n bs (qS z)])) l
noncomputable def qN(n:Nat)(l:List Int):List Bool→List (Bool×Nat):=@aaB Int (fun _=>List Bool→List (Bool×Nat)) (fun _=>[]) (fun z _ ih bs=>(cg n bs (qS z),hidx z)::ih (bs++[cg n bs (qS z)])) l
theorem oQ{n:Nat}{z:Int}{zs:List Int}{bs:List Bool}:cU n (z::zs) bs=cU n zs (bs++[cg n bs (qS z)]):=rfl
theorem yq{n:Nat}{z:Int}{zs:List Int}{bs:List Bool}:qN n (z::zs) bs=(cg n bs (qS z),hidx z)::qN n zs (bs++[cg n bs (qS z)]):=rfl
noncomputable def r6(oO rL:V)(n:Nat)(zs:List Int):aR:=[(92,oO),(91,rL),(66,.int (aaa n)),(93,iL gO),(94,iL zs),(96,xj),(82,wC zs),(97,rJ),(98,rK),(83,.int (Cf zs)),(60,.ref 0),(79,.ref 1)]
section
variable{par:Bool}{H:HP}{r:aR}{oO rL:V}{n:Nat}{zs:List Int}
theorem T8(z:Int):abj (z/16) 3=aaa 0∨abj (z/16) 3=aaa 1∨abj (z/16) 3=aaa 2:=by
 have h1:0≤abj (z/16) 3:=adM _ (by decide)
 have h2:abj (z/16) 3<3:=aej _ (by decide)
 show _=(0:Int)∨_=(1:Int)∨_=(2:Int)
 omega
theorem Q3(z:Int):wM H (.lst [.str [10],.str [13,10],.str [13]]) (.int (abj (z/16) 3))=some (.str (j3 z)):=by
 unfold j3
 rcases T8 z with e|e|e<;>rw[e]<;>rfl
theorem Wo(hz:zs.length≤4000):yM (cx par) [(92,oO),(91,rL),(66,.int (aaa n)),(93,iL gO),(94,iL zs)] H=.ok (.on [(92,oO),(91,rL),(66,.int (aaa n)),(93,iL gO),(94,iL zs),(96,xj),(82,wC zs)]) H:=by
 have cm:=iN (H:=H) (tests:=cC true (cx par)) (inner:=g1 (dH (n6 (aa (cV (.str [10])) (aa (cV (.str [13,10])) (aa (cV (.str [13])) aj)))) (aD (aD (af 4) .fdiv (cV (.int 16))) .mod (cV (.int 3)))) (cx par)) (t:=.one 4)
  (f:=fun v=>match v with|.int z=>.str (j3 z)|_=>.none) (fun r=>r=[]∨∃u,r=[(4,u)]) (zs.map V.int) [] (.inl rfl) fun v hv r hr=>by
   obtain⟨z,_,rfl⟩:=aa8.mp hv
   refine⟨[(4,.int z)],?_,.inr ⟨_,rfl⟩,rfl,B0 (mT (y:=.int (abj (z/16) 3)) (DQ (d7 aU (d7 aU (cR aU))) rfl) (cQ (o:=.mod) (x:=.int (z/16)) (cQ (o:=.fdiv) (aH rfl) aU rfl) aU rfl) (Q3 z))⟩
   rcases hr with rfl|⟨_,rfl⟩<;>rfl
 have e:(zs.map V.int).map (fun v=>match v with|.int z=>V.str (j3 z)|_=>.none)=zs.map fun z=>V.str (j3 z):=by rw[aaY];rfl
 rw[e] at cm
 refine nG (v:=.tup [xj,wC zs]) rfl (wj (d7 (v:=xj) rfl (cR (qH (QY (aH rfl) rfl rfl) rfl cm (bT (by rw[aaj];exact hz))))) rfl) rfl rfl
theorem Wq:yN (cx par) [(92,oO),(91,rL),(66,.int (aaa n)),(93,iL gO),(94,iL zs),(96,xj),(82,wC zs)] H=.ok (.on [(92,oO),(91,rL),(66,.int (aaa n)),(93,iL gO),(94,iL zs),(96,xj),(82,wC zs),(97,rJ),(98,rK),(83,.int (Cf zs))]) H:=by
 refine nG (v:=.tup [rJ,rK,.int (Cf zs)]) rfl (wj (d7 aU (d7 aU (cR (eu (z:=.int (Cf zs)) (H3:=H) aU (cR (aH rfl)) ?_)))) rfl) rfl rfl
 show R.lift (aT (foldI aaK (zs.map V.int) 0) fun i=>some (V.int i)) H=_
 rw[oN];rfl
theorem Ws:yO (cx par) [(92,oO),(91,rL),(66,.int (aaa n)),(93,iL gO),(94,iL zs),(96,xj),(82,wC zs),(97,rJ),(98,rK),(83,.int (Cf zs))] []=.ok (.on (r6 oO rL n zs)) [[],[]]:=rfl
noncomputable def wD:CS:=(ak (bH 99 (aS (af 60) .count (aa (cV (.str [40])) aj) ay))
 (ak (cD (aS (af 60) .append (aa (nZ (jU (bV (aY (af 99) .lt (af 66))) (jU (lS (bV (aY (aD (af 4) .mod (cV (.int 2))) .eq (cV (.int 0)))) (lS (bV (aY (aD (aB (cV (.bi .len)) (aa (af 60) aj) ay) .sub (af 99)) .gt (af 66))) (cC false))) (cC true))) (cV (.str [40])) (cV (.str [41]))) aj) ay))
 (ak (cD (aS (af 79) .append (aa (aD (dH (af 60) (fZ (cV (.int 1)))) .add (dH (af 96) (aD (aD (af 4) .fdiv (cV (.int 2))) .mod (cV (.int 8))))) aj) ay))
 aA)))
theorem Cj{C:Cx}{p q s:CB}{c1 c2 c3:Bool}(h1:p C r H=.ok c1 H)(h2:q C r H=.ok c2 H)(h3:s C r H=.ok c3 H):jU p (jU (lS q (lS s (cC false))) (cC true)) C r H=.ok (az c1 (az c2 true c3) false) H:=by
 have e3:lS s (cC false) C r H=.ok c3 H:=by unfold lS;rw[h3];cases c3<;>rfl
 have e2:lS q (lS s (cC false)) C r H=.ok (az c2 true c3) H:=by unfold lS at e3 ⊢;rw[h2];cases c2 with
  |true=>rfl
  |false=>exact e3
 have e1:jU (lS q (lS s (cC false))) (cC true) C r H=.ok (az c2 true c3) H:=by unfold jU;rw[e2];cases az c2 true c3<;>rfl
 unfold jU at e1 ⊢
 rw[h1]
 cases c1 with
 |true=>exact e1
 |false=>rfl
theorem Fb(z:Int):hidx z<8:=by
 have h1:0≤abj (z/2) 8:=adM _ (by decide)
 have h2:abj (z/2) 8<8:=aej _ (by decide)
 unfold hidx;omega
theorem Q4{j:Nat}(hj:j<8):wM H xj (.int (aaa j))=some (.str (Lm j)):=by
 match j,hj with
 |0,_=>rfl
 |1,_=>rfl
 |2,_=>rfl
 |3,_=>rfl
 |4,_=>rfl
 |5,_=>rfl
 |6,_=>rfl
 |7,_=>rfl
 |k+8,h=>exact absurd h (by omega)
theorem NK(z:Int):abj (z/2) 8=aaa (hidx z):=by
 have h1:0≤abj (z/2) 8:=adM _ (by decide)
 unfold hidx
 show _=((abu (abj (z/2) 8):Nat):Int)
 omega
theorem NL(bs:List Bool)(b:Bool)(h2:List V):wM [(bs++[b]).map bq,h2] (.ref 0) (.int (-1))=some (bq b):=by
 show(aT (index (aC ((bs++[b]).map bq)) (-1)) fun k=>jR ((bs++[b]).map bq) k)=_
 have hl:aC ((bs++[b]).map bq)=bs.length+1:=by rw[aN];simp
 rw[hl]
 have hi:index (bs.length+1) (-1)=some bs.length:=by
  show az (aba 0 (bs.length+1)) (some (bs.length+1 - 1 - 0)) none=_
  rw[show aba 0 (bs.length+1)=true from aaF (by omega)];rfl
 rw[hi]
 show jR ((bs++[b]).map bq) bs.length=_
 rw[eU,aaR,abA (by simp)]
 simp
theorem Ck(x:Bool×Nat):(piece x).length≤6:=by
 obtain⟨b,j⟩:=x
 unfold piece Lm
 dsimp only
 split<;>simp
theorem Ht{bs:List Bool}{ts:List (List Nat)}{z:Int}{w:List V}{r0:aR}(hb:bs.length≤3000)(ht:ts.length≤3000)(hr:r0=r6 oO rL n zs∨∃a b,r0=r6 oO rL n zs++[(4,a),(99,b)]):
 ∃r1 r2,dU (.one 4) (.int z) r0=some r1∧wD (cx par) r1 [bs.map bq,ts.map V.str]=.ok (.on r2) [(bs++[cg n bs (qS z)]).map bq,(ts++[piece (cg n bs (qS z),hidx z)]).map V.str]∧r2=r6 oO rL n zs++[(4,.int z),(99,.int (aaa (qL true bs)))]:=by
 have hbm:(bs.map bq).length≤4000:=by rw[aaj];omega
 have main:∀r1 r2,r2=r6 oO rL n zs++[(4,.int z),(99,.int (aaa (qL true bs)))]→dc 99 (.int (aaa (qL true bs))) r1=r2→aK 60 r1=some (.ref 0)→
  wD (cx par) r1 [bs.map bq,ts.map V.str]=.ok (.on r2) [(bs++[cg n bs (qS z)]).map bq,(ts++[piece (cg n bs (qS z),hidx z)]).map V.str]:=by
  intro r1 r2 h2 hp yr
  refine br (fQ (wB (aH yr) rfl rfl (k9 true bs))) ?_
  rw[hp]
  subst h2
  have XA:=Cj (C:=cx par) (H:=[bs.map bq,ts.map V.str]) (r:=r6 oO rL n zs++[(4,.int z),(99,.int (aaa (qL true bs)))]) (p:=bV (aY (af 99) .lt (af 66))) (q:=bV (aY (aD (af 4) .mod (cV (.int 2))) .eq (cV (.int 0)))) (s:=bV (aY (aD (aB (cV (.bi .len)) (aa (af 60) aj) ay) .sub (af 99)) .gt (af 66)))
   (cH (o:=.lt) (aH rfl) (aH rfl) rfl) (cH (o:=.eq) (cQ (o:=.mod) (z:=.int (abj z 2)) (aH rfl) aU rfl) aU rfl) (cH (o:=.gt) (cQ (o:=.sub) (Ah (a:=.ref 0) (aH rfl) rfl nofun hbm) (aH rfl) rfl) (aH rfl) rfl)
  have ZV:az (jS (aaa (qL true bs)) (aaa n)) (az (uz (abj z 2) 0) true (jS (aaa n) (aaK (aaa (bs.map bq).length) (acz (aaa (qL true bs)))))) false=cg n bs (qS z):=by
   unfold cg qS;rw[aaj,aN]
  rw[ZV] at XA
  refine br (qG (v:=.none) (kc (H1:=[bs.map bq,ts.map V.str]) rfl rfl (Ll (z:=bq (cg n bs (qS z))) XA ?_) rfl (bT hbm))) ?_
  ·cases cg n bs (qS z)<;>rfl
  ·have Tc:∀HH,aD (aD (af 4) .fdiv (cV (.int 2))) .mod (cV (.int 8)) (cx par) (r6 oO rL n zs++[(4,.int z),(99,.int (aaa (qL true bs)))]) HH=.ok (.int (aaa (hidx z))) HH:=fun HH=>by
    rw[←NK]
    exact cQ (o:=.mod) (x:=.int (z/2)) (y:=.int 8) (cQ (o:=.fdiv) (y:=.int 2) (aH rfl) aU rfl) aU rfl
   have e2:au (ts.map V.str) [V.str (piece (cg n bs (qS z),hidx z))]=(ts++[piece (cg n bs (qS z),hidx z)]).map V.str:=by rw[aO,aaR];rfl
   have e1:setAt [bs.map bq,ts.map V.str] 0 (au (bs.map bq) [bq (cg n bs (qS z))])=[(bs++[cg n bs (qS z)]).map bq,ts.map V.str]:=by
    rw[aO,aaR];rfl
   rw[e1]
   refine br (qG (v:=.none) ((kc rfl rfl (cQ (o:=.add) (z:=.str (piece (cg n bs (qS z),hidx z))) (mT (y:=.int (-1)) (aH rfl) (DP aU) (NL bs _ _)) (mT (y:=.int (aaa (hidx z))) (aH rfl) (Tc _) (Q4 (Fb z))) ?_) rfl (bT (by rw[aaj];omega))).trans ?_)) rfl
   ·show(aT (fit (au [qI (cg n bs (qS z))] (Lm (hidx z)))) fun u=>some (V.str u))=_
    have hp:=Ck (cg n bs (qS z),hidx z)
    rw[aO]
    show(aT (fit (piece (cg n bs (qS z),hidx z))) fun u=>some (V.str u))=_
    rw[mV (by omega)];rfl
   ·rw[e2];rfl
 rcases hr with rfl|⟨a,b,rfl⟩
 ·exact⟨r6 oO rL n zs++[(4,.int z)],_,rfl,main _ _ rfl rfl rfl,rfl⟩
 ·exact⟨r6 oO rL n zs++[(4,.int z),(99,b)],_,rfl,main _ _ rfl rfl rfl,rfl⟩
theorem yt:∀(ys:List Int)(bs:List Bool)(ts:List (List Nat))(r0:aR),bs.length+ys.length≤3000→ts.length=bs.length→(r0=r6 oO rL n zs∨∃a b,r0=r6 oO rL n zs++[(4,a),(99,b)])→ys≠[]→
 ∃a b,bz (wD (cx par)) (.one 4) (ys.map V.int) r0 [bs.map bq,ts.map V.str]=.ok (.on (r6 oO rL n zs++[(4,.int a),(99,.int b)])) [(cU n ys bs).map bq,(ts++(qN n ys bs).map piece).map V.str]
 |[],_,_,_,_,_,_,h=>absurd rfl h
 |z::ys,bs,ts,r0,hl,ht,hr,_=>by
  rw[aaD] at hl
  obtain⟨r1,r2,e1,e2,e3⟩:=Ht (par:=par) (z:=z) (w:=[]) (ts:=ts) (bs:=bs) (by omega) (by omega) hr
  rw[aaz,dR e1 e2]
  cases ys with
  |nil=>
   subst e3
   exact⟨_,_,rfl⟩
  |cons y ys=>
   obtain⟨a,b,e⟩:=yt (y::ys) (bs++[cg n bs (qS z)]) (ts++[piece (cg n bs (qS z),hidx z)]) r2 (by simp at hl ⊢;omega) (by simp[ht]) (.inr ⟨_,_,e3⟩) (by simp)
   refine⟨a,b,?_⟩
   have h1:cU n (z::y::ys) bs=cU n (y::ys) (bs++[cg n bs (qS z)]):=rfl
   have h2:qN n (z::y::ys) bs=(cg n bs (qS z),hidx z)::qN n (y::ys) (bs++[cg n bs (qS z)]):=rfl
   rw[e,h1,h2,aaz,aaE];rfl
theorem Wt(hz:zs.length≤3000)(h0:zs≠[]):∃a b,yP (cx par) (r6 oO rL n zs) [[],[]]=.ok (.on (r6 oO rL n zs++[(4,.int a),(99,.int b)])) [(cU n zs []).map bq,((qN n zs []).map piece).map V.str]:=by
 obtain⟨a,b,e⟩:=yt (par:=par) (n:=n) (oO:=oO) (rL:=rL) (zs:=zs) zs [] [] (r6 oO rL n zs) (by simpa using hz) rfl (.inl rfl) h0
 exact⟨a,b,wk (QY (aH rfl) rfl rfl) rfl e⟩
theorem rO(n:Nat):∀(zs:List Int)(bs:List Bool),(cU n zs bs).length=bs.length+zs.length
 |[],_=>rfl
 |z::zs,bs=>by rw[oQ,rO n zs,aao,abN];exact congrArg _ (adT 1 zs.length)
theorem Cn(n:Nat):∀(zs:List Int)(bs:List Bool),bs++(qN n zs bs).map (·.1)=cU n zs bs
 |[],bs=>aaO bs
 |z::zs,bs=>by rw[oQ,yq,←Cn n zs,aaz,aaE];rfl
theorem Fc(n:Nat):∀(zs:List Int)(bs:List Bool),∀x∈qN n zs bs,x.2<8
 |[],_,x,h=>by cases h
 |z::zs,bs,x,h=>by
  rw[yq] at h
  rcases aar.mp h with rfl|h
  ·exact Fb z
  ·exact Fc n zs _ x h
end
noncomputable def bC{α:Type}(ps:List α)(k:Nat):List α:=(ps.drop k++ps.take k).take (ps.length - 1)
noncomputable def fz(cj:List (Bool×Nat))(N:Nat):V:=.lst ((aaL 0 N).map fun k=>V.str (aP (bC cj k)))
section
variable{par:Bool}{H H1:HP}{r:aR}{C:Cx}{n:Nat}{bs:List Bool}{cj:List (Bool×Nat)}{s t j:Nat}
theorem DX{xs:List V}:cW xs .none .none (.int (-1))=some xs.reverse:=by
 show some (yv xs)=_
 rw[uc]
theorem Hu{xs:List V}:cW xs .none (.int (-1)) .none=some (xs.take (xs.length - 1)):=by
 show some (fS (dF xs (aC xs - (0+1))) 0)=_
 rw[dM,eV,adn,aN]
theorem NN(yr:aK 60 r=some (.ref 0))(hi:jR H 0=some (bs.map bq))(hl:bs.length≤3000):cJ (af 60) (cV .none) (cV .none) (fZ (cV (.int 1))) C r H=.ok (.lst (bs.reverse.map bq)) H:=by
 rw[agz]
 exact jQ (aH yr) aU aU (DP aU) (fX (a:=.ref 0) hi nofun (bT (by rw[aaj];exact aah hl (by decide))) rfl DX)
theorem Wu(yr:aK 60 r=some (.ref 0))(hi:jR H 0=some (bs.map bq))(hl:bs.length≤1000)(hs:fR bs=some (aaa s)):yQ (cx par) r H=.ok (.on (dc 100 (.lst (bs.reverse.map bq)) (dc 69 (.int (aaa s)) r))) H:=by
 refine nG (v:=.tup [.int (aaa s),.lst (bs.reverse.map bq)]) rfl (wj (d7 (eu (f:=.fn 15) aU (cR (aH yr)) ?_) (cR (NN yr hi (aah hl (by decide))))) rfl) rfl rfl
 exact Ce (m:=5) (v:=.ref 0) hi nofun hl hs
theorem uu{x m:Nat}{xs ys:List V}{l u:CE}{lv uv:V}(hx:aK x r=some (.ref m))(hi:jR H m=some xs)(hs:xs.length≤4000)(hl:l C r H=.ok lv H)(hu:u C r H=.ok uv H)(hw:isWhole lv uv .none=false)(h:cW xs lv uv .none=some ys):cJ (af x) l u (cV .none) C r H=.ok (.lst ys) H:=
 jQ (aH hx) hl hu aU (fX (a:=.ref m) hi nofun (bT hs) hw h)
theorem qO{a b:CE}{xs ys:List V}(ha:a C r H=.ok (.lst xs) H)(hb:b C r H=.ok (.lst ys) H)(hl:xs.length+ys.length≤4000):aD a .add b C r H=.ok (.lst (xs++ys)) H:=by
 refine cQ (o:=.add) ha hb ?_
 show(aT (fit (au xs ys)) fun u=>some (V.lst u))=_
 rw[aO,mV (by rw[aao];exact hl)];rfl
theorem wF(ps:List (Bool×Nat)):aP ps=(ps.map piece).flatten:=by simp[aP,List.flatMap_def]
theorem nH(ps:List (Bool×Nat)):(aP ps).length≤6*ps.length:=by
 induction ps with
 |nil=>exact aaA _
 |cons x ps ih=>
  rw[gY,aao,adT]
  exact ace ih (Ck x)
theorem rP{α:Type}(ps:List α)(k:Nat):(bC ps k).length≤ps.length:=aah (ac0 ..) (afP ..)
theorem Aj{α:Type}{l:List α}{k:Nat}(h:k≤l.length):(l.drop k++l.take k).length=l.length:=by
 rw[aao,ab6,abH,adJ h,Nat.sub_add_cancel h]
theorem DY{α:Type}{l:List α}{k:Nat}(h:k≤l.length):(l.drop k++l.take k).take ((l.drop k++l.take k).length - 1)=bC l k:=by rw[Aj h];rfl
theorem Hv{ps:List (Bool×Nat)}{k:Nat}(h:ps.length≤500):(aP (bC ps k)).length≤4000:=aah (nH _) (aah (acY 6 (aah (rP ps k) h)) (by decide))
theorem gZ{α β:Type}(f:α→β)(ps:List α)(k:Nat):(bC ps k).map f=bC (ps.map f) k:=by
 unfold bC
 rw[ac7,aaR,afL,ac7,aaj]
theorem wG(yr:aK 60 r=some (.ref 0))(hi:jR H 0=some (bs.map bq))(hl:bs.length≤1000):aB (cV (.bi .len)) (aa (af 60) aj) ay C r H=.ok (.int (aaa bs.length)) H:=by
 have:=Ah (C:=C) (a:=.ref 0) (xs:=bs.map bq) (aH (r:=r) yr) hi nofun (by rw[aaj];exact aah hl (by decide))
 rw[aaj] at this
 exact this
theorem Wv{rc:List (Nat×V)}(yr:aK 60 r=some (.ref 0))(ZW:aK 79 r=some (.ref 1))(hi:jR H 0=some (bs.map bq))(hi1:jR H 1=some ((cj.map piece).map V.str))(hl:bs.length≤500)(hp:cj.length=bs.length):
 yR (cx par) r H=.ok (.on (dc 102 (fz cj bs.length) r)) H:=by
 have hcap:bP r [79]=[(79,.ref 1)]:=by
  show(@acs V (fun _=>aR) [] (fun v=>(79,v)::[]) (aK 79 r))=_
  rw[ZW]
 have cm:=iN (H:=H) (tests:=cC true (cx par)) (inner:=g1 (aS (cV (.str [])) .join (aa (cJ (aD (cJ (af 79) (af 50) (cV .none) (cV .none)) .add (cJ (af 79) (cV .none) (af 50) (cV .none))) (cV .none) (fZ (cV (.int 1))) (cV .none)) aj) ay) (cx par)) (t:=.one 50)
  (f:=fun v=>.str (aP (bC cj (abu ((oU v).getD 0))))) (fun r=>r=[(79,.ref 1)]∨∃u,r=[(79,.ref 1),(50,u)]) (fk 0 1 bs.length) [(79,.ref 1)] (.inl rfl) fun v hv r hr=>by
   obtain⟨k,_,hk,rfl⟩:=kh bs.length 0 v hv
   have hlen:((cj.map piece).map V.str).length≤4000:=by rw[aaj,aaj,hp];exact aah hl (by decide)
   have hk':k≤((cj.map piece).map V.str).length:=by rw[aaj,aaj,hp];exact adl (Nat.lt_of_lt_of_eq hk (abL _))
   refine⟨[(79,.ref 1),(50,.int (aaa k))],?_,.inr ⟨_,rfl⟩,rfl,B0 ?_⟩
   ·rcases hr with rfl|⟨_,rfl⟩<;>rfl
   ·have e1:=uu (C:=cx par) (x:=79) (m:=1) (r:=[(79,.ref 1),(50,.int (aaa k))]) (l:=af 50) (u:=cV .none) rfl hi1 hlen (aH rfl) aU rfl (oM hk')
    have e2:=uu (C:=cx par) (x:=79) (m:=1) (r:=[(79,.ref 1),(50,.int (aaa k))]) (l:=cV .none) (u:=af 50) rfl hi1 hlen aU (aH rfl) rfl (mY hk')
    have e3:=qO e1 e2 (by rw[←aao,Aj hk'];exact hlen)
    have e4:cJ (aD (cJ (af 79) (af 50) (cV .none) (cV .none)) .add (cJ (af 79) (cV .none) (af 50) (cV .none))) (cV .none) (fZ (cV (.int 1))) (cV .none) (cx par) [(79,.ref 1),(50,.int (aaa k))] H=.ok (.lst (((bC cj k).map piece).map V.str)) H:=by
     rw[gZ,gZ,←DY hk']
     exact jQ e3 aU (DP aU) aU (fX (a:=.lst _) rfl nofun (bT (by rw[Aj hk'];exact hlen)) rfl Hu)
    have e5:=E7 (sep:=[]) (l:=(bC cj k).map piece) e4 rfl (by rw[←wF];exact Hv (hp▸hl))
    rw[←wF] at e5
    exact e5
 have e:(fk 0 1 bs.length).map (fun v=>V.str (aP (bC cj (abu ((oU v).getD 0)))))=(aaL 0 bs.length).map fun k=>V.str (aP (bC cj k)):=by
  rw[show fk 0 1 bs.length=_ from qM bs.length 0,aaY];rfl
 rw[e] at cm
 refine fQ (qH (Ae (cR (wG yr hi (aah hl (by decide)))) (ur (acf hl (by decide)))) rfl ?_ (bT (by rw[aaj,af1];exact aah hl (by decide))))
 rw[hcap];exact cm
theorem Ak{xs:List V}{k:Nat}{v:V}(hk:xs[k]?=some v)(hl:xs.length≤4000):wM H (.lst xs) (.int (aaa k))=some v:=by
 obtain⟨h1,_⟩:=aay.mp hk
 show az (bJ (aaa k)) (aT (index (aC xs) (aaa k)) fun k=>jR xs k) none=_
 rw[show bJ (aaa k)=true from aaF (aah (aaX h1 hl) (by decide)),c8]
 have hi:index (aC xs) (aaa k)=some k:=by
  show az (aba k (aC xs)) (some k) none=_
  rw[aN,show aba k xs.length=true from aaF h1];rfl
 rw[hi]
 show jR xs k=_
 rw[eU,hk]
theorem rQ{N k:Nat}(hk:k<N):((aaL 0 N).map fun k=>V.str (aP (bC cj k)))[k]?=some (.str (aP (bC cj k))):=by
 rw[agm,List.getElem?_range' (hk),ac9,abL,Nat.one_mul]
theorem Fd(yr:aK 60 r=some (.ref 0))(hi:jR H 0=some (bs.map bq))(hl:bs.length≤1000)(h0:0<bs.length)(LK:aK 69 r=some (.int (aaa s))):aD (af 69) .mod (aB (cV (.bi .len)) (aa (af 60) aj) ay) C r H=.ok (.int (aaa (s%bs.length))) H:=by
 refine cQ (o:=.mod) (aH LK) (wG yr hi hl) ?_
 show az (jS 0 (aaa bs.length)) (some (V.int (abj (aaa s) (aaa bs.length)))) none=_
 rw[fM,decide_eq_true (abK.mpr h0)];rfl
theorem Ww(yr:aK 60 r=some (.ref 0))(hi:jR H 0=some (bs.map bq))(hl:bs.length≤1000)(h0:0<bs.length)(LK:aK 69 r=some (.int (aaa s)))(Hw:aK 102 r=some (fz cj bs.length)):
 yS (cx par) r H=.ok (.on (dc 103 (.str (aP (bC cj (s%bs.length)))) r)) H:=
 fQ (mT (aH Hw) (Fd yr hi hl h0 LK) (Ak (rQ (afQ _ h0)) (by rw[aaj,af1];exact aah hl (by decide))))
theorem Q5(f:V→V→Option Bool)(a b:V)(x y:List V):lQ f (a::x) (b::y)=aT (f a b) fun c=>aT (lQ f x y) fun d=>some (az c d false):=rfl
theorem yu:∀l:List (List Nat),lQ uA (l.map V.str) (l.map V.str)=some true
 |[]=>rfl
 |a::l=>by
  rw[aaz,Q5,yu l]
  show(aT (some (gP a a)) fun c=>aT (some true) fun d=>some (az c d false))=_
  rw[Hp];rfl
structure TurnOk(bs:List Bool)(s:Nat):Prop where
 pos:1≤s∧s≤bs.length
 turns:∀k,k<bs.length→mW 0 (bC bs k)=aap k (s%bs.length)
 ahead:mW 0 (true::bC bs (s%bs.length))=false
 before:aap (s - 1) (s%bs.length)=false
noncomputable def fY(cj:List (Bool×Nat))(j k:Nat):List Nat:=az (aap k j) (aP (bC cj k)) qK
theorem Hx(hp:cj.map (·.1)=bs)(T:TurnOk bs s){k:Nat}(hk:k<bs.length):oK (bC cj k)=fY cj (s%bs.length) k:=by
 unfold oK fY
 rw[gZ,hp,T.turns k hk]
noncomputable def Co(cj:List (Bool×Nat))(N j:Nat):List (List (Bool×Nat)):=(aaL 0 N).map (bC cj)++[(true,0)::bC cj j]
theorem NO(hp:cj.map (·.1)=bs)(T:TurnOk bs s):(Co cj bs.length (s%bs.length)).map oK=(aaL 0 bs.length).map (fY cj (s%bs.length))++[qK]:=by
 unfold Co
 rw[aaR,aaY]
 congr 1
 ·refine abD fun k hk=>?_
  have:=List.mem_range'_1.mp hk
  exact Hx hp T (by omega)
 ·show[oK ((true,0)::bC cj (s%bs.length))]=_
  unfold oK
  rw[aaz,gZ,hp,T.ahead];rfl
theorem rR(t:List (Bool×Nat)):aP ((true,0)::t)=40::aP t:=by rw[gY];rfl
theorem T9(yr:aK 60 r=some (.ref 0))(hi:jR H 0=some (bs.map bq))(hl:bs.length≤500)(h0:0<bs.length)(LK:aK 69 r=some (.int (aaa s)))(Hw:aK 102 r=some (fz cj bs.length))(NP:aK 103 r=some (.str (aP (bC cj (s%bs.length)))))
 (h8:∀x∈cj,x.2<8) (hlen:cj.length=bs.length) (hp:cj.map (·.1)=bs) (T:TurnOk bs s):∃g,tW (cx par) r H=.ok (.on r) (au H g):=by
 have hj:s%bs.length<bs.length:=afQ _ h0
 have tl:∀k,(bC cj k).length≤500:=fun k=>by have:=rP cj k;omega
 have tx:∀k,(aP (bC cj k)).length≤3000:=fun k=>by have:=nH (bC cj k);have:=tl k;omega
 have t8:∀k,∀x∈bC cj k,x.2<8:=fun k x hx=>by
  refine h8 x ?_
  unfold bC at hx
  have:=abz hx
  rcases aaW.mp this with h|h
  ·exact afs h
  ·exact abz h
 have good:∀t∈Co cj bs.length (s%bs.length),(∀x∈t,x.2<8)∧t.length≤3900∧(aP t).length≤4000:=fun t ht=>by
  rcases aaW.mp ht with ht|ht
  ·obtain⟨k,_,rfl⟩:=aa8.mp ht
   have:=tl k;have:=tx k
   exact⟨t8 k,by omega,by omega⟩
  ·rw[aaq.mp ht]
   have:=tl (s%bs.length);have:=tx (s%bs.length)
   refine⟨fun x hx=>?_,by rw[aaD];omega,by rw[rR,aaD];omega⟩
   rcases aar.mp hx with rfl|hx
   ·decide
   ·exact t8 _ x hx
 obtain⟨g,hg⟩:=Q0 (par:=par) (m:=3) (H:=H) (Co cj bs.length (s%bs.length)) good (by unfold Co;simp;omega)
 have harg:(Co cj bs.length (s%bs.length)).map (fun t=>V.str (aP t))=(aaL 0 bs.length).map (fun k=>V.str (aP (bC cj k)))++[V.str (40::aP (bC cj (s%bs.length)))]:=by
  unfold Co
  rw[aaR,aaY]
  show _++[V.str (aP ((true,0)::bC cj (s%bs.length)))]=_
  rw[rR];rfl
 have OH:aB (cV (.fn 6)) (aa (aD (af 102) .add (n6 (aa (aD (cV (.str [40])) .add (af 103)) aj))) aj) ay (cx par) r H=.ok (.ref (aC H)) (au (au H [((Co cj bs.length (s%bs.length)).map oK).map V.str]) g):=by
  refine eu (f:=.fn 6) aU (cR (qO (aH Hw) (DQ (cR (cQ (o:=.add) (z:=.str (40::aP (bC cj (s%bs.length)))) aU (aH NP) ?_)) rfl) (by simp;omega))) ?_
  ·show(aT (fit (40::aP (bC cj (s%bs.length)))) fun u=>some (V.str u))=_
   have:=tx (s%bs.length)
   rw[mV (by rw[aaD];omega)];rfl
  ·rw[harg] at hg
   exact hg
 rw[NO hp T] at OH
 refine⟨[((aaL 0 bs.length).map (fY cj (s%bs.length))++[qK]).map V.str]++g,?_⟩
 have eh:au (au H [((aaL 0 bs.length).map (fY cj (s%bs.length))++[qK]).map V.str]) g=au H ([((aaL 0 bs.length).map (fY cj (s%bs.length))++[qK]).map V.str]++g):=by simp only [aO,aaE]
 have hi1:jR (au (au H [((aaL 0 bs.length).map (fY cj (s%bs.length))++[qK]).map V.str]) g) 0=some (bs.map bq):=by
  rw[eh,eU,aO]
  rw[eU] at hi
  rw[aci (aay.mp hi).1];exact hi
 have Li:jR (au (au H [((aaL 0 bs.length).map (fY cj (s%bs.length))++[qK]).map V.str]) g) (aC H)=some (((aaL 0 bs.length).map (fY cj (s%bs.length))++[qK]).map V.str):=E9 H _ _
 generalize au (au H [((aaL 0 bs.length).map (fY cj (s%bs.length))++[qK]).map V.str]) g=H2 at*
 have hcap:bP r [60,69,102]=[(60,.ref 0),(69,.int (aaa s)),(102,fz cj bs.length)]:=by
  show(@acs V (fun _=>aR) _ _ (aK 60 r))=_
  rw[yr]
  show(60,V.ref 0)::(@acs V (fun _=>aR) _ _ (aK 69 r))=_
  rw[LK]
  show(60,V.ref 0)::(69,V.int (aaa s))::(@acs V (fun _=>aR) _ _ (aK 102 r))=_
  rw[Hw]
 have cm:=iN (H:=H2) (tests:=cC true (cx par)) (inner:=g1 (nZ (bV (aY (af 50) .eq (aD (af 69) .mod (aB (cV (.bi .len)) (aa (af 60) aj) ay)))) (dH (af 102) (af 50)) (cV (.str [40,39,39,44,32,39,39,41]))) (cx par)) (t:=.one 50)
  (f:=fun v=>match v with|.int k=>.str (fY cj (s%bs.length) (abu k))|_=>.none) (fun r=>r=[(60,.ref 0),(69,.int (aaa s)),(102,fz cj bs.length)]∨∃u,r=[(60,.ref 0),(69,.int (aaa s)),(102,fz cj bs.length),(50,u)]) (fk 0 1 bs.length) [(60,.ref 0),(69,.int (aaa s)),(102,fz cj bs.length)] (.inl rfl) fun v hv r hr=>by
   obtain⟨k,_,hk,rfl⟩:=kh bs.length 0 v hv
   refine⟨[(60,.ref 0),(69,.int (aaa s)),(102,fz cj bs.length),(50,.int (aaa k))],?_,.inr ⟨_,rfl⟩,rfl,B0 (Ll (c:=aap k (s%bs.length)) (cH (o:=.eq) (aH rfl) (Fd rfl hi1 (by omega) h0 rfl) ?_) ?_)⟩
   ·rcases hr with rfl|⟨_,rfl⟩<;>rfl
   ·show some (uz (aaa k) (aaa (s%bs.length)))=_
    rw[kH]
    congr 1
    rw[abF,decide_eq_true_eq]
    exact⟨fun h=>by rw[ahb h];exact abn _,fun h=>by rw[aan h]⟩
   ·show _=R.ok (V.str (fY cj (s%bs.length) k)) H2
    unfold fY
    cases aap k (s%bs.length) with
    |true=>exact mT (aH rfl) (aH rfl) (Ak (rQ (by omega)) (by simp;omega))
    |false=>rfl
 have e:(fk 0 1 bs.length).map (fun v=>match v with|.int k=>V.str (fY cj (s%bs.length) (abu k))|_=>.none)=((aaL 0 bs.length).map (fY cj (s%bs.length))).map V.str:=by
  rw[show fk 0 1 bs.length=_ from qM bs.length 0,aaY,aaY];rfl
 rw[e] at cm
 rw[←hcap] at cm
 have Ua:=qH (C:=cx par) (Ae (cR (wG yr hi1 (by omega))) (ur (by omega))) rfl cm (bT (by simp;omega))
 rw[←eh]
 refine fq (c:=false) (cH (o:=.ne) OH (qO Ua (DQ (cR aU) rfl) (by simp;omega)) ?_) rfl
 show wL (Ra H2 (.ref (aC H)) _)=_
 unfold Ra
 rw[show items H2 (.ref (aC H))=_ from Li]
 show wL (lQ uA (((aaL 0 bs.length).map (fY cj (s%bs.length))++[qK]).map V.str) (((aaL 0 bs.length).map (fY cj (s%bs.length))).map V.str++[V.str qK]))=_
 rw[show((aaL 0 bs.length).map (fY cj (s%bs.length))).map V.str++[V.str qK]=((aaL 0 bs.length).map (fY cj (s%bs.length))++[qK]).map V.str by rw[aaR (l₁:=(aaL 0 bs.length).map (fY cj (s%bs.length)))];rfl,yu]
 rfl
theorem DZ(H a b:HP):au (au H a) b=au H (a++b):=by simp only [aO,aaE]
theorem D0{e:CE}{ps:List (Bool×Nat)}{g0:HP}{c:Bool}(he:∀H,e (cx par) r H=.ok (.str (aP ps)) H)(h8:∀x∈ps,x.2<8)(hl:ps.length≤600)(hc:mW 0 (ps.map (·.1))=c):
 ∃g,bV (aY (aB (cV (.fn 5)) (aa e aj) ay) .Fj (cV (.bool c))) (cx par) r (au H g0)=.ok false (au H g):=by
 have hlen:=nH ps
 obtain⟨g,hg⟩:=Lr (par:=par) (m:=4) (H:=au H g0) ps h8 (by omega) (by omega)
 rw[DZ,hc] at hg
 refine⟨g0++g,cH (o:=.Fj) (eu (f:=.fn 5) aU (cR (he _)) hg) aU ?_⟩
 cases c<;>rfl
theorem or3{p q s:CB}{g1 g2 g3 g4:HP}(h1:p C r (au H g1)=.ok false (au H g2))(h2:q C r (au H g2)=.ok false (au H g3))(h3:s C r (au H g3)=.ok false (au H g4)):lS p (lS q (lS s (cC false))) C r (au H g1)=.ok false (au H g4):=by
 unfold lS
 rw[h1]
 show(q C r (au H g2)).bind _=_
 rw[h2]
 show(s C r (au H g3)).bind _=_
 rw[h3];rfl
theorem Ub{g0:HP}(LK:aK 69 r=some (.int (aaa s)))(Hw:aK 102 r=some (fz cj bs.length))(NP:aK 103 r=some (.str (aP (bC cj (s%bs.length)))))(hl:bs.length≤500)(h0:0<bs.length)
 (h8:∀x∈cj,x.2<8) (hlen:cj.length=bs.length) (hp:cj.map (·.1)=bs) (T:TurnOk bs s):∃g,tY (cx par) r (au H g0)=.ok (.on r) (au H g):=by
 have hj:s%bs.length<bs.length:=afQ _ h0
 have tl:∀k,(bC cj k).length≤500:=fun k=>by have:=rP cj k;omega
 have t8:∀k,∀x∈bC cj k,x.2<8:=fun k x hx=>by
  refine h8 x ?_
  unfold bC at hx
  have:=abz hx
  rcases aaW.mp this with h|h
  ·exact afs h
  ·exact abz h
 obtain⟨s1,s2⟩:=T.pos
 obtain⟨g1,e1⟩:=D0 (par:=par) (r:=r) (H:=H) (e:=af 103) (ps:=bC cj (s%bs.length)) (g0:=g0) (c:=true) (fun _=>aH NP) (t8 _) (by have:=tl (s%bs.length);omega) (by rw[gZ,hp,T.turns _ hj];exact abn _)
 obtain⟨g2,e2⟩:=D0 (par:=par) (r:=r) (H:=H) (e:=dH (af 102) (aD (af 69) .sub (cV (.int 1)))) (ps:=bC cj (s - 1)) (g0:=g1) (c:=false) (fun H'=>by
  refine mT (aH Hw) (cQ (o:=.sub) (z:=.int (aaa (s - 1))) (aH LK) aU ?_) (Ak (rQ (by omega)) (by simp;omega))
  refine congrArg (fun i=>some (V.int i)) (show aaK (aaa s) (acz 1)=aaa (s - 1) from ?_)
  show(s:Int)+-1=((s - 1:Nat):Int)
  omega) (t8 _) (by have:=tl (s - 1);omega) (by rw[gZ,hp,T.turns _ (by omega)];exact T.before)
 obtain⟨g3,e3⟩:=D0 (par:=par) (r:=r) (H:=H) (e:=aD (cV (.str [40])) .add (af 103)) (ps:=(true,0)::bC cj (s%bs.length)) (g0:=g2) (c:=false) (fun H'=>by
  rw[rR]
  refine cQ (o:=.add) aU (aH NP) ?_
  show(aT (fit (40::aP (bC cj (s%bs.length)))) fun u=>some (V.str u))=_
  have h1:=nH (bC cj (s%bs.length));have h2:=tl (s%bs.length)
  rw[mV (by rw[aaD];omega)];rfl) (fun x hx=>by
   rcases aar.mp hx with rfl|hx
   ·decide
   ·exact t8 _ x hx) (by rw[aaD];have:=tl (s%bs.length);omega) (by rw[aaz,gZ,hp];exact T.ahead)
 exact⟨g3,fq (c:=false) (or3 e1 e2 e3) rfl⟩
noncomputable def mZ(bs:List Bool)(k:Nat):List Bool:=bs.drop k++bs.take k
theorem Uc(yr:aK 60 r=some (.ref 0))(hi:jR H 0=some (bs.map bq))(hl:bs.length≤500)(LK:aK 69 r=some (.int (aaa s)))(Wx:aK 100 r=some (.lst (bs.reverse.map bq)))(hs:s≤bs.length)(ht:fR bs.reverse=some (aaa t)):
 tZ (cx par) r H=.ok (.on (dc 105 (.int (aaa t)) (dc 65 (.lst ((mZ bs s).map bq)) r))) H:=by
 have hlen:(bs.map bq).length≤4000:=by rw[aaj];omega
 have e1:=uu (C:=cx par) (r:=r) (x:=60) (m:=0) (l:=af 69) (u:=cV .none) yr hi hlen (aH LK) aU rfl (oM (by rw[aaj];exact hs))
 have e2:=uu (C:=cx par) (r:=r) (x:=60) (m:=0) (l:=cV .none) (u:=af 69) yr hi hlen aU (aH LK) rfl (mY (by rw[aaj];exact hs))
 have e3:=qO e1 e2 (by rw[ab6,abH,aaj];omega)
 have e4:(bs.map bq).drop s++(bs.map bq).take s=(mZ bs s).map bq:=by unfold mZ;rw[aaR,afL,ac7]
 rw[e4] at e3
 refine nG (v:=.tup [.lst ((mZ bs s).map bq),.int (aaa t)]) rfl (wj (d7 e3 (cR (eu (f:=.fn 15) aU (cR (aH Wx)) ?_))) rfl) rfl rfl
 exact Ce (m:=5) (v:=.lst (bs.reverse.map bq)) rfl nofun (by rw[adR];omega) ht
noncomputable def Q6:CS:=uJ [yJ,yK,yL,yM,yN,yO,yP,yQ,yR,yS,tW,tY,tZ]
theorem Lu:iH (bk.take 13)=Q6:=⋯
noncomputable def XC(oO rL:V)(n:Nat)(zs:List Int)(a b:Int)(s:Nat)(bs:List Bool)(cj:List (Bool×Nat))(t:Nat):aR:=
 r6 oO rL n zs++[(4,.int a),(99,.int b),(69,.int (aaa s)),(100,.lst (bs.reverse.map bq)),(102,fz cj bs.length),(103,.str (aP (bC cj (s%bs.length)))),(65,.lst ((mZ bs s).map bq)),(105,.int (aaa t))]
theorem NQ(l:List Int)(hl:l.length≤63)(P:List Bool→Nat→Nat→Prop)(hR:∀zs:List Int,zs.length=2*bO l+1→∃s t,fR (cU (bO l) zs [])=some (aaa s)∧fR (cU (bO l) zs []).reverse=some (aaa t)∧TurnOk (cU (bO l) zs []) s∧P (cU (bO l) zs []) s t):
 ∃zs,zs.length=2*bO l+1∧(∀z∈zs,0≤z∧z<1000000)∧∃s t,fR (cU (bO l) zs [])=some (aaa s)∧fR (cU (bO l) zs []).reverse=some (aaa t)∧P (cU (bO l) zs []) s t∧∀par,∃a b g,
  iH (bk.take 13) (cx par) [(92,iL l)] []=.ok (.on (XC (iL l) (iL (l.take 60)) (bO l) zs a b s (cU (bO l) zs []) (qN (bO l) zs []) t)) (au [(cU (bO l) zs []).map bq,((qN (bO l) zs []).map piece).map V.str] g):=by
 have hn:=Cg l
 obtain⟨zs,z1,z2,e2⟩:=Wn (H:=[]) (l.take 60) (by rw[abH];omega) hn (iL l)
 obtain⟨s,t,q1,q2,T,hP⟩:=hR zs z1
 have Wy:(cU (bO l) zs []).length=2*bO l+1:=by rw[rO,z1];simp
 have hpf:(qN (bO l) zs []).map (·.1)=cU (bO l) zs []:=by have:=Cn (bO l) zs [];simpa using this
 have hpl:(qN (bO l) zs []).length=(cU (bO l) zs []).length:=by rw[←hpf,aaj]
 have h8:=Fc (bO l) zs []
 refine⟨zs,z1,z2,s,t,q1,q2,hP,fun par=>?_⟩
 obtain⟨a,b,e6⟩:=Wt (par:=par) (n:=bO l) (oO:=iL l) (rL:=iL (l.take 60)) (zs:=zs) (by omega) (fun h=>by rw[h] at z1;simp at z1)
 refine⟨a,b,?_⟩
 generalize cU (bO l) zs []=bs at*
 generalize qN (bO l) zs []=cj at*
 have UZ:bs.length≤500:=by rcases hn with h|h<;>rw[h] at Wy<;>omega
 have hb0:0<bs.length:=by omega
 have e7:=Wu (par:=par) (bs:=bs) (s:=s) (r:=r6 (iL l) (iL (l.take 60)) (bO l) zs++[(4,.int a),(99,.int b)]) (H:=[bs.map bq,(cj.map piece).map V.str]) rfl rfl (by omega) q1
 have e8:=Wv (par:=par) (bs:=bs) (cj:=cj) (rc:=[]) (r:=r6 (iL l) (iL (l.take 60)) (bO l) zs++[(4,.int a),(99,.int b),(69,.int (aaa s)),(100,.lst (bs.reverse.map bq))]) (H:=[bs.map bq,(cj.map piece).map V.str]) rfl rfl rfl rfl UZ hpl
 have e9:=Ww (par:=par) (bs:=bs) (cj:=cj) (s:=s) (r:=r6 (iL l) (iL (l.take 60)) (bO l) zs++[(4,.int a),(99,.int b),(69,.int (aaa s)),(100,.lst (bs.reverse.map bq)),(102,fz cj bs.length)]) (H:=[bs.map bq,(cj.map piece).map V.str]) rfl rfl (by omega) hb0 rfl rfl
 obtain⟨g,FA⟩:=T9 (par:=par) (bs:=bs) (cj:=cj) (s:=s) (r:=r6 (iL l) (iL (l.take 60)) (bO l) zs++[(4,.int a),(99,.int b),(69,.int (aaa s)),(100,.lst (bs.reverse.map bq)),(102,fz cj bs.length),(103,.str (aP (bC cj (s%bs.length))))]) (H:=[bs.map bq,(cj.map piece).map V.str]) rfl rfl UZ hb0 rfl rfl rfl h8 hpl hpf T
 obtain⟨g',SH⟩:=Ub (par:=par) (bs:=bs) (cj:=cj) (s:=s) (g0:=g) (r:=r6 (iL l) (iL (l.take 60)) (bO l) zs++[(4,.int a),(99,.int b),(69,.int (aaa s)),(100,.lst (bs.reverse.map bq)),(102,fz cj bs.length),(103,.str (aP (bC cj (s%bs.length))))]) (H:=[bs.map bq,(cj.map piece).map V.str]) rfl rfl rfl UZ hb0 h8 hpl hpf T
 have ZX:=Uc (par:=par) (bs:=bs) (s:=s) (t:=t) (r:=r6 (iL l) (iL (l.take 60)) (bO l) zs++[(4,.int a),(99,.int b),(69,.int (aaa s)),(100,.lst (bs.reverse.map bq)),(102,fz cj bs.length),(103,.str (aP (bC cj (s%bs.length))))]) (H:=au [bs.map bq,(cj.map piece).map V.str] g') rfl rfl UZ rfl rfl T.pos.2 q2
 refine⟨g',?_⟩
 rw[Lu]
 refine br (Wl (H:=[]) hl) (br (Wm (H:=[])) (br (e2 par) (br (Wo (by omega)) (br Wq (br Ws (br e6 (br e7 (br e8 (br e9 (br FA (br SH (br ZX rfl))))))))))))
end
noncomputable def bt(k n:Nat):List Bool:=@ach (fun _=>Nat→List Bool) (fun _=>[]) (fun _ ih n=>aap (n%2) 1::ih (n/2)) k n
noncomputable def dD(k:Nat)(l:List (Nat×Nat)):List (List Bool×List Bool):=l.map fun p=>(bt k p.1,bt k p.2)
noncomputable def Cp:List (List Bool×List Bool):=dD 9 [(15,15),(23,29),(39,71),(71,39),(27,27),(43,53),(75,77),(51,51),(83,83),(29,23),(45,45),(77,75),(53,43),(85,85)]
noncomputable def ki:List (List Bool×List Bool):=dD 11 [(31,31),(47,61),(79,271),(143,143),(271,79),(55,59),(87,117),(151,285),(279,157),(103,115),(167,327),(295,295),(199,199),(327,167),(59,55),(91,109),(155,283),(283,155),(107,107),(171,213),(299,309),(203,211),(331,333),(115,103),(179,205),(307,307),(211,203),(339,339),(61,47),(93,93),(157,279),(285,151),(109,91),(173,181),(301,301),(205,179),(333,331),(117,87),(181,173),(309,299),(213,171),(341,341)]
noncomputable def Lv(n:Nat):List (List Bool×List Bool):=az (aap n 4) Cp ki
noncomputable def NR(a b:Bool):Bool:=az a b (az b false true)
noncomputable def Cq(x:List Bool):List Bool→Bool:=
 @aaB Bool (fun _=>List Bool→Bool) (fun y=>@aaB Bool (fun _=>Bool) true (fun _ _ _=>false) y)
  (fun a _ ih y=>@aaB Bool (fun _=>Bool) false (fun b t _=>az (NR a b) (ih t) false) y) x
noncomputable def memD(D:List (List Bool×List Bool))(a b:List Bool):Bool:=@aaB (List Bool×List Bool) (fun _=>Bool) false (fun p _ ih=>az (az (Cq p.1 a) (Cq p.2 b) false) true ih) D
noncomputable def D3(bs:List Bool)(k:Nat):List Bool:=au (fS bs k) (dF bs k)
noncomputable def Q7(l:List Bool):Nat→Bool:=@aaB Bool (fun _=>Nat→Bool) (fun o=>aap o 0) (fun b _ ih o=>az b (ih (acC o)) (@ach (fun _=>Bool) false (fun o _=>ih o) o)) l
noncomputable def Q8(f:Nat→Bool)(n:Nat):Bool:=@ach (fun _=>Bool) true (fun k ih=>az (f k) ih false) n
noncomputable def Al(D:List (List Bool×List Bool))(bs:List Bool):Bool:=
 match fR bs with
 |some s=>match s with
  |.ofNat s=>match fR (yv bs) with
   |some t=>match t with
    |.ofNat t=>az (aa5 1 s) (az (aa5 s (aC bs)) (az (aa5 t (aC bs)) (az (Q8 (fun k=>NR (Q7 (dF (D3 bs k) (aC bs - 1)) 0) (aap k (s%aC bs))) (aC bs))
     (az (Q7 (true::dF (D3 bs (s%aC bs)) (aC bs - 1)) 0) false (az (aap (s - 1) (s%aC bs)) false (memD D (D3 bs s) (D3 (yv bs) t)))) false) false) false) false
    |_=>false
   |none=>false
  |_=>false
 |none=>false
noncomputable def allR(D:List (List Bool×List Bool))(n:Nat)(k:Nat):List Bool→Bool:=
 @ach (fun _=>List Bool→Bool) (fun bs=>Al D bs) (fun _ ih bs=>az (az (cg n bs true) (ih (au bs [true])) true) (az (cg n bs false) true (ih (au bs [false]))) false) k
theorem Wz:allR Cp 4 9 []=true:=⋯
theorem WA:allR ki 5 11 []=true:=⋯
section
variable{D:List (List Bool×List Bool)}{n:Nat}{bs:List Bool}
theorem NS{ev:Bool}(h:cg n bs ev=true):cg n bs true=true:=by
 unfold cg at h ⊢
 cases hc:jS (aaa (qL true bs)) (aaa n) with
 |true=>rfl
 |false=>rw[hc] at h;cases h
theorem NT{ev:Bool}(h:cg n bs ev=false):cg n bs false=false:=by
 unfold cg at h ⊢
 cases hc:jS (aaa (qL true bs)) (aaa n) with
 |false=>rfl
 |true=>
  rw[hc] at h
  cases ev with
  |true=>cases h
  |false=>exact h
theorem jA{a b:Bool}(h:az a b false=true):a=true∧b=true:=by
 cases a with
 |true=>exact⟨rfl,h⟩
 |false=>cases h
theorem Lw{a b:Bool}(h:az a false b=true):a=false∧b=true:=by
 cases a with
 |false=>exact⟨rfl,h⟩
 |true=>cases h
theorem uw:∀(k:Nat)(bs:List Bool),allR D n k bs=true→∀zs:List Int,zs.length=k→Al D (cU n zs bs)=true
 |0,bs,h,zs,hz=>by
  have:=abS hz
  subst this
  exact h
 |k+1,bs,h,zs,hz=>by
  have h:az (az (cg n bs true) (allR D n k (au bs [true])) true) (az (cg n bs false) true (allR D n k (au bs [false]))) false=true:=h
  obtain⟨h1,h2⟩:=jA h
  cases zs with
  |nil=>cases hz
  |cons z zs=>
   have hz:zs.length=k:=by simpa using hz
   rw[oQ]
   cases hb:cg n bs (qS z) with
   |true=>
    rw[NS hb,aO] at h1
    exact uw k _ h1 zs hz
   |false=>
    rw[NT hb,aO] at h2
    exact uw k _ h2 zs hz
theorem Fe{a b:Bool}(h:NR a b=true):a=b:=by cases a<;>cases b<;>first|rfl|cases h
theorem Am:∀{x y:List Bool},Cq x y=true→x=y
 |[],[],_=>rfl
 |[],_::_,h=>by cases h
 |_::_,[],h=>by cases h
 |a::x,b::y,h=>by
  have h:az (NR a b) (Cq x y) false=true:=h
  obtain⟨h1,h2⟩:=jA h
  rw[Fe h1,Am h2]
theorem Cr:∀{D:List (List Bool×List Bool)}{a b:List Bool},memD D a b=true→(a,b)∈D
 |[],_,_,h=>by cases h
 |p::D,a,b,h=>by
  have h:az (az (Cq p.1 a) (Cq p.2 b) false) true (memD D a b)=true:=h
  cases hc:az (Cq p.1 a) (Cq p.2 b) false with
  |true=>
   obtain⟨h1,h2⟩:=jA hc
   rw[←Am h1,←Am h2]
   exact aae ..
  |false=>
   rw[hc] at h
   exact aaf _ (Cr h)
theorem ux:∀(l:List Bool)(o:Nat),Q7 l o=mW o l
 |[],o=>rfl
 |true::l,o=>ux l (o+1)
 |false::l,0=>rfl
 |false::l,o+1=>ux l o
theorem Ff{f:Nat→Bool}:∀{n:Nat},Q8 f n=true→∀k,k<n→f k=true
 |0,_,_,h=>absurd h (ae3 _)
 |n+1,h,k,hk=>by
  have h:az (f n) (Q8 f n) false=true:=h
  obtain⟨h1,h2⟩:=jA h
  rcases ahl k n with hk'|hk'
  ·exact Ff h2 k hk'
  ·rw[show k=n by omega];exact h1
theorem An(bs:List Bool)(k:Nat):D3 bs k=mZ bs k:=by unfold D3 mZ;rw[aO,eV,dM]
theorem Fg(bs:List Bool)(k:Nat):dF (D3 bs k) (aC bs - 1)=bC bs k:=by rw[dM,An,aN];rfl
theorem sR(h:Al D bs=true):∃s t,fR bs=some (aaa s)∧fR bs.reverse=some (aaa t)∧TurnOk bs s∧t≤bs.length∧(mZ bs s,mZ bs.reverse t)∈D:=by
 unfold Al at h
 cases e1:fR bs with
 |none=>rw[e1] at h;cases h
 |some s=>
 rw[e1] at h
 cases s with
 |negSucc s=>cases h
 |ofNat s=>
 cases e2:fR (yv bs) with
 |none=>dsimp only at h;rw[e2] at h;cases h
 |some t=>
 dsimp only at h
 rw[e2] at h
 cases t with
 |negSucc t=>cases h
 |ofNat t=>
 dsimp only at h
 obtain⟨h1,h⟩:=jA h
 obtain⟨h2,h⟩:=jA h
 obtain⟨h3,h⟩:=jA h
 obtain⟨h4,h⟩:=jA h
 obtain⟨h5,h⟩:=Lw h
 obtain⟨h6,h⟩:=Lw h
 have k1:=aak h1
 have k2:=aak h2
 have k3:=aak h3
 rw[aN] at k2 k3
 rw[uc] at e2
 refine⟨s,t,rfl,e2,⟨⟨k1,k2⟩,fun k hk=>?_,?_,?_⟩,k3,?_⟩
 ·have:=Ff h4 k (by rw[aN];exact hk)
  have:=Fe this
  rw[Fg,ux,aN] at this
  exact this
 ·rw[Fg,ux,aN] at h5;exact h5
 ·rw[aN] at h6;exact h6
 ·have:=Cr h
  rw[An,An,uc] at this
  exact this
theorem NU{n:Nat}(hn:n=4∨n=5)(zs:List Int)(hz:zs.length=2*n+1):∃s t,fR (cU n zs [])=some (aaa s)∧fR (cU n zs []).reverse=some (aaa t)∧TurnOk (cU n zs []) s∧t≤(cU n zs []).length∧(mZ (cU n zs []) s,mZ (cU n zs []).reverse t)∈Lv n:=by
 rcases hn with rfl|rfl
 ·exact sR (uw 9 [] Wz zs hz)
 ·exact sR (uw 11 [] WA zs hz)
end
noncomputable def nV(l:List Bool):V:=.lst (lmap bq l)
noncomputable def uy(n:Nat):Nat→List V:=@ach (fun _=>Nat→List V) (fun _=>[]) (fun _ ih j=>.sym [1114113+j]::ih (j+1)) n
noncomputable def rM(v1 v2 v3 v4 v5 v6 v7 v8 v9 v10 v11 lg:V)(n:Nat)(tk:List Bool):aR:=
 [(92,v1),(91,v2),(66,.int (aaa n)),(93,v3),(94,v4),(96,v5),(82,.lst (uy (2*n+1) 0)),(97,rJ),(98,rK),(83,.tot 0),(60,.ref 0),(79,.ref 1),(4,v6),(99,v7),(69,v8),(100,v9),(102,v10),(103,v11),(65,nV tk),(105,lg)]
noncomputable def rN(v1 v2 v3 v4 v5 v6 v7 v8 v9 v10 v11 lg:V)(n:Nat)(tk:List Bool)(hi he ot:V):aR:=
 [(92,v1),(91,v2),(66,.int (aaa n)),(93,v3),(94,v4),(96,v5),(82,.lst (uy (2*n+1) 0)),(97,rJ),(98,rK),(83,.tot 0),(60,.ref 0),(79,.ref 1),(4,v6),(99,v7),(69,v8),(100,v9),(102,v10),(103,v11),(65,nV tk),(105,lg),(64,hi),(67,he),(107,ot)]
noncomputable def Lx:CS:=uJ [oZ,o4,o5,o6,o7,o8,o9,pg,pq,pA,pB,pC,pD,pF,pG,pH,pI,pJ]
noncomputable def WB(r:R Fl):Bool:=match r with
 |.ok f _=>(match f with|.back v=>(match v with|.bool b=>b|_=>false)|_=>false)
 |_=>false
noncomputable def rT(n:Nat)(tk mi:List Bool)(par:Bool)(v1 v2 v3 v4 v5 v6 v7 v8 v9 v10 v11 lg:V)(h1 h2:List V):Bool:=
 match iD par 6 16 [nV tk,.int (aaa n)] [] [] [h1,h2] with
 |.ok a H=>match a with
  |.tup l=>match l with
   |[hi,he]=>match iD par 6 16 [nV mi,.int (aaa n)] [] [] H with
    |.ok b H=>match b with
     |.tup l=>match l with
      |[_,ot]=>WB (Lx (cx par) (rN v1 v2 v3 v4 v5 v6 v7 v8 v9 v10 v11 lg n tk hi he ot) H)
      |_=>false
     |_=>false
    |_=>false
   |_=>false
  |_=>false
 |_=>false
noncomputable def Cs(n:Nat)(p:List Bool×List Bool):Prop:=∀(par:Bool)(v1 v2 v3 v4 v5 v6 v7 v8 v9 v10 v11 lg:V)(h1 h2:List V),rT n p.1 p.2 par v1 v2 v3 v4 v5 v6 v7 v8 v9 v10 v11 lg h1 h2=true
theorem Cs.of{n:Nat}{p:List Bool×List Bool}(ht:∀(v1 v2 v3 v4 v5 v6 v7 v8 v9 v10 v11 lg:V)(h1 h2:List V),rT n p.1 p.2 true v1 v2 v3 v4 v5 v6 v7 v8 v9 v10 v11 lg h1 h2=true)(hf:∀(v1 v2 v3 v4 v5 v6 v7 v8 v9 v10 v11 lg:V)(h1 h2:List V),rT n p.1 p.2 false v1 v2 v3 v4 v5 v6 v7 v8 v9 v10 v11 lg h1 h2=true):Cs n p:=fun par=>by
 cases par with
 |true=>exact ht
 |false=>exact hf
section
variable{par:Bool}{n:Nat}{tk mi:List Bool}{v1 v2 v3 v4 v5 v6 v7 v8 v9 v10 v11 lg:V}{h1 h2:List V}
theorem Ly{r:R Fl}(h:WB r=true):∃H,r=.ok (.back (.bool true)) H:=by
 unfold WB at h
 cases r with
 |ok f H=>
  cases f with
  |back v=>
   cases v with
   |bool b=>cases b with
    |true=>exact⟨H,rfl⟩
    |false=>exact nb1 h
   |_=>exact nb1 h
  |on r=>exact nb1 h
 |_=>exact nb1 h
theorem Hy(h:rT n tk mi par v1 v2 v3 v4 v5 v6 v7 v8 v9 v10 v11 lg h1 h2=true):∃hi he x ot H1 H2 H3,iD par 6 16 [nV tk,.int (aaa n)] [] [] [h1,h2]=.ok (.tup [hi,he]) H1∧iD par 6 16 [nV mi,.int (aaa n)] [] [] H1=.ok (.tup [x,ot]) H2∧
 Lx (cx par) (rN v1 v2 v3 v4 v5 v6 v7 v8 v9 v10 v11 lg n tk hi he ot) H2=.ok (.back (.bool true)) H3:=by
 unfold rT at h
 cases e1:iD par 6 16 [nV tk,.int (aaa n)] [] [] [h1,h2] with
 |ok a H1=>
  rw[e1] at h
  cases a with
  |tup l=>
   cases l with
   |nil=>exact nb1 h
   |cons hi l=>cases l with
    |nil=>exact nb1 h
    |cons he l=>cases l with
     |cons _ _=>exact nb1 h
     |nil=>
      dsimp only at h
      cases e2:iD par 6 16 [nV mi,.int (aaa n)] [] [] H1 with
      |ok b H2=>
       rw[e2] at h
       cases b with
       |tup l=>
        cases l with
        |nil=>exact nb1 h
        |cons x l=>cases l with
         |nil=>exact nb1 h
         |cons ot l=>cases l with
          |cons _ _=>exact nb1 h
          |nil=>
           obtain⟨H3,e3⟩:=Ly h
           exact⟨hi,he,x,ot,H1,H2,H3,rfl,e2,e3⟩
       |_=>exact nb1 h
      |bad=>rw[e2] at h;exact nb1 h
      |exc c m H=>rw[e2] at h;exact nb1 h
  |_=>exact nb1 h
 |bad=>rw[e1] at h;exact nb1 h
 |exc c m H=>rw[e1] at h;exact nb1 h
noncomputable def WC:CS:=uJ [t6,t7,oZ,o4,o5,o6,o7,o8,o9,pg,pq,pA,pB,pC,pD,pF,pG,pH,pI,pJ]
theorem NV:iH (bk.drop 13)=WC:=⋯
theorem second(hF:Cs n (tk,mi)){rv:List Bool}{t:Nat}(ht:t≤rv.length)(hl:rv.length≤500)(hm:mZ rv t=mi):
 ∃H3,iH (bk.drop 13) (cx par) (rM v1 v2 v3 v4 v5 v6 v7 v8 (.lst (rv.map bq)) v10 v11 (.int (aaa t)) n tk) [h1,h2]=.ok (.back (.bool true)) H3:=by
 obtain⟨hi,he,x,ot,H1,H2,H3,e1,e2,e3⟩:=Hy (hF par v1 v2 v3 v4 v5 v6 v7 v8 (.lst (rv.map bq)) v10 v11 (.int (aaa t)) h1 h2)
 refine⟨H3,?_⟩
 rw[NV]
 have s1:cJ (af 100) (af 105) (cV .none) (cV .none) (cx par) (rM v1 v2 v3 v4 v5 v6 v7 v8 (.lst (rv.map bq)) v10 v11 (.int (aaa t)) n tk++[(64,hi),(67,he)]) H1=.ok (.lst ((rv.map bq).drop t)) H1:=
  jQ (aH rfl) (aH rfl) aU aU (fX (a:=.lst _) rfl nofun (bT (by rw[aaj];omega)) rfl (oM (by rw[aaj];exact ht)))
 have s2:cJ (af 100) (cV .none) (af 105) (cV .none) (cx par) (rM v1 v2 v3 v4 v5 v6 v7 v8 (.lst (rv.map bq)) v10 v11 (.int (aaa t)) n tk++[(64,hi),(67,he)]) H1=.ok (.lst ((rv.map bq).take t)) H1:=
  jQ (aH rfl) aU (aH rfl) aU (fX (a:=.lst _) rfl nofun (bT (by rw[aaj];omega)) rfl (mY (by rw[aaj];exact ht)))
 have s3:=qO s1 s2 (by rw[ab6,abH,aaj];omega)
 have s4:(rv.map bq).drop t++(rv.map bq).take t=lmap bq mi:=by rw[jr,←hm];unfold mZ;rw[aaR,afL,ac7]
 rw[s4] at s3
 refine br (nG (v:=.tup [hi,he]) rfl (eu (f:=.fn 16) aU (d7 (aH rfl) (cR (aH rfl))) e1) rfl rfl) (br (r':=rN v1 v2 v3 v4 v5 v6 v7 v8 (.lst (rv.map bq)) v10 v11 (.int (aaa t)) n tk hi he ot) (fQ (mT (y:=.int 1) (eu (f:=.fn 16) aU (d7 s3 (cR (aH rfl))) e2) aU rfl)) e3)
end
section
variable(v1 v2 v3 v4 v5 v6 v7 v8 v9 v10 v11 lg:V)(h1 h2:List V)
theorem Lz:(Cp).all (fun p=>rT 4 p.1 p.2 true v1 v2 v3 v4 v5 v6 v7 v8 v9 v10 v11 lg h1 h2)=true:=⋯
theorem LA:(Cp).all (fun p=>rT 4 p.1 p.2 false v1 v2 v3 v4 v5 v6 v7 v8 v9 v10 v11 lg h1 h2)=true:=⋯
theorem LB:((ki.drop 0).take 14).all (fun p=>rT 5 p.1 p.2 true v1 v2 v3 v4 v5 v6 v7 v8 v9 v10 v11 lg h1 h2)=true:=⋯
theorem Hz:((ki.drop 14).take 14).all (fun p=>rT 5 p.1 p.2 true v1 v2 v3 v4 v5 v6 v7 v8 v9 v10 v11 lg h1 h2)=true:=⋯
theorem HA:((ki.drop 28).take 14).all (fun p=>rT 5 p.1 p.2 true v1 v2 v3 v4 v5 v6 v7 v8 v9 v10 v11 lg h1 h2)=true:=⋯
theorem LC:((ki.drop 0).take 14).all (fun p=>rT 5 p.1 p.2 false v1 v2 v3 v4 v5 v6 v7 v8 v9 v10 v11 lg h1 h2)=true:=⋯
theorem HC:((ki.drop 14).take 14).all (fun p=>rT 5 p.1 p.2 false v1 v2 v3 v4 v5 v6 v7 v8 v9 v10 v11 lg h1 h2)=true:=⋯
theorem HD:((ki.drop 28).take 14).all (fun p=>rT 5 p.1 p.2 false v1 v2 v3 v4 v5 v6 v7 v8 v9 v10 v11 lg h1 h2)=true:=⋯
end
theorem jB{α:Type}{f:α→Bool}:∀{l:List α},l.all f=true→∀p∈l,f p=true:=fun h=>aaG.mp h
theorem LD{n:Nat}(hn:n=4∨n=5):∀p∈Lv n,Cs n p:=by
 intro p hp
 rcases hn with rfl|rfl
 ·have hp:p∈Cp:=hp
  exact Cs.of (fun v1 v2 v3 v4 v5 v6 v7 v8 v9 v10 v11 lg h1 h2=>jB (Lz v1 v2 v3 v4 v5 v6 v7 v8 v9 v10 v11 lg h1 h2) p hp) (fun v1 v2 v3 v4 v5 v6 v7 v8 v9 v10 v11 lg h1 h2=>jB (LA v1 v2 v3 v4 v5 v6 v7 v8 v9 v10 v11 lg h1 h2) p hp)
 ·have hp:p∈ki:=hp
  have e:ki=(ki.drop 0).take 14++((ki.drop 14).take 14++(ki.drop 28).take 14):=⋯
  rw[e,aaW,aaW] at hp
  rcases hp with hp|hp|hp
  ·exact Cs.of (fun v1 v2 v3 v4 v5 v6 v7 v8 v9 v10 v11 lg h1 h2=>jB (LB v1 v2 v3 v4 v5 v6 v7 v8 v9 v10 v11 lg h1 h2) p hp) (fun v1 v2 v3 v4 v5 v6 v7 v8 v9 v10 v11 lg h1 h2=>jB (LC v1 v2 v3 v4 v5 v6 v7 v8 v9 v10 v11 lg h1 h2) p hp)
  ·exact Cs.of (fun v1 v2 v3 v4 v5 v6 v7 v8 v9 v10 v11 lg h1 h2=>jB (Hz v1 v2 v3 v4 v5 v6 v7 v8 v9 v10 v11 lg h1 h2) p hp) (fun v1 v2 v3 v4 v5 v6 v7 v8 v9 v10 v11 lg h1 h2=>jB (HC v1 v2 v3 v4 v5 v6 v7 v8 v9 v10 v11 lg h1 h2) p hp)
  ·exact Cs.of (fun v1 v2 v3 v4 v5 v6 v7 v8 v9 v10 v11 lg h1 h2=>jB (HA v1 v2 v3 v4 v5 v6 v7 v8 v9 v10 v11 lg h1 h2) p hp) (fun v1 v2 v3 v4 v5 v6 v7 v8 v9 v10 v11 lg h1 h2=>jB (HD v1 v2 v3 v4 v5 v6 v7 v8 v9 v10 v11 lg h1 h2) p hp)
open PySem.W PyProof.Rows
section
variable{Θ:Th}{r1 r2:aR}
noncomputable def Ao(Θ:Th)(r1 r2:aR):Prop:=∀x v,aK x r2=some v→∃v0,aK x r1=some v0∧LJ Θ v0 v
theorem Ao.nil:Ao Θ [] []:=fun _ _ e=>by exact no1 e
theorem Ao.cons{k:Nat}{v0 v:V}(h:LJ Θ v0 v)(t:Ao Θ r1 r2):Ao Θ ((k,v0)::r1) ((k,v)::r2):=fun x u e=>by
 rw[cZ] at e ⊢
 by_cases hx:x=k
 ·subst hx
  rw[if_pos rfl] at e ⊢
  (first|(replace e:=Z8 e;subst e)|cases e)
  exact⟨v0,rfl,h⟩
 ·have hx':¬k=x:=fun q=>hx q.symm
  first
   |(rw[if_neg hx] at e ⊢;exact t x u e)
   |(rw[if_neg hx'] at e ⊢;exact t x u e)
theorem Ao.ind{k:Nat}{v:V}(h:wJ v)(t:Ao Θ r1 r2):Ao Θ ((k,v)::r1) ((k,v)::r2):=.cons h.abs t
theorem qQ(l:List Int):wJ (.lst (l.map V.int)):=.lst fun v hv=>by
 obtain⟨i,_,rfl⟩:=aa8.mp hv;exact .int i
theorem Ct(l:List Bool):wJ (.lst (l.map bq)):=.lst fun v hv=>by
 obtain⟨i,_,rfl⟩:=aa8.mp hv;exact .str _
theorem HE(cj:List (Bool×Nat))(N:Nat):wJ (fz cj N):=.lst fun v hv=>by
 obtain⟨i,_,rfl⟩:=aa8.mp hv;exact .str _
theorem NW:wJ xj:=.lst fun v hv=>by
 simp only [aar,aaM,or_false] at hv
 rcases hv with rfl|rfl|rfl|rfl|rfl|rfl|rfl|rfl<;>exact .str _
theorem LF{h:aal}{μ X:List Addr}(aG:List Addr):∀(zs:List Int)(j:Nat)(xs:List aac),(∀i z,zs[i]?=some z→Θ.en (j+i)=j3 z)→VRs Θ h μ X (zs.map fun z=>V.str (j3 z)) xs→VRs Θ h aG X (uy zs.length j) xs
 |[],j,xs,_,q=>by(replace q:=q.inv;cases q);exact .nil
 |z::zs,j,xs,e,q=>by
  replace q:=q.inv;cases q with
  |cons q1 q2=>
   replace q1:=q1.inv;cases q1 with
   |str t=>
    have e0:Θ.expand [1114113+j]=j3 z:=by
     rw[fU,vq (by omega)]
     have:=e 0 z rfl
     rw[abh]
     show Θ.en j++[]=_
     rw[aaO];exact this
    rw[←e0]
    exact .cons (.sym _ _) (LF aG zs (j+1) _ (fun i z' hz=>by
     have:=e (i+1) z' hz
     rw[←this];congr 1;omega) q2)
theorem LG:∀(zs:List Int)(a:Int),(∀z∈zs,0≤z∧z<1000000)→a≤zs.foldl aaK a∧zs.foldl aaK a≤a+1000000*(zs.length:Int)
 |[],a,_=>by simp
 |z::zs,a,h=>by
  have h1:=h z aae
  have h2:=LG zs (aaK a z) fun z' hz=>h z' (aaf _ hz)
  have h3:aaK a z=a+z:=rfl
  rw[ab2,aaD]
  rw[h3] at h2 ⊢
  omega
theorem Fi(z:Int):j3 z=[10]∨j3 z=[13]∨j3 z=[13,10]:=by
 unfold j3
 split
 ·exact .inl rfl
 ·exact .inr (.inr rfl)
 ·exact .inr (.inl rfl)
theorem HF{i:Int}(h0:0≤i)(h1:i<100000000):(Z9 (toString i)).cps.toList.length≤8:=by
 obtain⟨k,rfl⟩:∃k:Nat,i=aaa k:=⟨i.toNat,by show i=((i.toNat:Nat):Int);omega⟩
 have h1:k<10^8:=by have:(k:Int)<100000000:=h1;omega
 rw[signs_ofString]
 have e:toString (aaa k)=ahc (ahr 10 k):=rfl
 rw[e,afh,aaj]
 exact(Nat.length_toDigits_le_iff (by omega) (by omega)).mpr h1
end
noncomputable def tU(zs:List Int):Th:={T:=Cf zs,en:=fun j=>j3 (zs.getD j 0)}
theorem Ud{zs:List Int}(hl:zs.length≤11)(h:∀z∈zs,0≤z∧z<1000000):ji (tU zs):=by
 have hs:=LG zs 0 h
 have lo:0≤(tU zs).T:=hs.1
 have hi:(tU zs).T<100000000:=acd hs.2 (by omega)
 refine⟨lo,hi,fun c=>?_,fun j=>Fi _⟩
 unfold Th.fG
 split
 ·simp
 ·split
  ·have:=HF lo hi;omega
  ·rcases Fi (zs.getD (c - 1114113) 0) with e|e|e<;>(show(j3 (zs.getD (c - 1114113) 0)).length≤40;rw[e];simp)
theorem NX(l:List Int)(hl:l.length≤63):∃Θ par,E5 l Θ par:=by
 have hn:=Cg l
 obtain⟨zs,z1,z2,s,t,q1,q2,⟨ht,hm⟩,F⟩:=NQ l hl (fun bs s t=>t≤bs.length∧(mZ bs s,mZ bs.reverse t)∈Lv (bO l)) fun zs hz=>NU hn zs hz
 have hF:=LD hn _ hm
 have Wy:(cU (bO l) zs []).length=2*bO l+1:=by rw[rO,z1];simp
 obtain⟨a,b,g,e1⟩:=F (decide ((tU zs).T%2=1))
 refine⟨tU zs,decide ((tU zs).T%2=1),Ud (by rcases hn with h|h<;>rw[h] at z1<;>omega) z2,rfl,?_⟩
 generalize cU (bO l) zs []=bs at*
 generalize qN (bO l) zs []=cj at*
 obtain⟨H3,e2⟩:=second (par:=decide ((tU zs).T%2=1)) (v1:=iL l) (v2:=iL (l.take 60)) (v3:=iL gO) (v4:=iL zs) (v5:=xj) (v6:=.int a) (v7:=.int b) (v8:=.int (aaa s)) (v10:=fz cj bs.length) (v11:=.str (aP (bC cj (s%bs.length)))) (h1:=bs.map bq) (h2:=(cj.map piece).map V.str) hF (rv:=bs.reverse) (t:=t) (by rw[adR];exact ht) (by rw[adR];rcases hn with h|h<;>rw[h] at Wy<;>omega) rfl
 refine⟨_,_,_,_,e1,fun m l hm' e v hv=>?_,?_,e2⟩
 ·match m,hm' with
  |0,_=>
   have e:some (bs.map bq)=some l:=e
   (first|(replace e:=(Z8 e).symm;subst e)|cases e)
   obtain⟨i,_,rfl⟩:=aa8.mp hv;exact .str _
  |1,_=>
   have e:some ((cj.map piece).map V.str)=some l:=e
   (first|(replace e:=(Z8 e).symm;subst e)|cases e)
   obtain⟨i,_,rfl⟩:=aa8.mp hv;exact .str _
  |m+2,h=>exact absurd h (by omega)
 ·have hp:nV (mZ bs s)=.lst ((mZ bs s).map bq):=by unfold nV;rw[jr]
  have ZY:LJ (tU zs) (wC zs) (.lst (uy (2*bO l+1) 0)):=fun h μ X u q=>by
   replace q:=q.inv;cases q with
   |lst ha hX hl=>
    rw[←z1]
    exact .lst ha hX (LF _ zs 0 _ (fun i z hz=>by
     show j3 (zs.getD (0+i) 0)=j3 z
     rw[abL,aaI,hz];rfl) hl)
  have ZZ:LJ (tU zs) (.int (Cf zs)) (.tot 0):=fun h μ X u q=>by
   replace q:=q.inv;cases q with
   |int t=>
    have:=VR.tot (Θ:=tU zs) (h:=h) (μ:=μ.take 2) (X:=X) 0 t
    rwa[show(tU zs).T+0=Cf zs from adU _] at this
  show Ao (tU zs) _ _
  unfold XC r6 rM
  rw[hp]
  simp only [abc,aaZ]
  exact .ind (qQ _) (.ind (qQ _) (.ind (.int _) (.ind (qQ _) (.ind (qQ _) (.ind NW (.cons ZY (.ind (.str _) (.ind (.str _) (.cons ZZ (.cons (.ref (by decide)) (.cons (.ref (by decide)) (.ind (.int _) (.ind (.int _) (.ind (.int _) (.ind (Ct _) (.ind (HE _ _) (.ind (.str _) (.ind (Ct _) (.ind (.int _) .nil)))))))))))))))))))
theorem holds_all:PySem.Challenge.rw_ta0097_01.Holds:=Hl NX
end Internal
theorem PySem.Challenge.cw_ta0097_01_holds : PySem.Challenge.rw_ta0097_01.Holds :=
  Internal.holds_all
