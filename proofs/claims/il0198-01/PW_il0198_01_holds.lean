import PyProof.Rows.All
import Wide.All
import OpenK.AllK
import Wide.FinOn
import PyProof.Rows.EqNone
import KE.KDictOf
import PyProof.StrWalks
import PyProof.AutoSeq1
import PyProof.EnumMake
import PyProof.StrCalls2
import PyProof.StrCalls6
import PyProof.FitsReplace
import PyProof.StrLawsIn
import PyProof.StrLawsNeg
import KE.KAnyBase
import KE.KEqDat
import PyProof.WalkInts
import PyProof.ListRange
import PyProof.Rows.ListMul
import PyProof.CallFns
import PyProof.TupleKey
import PyProof.EqAt
import PyProof.TupleOfSeq
import PyProof.Rows.SeqMore2
import PyProof.ListMulRoad
import Lean
import PySem.Challenge.RW_il0198_01
set_option Elab.async false
set_option compiler.extract_closed false
set_option maxHeartbeats 1000000
set_option genSizeOf false
set_option genInjectivity false
set_option bootstrap.genMatcherCode false
set_option maxRecDepth 100000
set_option linter.unusedVariables false
set_option linter.unusedSimpArgs false
set_option linter.unusedSectionVars false
namespace Mine.Internal
open PySem PySem.W PySem.Calls PyProof.Rows Builtin
open _root_.Option renaming some→EU,map_eq_some_iff→Gc,isNone_iff_eq_none→I5,getD→KU,isSome_iff_exists→Lu,map_some→NI,elim→O4
open _root_.PySem.Str renaming ofString→EW,length→KK,ofString_eq_toList→MQ
open _root_.PySem renaming wpAny_bind→EX,wpAny_pure→E0,wpAny→E4,model→Fa,builtinLookup_eq_fast→Fg,compareOp→Fu,wpAny_mono→FB,typeLookup_type→FC,World→FH,isSubtype_type→FM,wpAny_of_eq→FN,Str→FP,Params→F0,codeAny_call_builtin→F1,entryFor_of_tree→F3,foldedSetIterable→F5,attributeBase→F6,codeAny_builtin→Gb,strIterType→Gj,Around→Gk,compEnvC→Gl,wpAny_callSpecial?_slot→Gn,typeLookup→Gp,plainId_quiet→Gq,wpAny_call_entry→Gv,interactive→GC,wpAny_newObj_type→GD,isSubtype→GG,wpAny_standAt→GH,wpAny_load→GP,wpAny_seqItems→GQ,wpAny_updateSeq→GU,typeOf→GX,Expr→G0,wpAny_typeOf→G1,keywordEach→G5,binaryOp→Ha,entryFor→Hb,specialOf→Hf,starEach→Hk,wpAny_field→Hl,swappedStores→Hr,Setting→Hy,wpAny_rule→HL,pyNext→HM,argsOk→HN,importedModules→HQ,backToKw→HS,getMethod→HV,wpAny_attempt→HW,signature?_of→HX,closureFor→H9,checkBoundCall→Ia,wpAny_tryCatch→Ie,checkBuiltinCall→Ih,swapsWithSole→Iq,wpAny_specialOf→It,backTo→ID,wpAny_letGo→II,letTemporaryGo→IM,wpAny_loadPart→IN,isInstance→IU,call_meets→IV,holding→IY,codeAny→IZ,callWith→I0,table→Jf,builtinType_eq_fast→Jh,call_meetsIn→Jj,seqItems?→Jr,updateSeq→Jt,wpAny_Constant_str→Jw,pyIter→Jz,intKind_is→JA,slot_listiter_next→JD,treeTable→JL,Keyword→JN,callEnv→JP,getAttr→JQ,swapsWith→J3,Reads→J4,callEnvC→J7,standAt→Ke,wpAny_pyNext_list_item→Kf,rawInt→Kh,sysModules→Kj,letOwnedTupleGo→Ko,wpAny_loadPart'→Kr,mainGlobals→KA,wpAny_loadName_local→KG,firstArgMember→KH,wpAny_mkInt→KJ,Sem→KW,behindInMarks→KX,code→Ld,wpAny_assign_Name→Lh,wpAny_truthy_bool→Li,bindArgs→Ll,callSpecial?→Lm,assign→Ly,wpAny_items_cons→LA,wpAny_eqBool_int→LE,Result→LH,wpAny_askSetting→LI,inplaceOp→LK,stored→LM,wpAny_isInstance→LV,opaqueClassAbove→Ma,richCompare→Mf,classHasDel→Mj,field→Mk,callSpecialIfBoundUnlessNone?→Ml,builtinType→Mm,codeAny_of_tree→Mt,wpAny_ite_split→Mv,valueAt→MB,callAny→MC,assignEach→MN,evalArgs→MP,recursionLimit→MS,clipAt→MU,wpAny_Subscript_list_slice→MW,strKind_is→MX,callType_codes→MZ,wpAny_richCompare_same_or→M8,callWith_type→M9,call→Nh,Slot→Ni,checkTypeCall→No,Tok→Nv,seqIndex?→Ny,wpAny_list_append_plain→Nz,partValue→NB,slicePick→NC,onTheHeap→ND,OsState→NH,truthy→NK,setItem→NL,wpAny_lt_int→NM,wpAny_mkText→NN,meets_dict_get_default→NQ,wpAny_pyNext_list_end→N1,subscripted→Of,Meets→Og,wpAny_storeName_cell→Oj,wpAny_newFunctionEnv→Ol,wpAny_letTemporaryGo→On,keeperOf→Oo,codeAny_forLoop_any→OD,bindSpecialIfBound?→OG,entry_listiter_next→OH,wpAny_dictSet_pairs→OI,importEnds→OQ,wpAny_Name→OU,arm_eval_Attribute→OW,args_listiter_next→OY,typeIs_int→OZ,typeIs_str→O0,wpAny_forIn_array'→O1,start→O6,Scope→O7,spliced→Pa,operate→Pd,getItem→Pe,wpAny_Call_method→Pi,slot_list_setitem→Pj,newList→Pk,MeetsIn→Pl,numAt→Pr,callGetattribute→Pv,handedOut→PE,wpAny_execs_nil→PP,wpAny_items_nil→Qd,slicePick_plain→Qi,Thread→Qw,denote→Qy,compPost→QE,boundAndCalled→QK,entryFor_alias→QL,newExc→QN,isSubtype_stop→QO,truthOfDropped→QP,wpAny_newTuple→QS,wpAny_runValue→QW,ReadsAll→QY,assignInOrder→Q2,rangeSize_one→Q3,wpAny_newList→Q4,eval_ListComp→Q5,evalPart_none→Q7,wpAny_handled→Ra
open _root_.Nat renaming le_trans→EY,lt_of_lt_of_le→E1,lt_of_le_of_lt→E3,le_of_eq→E6,le_refl→Fd,ne_of_lt→Fh,add_le_add_left→Fi,le_of_ble_eq_true→Fo,lt_trans→Fq,le_add_right→Fr,le_of_lt→Fs,lt_irrefl→Fz,le_of_lt_succ→FD,succ_le_succ→FE,mul_le_mul_left→FI,zero_le→FY,not_lt→F9,lt_of_le_of_ne→Gf,add_le_add→GA,le_antisymm→GF,lt_succ_of_lt→GN,le_succ_of_le→GO,sub_add_cancel→GV,add_comm→G7,lt_succ_self→G9,pos_of_ne_zero→Hd,le_add_left→Hi,add_le_add_right→Hj,lt_add_of_pos_right→Hq,le_mul_of_pos_left→HE,add_assoc→HG,le_succ→HZ,not_lt_of_le→H6,succ_ne_zero→H7,zero_add→Iu,ne_of_gt→Iy,succ_pos→Iz,lt_succ_of_le→IE,le_of_sub_eq_zero→IK,succ_ne_self→IO,ble→IQ,add_lt_add_right→IR,min_le_left→IT,add_sub_cancel'→IX,add_right_comm→Jb,not_lt_zero→JV,lt_of_sub_ne_zero→J5,sub_le→KB,sub_lt→KC,sub_pos_of_lt→KO,le_total→KP,le_of_pred_lt→KQ,le_of_not_lt→K2,succ_lt_succ→K3,zero_lt_succ→K4,div_le_self→Lf,min_eq_left→Lg,mod_two_eq_zero_or_one→Lw,mod_lt→Mc,add_lt_add_iff_right→Ms,succ_pred_eq_of_pos→Mz,lt_asymm→MJ,lt_add_of_pos_left→ML,lt_of_succ_lt_succ→MM,le_of_succ_le_succ→M4,sub_eq_zero_of_le→M7,sub_lt_sub_left→Nw,lt_or_gt_of_ne→NZ,lt_trichotomy→Oa,min_eq_right→Oe,max_eq_right→Ou,le_max_right→Ov,min_le_right→Ox,div_add_mod→OB,strongRecOn→OJ,sub_add_eq→OS,lt_one_iff→OT,beq→Ps,lt_or_ge→PF
open _root_.List renaming length_map→EZ,getElem?_eq_getElem→E2,getElem?_eq_some_iff→E5,length_append→E7,map_append→Fe,mem_cons_of_mem→Fj,all_eq_true→Fm,mem_cons_self→Fn,mem_map→Fp,getElem?_map→Fx,getElem_mem→Fy,length_set→FA,mem_cons→FF,getD_eq_getElem?_getD→FQ,map_map→FR,length_eq_zero_iff→FS,take_succ_eq_append_getElem→FT,map_cons→FV,mem_singleton→FW,pairwise_iff_getElem→FX,replicate→FZ,mem_append→F2,range→F7,getElem_map→F8,rel_of_pairwise_cons→Ge,getElem_of_mem→Gg,append_assoc→Gh,idxOf_lt_length_of_mem→Gi,take_length→Go,getElem?_append_left→Gs,mem_append_right→Gz,mem_filter→GB,mem_append_left→GI,pairwise_append→GJ,filter_cons_of_pos→GK,length_filter_le→GR,mem_of_getElem?→GZ,forIn_cons→G2,nodup_cons→G3,idxOf_cons→G4,toList_toArray→G6,getElem?_append_right→Hc,append_nil→Hh,length_cons→Hm,filter_cons_of_neg→Ho,find?_eq_none→Hx,take_of_length_le→HC,idxOf_cons_self→HY,length_take→H4,length_take_le→H8,filter_append→Ik,getElem?_cons_succ→Im,lookup→IP,perm_append_singleton→I8,getElem?_drop→I9,drop_eq_getElem_cons→Jg,map_inj_left→Ji,idxOf_append→Jm,length_range→Jn,Pairwise→Jq,take_append_getElem→Ju,getElem_set→JI,map_set→JO,foldl_cons→JU,getElem_set_self→JX,drop_zero→Kb,map_congr_left→Kl,filter_eq_self→Kq,getElem_range→Kx,pairwise_cons→Ky,filter_filter→Kz,set_set→KM,filter_congr→KN,perm_middle→KZ,range'→K9,length→Lb,findIdx?_eq_none_iff→Lz,mem_of_find?_eq_some→LU,any_cons→Mh,drop→Mu,pairwise_singleton→Mw,getElem?_set_self→MD,pairwise_lt_range→ME,drop_of_length_le→MF,length_pos_of_mem→MG,not_of_lt_findIdx→MH,concat_eq_append→M0,length_singleton→M6,getElem?_set_ne→Nd,perm_cons_erase→Nf,map_eq_nil_iff→Nk,getElem_set_ne→Nq,replicate_succ→Nt,foldl→NG,reverse_cons→NP,pairwise_map→NV,set_set_perm→NY,length_drop→N9,range'_succ→Ob,length_nil→Oh,find?_cons→Om,erase_cons→Oy,perm_cons→OL,drop_drop→ON,cons→QD,map→Rb
open _root_.Ne renaming symm→E8
open _root_.PySem.Challenge renaming pw_il0198_01→E9,rw_il0198_01→Fk
open _root_.PySem.Txt renaming contains→Fb,replace→Io,join→Kk,slice→Q8
open _root_.Bool renaming and_eq_true→Fc,false_eq_true→FL,not_eq_true'→Ga,eq_iff_iff→Ig,false_ne_true→I6,or_eq_true→JT,not_false→Ka,or_false→Kt,not_true→Me,and_eq_true_iff→Na,false_and→OE,rec→QZ
open _root_.Int renaming natCast_nonneg→Ff,ofNat_lt→FO,toNat_natCast→FU,lt_of_le_of_lt→Gm,ofNat_le→GM,not_lt→HF,ofNat_inj→HH,le_trans→Iv,lt_trans→Iw,add_sub_cancel→Jc,lt_irrefl→Jv,le_antisymm→JZ,fdiv_eq_ediv_of_nonneg→LG,fmod_eq_emod_of_nonneg→Mb,ne_of_lt→MK,toNat_of_nonneg→NF,lt_of_lt_of_le→NJ,sub_add_cancel→NS,max_eq_right→Od,min_eq_left→OC,ofNat_sub→O8,add_comm→Pu,toNat_le→PG,le_refl→Qt,not_le→QC
open _root_.PySem.W renaming Looks→Ft,Dat→Fv,kqdOk→Gy,findIn→Il,emptyDict→IG,SharedT→IL,findCls→Jl,kqdP→JH,opening→Kc,instObj→Ki,check_slot→K6,absHeap→Le,notCls→LQ,handed_on→LT,takerIn→MA,namesBound→MI,typeIn→MT,staticsOk→Nu,specialIn→NA,laidKept→Oc,readsIn→Pm,recIn→Po,looks_specialIn→Qg,openSeen→Qz,openGood→QA,any_some→QG,lookIn→QH,cls_open→QM,fencedOpening→Q0
open _root_.PySem.F renaming plainAttrs_list→Fw,slot_list_append→Gw,type_list_append→Gx,slot_tuple_lt→G8,slot_str_getattribute→Hv,plain_min_loop→Hw,plain_extend_loop→Ij,args_tuple_lt_2→Jk,slot_list_index→Jo,entry_tuple_lt→Jy,plainAttrs_str→JG,slot_list_pop→JJ,slot_dict_get→JK,called_tuple→Kv,slot_dict_setdefault→KS,entry_min_loop→Lp,slot_list_remove→Lq,plainAttrs_dict→Ls,type_list_index→Lv,entry_dict_get→LN,type_list_pop→Mi,slot_str_find→Mn,slot_str_join→Mo,type_str_join→Mp,slot_int_rmul→Mq,kt_sub_dict→M5,slot_str_translate→NW,entry_extend_loop→N8,plain_list_iadd→OO,plainAttrs_str→O3
open _root_.PySem.Value renaming none→FG,type→GL,ref→GS,int→Jx,builtin→LR,bool→Pw
open _root_.PySem.Around renaming under_plainId→FK
open _root_.PySem.Obj renaming mapSeq→F4,data_mapFields→Jd,mapFields→JF,isFreed_of_fields→Nc,putName→Nj,cls_mapFields→N2
open _root_.Lean renaming Syntax→Gu,TSyntax→Ir,mkIdent→IW,mkNullNode→JS,MacroM→J9,Name→Mr
open _root_.PySem.Builtin.List renaming listExtendWith→GY,listSameRef→HP,listLengthHint→IJ,listTooLong→IS,listItems→I7,listUpdate→KT,listSubscript?→Qe,listTouch→Ql,listFitsIndex→Qu
open _root_.PySem.StrLaws renaming occBody→He,subAt_one→Ng
open _root_.Array renaming toArray_toList→Hg,getElem?_eq_getElem→H0,length_toList→H5,toList_inj→KV,getElem?_zip_eq_some→Ln,eraseIdxIfInBounds→LF,any→Md,getElem?_toList→Mx,mem_toList_iff→MR,ext'→Nl,forIn_toList→Np,any_toList→NO,mk→QI
open _root_.PySem.Builtin.SmallTypes renaming nextOf→Hs,newClass→N5,iterAll→N6,refuseKeywords→N7
open _root_.PySem.PyData renaming strOk→Ht,keyHash→HO
open _root_.Lean.Macro renaming throwUnsupported→Hu
open _root_.PyProof.Rows renaming slot_tupleiter_next→Hz,wpS_bind→HT,IsTupIter→Js,SortSt→JB,wpS_pure→JC,MethodCall_→JR,subscriptTail→KY,setPending→K7,ne_dataH→La,add_str→Lc,Call_Name→LB,seqObj→LW,failedOf→MY,wpS_get→NT,wpS_forRange→NU,entry_tupleiter_next→Ot,args_tupleiter_next→OF,assignInOrder_cons→OV,assignInOrder_nil→O9,pendingOf→Px,add_int→PQ,sub_int→PT,mul_int→PU,mod_int→PV,floordiv_int→PX,rshift_int→PY,lt_int→PZ,gt_int→P4,le_int→P5,ge_int→P6,eq_int→P7,ne_int→P8,neg_int→P9,eq_str→Qa,ne_str→Qb,in_str→Qc,iadd_int→Qh,slot_tuple_iter→Qj,get?_update_seq→Qk,is_bool→Qq,eq_dataH→Qs,oneType'→QQ,wpS_mono→QR,slot_tuple_len→QT,listUpdate_at→Rc
open _root_.PySem.Calls renaming callWith_builtin→HD,loadGlobal_builtin→K5,loadGlobal_global→Lj,callWith_function→Pf
open _root_.PySem.MeetsSeq renaming plain_remove_loop→HJ,entry_remove_loop→K1
open _root_.PySem.W.Fast renaming tw4202317264376624991→HU,te4202317264376624991→PH,tw14364793385576792824→PI,tw13482112738370960269→PK,te14364793385576792824→PL,te13482112738370960269→PM,ofString_ofList→PO
open _root_.ForInStep renaming yield→H3
open _root_.List.Nodup renaming length_le_of_subset→Ip,sublist→Rd
open _root_.Eq renaming symm→I4,refl→LZ,mp→Ow
open _root_.Prod.mk renaming injEq→Ja,inj→OA
open _root_.PySem.IntMulOk renaming of_left→Je
open _root_.List.cons renaming injEq→Jp
open _root_.PySem.Builtin.Deque renaming items→JE,change→K8,ty→LY,newArgs→Py,new→Pz,clear→PA,size→PB,pushRight→PC,maxlen→PD
open _root_.PySem.Manifest renaming signature?→JY,owners→Nn
open _root_.PySem.Builtin.Builtins renaming bindParams→J6
open _root_.String renaming ofList→Kd
open _root_.Min renaming min→Km
open _root_.PySem.Builtin.Tuple renaming tupleItemsOf→Ku,tupleExact→KL
open _root_.Char renaming toNat→Kw
open _root_.PySem.Builtin renaming divisionGoesByPylong→KR
open _root_.PySem.Bind renaming checkArgs→Lr,madeBy→Nb,madeHere→OX
open _root_.Option.some renaming inj→My
open _root_.List.Perm renaming cons→Nr
open _root_.Nat.succ renaming inj→N0
open _root_.PySem.Builtin.Frozenset renaming oneOther→Op,addrOf→Oq,withSetAsKey→Os
open _root_.PySem.W.WTm renaming holds→Oz
open _root_.PySem.MeetsSeq.EqGives renaming int→OP
open _root_.PySem.SeqAt renaming shaped→O5
open _root_.PySem.W.Frag renaming In→Pp
open _root_.PySem.AutoSeq1 renaming list_extend_list_list_0→Pq
open _root_.Max renaming max→Pt
open _root_.PySem.EqNone renaming eq_str_none→Qm,eq_none_none→Qn
open _root_.PySem.Builtin.Dict renaming selfAndRest→Qo,addKeywords→Qp
open _root_.List.Sublist renaming map→Qr
open _root_.PySem.Builtin.Str renaming strSliceIndices→QJ,occurrences→QX
open _root_.And renaming intro→Q6
open _root_.PySem.Fin renaming again→Q9
noncomputable def v6 (as:Array Nat) (p:Nat->Bool) (i:Nat) (j:Nat):Bool:=if i=0∧j=as.size then as.toList.any p else Md as p i j
theorem yR: @Md Nat=v6:=by
 funext as p i j;unfold v6;split
 ·rename_i h;obtain ⟨rfl,rfl⟩:=h;simp
 ·rfl
noncomputable def Box (_:Builtin):Type:=Unit
noncomputable def CM {b:Builtin} (_:Box b):Builtin:=b
noncomputable def A0 (g:Array Nat->(Nat->Bool)->Nat->Nat->Bool) (h: @Md Nat=g):Builtin:=by
 have x:Box HU:=()
 delta HU at x
 exact CM (h▸x)
theorem yQ (g:Array Nat->(Nat->Bool)->Nat->Nat->Bool) (h: @Md Nat=g):HU=A0 g h:=by
 subst h;rfl
noncomputable def s8:Builtin:=A0 v6 yR
noncomputable def dF (id:String):Option Builtin:= @QZ (λ_=>Option Builtin) (JL id) (EU s8) (Ps (Ld id) (Ld "type.__new__"))
theorem vU:JL "type.__new__" =EU Builtin.«type.__new__»:=by kernel_rfl
theorem yc:Builtin.«type.__new__»=s8:=PH.trans (yQ ..)
theorem i0:JL=dF:=by
 funext id;unfold dF
 cases h:Ps (Ld id) (Ld "type.__new__") with
 |false=>rfl
 |true=>
  have:id="type.__new__" :=PySem.code_inj _ _ (Nat.eq_of_beq_eq_true h);subst this;show _=EU s8;rw[vU,yc]
section
section
variable (tb:String->Option Builtin) (p:Program) (w:FH) (n₀:Nat) (ann:Option Value)
noncomputable def qM:Nat->IL->Qw->Option IL
 |0,_,_=>none
 |n+1,s,t=>match through t with
  |true=>EU s
  |false=>match stepOk n₀ ann t with
   |false=>none
   |true=>match stepT (Qy tb) p w s t with
    |some (s',t')=>qM n s' t'
    |none=>none
variable {tb p w n₀ ann}
theorem sj:∀{n:Nat} {s s':IL} {t:Qw},qM tb p w n₀ ann n s t=EU s'->topRun tb p w n₀ ann n s.abs t=EU s'.abs
 |0,_,_,_,h=>by cases h
 |n+1,s,s',t,h=>by
  unfold qM at h;unfold topRun
  cases he:through t with
  |true=>rw[he] at h;cases h;rfl
  |false=>
   rw[he] at h
   cases hk:stepOk n₀ ann t with
   |false=>rw[hk] at h;cases h
   |true=>
    rw[hk] at h
    cases hs:stepT (Qy tb) p w s t with
    |none=>rw[hs] at h;cases h
    |some r=>obtain ⟨s₂,t₂⟩:=r;rw[hs] at h;rw[stepT_spec hs];exact sj h
end
noncomputable def kO:List Obj->BT->Nat->Option BT
 | [],T,_=>EU T
 |o::l,T,n=>match ((T.ins n o).get n).isSome with
  |true=>kO l (T.ins n o) (n+1)
  |false=>none
theorem qA {life:Life}:∀{l:List Obj} {T T':BT} {n:Nat} {os:Array Obj},kO l T n=EU T'->Le T n life=⟨os,life⟩->Le T' (n+l.length) life=⟨os++l.toArray,life⟩
 | [],T,T',n,os,h,e=>by
  cases h;simpa using e
 |o::l,T,T',n,os,h,e=>by
  unfold kO at h
  cases g:((T.ins n o).get n).isSome with
  |false=>rw[g] at h;cases h
  |true=>
   rw[g] at h
   have e2:Le (T.ins n o) (n+1) life=⟨os.push o,life⟩:=by
    rw[absHeap_ins g,e];rfl
   have:=qA h e2;rw[show n+(o::l).length=n+1+l.length by simp;omega,this];congr 1;simp
noncomputable def gb (tb:String->Option Builtin) (p:Program) (w:FH):Nat->IL->Qw->Option IL
 |0,_,_=>none
 |n+1,s,t=>match t.atExitBegin with
  |some []=>EU s
  |some (_::_)=>none
  |none=>match stepT (Qy tb) p w s t with
   |some (s',t')=>gb tb p w n s' t'
   |none=>none
theorem jQ {tb:String->Option Builtin} {p:Program} {w:FH}:∀{n:Nat} {s s':IL} {t:Qw},gb tb p w n s t=EU s'->OQ tb p w n s.abs t=EU s'.abs
 |0,_,_,_,h=>by cases h
 |n+1,s,s',t,h=>by
  unfold gb at h;unfold OQ
  cases he:t.atExitBegin with
  |some l=>
   rw[he] at h
   cases l with
   |nil=>cases h;rfl
   |cons=>cases h
  |none=>
   rw[he] at h
   cases hs:stepT (Qy tb) p w s t with
   |none=>rw[hs] at h;cases h
   |some r=>obtain ⟨s₂,t₂⟩:=r;rw[hs] at h;rw[stepT_spec hs];exact jQ h
noncomputable def oJ (tb:String->Option Builtin) (p:Program) (w:FH) (N:Nat):Option Shared:=
 match gb tb (Kc p) w N ⟨.nil,0,{}, #[],{},1,(O6 (Kc p)).1.os⟩ (O6 (Kc p)).2 with
 |none=>none
 |some S=>fenceModules? p S.abs
theorem wE {tb:String->Option Builtin} {p:Program} {w:FH} {N:Nat} {s:Shared} (h:oJ tb p w N=EU s):Q0 tb p w N=EU s:=by
 unfold oJ at h;unfold Q0
 cases e:gb tb (Kc p) w N ⟨.nil,0,{}, #[],{},1,(O6 (Kc p)).1.os⟩ (O6 (Kc p)).2 with
 |none=>rw[e] at h;cases h
 |some S=>
  rw[e] at h;have z:=jQ e;have y:OQ tb (Kc p) w N (O6 (Kc p)).1 (O6 (Kc p)).2=EU S.abs:=z;rw[y];exact h
noncomputable def lN (tb:String->Option Builtin) (p:Program) (w:FH) (N:Nat):Option (Shared×IL):=
 match oJ tb p w N with
 |none=>none
 |some s₀=>match kO s₀.heap.objs.toList .nil 0 with
  |none=>none
  |some T=>match qM tb p w s₀.heap.objs.size (s₀.heap.nsMap KA "__annotations__") N ⟨T,s₀.heap.objs.size,s₀.heap.life,s₀.gens,s₀.drawn,s₀.toks,s₀.os⟩ (topStub p) with
   |none=>none
   |some S=>EU (s₀,S)
theorem LeftO.of_whole {p q:Program} {loose:List Str} {Xt:Shared->Bool} {α:Type} {Yf:Shared->α} {Ya:FH->α} {N:Nat} {g0:Bool}
 (h:∀w:FH,(lN dF p w N).map (λx=>((x.1.heap.isNs KA&&x.1.gens.size==0),
  (Nu (HQ p.main.body) x.1.heap x.2.abs.heap&&MI p x.2.abs.heap&&gensDone x.2.abs&&Oc x.1.heap x.2.abs.heap),
  Qz q loose (HQ p.main.body) Xt g0 x.2.abs,Yf x.2.abs))=EU (true,true,QA q loose,Ya w)):LeftO p q loose Xt Yf Ya N g0:=λw=>by
 obtain ⟨⟨s₀,S⟩,e,e'⟩:=Gc.mp (h w);obtain ⟨l1,l2,l3,l4⟩:_∧_∧_∧_:=by simpa only[Ja] using e'
 unfold lN at e;unfold openEnds;rw[i0]
 cases f:oJ dF p w N with
 |none=>rw[f] at e;cases e
 |some s=>
  rw[f] at e;rw[wE f];dsimp only at e
  cases t:kO s.heap.objs.toList .nil 0 with
  |none=>rw[t] at e;cases e
  |some T=>
   rw[t] at e;dsimp only at e
   cases r:qM dF p w s.heap.objs.size (s.heap.nsMap KA "__annotations__") N ⟨T,s.heap.objs.size,s.heap.life,s.gens,s.drawn,s.toks,s.os⟩ (topStub p) with
   |none=>rw[r] at e;cases e
   |some S'=>
    rw[r] at e;cases e;have r':=sj r
    have ha:(⟨T,s₀.heap.objs.size,s₀.heap.life,s₀.gens,s₀.drawn,s₀.toks,s₀.os⟩:IL).abs=s₀:=by
     have z:=qA (life:=s₀.heap.life) t (os:= #[]) rfl;obtain ⟨⟨os,life⟩,gs,d,k,o⟩:=s₀;show Shared.mk (Le T os.size life) gs d k o=_;simp only[Iu,H5] at z;rw[z];simp
    rw[ha] at r'
    have t:topFrom dF p w N s₀=EU S.abs:=by
     unfold topFrom;rw[l1,r'];show (match Nu (HQ p.main.body) s₀.heap S.abs.heap&&MI p S.abs.heap&&gensDone S.abs&&Oc s₀.heap S.abs.heap with|true=>_|false=>_)=_;rw[l2]
    show (Option.bind (EU s₀) (topFrom dF p w N)).map _=_;rw[Option.bind_some,t];exact congrArg EU (Prod.ext l3 l4)
end
set_option maxHeartbeats 0
noncomputable def l8:Pos:=⟨0,0,0,0⟩
noncomputable def top (i:Nat):Stmt:=(E9.main.body[i]?).getD (.Pass l8)
noncomputable def yn:Stmt->List Stmt
 | .ClassDef _ _ _ b _ _ _ _ _ _ _=>b
 |_=>[]
noncomputable def u9:Stmt->Arguments
 | .FunctionDef _ a _ _ _ _ _ _ _ _=>a
 |_=>⟨[],[],none,[],[],none,[]⟩
noncomputable def cu:Stmt->List Stmt
 | .FunctionDef _ _ b _ _ _ _ _ _ _=>b
 |_=>[]
noncomputable def cg:Stmt->O7
 | .FunctionDef _ _ _ _ _ _ s _ _ _=>s
 |_=>{kind:= .function,names:=[],isGenerator:=false,isCoroutine:=false,more:=[]}
noncomputable def aH (i j:Nat):Stmt:=((yn (top i))[j]?).getD (.Pass l8)
noncomputable def dD (st:Stmt) (name qual:Str) (dflt doc pm:Value) (an:Option Addr) (code:Value):FuncData:=
 {name,qualname:=qual,params:=u9 st,body:= .stmts (cu st),scope:=cg st,globals:=3,closure:=[],defaults:=dflt,kwdefaults:= .none,doc,pyModule:=pm,annotations:=an,code,closureTuple:= .none,builtins:=0}
noncomputable def mkF (st:Stmt) (name qual:Str) (dflt doc pm:Value) (an:Option Addr) (code:Value):Obj:=
 {cls:= .type "function",data:= .func (dD st name qual dflt doc pm an code)}
noncomputable def ent (P:F0) (k:Str) (t:Nv) (v:Value):DictEntry:=⟨HO P k,.str k t,v⟩
noncomputable def fC:List Addr:=[100,107,152,178,185,192,199,214,221,259,271,278,936,974]
noncomputable def tV:Value->Bool
 | .str k _=>k==("__doc__" :Str)
 |_=>false
noncomputable def erL:List DictEntry->List DictEntry
 | []=>[]
 |e::l=>match tV e.key with
  |true=>{e with val:= .none}::l
  |false=>e::erL l
noncomputable def erase:Obj->Obj
 |⟨c,d,.func f,s⟩=>⟨c,d,.func {f with doc:= .none},s⟩
 |⟨c,d,.dict es n,s⟩=>⟨c,d,.dict (erL es.toList).toArray n,s⟩
 |o=>o
noncomputable def fV (a:Addr) (o:Obj):Obj:=match fC.contains a with
 |true=>erase o
 |false=>o
noncomputable def mx (v:Value):List DictEntry->List DictEntry
 | []=>[]
 |e::l=>match tV e.key with
  |true=>{e with val:=v}::l
  |false=>e::mx v l
noncomputable def put (v:Value):Obj->Obj
 |⟨c,d,.func f,s⟩=>⟨c,d,.func {f with doc:=v},s⟩
 |⟨c,d,.dict es n,s⟩=>⟨c,d,.dict (mx v es.toList).toArray n,s⟩
 |o=>o
noncomputable def dZ (a:Addr) (v:Value) (o:Obj):Obj:=match fC.contains a with
 |true=>put v o
 |false=>o
theorem qh:∀l:List DictEntry,∃v,l=mx v (erL l)
 | []=>⟨.none,rfl⟩
 |e::l=>by
  cases h:tV e.key with
  |true=>exact ⟨e.val,by simp only[erL,h,mx]⟩
  |false=>
   obtain ⟨v,hv⟩:=qh l;exact ⟨v,by simp only[erL,h,mx];rw[←hv]⟩
theorem vd (o:Obj):∃v,o=put v (erase o):=by
 obtain ⟨c,d,dt,s⟩:=o
 cases dt with
 |func f=>exact ⟨f.doc,rfl⟩
 |dict es n=>
  obtain ⟨v,hv⟩:=qh es.toList;refine ⟨v,?_⟩;show _=Obj.mk c d (.dict (mx v (erL es.toList).toArray.toList).toArray n) s;rw[G6,←hv,Hg]
 |_=>exact ⟨.none,rfl⟩
theorem wo (a:Addr) (o:Obj):∃v,o=dZ a v (fV a o):=by
 unfold dZ fV
 cases fC.contains a with
 |true=>exact vd o
 |false=>exact ⟨.none,rfl⟩
theorem tL {a:Addr} {o:Obj} (h:(fV a o).isFreed=false):o.isFreed=false:=by
 unfold fV at h
 cases hc:fC.contains a with
 |true=>
  rw[hc] at h;obtain ⟨c,d,dt,s⟩:=o;cases dt<;>first|rfl|cases h
 |false=>rw[hc] at h;exact h
noncomputable def K (P:F0):List (Addr×Obj):=[
 (0,boot_o_0 P),
 (1,{cls:=(.type "dict"),dict:=none,data:= .dict [ent P "builtins" 162 (.ref 4),ent P "__main__" 163 (.ref 5),ent P "_collections" 246 (.ref 13)].toArray 3,slots:=[].toArray}),
 (2,{cls:= .none,dict:=none,data:= .dict [ent P "\x69mport.loaded._collections" 185 (.bool true),ent P "class._frozen_importlib.BuiltinImporter" 187 (.ref 15),ent P "watched.\x69mport" 208 (.ref 19),ent P "class._frozen_importlib.ModuleSpec" 218 (.ref 23),ent P "sys.modules.booked-epoch" 247 (.int 3 0),ent P "sys.modules.landed._collections" 248 (.bool true),ent P "\x69mport.later-laid._collections" 263 (.bool true),ent P "watched.library" 265 (.ref 28),ent P "watched.library-objects" 0 (.str "\x0d" 0),ent P "watched.library-deep._collections" 266 (.str "\x04\x00\x00\x0c\x04\x00\x00\x0c\x04\x00\x00\x03\x04\x00\x00\x0c\x08\x04dict\x02" 0),ent P "type.__subclasses__.OSError.0" 749 (.int 316 0),ent P "type.__subclasses__.OSError.n" 750 (.int 1 0)].toArray 12,slots:=[].toArray}),
 (3,{cls:=(.type "dict"),dict:=none,data:= .dict [ent P "__name__" 165 (.str "law_il0198_01" 1575),ent P "__doc__" 166 .none,ent P "__package__" 167 .none,ent P "__loader__" 168 (.builtin "__main__.__loader__#opaque"),ent P "__spec__" 169 .none,ent P "__annotations__" 170 (.ref 6),ent P "__builtins__" 171 (.ref 4),ent P "__file__" 173 (.str "/claim/cut.py" 172),ent P "__cached__" 174 .none,ent P "deque" 272 (.type "collections.deque"),ent P "_wall" 285 (.ref 39),ent P "_tuplegetter" 344 (.ref 78),ent P "Match" 472 (.ref 153),ent P "_calculate_ratio" 480 (.ref 163),ent P "SequenceMatcher" 666 (.ref 260),ent P "heappush" 677 (.ref 271),ent P "heappop" 687 (.ref 278),ent P "_siftdown" 699 (.ref 285),ent P "_siftup" 712 (.ref 292),ent P "_whence" 722 (.ref 299),ent P "_index" 730 (.ref 306),ent P "UnsupportedOperation" 752 (.ref 316),ent P "IOBase" 784 (.ref 336),ent P "BufferedIOBase" 802 (.ref 351),ent P "TextIOBase" 820 (.ref 363),ent P "BytesIO" 1082 (.ref 593),ent P "StringIO" 1369 (.ref 840),ent P "_kind" 1380 (.ref 849),ent P "_fspath" 1389 (.ref 856),ent P "_check_arg_types" 1399 (.ref 863),ent P "isabs" 1406 (.ref 870),ent P "join" 1417 (.ref 877),ent P "dirname" 1427 (.ref 884),ent P "shlex" 1574 (.ref 975),ent P "_law_dressed" 1582 (.ref 984),ent P "_law_line" 1594 (.ref 991),ent P "_law_read" 1604 (.ref 998),ent P "_law_parted" 1614 (.ref 1005),ent P "law" 1620 (.ref 1010)].toArray 39,slots:=[].toArray}),
 (4,{cls:=(.type "module"),dict:=(EU 0),data:= .plain,slots:=[].toArray}),
 (100,mkF (aH 4 4) "__new__" "Match.__new__" .none .none (.str "cpy313.difflib" 286) none (.ref 99)),
 (107,mkF (aH 4 5) "_make" "Match._make" .none .none (.str "cpy313.difflib" 286) (EU 110) (.ref 106)),
 (109,{cls:=(.type "classmethod"),dict:=(EU 108),data:= .fields [(.ref 107),(.bool false)].toArray,slots:=[].toArray}),
 (152,{cls:=(.type "dict"),dict:=none,data:= .dict [ent P "__module__" 352 (.str "cpy313.difflib" 286),ent P "__firstlineno__" 356 (.int 24 355),ent P "__doc__" 358 .none,ent P "__slots__" 360 (.ref 91),ent P "_fields" 364 (.ref 92),ent P "_field_defaults" 365 (.ref 93),ent P "__new__" 376 (.ref 154),ent P "_make" 398 (.ref 109),ent P "_replace" 409 (.ref 118),ent P "__replace__" 410 (.ref 118),ent P "__repr__" 418 (.ref 125),ent P "_asdict" 425 (.ref 132),ent P "__getnewargs__" 433 (.ref 139),ent P "__match_args__" 437 (.ref 140),ent P "a" 447 (.ref 142),ent P "b" 457 (.ref 145),ent P "size" 467 (.ref 148),ent P "__static_attributes__" 468 (.ref 150)].toArray 2,slots:=[].toArray}),
 (153,{cls:=(.type "type"),dict:=none,data:= .cls {name:="Match",bases:=[(.type "tuple")],mro:=[(.ref 153),(.type "tuple"),(.type "object")],ns:=152,qualname:="Match",hasDict:=false,slotNames:=[],subclasses:=[],abstract:=false,collection:=none,hasDel:=false},slots:=[(EU (.ref 83)),none,(EU (.str "Match" 345)),(EU (.str "Match" 353)),(EU .none),(EU (.bool false))].toArray}),
 (154,{cls:=(.type "staticmethod"),dict:=none,data:= .fields [(.ref 100)].toArray,slots:=[].toArray}),
 (171,{cls:=(.type "tuple"),dict:=none,data:= .seq [.none,(.str "" 496),(.str "" 497),(.bool true)].toArray 0,slots:=[].toArray}),
 (178,mkF (aH 6 1) "__init__" "SequenceMatcher.__init__" (.ref 171) .none (.str "cpy313.difflib" 286) none (.ref 177)),
 (185,mkF (aH 6 2) "set_seqs" "SequenceMatcher.set_seqs" .none .none (.str "cpy313.difflib" 286) none (.ref 184)),
 (192,mkF (aH 6 3) "set_seq1" "SequenceMatcher.set_seq1" .none .none (.str "cpy313.difflib" 286) none (.ref 191)),
 (199,mkF (aH 6 4) "set_seq2" "SequenceMatcher.set_seq2" .none .none (.str "cpy313.difflib" 286) none (.ref 198)),
 (206,mkF (aH 6 5) "__chain_b" "SequenceMatcher.__chain_b" .none .none (.str "cpy313.difflib" 286) none (.ref 205)),
 (207,{cls:=(.type "tuple"),dict:=none,data:= .seq [(.int 0 556),.none,(.int 0 557),.none].toArray 0,slots:=[].toArray}),
 (214,mkF (aH 6 6) "find_longest_match" "SequenceMatcher.find_longest_match" (.ref 207) .none (.str "cpy313.difflib" 286) none (.ref 213)),
 (221,mkF (aH 6 7) "get_matching_blocks" "SequenceMatcher.get_matching_blocks" .none .none (.str "cpy313.difflib" 286) none (.ref 220)),
 (259,{cls:=(.type "dict"),dict:=none,data:= .dict [ent P "__module__" 488 (.str "cpy313.difflib" 286),ent P "__firstlineno__" 492 (.int 71 491),ent P "__doc__" 494 .none,ent P "__init__" 509 (.ref 178),ent P "set_seqs" 519 (.ref 185),ent P "set_seq1" 528 (.ref 192),ent P "set_seq2" 537 (.ref 199),ent P "_SequenceMatcher__chain_b" 555 (.ref 206),ent P "find_longest_match" 583 (.ref 214),ent P "get_matching_blocks" 610 (.ref 221),ent P "get_opcodes" 617 (.ref 228),ent P "get_grouped_opcodes" 626 (.ref 236),ent P "ratio" 635 (.ref 243),ent P "quick_ratio" 642 (.ref 250),ent P "real_quick_ratio" 649 (.ref 257),ent P "__static_attributes__" 660 (.ref 258),ent P "__dict__" 662 (.ref 261),ent P "__weakref__" 664 (.ref 262)].toArray 3,slots:=[].toArray}),
 (260,{cls:=(.type "type"),dict:=none,data:= .cls {name:="SequenceMatcher",bases:=[(.type "object")],mro:=[(.ref 260),(.type "object")],ns:=259,qualname:="SequenceMatcher",hasDict:=true,slotNames:=[],subclasses:=[],abstract:=false,collection:=none,hasDel:=false},slots:=[none,none,(EU (.str "SequenceMatcher" 481)),(EU (.str "SequenceMatcher" 489)),(EU (.builtin "object.__new__")),(EU (.bool true))].toArray}),
 (271,mkF (top 8) "heappush" "heappush" .none .none (.str "cpy313.heapq" 667) none (.ref 270)),
 (278,mkF (top 9) "heappop" "heappop" .none .none (.str "cpy313.heapq" 667) none (.ref 277)),
 (285,mkF (top 10) "_siftdown" "_siftdown" .none .none (.str "cpy313.heapq" 667) none (.ref 284)),
 (292,mkF (top 11) "_siftup" "_siftup" .none .none (.str "cpy313.heapq" 667) none (.ref 291)),
 (306,mkF (top 14) "_index" "_index" .none .none (.str "io" 713) none (.ref 305)),
 (333,mkF (aH 16 1) "__new__" "IOBase.__new__" .none .none (.str "io" 713) none (.ref 332)),
 (335,{cls:=(.type "dict"),dict:=none,data:= .dict [ent P "__module__" 760 (.str "io" 765),ent P "__firstlineno__" 764 (.int 473 763),ent P "__new__" 775 (.ref 337),ent P "__static_attributes__" 776 (.ref 334),ent P "__dict__" 779 (.ref 338),ent P "__weakref__" 781 (.ref 339),ent P "__doc__" 782 .none].toArray 4,slots:=[].toArray}),
 (336,{cls:=(.type "type"),dict:=none,data:= .cls {name:="IOBase",bases:=[(.type "object")],mro:=[(.ref 336),(.type "object")],ns:=335,qualname:="IOBase",hasDict:=true,slotNames:=[],subclasses:=[(.ref 351),(.ref 363)],abstract:=false,collection:=none,hasDel:=false},slots:=[none,none,(EU (.str "IOBase" 753)),(EU (.str "IOBase" 761)),(EU .none),(EU (.bool true))].toArray}),
 (337,{cls:=(.type "staticmethod"),dict:=none,data:= .fields [(.ref 333)].toArray,slots:=[].toArray}),
 (362,{cls:=(.type "dict"),dict:=none,data:= .dict [ent P "__module__" 810 (.str "io" 815),ent P "__firstlineno__" 814 (.int 482 813),ent P "__static_attributes__" 817 (.ref 361),ent P "__doc__" 818 .none].toArray 2,slots:=[].toArray}),
 (363,{cls:=(.type "type"),dict:=none,data:= .cls {name:="TextIOBase",bases:=[(.ref 336)],mro:=[(.ref 363),(.ref 336),(.type "object")],ns:=362,qualname:="TextIOBase",hasDict:=true,slotNames:=[],subclasses:=[(.ref 840)],abstract:=false,collection:=none,hasDel:=false},slots:=[(EU (.ref 354)),none,(EU (.str "TextIOBase" 803)),(EU (.str "TextIOBase" 811)),(EU .none),(EU (.bool true))].toArray}),
 (592,{cls:=(.type "dict"),dict:=none,data:= .dict [ent P "__module__" 828 (.str "_io" 833),ent P "__firstlineno__" 832 (.int 484 831),ent P "__init__" 842 (.ref 380),ent P "_BytesIO__check" 849 (.ref 387),ent P "_BytesIO__line" 860 (.ref 394),ent P "closed" 868 (.ref 402),ent P "close" 875 (.ref 409),ent P "__enter__" 882 (.ref 416),ent P "__exit__" 890 (.ref 423),ent P "readable" 897 (.ref 430),ent P "writable" 904 (.ref 437),ent P "seekable" 911 (.ref 444),ent P "isatty" 918 (.ref 451),ent P "flush" 925 (.ref 458),ent P "fileno" 932 (.ref 465),ent P "detach" 939 (.ref 472),ent P "getvalue" 946 (.ref 479),ent P "getbuffer" 953 (.ref 486),ent P "tell" 960 (.ref 493),ent P "seek" 970 (.ref 501),ent P "truncate" 978 (.ref 509),ent P "read" 990 (.ref 517),ent P "read1" 1000 (.ref 525),ent P "readinto" 1010 (.ref 532),ent P "readinto1" 1018 (.ref 539),ent P "readline" 1028 (.ref 547),ent P "readlines" 1036 (.ref 555),ent P "__iter__" 1043 (.ref 562),ent P "__next__" 1051 (.ref 569),ent P "write" 1061 (.ref 576),ent P "writelines" 1069 (.ref 583),ent P "__repr__" 1076 (.ref 590),ent P "__static_attributes__" 1079 (.ref 591),ent P "__doc__" 1080 .none].toArray 2,slots:=[].toArray}),
 (593,{cls:=(.type "type"),dict:=none,data:= .cls {name:="BytesIO",bases:=[(.ref 351)],mro:=[(.ref 593),(.ref 351),(.ref 336),(.type "object")],ns:=592,qualname:="BytesIO",hasDict:=true,slotNames:=[],subclasses:=[],abstract:=false,collection:=none,hasDel:=false},slots:=[(EU (.ref 366)),none,(EU (.str "BytesIO" 821)),(EU (.str "BytesIO" 829)),(EU .none),(EU (.bool true))].toArray}),
 (603,{cls:=(.type "tuple"),dict:=none,data:= .seq [(.str "" 1097),(.str "\n" 1098)].toArray 0,slots:=[].toArray}),
 (610,mkF (aH 20 1) "__init__" "StringIO.__init__" (.ref 603) .none (.str "io" 713) none (.ref 609)),
 (617,mkF (aH 20 2) "__translated" "StringIO.__translated" .none .none (.str "io" 713) none (.ref 616)),
 (624,mkF (aH 20 3) "__check" "StringIO.__check" .none .none (.str "io" 713) none (.ref 623)),
 (638,mkF (aH 20 5) "__line" "StringIO.__line" .none .none (.str "io" 713) none (.ref 637)),
 (646,{cls:=(.type "property"),dict:=none,data:= .fields [(.ref 645),.none,.none,.none,(.str "closed" 1153),(.bool false)].toArray,slots:=[].toArray}),
 (654,{cls:=(.type "property"),dict:=none,data:= .fields [(.ref 653),.none,.none,.none,(.str "line_buffering" 1161),(.bool false)].toArray,slots:=[].toArray}),
 (662,{cls:=(.type "property"),dict:=none,data:= .fields [(.ref 661),.none,.none,.none,(.str "newlines" 1169),(.bool false)].toArray,slots:=[].toArray}),
 (670,{cls:=(.type "property"),dict:=none,data:= .fields [(.ref 669),.none,.none,.none,(.str "encoding" 1177),(.bool false)].toArray,slots:=[].toArray}),
 (678,{cls:=(.type "property"),dict:=none,data:= .fields [(.ref 677),.none,.none,.none,(.str "errors" 1185),(.bool false)].toArray,slots:=[].toArray}),
 (779,{cls:=(.type "tuple"),dict:=none,data:= .seq [(.int (-1) 1290)].toArray 0,slots:=[].toArray}),
 (786,mkF (aH 20 25) "read" "StringIO.read" (.ref 779) .none (.str "io" 713) none (.ref 785)),
 (787,{cls:=(.type "tuple"),dict:=none,data:= .seq [(.int (-1) 1302)].toArray 0,slots:=[].toArray}),
 (794,mkF (aH 20 26) "readline" "StringIO.readline" (.ref 787) .none (.str "io" 713) none (.ref 793)),
 (839,{cls:=(.type "dict"),dict:=none,data:= .dict [ent P "__module__" 1090 (.str "_io" 1095),ent P "__firstlineno__" 1094 (.int 654 1093),ent P "__init__" 1107 (.ref 610),ent P "_StringIO__translated" 1116 (.ref 617),ent P "_StringIO__check" 1123 (.ref 624),ent P "_StringIO__check_dot" 1130 (.ref 631),ent P "_StringIO__line" 1145 (.ref 638),ent P "closed" 1153 (.ref 646),ent P "line_buffering" 1161 (.ref 654),ent P "newlines" 1169 (.ref 662),ent P "encoding" 1177 (.ref 670),ent P "errors" 1185 (.ref 678),ent P "close" 1192 (.ref 685),ent P "__enter__" 1199 (.ref 692),ent P "__exit__" 1207 (.ref 699),ent P "readable" 1214 (.ref 706),ent P "writable" 1221 (.ref 713),ent P "seekable" 1228 (.ref 720),ent P "isatty" 1235 (.ref 727),ent P "flush" 1242 (.ref 734),ent P "fileno" 1249 (.ref 741),ent P "detach" 1256 (.ref 748),ent P "getvalue" 1263 (.ref 755),ent P "tell" 1270 (.ref 762),ent P "seek" 1280 (.ref 770),ent P "truncate" 1288 (.ref 778),ent P "read" 1300 (.ref 786),ent P "readline" 1310 (.ref 794),ent P "readlines" 1320 (.ref 802),ent P "__iter__" 1327 (.ref 809),ent P "__next__" 1335 (.ref 816),ent P "write" 1347 (.ref 823),ent P "writelines" 1355 (.ref 830),ent P "__repr__" 1362 (.ref 837),ent P "__static_attributes__" 1366 (.ref 838),ent P "__doc__" 1367 .none].toArray 2,slots:=[].toArray}),
 (840,{cls:=(.type "type"),dict:=none,data:= .cls {name:="StringIO",bases:=[(.ref 363)],mro:=[(.ref 840),(.ref 363),(.ref 336),(.type "object")],ns:=839,qualname:="StringIO",hasDict:=true,slotNames:=[],subclasses:=[],abstract:=false,collection:=none,hasDel:=false},slots:=[(EU (.ref 596)),none,(EU (.str "StringIO" 1083)),(EU (.str "StringIO" 1091)),(EU .none),(EU (.bool true))].toArray}),
 (892,{cls:=(.type "tuple"),dict:=none,data:= .seq [.none,.none,(.bool false),(.bool false)].toArray 0,slots:=[].toArray}),
 (899,mkF (aH 29 1) "__init__" "shlex.__init__" (.ref 892) .none (.str "cpy313.shlex" 1428) none (.ref 898)),
 (906,mkF (aH 29 2) "punctuation_chars" "shlex.punctuation_chars" .none .none (.str "cpy313.shlex" 1428) none (.ref 905)),
 (907,{cls:=(.type "property"),dict:=none,data:= .fields [(.ref 906),.none,.none,.none,(.str "punctuation_chars" 1464),(.bool false)].toArray,slots:=[].toArray}),
 (936,mkF (aH 29 6) "get_token" "shlex.get_token" .none .none (.str "cpy313.shlex" 1428) none (.ref 935)),
 (943,mkF (aH 29 7) "read_token" "shlex.read_token" .none .none (.str "cpy313.shlex" 1428) none (.ref 942)),
 (974,{cls:=(.type "dict"),dict:=none,data:= .dict [ent P "__module__" 1437 (.str "cpy313.shlex" 1428),ent P "__firstlineno__" 1441 (.int 923 1440),ent P "__doc__" 1443 .none,ent P "__init__" 1456 (.ref 899),ent P "punctuation_chars" 1464 (.ref 907),ent P "push_token" 1472 (.ref 914),ent P "push_source" 1482 (.ref 922),ent P "pop_source" 1490 (.ref 929),ent P "get_token" 1503 (.ref 936),ent P "read_token" 1514 (.ref 943),ent P "sourcehook" 1523 (.ref 950),ent P "error_leader" 1532 (.ref 958),ent P "__iter__" 1539 (.ref 965),ent P "__next__" 1547 (.ref 972),ent P "__static_attributes__" 1568 (.ref 973),ent P "__dict__" 1570 (.ref 976),ent P "__weakref__" 1572 (.ref 977)].toArray 3,slots:=[].toArray}),
 (975,{cls:=(.type "type"),dict:=none,data:= .cls {name:="shlex",bases:=[(.type "object")],mro:=[(.ref 975),(.type "object")],ns:=974,qualname:="shlex",hasDict:=true,slotNames:=[],subclasses:=[],abstract:=false,collection:=none,hasDel:=false},slots:=[none,none,(EU (.str "shlex" 1430)),(EU (.str "shlex" 1438)),(EU (.builtin "object.__new__")),(EU (.bool true))].toArray}),
 (984,mkF (top 31) "_law_dressed" "_law_dressed" .none .none (.str "law_il0198_01" 1575) none (.ref 983)),
 (991,mkF (top 32) "_law_line" "_law_line" .none .none (.str "law_il0198_01" 1575) none (.ref 990)),
 (998,mkF (top 33) "_law_read" "_law_read" .none .none (.str "law_il0198_01" 1575) none (.ref 997)),
 (1005,mkF (top 34) "_law_parted" "_law_parted" .none .none (.str "law_il0198_01" 1575) none (.ref 1004)),
 (1007,{cls:= .none,dict:=none,data:= .fields [].toArray,slots:=[].toArray}),
 (1009,{cls:=(.type "code"),dict:=none,data:= .fields [(.str "law" 1615),(.str "law" 1616),(.str "/claim/cut.py" 1617),(.int 1207 0),(.int 1 0),(.int 0 0),(.int 0 0),(.int 3 0),(.ref 1006),(.bool true),(.int 273 0),(.ref 1007),.none,.none,.none,(.ref 1008),(.int 1618 0),(.int 1207 0),(.str "/claim/cut.py" 1619)].toArray,slots:=[].toArray}),
 (1010,mkF (top 35) "law" "law" .none .none (.str "law_il0198_01" 1575) none (.ref 1009))]
noncomputable def dy:List (Addr×Value):=[(99,(.str "Match.__new__" 367)),
 (106,(.str "Match._make" 378)),
 (177,(.str "SequenceMatcher.__init__" 499)),
 (184,(.str "SequenceMatcher.set_seqs" 511)),
 (191,(.str "SequenceMatcher.set_seq1" 521)),
 (198,(.str "SequenceMatcher.set_seq2" 530)),
 (205,(.str "SequenceMatcher.__chain_b" 539)),
 (213,(.str "SequenceMatcher.find_longest_match" 559)),
 (220,(.str "SequenceMatcher.get_matching_blocks" 585)),
 (270,(.str "heappush" 670)),
 (277,(.str "heappop" 679)),
 (284,(.str "_siftdown" 689)),
 (291,(.str "_siftup" 701)),
 (305,(.str "_index" 724)),
 (332,(.str "IOBase.__new__" 768)),
 (609,(.str "StringIO.__init__" 1100)),
 (616,(.str "StringIO.__translated" 1109)),
 (623,(.str "StringIO.__check" 1118)),
 (637,(.str "StringIO.__line" 1132)),
 (785,(.str "StringIO.read" 1292)),
 (793,(.str "StringIO.readline" 1304)),
 (898,(.str "shlex.__init__" 1446)),
 (905,(.str "shlex.punctuation_chars" 1458)),
 (935,(.str "shlex.get_token" 1492)),
 (942,(.str "shlex.read_token" 1505)),
 (983,(.str "_law_dressed" 1578)),
 (990,(.str "_law_line" 1584)),
 (997,(.str "_law_read" 1596)),
 (1004,(.str "_law_parted" 1606)),
 (1009,(.str "law" 1616))]
noncomputable def jm (o:Option Obj):Option Value:=match o with
 |some ⟨_,_,.fields vs,_⟩=>vs[1]?
 |_=>none
@[irreducible] noncomputable def W0 (w:FH):Option (Shared×IL):=lN dF E9 w 14220
theorem xG (w:FH):W0 w=lN dF E9 w 14220:=by unfold W0;rfl
noncomputable def xoF (x:Option (Shared×IL)) (i:Nat):Obj:=match x with
 |some x=>(x.2.tree.get i).getD default
 |none=>default
noncomputable def xo (w:FH) (i:Nat):Obj:=xoF (W0 w) i
noncomputable def sH (l:List (Addr×Obj)) (f:Nat->Obj) (n:Nat):Heap:=⟨((F7 n).map λi=>match l.lookup i with|some o=>o|none=>f i).toArray,{}⟩
noncomputable def K0 (P:F0):List (Addr×Obj):=(K P).filter λp=>!fC.contains p.1
noncomputable def H1 (w:FH):Heap:=sH (K0 w.params) (xo w) 1011
theorem dH {l:List (Addr×Obj)} {a:Addr} {o:Obj} (h:l.lookup a=EU o):(a,o)∈l:=by
 induction l with
 |nil=>cases h
 |cons p r ih=>
  obtain ⟨b,x⟩:=p;simp only[IP] at h;split at h
  ·rename_i q;cases h;rw[beq_iff_eq.mp q];exact .head _
  ·exact .tail _ (ih h)
theorem zW {T:BT} {l:List (Addr×Obj)} {f:Nat->Obj} {n:Nat} (hk:∀p∈l,T.get p.1=EU p.2) (hf:∀i,f i=(T.get i).getD default):Le T n {}=sH l f n:=by
 refine congrArg (λx:List Obj=>Heap.mk x.toArray {}) (?_:(F7 n).map (λi=>(T.get i).getD default)=(F7 n).map λi=>match l.lookup i with|some o=>o|none=>f i);refine Kl λi _=>?_
 have key:∀y:Option Obj,l.lookup i=y->(T.get i).getD default=match y with|some o=>o|none=>f i:=by
  intro y hy
  cases y with
  |some o=>exact congrArg (λz:Option Obj=>z.getD default) (hk (i,o) (dH hy))
  |none=>exact (hf i).symm
 exact key _ rfl
theorem CD {w:FH} {s₀:Shared} {S:IL} (e:W0 w=EU (s₀,S)) (i:Nat):xo w i=(S.tree.get i).getD default:=congrArg (λx=>xoF x i) e
theorem Cj {S:IL} {n:Nat} (hn:S.n=n) (hl:S.life={}):S.abs.heap=Le S.tree n {}:=by
 obtain ⟨T,n',life,gs,d,t,os⟩:=S;dsimp only at hn hl;subst hn hl;rfl
theorem zT {w:FH} {s₀:Shared} {S:IL} (e:W0 w=EU (s₀,S)) (hn:S.n=1011) (hl:S.life={})
 (hk:∀p∈K w.params,(S.tree.get p.1).map (fV p.1)=EU p.2):S.abs.heap=H1 w:=(Cj hn hl).trans (zW (λp hp=>by
 obtain ⟨hp,hd⟩:=GB.mp hp;have:=hk p hp;unfold fV at this;rw[Ga] at hd;simp only[hd] at this;simpa using this) (CD e))
noncomputable abbrev zy (q:Program) (loose:List Str):Prop:=∀(w:FH) (d:Drawn) (t:Nat) (os:NH),
 (Qz q loose (HQ E9.main.body) (λ_=>true) true ⟨H1 w, #[],d,t,os⟩,MI E9 (H1 w))=(QA q loose,true)
noncomputable def kAs:List Addr:=[0,1,2,3,4,100,107,109,152,153,154,171,178,185,192,199,206,207,214,221,259,260,271,278,285,292,306,333,335,336,337,362,363,592,593,603,610,617,624,638,646,654,662,670,678,779,786,787,794,839,840,892,899,906,907,936,943,974,975,984,991,998,1005,1007,1009,1010]
theorem uY (P:F0):kAs=(K P).map (·.1):=rfl
noncomputable def obs (s:Shared):List (Option Obj)×List (Option Value):=(kAs.map λa=>(s.heap.get? a).map (fV a),dy.map λp=>jm (s.heap.get? p.1))
noncomputable def mB (w:FH):List (Option Obj)×List (Option Value):=((K w.params).map λp=>EU p.2,dy.map λp=>EU p.2)
structure Says (w:FH) (h:Heap):Prop where
 k:∀p∈K w.params,∃v,h.get? p.1=EU (dZ p.1 v p.2)
 c:∀p∈dy,jm (h.get? p.1)=EU p.2
theorem yS (w:FH) (s:Shared) (e:obs s=mB w):Says w s.heap:=by
 obtain ⟨a,b⟩:=OA e;rw[uY w.params,FR] at a
 exact ⟨λp hp=>by
  have:=Ji.mp a p hp;obtain ⟨o,ho,hq⟩:=Gc.mp this;obtain ⟨v,hv⟩:=wo p.1 o
  exact ⟨v,by rw[ho,←hq,←hv]⟩,λp hp=>by
  have:=Ji.mp b p hp;exact this⟩
theorem g5 {o:Option Obj} {v:Value} (h:jm o=EU v):∃x,o=EU x:=by
 cases o with
 |none=>cases h
 |some x=>exact ⟨x,rfl⟩
theorem k7 (w:FH) (h h':Heap) (x:Says w h) (k:∀b o,h.get? b=EU o->h'.get? b=EU o):Says w h':=
 ⟨λp hp=>by
  obtain ⟨v,hv⟩:=x.k p hp
  exact ⟨v,k _ _ hv⟩,λp hp=>by
  have:=x.c p hp;obtain ⟨o,ho⟩:=g5 this;rw[k _ _ ho,←ho];exact this⟩
theorem yY {q:Program} {loose:List Str}
 (A:∀w:FH,(W0 w).map (λx=>((x.1.heap.isNs KA&&x.1.gens.size==0),
  (Nu (HQ E9.main.body) x.1.heap x.2.abs.heap&&Oc x.1.heap x.2.abs.heap),
  x.2.n,x.2.life,x.2.gens,(K w.params).map (λp=>(x.2.tree.get p.1).map (fV p.1)),dy.map (λp=>jm (x.2.tree.get p.1))))=
  EU (true,true,1011,({}:Life),(#[]:Array GenState),(K w.params).map (λp=>EU p.2),dy.map (λp=>EU p.2)))
 (Lk:zy q loose) (al:∀P,(K P).all (λp=>decide (p.1<1011)&& !p.2.isFreed)=true) (cl:dy.all (λp=>decide (p.1<1011))=true):
 LeftO E9 q loose (λ_=>true) obs mB 14220:=by
 refine LeftO.of_whole λw=>?_;rw[←xG w];obtain ⟨⟨s₀,S⟩,e,e'⟩:=Gc.mp (A w);rw[e];simp only[Ja] at e';obtain ⟨l1,l2,l3,l4,l5,l6,l7⟩:=e';have hk:∀p∈K w.params,(S.tree.get p.1).map (fV p.1)=EU p.2:=λp hp=>Ji.mp l6 p hp;have hc:∀p∈dy,jm (S.tree.get p.1)=EU p.2:=λp hp=>Ji.mp l7 p hp;have hh:=zT e l3 l4 hk
 have hs:S.abs=⟨H1 w, #[],S.drawn,S.toks,S.os⟩:=by
  rw[←hh,←l5];rfl
 obtain ⟨k1,k2⟩:=OA (Lk w S.drawn S.toks S.os)
 have g:∀a o,a<1011->o.isFreed=false->S.tree.get a=EU o->S.abs.heap.get? a=EU o:=λa o h1 h2 h3=>by
  obtain ⟨T,n,life,gs,d,t,os⟩:=S;dsimp only at l3 h3;subst l3;show (Le T 1011 life).get? a=EU o;rw[abs_get h1 h3];obtain ⟨c,dd,dt,sl⟩:=o;cases dt<;>first|rfl|cases h2
 rw[NI];refine congrArg EU ?_;simp only[Ja];refine ⟨l1,?_,?_,?_⟩
 ·simp only[Fc] at l2⊢;refine ⟨⟨⟨l2.1,?_⟩,?_⟩,l2.2⟩
  ·rw[hs];exact k2
  ·rw[hs];rfl
 ·rw[hs];exact k1
 ·unfold obs mB;simp only[Ja];constructor
  ·rw[uY w.params,FR];refine Kl λp hp=>?_;have z:=Fm.mp (al w.params) p hp;simp only[Fc,decide_eq_true_eq,Ga] at z;obtain ⟨o,ho,hq⟩:=Gc.mp (hk p hp);have hf:o.isFreed=false:=tL (a:=p.1) (by rw[hq];exact z.2);show (S.abs.heap.get? p.1).map (fV p.1)=EU p.2;rw[g _ _ z.1 hf ho,NI,hq]
  ·refine Kl λp hp=>?_;have z:=Fm.mp cl p hp;simp only[decide_eq_true_eq] at z;have y:=hc p hp;obtain ⟨o,ho⟩:=g5 y;rw[ho] at y
   have hf:o.isFreed=false:=by
    obtain ⟨c,dd,dt,sl⟩:=o;cases dt<;>first|rfl|cases y
   rw[g _ _ z hf ho];exact y
set_option maxHeartbeats 0
noncomputable def q:Program:={E9 with main:={E9.main with body:=[top 35]}}
noncomputable def loose:List Str:=["deque","_wall","_tuplegetter","Match","_calculate_ratio","SequenceMatcher","heappush","heappop","_siftdown","_siftup","_whence","_index","UnsupportedOperation","IOBase","BufferedIOBase","TextIOBase","BytesIO","StringIO","_kind","_fspath","_check_arg_types","isabs","join","dirname","shlex","_law_dressed","_law_line","_law_read","_law_parted"]
noncomputable def Dc:Stmt->Pos
 | .FunctionDef _ _ _ _ _ _ _ _ _ p=>p
 |_=>l8
noncomputable def tR:PySem.DefRec:={name:="law",params:=u9 (top 35),body:=cu (top 35),scope:=cg (top 35),pos:=Dc (top 35)}
noncomputable def lookW (l:OpenLaw):Bool:=l.wellSaid
lay_quick lookW
theorem C0:PySem.W.Fast.tw3316332872946070370 Fk=true:=by kernel_rfl
theorem wU:Fk.wellSaid=true:=(congrFun PySem.W.Fast.te3316332872946070370 Fk).trans C0
theorem hd (left:LeftO E9 q loose (λ_=>true) obs mB 14220)
 (call:WalkO q loose (λ_ _=>True) Says Fk.row.toRowW tR [] (λf vs=>Nh f vs)):Fk.Holds:=by
 refine holds_law wU λwU=>?_;refine PySem.W.holds_open (r:=Fk.row) (q:=q) (loose:=loose) (Xt:=λ_=>true) (XP:=λ_ _=>True) (Yf:=obs) (Ya:=mB) (YP:=Says) (d:=tR) (kwd:=[]) (N:=14220)
  left yS k7 (λ_ _=>trivial) (λ_ _ _ _ _=>trivial) (by rfl) (by rfl) (by rfl) (λs _=>recFacts_of (by rfl)) (by rfl) wU ?_ ⟨rfl,rfl,rfl,rfl,rfl,by decide+kernel⟩ ?hw call
 ·decide+kernel
 case hw=>w_witness2
set_option maxHeartbeats 0
noncomputable def iY (id:String):Option Builtin:= @QZ (λ_=>Option Builtin) (PI id) (EU s8) (Ps (PK id) 29827186395103491166823348853)
theorem vt:JL=iY:=by
 rw[i0];funext id;unfold dF iY;rw[←PL,←PM];rfl
noncomputable def Ag (_:Str):Type:=Unit
noncomputable def sY:Stmt->Str
 | .ClassDef _ _ _ (.Expr (.Constant (.str d) _ _) _::_) _ _ _ _ _ _ _=>d
 |_=>EW ""
noncomputable def BO (d:Str):Stmt->Stmt
 | .ClassDef a1 a2 a3 (.Expr (.Constant (.str _) k p) p'::r) a5 a6 a7 a8 a9 a10 a11=> .ClassDef a1 a2 a3 (.Expr (.Constant (.str d) k p) p'::r) a5 a6 a7 a8 a9 a10 a11
 |s=>s
noncomputable def sf (p:Program) (d:Str):Program:={p with main:={p.main with body:=p.main.body.set 6 (BO d (top 6))}}
noncomputable def Cd {l:List Char} (_:Ag (EW (Kd l))):List Char:=l
noncomputable def wT:List Char:=Cd (l:=_) (show Ag (sY (top 6)) from ())
theorem y6:sY (top 6)=EW (Kd wT):=by kernel_rfl
theorem uO:E9=sf E9 (sY (top 6)):=by kernel_rfl
noncomputable def pQ:Program:=sf E9 ⟨(wT.map Kw).toArray⟩
theorem CZ:E9=pQ:=uO.trans (congrArg _ (y6.trans (PO wT)))
noncomputable def lhsA (p:Program) (k:F0->List (Addr×Obj)) (cs:List (Addr×Value)) (tb:String->Option Builtin) (w:FH):=(lN tb p w 14220).map (λx=>((x.1.heap.isNs KA&&x.1.gens.size==0),
 (Nu (HQ p.main.body) x.1.heap x.2.abs.heap&&Oc x.1.heap x.2.abs.heap),
 x.2.n,x.2.life,x.2.gens,(k w.params).map (λp=>(x.2.tree.get p.1).map (fV p.1)),cs.map (λp=>jm (x.2.tree.get p.1))))
noncomputable def rhsA (k:F0->List (Addr×Obj)) (cs:List (Addr×Value)) (w:FH):=EU (true,true,1011,({}:Life),(#[]:Array GenState),(k w.params).map (λp=>EU p.2),cs.map (λp=>EU p.2))
noncomputable def lhsL (p q:Program) (l:List Str) (k:F0->List (Addr×Obj)) (f:Nat->Obj) (w:FH) (d:Drawn) (t:Nat) (os:NH):=(Qz q l (HQ p.main.body) (λ_=>true) true ⟨sH (k w.params) f 1011, #[],d,t,os⟩,MI p (sH (k w.params) f 1011))
noncomputable def rhsL (q:Program) (l:List Str):=(QA q l,true)
lay_quick lhsA rhsA lhsL rhsL
theorem Ey (w:FH):PySem.W.Fast.tw16477793538883602288 pQ K dy iY w=PySem.W.Fast.tw17706074898408431132 K dy w:=by kernel_rfl
theorem Ep (f:Nat->Obj) (w:FH) (d:Drawn) (t:Nat) (os:NH):PySem.W.Fast.tw17105402147046251774 E9 q loose K0 f w d t os=PySem.W.Fast.tw9993069677470219790 q loose:=by kernel_rfl
theorem eqA (w:FH):lhsA E9 K dy iY w=rhsA K dy w:=by
 rw[PySem.W.Fast.te16477793538883602288,PySem.W.Fast.te17706074898408431132,congrArg PySem.W.Fast.tw16477793538883602288 CZ];exact Ey w
theorem eqL (f:Nat->Obj) (w:FH) (d:Drawn) (t:Nat) (os:NH):lhsL E9 q loose K0 f w d t os=rhsL q loose:=by
 rw[PySem.W.Fast.te17105402147046251774,PySem.W.Fast.te9993069677470219790];exact Ep f w d t os
theorem Be:dF=iY:=i0.symm.trans vt
theorem al (P:F0):(K P).all (λp=>decide (p.1<1011)&& !p.2.isFreed)=true:=by kernel_rfl
theorem cl:dy.all (λp=>decide (p.1<1011))=true:=by kernel_rfl
theorem left:LeftO E9 q loose (λ_=>true) obs mB 14220:=by
 refine yY (λw=>?_) (λw d t os=>eqL (xo w) w d t os) al cl;rw[xG,Be];exact eqA w
theorem head (call:WalkO q loose (λ_ _=>True) Says Fk.row.toRowW tR [] (λf vs=>Nh f vs)):Fk.Holds:=hd left call
def zNm (s:String):Mr:=if s.front== '.' then ("Lean.Parser.Tactic" ++s).toName else if s.front== ',' then ("Lean.Parser.Term." ++s.drop 1).toName else s.toName
def zSt (as:Array Gu) (k:List (Mr×Array Gu)) (t:String):List (Mr×Array Gu):=
 let d:=(t.drop 1).copy
 let c:=t.front
 if c== '(' then (zNm d, #[])::k
 else match k with
  |(n,a)::r=>if c== ')' then (match r with
   |(m,b)::r=>(m,b.push (.node .none n a))::r
   |_=>k)
   else (n,a.push (if c== '$' then as[d.toNat!]! else if c== '\'' then IW d.toName else .atom .none (if c.val==34 then d else t)))::r
  |_=>k
def zTp (s:String) (as:Array Gu):Gu:=
 match (s.splitOn " ").foldl (zSt as) [(`x, #[])] with
 | [(_,a)]=>a[0]!
 |_=> .missing
def zTk:String:="a (.withReducible with_reducible (.tacticSeq (.tacticSeq1Indented (null (.assumption assumption ) ) ) ) )\nA (.assumption assumption )\nw (.withReducible with_reducible (.tacticSeq (.tacticSeq1Indented (null (.tacticRfl rfl ) ) ) ) )\nr (.withUnfoldingAll with_unfolding_all (.tacticSeq (.tacticSeq1Indented (null (.tacticRfl rfl ) ) ) ) )\nx (.withUnfoldingAll with_unfolding_all (.tacticSeq (.tacticSeq1Indented (null (.exact exact 'rfl ) ) ) ) )\nt (.withUnfoldingAll with_unfolding_all (.tacticSeq (.tacticSeq1Indented (null (.exact exact 'trivial ) ) ) ) )\nf (.withUnfoldingAll with_unfolding_all (.tacticSeq (.tacticSeq1Indented (null (.exact exact (,app 'Eq.refl (null 'false ) ) ) ) ) ) )\nk (tacticKernel_rfl kernel_rfl )\no (.omega omega (.optConfig (null ) ) )\nd (.first first (null (group | (.tacticSeq (.tacticSeq1Indented (null (.exact exact (,app 'of_decide_eq_true (null (,app 'Eq.refl (null 'true ) ) ) ) ) ) ) ) ) (group | (.tacticSeq (.tacticSeq1Indented (null (.decide decide (.optConfig (null (.configItem (.negConfigItem - 'kernel ) ) ) ) ) ) ) ) ) ) )\nh (.exact exact (,app (,dotIdent . 'head ) (null (,hole _ ) ) ) )\ni (.intro intro (null (,hole _ ) ) )\nj (.intro intro (null (,hole _ ) (,hole _ ) ) )\ny (.paren \"( (.tacticSeq (.tacticSeq1Indented (null (.intro intro (null 'hh ) ) ; (.cases cases (null (.elimTarget (null ) 'hh ) ) (null ) (null ) ) ) ) ) \") )\nb (.exact exact 'sbt )\nc (.exact exact 'sbnf )\nn (.paren \"( (.tacticSeq (.tacticSeq1Indented (null (.«tactic_<;>_» (.paren \"( (.tacticSeq (.tacticSeq1Indented (null (.withReducible with_reducible (.tacticSeq (.tacticSeq1Indented (null (.refine refine (,app 'ite_both (null (,byTactic by (.tacticSeq (.tacticSeq1Indented (null (.withReducible with_reducible (.tacticSeq (.tacticSeq1Indented (null (.assumption assumption ) ) ) ) ) ) ) ) ) (,syntheticHole ? _ ) (,syntheticHole ? _ ) ) ) ) ) ) ) ) ) ) ) \") ) <;> (.intro intro (null (,hole _ ) (,hole _ ) ) ) ) ) ) ) \") )\nz (.paren \"( (.tacticSeq (.tacticSeq1Indented (null (.tacticTry_ try (.tacticSeq (.tacticSeq1Indented (null (.simp simp (.optConfig (null ) ) (null ) (null only ) (null [ (null (.simpLemma (null ) (null ) 'str_length_append ) ) ] ) (null ) ) ) ) ) ) ; (.rwSeq rw (.optConfig (null ) ) (.rwRuleSeq [ (null (.rwRule (null ) 'sizeLine_eq ) ) ] ) (null ) ) ; (.omega omega (.optConfig (null ) ) ) ) ) ) \") )\n! (.fail fail (null ) )\n? (.paren \"( (.tacticSeq (.tacticSeq1Indented (null (.intro intro (null 'Q 'hq ) ) ; (.specialize specialize $0 ) ; (.exact exact 'hq ) ) ) ) \") )\n@ (.specialize specialize $0 )\n1 (.exact exact (,app 'of_decide_eq_true (null (,byTactic by (.tacticSeq (.tacticSeq1Indented (null (PyProof.Rows.tacticKernel_rfl! kernel_rfl! ) ) ) ) ) ) ) )\n2 (.tacticRfl rfl )\n3 (.withUnfoldingAll with_unfolding_all (.tacticSeq (.tacticSeq1Indented (null (.tacticTrivial trivial ) ) ) ) )\n4 (.simp simp (.optConfig (null ) ) (null ) (null ) (null ) (null ) )"
def zLn (s k:String):String:=match (s.splitOn "\n").find? (·.startsWith k) with
 |some l=>(l.drop k.length).copy
 |none=>""
def tk (c:String):Gu:=
 let l:=zLn zTk (c++ " ")
 if l !="" then zTp l #[] else
 let e:=Gu.mkStrLit (if c.front== '?'||c.front== '@' then (c.drop 1).copy else c)
 zTp (zLn zTk (if c.front== '?' then "? " else "@ ")) #[e]
def sq:List String->Gu
 | []=>zTp "(.skip skip )" #[]
 |p::ps=>zTp "(.paren \"( (.tacticSeq (.tacticSeq1Indented (null (.paren \"( (.tacticSeq (.tacticSeq1Indented (null (.focus focus (.tacticSeq (.tacticSeq1Indented (null $0 ) ) ) ) ) ) ) \") ) ; $1 ) ) ) \") )" #[tk p,sq ps]
def al1:List String->Gu
 | []=>tk "!"
 |n::ps=>
  let d:=IW (n.drop 1).copy.toName
  let i:=IW n.toName
  if ps.isEmpty then (if n.length==1||n.front== '?'||n.front== '@' then tk n else zTp "(.withReducible with_reducible (.tacticSeq (.tacticSeq1Indented (null (.refine refine (,app $0 (null (,syntheticHole ? _ ) ) ) ) ) ) ) )" #[i])
  else if ps==["!"] then zTp "(.withReducible with_reducible (.tacticSeq (.tacticSeq1Indented (null (.exact exact (,app $0 (null (,ellipsis .. ) ) ) ) ) ) ) )" #[i]
  else if n.front== '=' then
   let l:=(ps.takeWhile (· !=">")).map λp=>zTp "(,byTactic by (.tacticSeq (.tacticSeq1Indented (null $0 ) ) ) )" #[tk p]
   zTp "(.paren \"( (.tacticSeq (.tacticSeq1Indented (null (.withReducible with_reducible (.tacticSeq (.tacticSeq1Indented (null (.refine refine (,app $0 $1 ) ) ) ) ) ) ; $2 ) ) ) \") )" #[d,JS (l.toArray.push (zTp "(,syntheticHole ? _ )" #[])),sq ((ps.dropWhile (· !=">")).drop 1)]
  else zTp (if n.front== ':' then "(.paren \"( (.tacticSeq (.tacticSeq1Indented (null (.paren \"( (.tacticSeq (.tacticSeq1Indented (null (.withReducible with_reducible (.tacticSeq (.tacticSeq1Indented (null (.refine refine (,app $0 (null (,syntheticHole ? _ ) ) ) ) ) ) ) ) ) ) ) \") ) ; $1 ) ) ) \") )" else if n.front== '~' then "(.paren \"( (.tacticSeq (.tacticSeq1Indented (null (.paren \"( (.tacticSeq (.tacticSeq1Indented (null (.apply apply $0 ) ) ) ) \") ) ; $1 ) ) ) \") )" else "(.paren \"( (.tacticSeq (.tacticSeq1Indented (null (.paren \"( (.tacticSeq (.tacticSeq1Indented (null (.withReducible with_reducible (.tacticSeq (.tacticSeq1Indented (null (.apply apply $0 ) ) ) ) ) ) ) ) \") ) ; $1 ) ) ) \") )") #[if n.front== ':'||n.front== '~' then d else i,sq ps]
def al2 (l:List String):Gu:=zTp "(.first first $0 )" #[JS (l.toArray.map λs=>zTp "(group | (.tacticSeq (.tacticSeq1Indented (null $0 ) ) ) )" #[al1 (s.splitOn " ")])]
def wk (t:String) (s:Ir `str):J9 (Ir `tactic):=
 match (t.splitOn "\n").find? λl=>l.startsWith (s.getString++ "|") with
 |none=>Hu
 |some l=>pure ⟨al2 ((l.splitOn "|").drop 1)⟩
def ifm (l r:Mr) (h:Ir `term):J9 (Ir `tactic):=
 pure ⟨zTp "(.paren \"( (.tacticSeq (.tacticSeq1Indented (null (.first first (null (group | (.tacticSeq (.tacticSeq1Indented (null (.withReducible with_reducible (.tacticSeq (.tacticSeq1Indented (null (.refine refine (,app $0 (null $2 (,syntheticHole ? _ ) ) ) ) ) ) ) ) ) ) ) ) (group | (.tacticSeq (.tacticSeq1Indented (null (.withReducible with_reducible (.tacticSeq (.tacticSeq1Indented (null (.refine refine (,app 'Eq.trans (null (,app $1 (null $2 ) ) (,syntheticHole ? _ ) ) ) ) ) ) ) ) ) ) ) ) (group | (.tacticSeq (.tacticSeq1Indented (null (.rewriteSeq rewrite (.optConfig (null ) ) (.rwRuleSeq [ (null (.rwRule (null ) (,app $1 (null $2 ) ) ) ) ] ) (null ) ) ) ) ) ) ) ) ; (.tacticTry_ try (.tacticSeq (.tacticSeq1Indented (null (.withReducible with_reducible (.tacticSeq (.tacticSeq1Indented (null (.tacticRfl rfl ) ) ) ) ) ) ) ) ) ) ) ) \") )" #[IW l,IW r,h]⟩
@[elab_as_elim] theorem rwl {α:Sort u} {a b:α} {p:α->Prop} (h:a=b) (x:p b):p a:=h▸x
@[elab_as_elim] theorem rwr {α:Sort u} {a b:α} {p:α->Prop} (h:a=b) (x:p a):p b:=h▸x
def rw1 (s:Gu):Gu:=
 let w:=zTp "(.rewriteSeq rewrite (.optConfig (null ) ) (.rwRuleSeq [ (null $0 ) ] ) (null (.location at (.locationHyp (null (.locationType (patternIgnore (token.«⊢» ⊢ ) ) ) ) ) ) ) )" #[s]
 if (s.find? (·.isOfKind `Lean.Parser.Term.syntheticHole)).isSome then w else zTp "(.first first (null (group | (.tacticSeq (.tacticSeq1Indented (null (.withReducible with_reducible (.tacticSeq (.tacticSeq1Indented (null (.refine refine (,app $0 (null (,app $1 (null (,ellipsis .. ) ) ) (,syntheticHole ? _ ) ) ) ) ) ) ) ) ) ) ) ) (group | (.tacticSeq (.tacticSeq1Indented (null $2 ) ) ) ) ) )" #[IW (if s[0].getNumArgs==0 then `rwl else `rwr),s[1],w]
def rwm (s:Gu):J9 (Ir `tactic):=do
 unless s.getHeadInfo matches .original .. do Hu
 pure ⟨zTp "(.paren \"( (.tacticSeq (.tacticSeq1Indented (null (.paren \"( (.tacticSeq (.tacticSeq1Indented $0 ) ) \") ) ; (.tacticTry_ try (.tacticSeq (.tacticSeq1Indented (null (.withReducible with_reducible (.tacticSeq (.tacticSeq1Indented (null (.tacticRfl rfl ) ) ) ) ) ) ) ) ) ) ) ) \") )" #[JS (s.getSepArgs.foldl (λa r=>(a.push (rw1 r)).push (.atom .none ";")) #[])]⟩
def sbm (s:Gu):J9 (Ir `term):=match (if s.getNumArgs==1 then s[0].isInterpolatedStrLit? else none) with
 |some c=>pure ⟨zTp "(,byTactic by (.tacticSeq (.tacticSeq1Indented (null $0 ) ) ) )" #[tk c]⟩
 |none=>Hu
def DF:String:="(.first first (null (group | (.tacticSeq (.tacticSeq1Indented (null (.exact exact (,app 'of_decide_eq_true (null (,app 'Eq.refl (null 'true ) ) ) ) ) ) ) ) ) (group | (.tacticSeq (.tacticSeq1Indented (null (.decide decide (.optConfig (null (.configItem (.negConfigItem - 'kernel ) ) ) ) ) ) ) ) ) ) )"
def Ea:String:="(.exact exact (,app 'of_decide_eq_true (null (,byTactic by (.tacticSeq (.tacticSeq1Indented (null (PyProof.Rows.tacticKernel_rfl! kernel_rfl! ) ) ) ) ) ) ) )"
def csm (k:Gu) (s:String) (l:Array Gu):J9 (Ir `tactic):=do
 unless k.getHeadInfo matches .original .. do Hu
 pure ⟨zTp s l⟩
def csA:String:="(.first first (null (group | (.tacticSeq (.tacticSeq1Indented (null (.paren \"( (.tacticSeq (.tacticSeq1Indented (null (.replace replace (,letDecl (,letIdDecl (,letId $0 ) (null ) (null ) := (,app 'Option.some.inj (null $0 ) ) ) ) ) ; (.subst subst (null $0 ) ) ) ) ) \") ) ) ) ) ) (group | (.tacticSeq (.tacticSeq1Indented (null (.cases cases (null (.elimTarget (null ) $0 ) ) (null ) (null ) ) ) ) ) ) ) )"
def csB:String:="(.first first (null (group | (.tacticSeq (.tacticSeq1Indented (null (.refine refine (,app 'rwl (null (,typeAscription (,hygienicLParen \"( (hygieneInfo '[anonymous] ) ) $1 : (null $0 ) \") ) (,syntheticHole ? _ ) ) ) ) ) ) ) ) (group | (.tacticSeq (.tacticSeq1Indented (null (.cases cases (null (.elimTarget (null ) (,show show $0 (,fromTerm from $1 ) ) ) ) (null ) (null ) ) ) ) ) ) ) )"
def wA:String:="ne|a|Ne.symm a|bT f|y\nlk|a|cF lk|Dr f lk|lkI A A x\nnk|a|yf !|ES f nk|BV !\nsg|A|Sg.put_same !|yW ne sg\nat|zw !|eK !|BB !\nme|AW !|wG !|AM !\nout|t|r|A\ntt|w|a|rX !|decide_eq_true o|tY ff\nff|w|a|A8 !|Av !|BK !|Ap !|Bz !|zu !|decide_eq_false o|vk tt\nt0|w|a|rX !|tY f0|b|DZ f\nf0|w|a|A8 !|Av !|BK !|Ap !|Bz !|zu !|vk t0|sbf f|c|Di !|decide_eq_false d\nlen1|w6 len1|o|d\nlen|~mZ len1\nev|yB A A A x|AQ a lk|zH !|AC !|zh !|xZ !|AP ev ev eo|yv r ev ea|BQ r ev ev eo|AZ ev|xi t es r|?WEl|?WEg\nes|y4 !|xm ev es\neo|Cs !|B6 !|Cw !|EO !|De !|CO !|Cq !|EJ !|DB !|D8 !|EA !|Df !|Dt !|Ax !\nea|?At\net|Ay r ev ev eo|AD et|wm ev r ?WT\ns|:hIf IF|:hTh TH|:hWE WE|:hAt At|:EG Put|:hWA WA|:hWB WB|:hWT WT|:hW2 W2|:EM S1|:hWS S|:hWC C|ac|ag|bZ|fH|=xT r|xW|fD|fG|exI|=Dg A|=DI A|@other\nIF|=ift t0|=aD f0\nTH|ae|cV|we|ug\nWE|=EV.use ev|@WEl|=bh r|:hNm Nm|aq|aI|fE|eL|ar|=kX r|xF|xz|=cX t|=b9 t|@WEg\nNm|=bd A A A x|=ai a lk|@WEg\nAt|@Atl|=pV a sg sg nk at k out\nPut|@Putl|=pT sg sg at k len\nWA|@WAl|:hWN WN|=kj a|=jk a t r\nWN|=cG A A A x|=aL a lk\nWB|=ET.use et|=aC r|gD|ie|vF|bW|Cr|=bY r\nWT|ay|Bi|CE|@WTg\nW2|s7|oE|sJ|pD|eZ|c0|eY|gZ|iu|Au|tC|j5|tf|uH|xK|=gE z\nS1|bl|=ah r r t|=q8 r t|be|lP|iO|mR|xl|=iD a\nS|zN a ev A A x r r|BA ev|CN et|aa|ak\nC|@WCl|@WCg\nWEl|!\nAtl|!\nPutl|!\nWAl|!\nWCl|!\nother|!\nWEg|!\nWTg|!\nWCg|!"
def wB:String:="WEg|=c8 a a|=aT a a t\nWTg|=oI o\nWCg|=uM o"
def wC:String:="WEl|=fA a a|=rNc a a|=DP a a|=Dk a a\nAtl|=rSs a a|=AV a a|=rTk a a|=t5 a a|=rWs a a|=C1 a a|=CI a a|=ED a a|=Eu a a|=rPc a a a a|=rEq a a|=EE a a|=rIn a a|=rSn a a|=rLn a a > i\nPutl|wSs a j|wTk a j|wSn a j|wLn a j\nWAl|EB a a j|Ev a a j|wNc a a j\nother|=Dm a k|CF\nbr|False.elim a|n"
def wD:String:="mm|h|~List.Mem.tail mm\nAtl|=rSI a a nk k out\nPutl|=wSI a a k len > j\nother|=gSI a a k"
theorem g16 {a b n k c:Nat} (h:a+16*(b+n)+16<c) (hk:k≤16*n):a+k+16*b+16<c:=E3 (Hj (by rw[Nat.mul_add,HG,G7 k];exact Fi (Fi hk _) a) 16) h
theorem hl (a:Nat):(a-1)/2≤a:=EY (Lf _ _) (KB _ _)
theorem hlt {a:Nat} (h:0<a):(a-1)/2<a:=E3 (Lf _ _) (KC h (by decide))
theorem hq {a b:Nat} (h1:0<a) (h2:(a-1)/2=b):a=2*b+1∨a=2*b+1+1:=by
 have h:=OB (a-1) 2;rw[h2] at h
 cases Lw (a-1) with
 |inl e=>rw[e] at h;exact .inl ((GV h1).symm.trans (congrArg (·+1) h.symm))
 |inr e=>rw[e] at h;exact .inr ((GV h1).symm.trans (congrArg (·+1) h.symm))
theorem hq2 {a b:Nat} (h1:0<a) (h2:(a-1)/2=b):2*b+1≤a:=(hq h1 h2).elim (λh=>E6 h.symm) λh=>Fs (E6 h.symm)
theorem nLL {a k m:Nat} (h:a≤k) (e:IQ k m=true):a≤m:=EY h (Fo e)
theorem nTT {a k m:Nat} (h:a<k) (e:IQ k m=true):a<m:=E1 h (Fo e)
theorem nLT {a k m:Nat} (h:a≤k) (e:IQ (k+1) m=true):a<m:=E3 h (Fo e)
theorem nTL {a k m:Nat} (h:a<k) (e:IQ k (m+1)=true):a≤m:=FD (E1 h (Fo e))
theorem jTT {a k:Nat} {m:Int} (h:a<k) (e:(k:Int)≤m):(a:Int)<m:=NJ (FO.mpr h) e
theorem jLT {a k:Nat} {m:Int} (h:a≤k) (e:(k:Int)<m):(a:Int)<m:=Gm (GM.mpr h) e
theorem jLL {a k:Nat} {m:Int} (h:a≤k) (e:(k:Int)≤m):(a:Int)≤m:=Iv (GM.mpr h) e
theorem o0 {a b:Nat}:Km a b≤a:=IT _ _
theorem o1 {a b:Nat} (h1:(↑a:Int)=(↑b:Int)):a=b:=HH.mp h1
theorem o2 {a b:Nat} (h1:a=0):a≤b:=by lia
theorem o5 {a b c:Nat}:a+(b+1)<a+(c+1)↔b+a<c+a:=by rw[Nat.add_lt_add_iff_left,Ms,Ms]
theorem o6 {a b:Nat} (h1:a<b) (h2:0+b<a):False:=MJ h1 (Iu b▸h2)
theorem o7 {a b:Nat}:0+a<a+(b+1):=by lia
theorem o8 {a b:Int} {c d:Nat} (h1:a<b∨a=b∧(↑c:Int)<(↑d:Int)) (h2:d<c):a<b:=h1.elim id λx=>absurd (FO.mp x.2) (MJ h2)
theorem o9 {a b:Int} {c d:Nat} (h1:a<b) (h2:b<a∨b=a∧(↑c:Int)<(↑d:Int)):False:=h2.elim (λx=>Jv _ (Iw h1 x)) λx=>MK h1 x.1.symm
theorem o10 {a b:Nat} (h1:¬a=b):a<b↔a<b+1:=⟨λh=>GN h,λh=>Gf (FD h) h1⟩
theorem o11 {a:Nat}:1≤1+a:=Fr _ _
theorem o12 {a b:Nat} (h1:a<b+1) (h2:¬a=b):a<b:=Gf (FD h1) h2
theorem o13 {a b:Nat} (h1:a<b):¬a=b:=Fh h1
theorem o14 {a b:Nat} (h1:a≤b):a<1+b:=E3 h1 (ML (by decide))
theorem o15 {a b c:Nat} (h1:a<b+1) (h2:c<a):c<b:=E1 h2 (FD h1)
theorem o16 {a b:Nat} (h1:¬a=b):¬a=b:=h1
theorem o17 {a b c:Nat} (h1:a<b+1) (h2:c<a):¬c=b:=Fh (E1 h2 (FD h1))
theorem o18 {a:Nat} (h1:a=0):1+a=1:=h1▸rfl
theorem o19 {a:Int} {b:Nat} (h1:a.toNat<b):¬a.toNat=b:=Fh h1
theorem o20 {a:Nat}:1+a=a+1:=by lia
theorem o21 {a b:Nat} (h1:a<0):1≤b:=by lia
theorem o22 {a:Nat} (h1:a<0):False:=JV _ h1
theorem o23 {a b c d:Nat} (h1:a≤1000) (h2:b≤1000) (h3:c=a) (h4:d=b):c+d≤2000:=by rw[h3,h4];exact GA h1 h2
theorem o27 {a:Nat}:(Pt 0 (Km 1 ((↑a:Int)+1))).toNat=1:=by rw[OC (Int.le_add_of_nonneg_left (Ff a))];rfl
theorem o30 {a:Nat} (h1:a≤100):a≤16777216:=nLL h1 rfl
theorem o31 {a b c d:Nat} (h1:a+b≤1000) (h2:c=a) (h3:d=b):c+d≤16777216:=by rw[h2,h3];exact EY h1 (by decide)
theorem o33 {a:Nat}:(↑a:Int).toNat=a:=rfl
theorem o34 {a:Nat} (h1:a≤0):a=0:=Nat.eq_zero_of_le_zero h1
theorem o35 {a b:Nat} (h1:a≤b+1) (h2:¬a=b+1):a≤b:=FD (Gf h1 h2)
theorem o37 {a b:Nat} (h1:a≤b):a≤b+1:=GO h1
theorem o39 {a b c:Nat} (h1:a=b) (h2:c<b):c<a:=E1 h2 (E6 (I4 h1))
theorem o40 {a b c:Nat} (h1:0<a) (h2:b=a) (h3:c≤b-1):c<a:=by subst h2;exact E3 h3 (KC h1 (by decide))
theorem o41 {a b c:Nat} (h1:a=b) (h2:c<b):c≤a-1:=by rw[h1];exact Nat.le_sub_one_of_lt h2
theorem o43 {a:Nat}:a<2*a+1:=by lia
theorem o49 {a b c:Nat} (h1:a=b) (h2:0<b) (h3:c≤a-1):c<b:=by subst h1;exact E3 h3 (KC h2 (by decide))
theorem o51 {a:Nat} (h1:a≤1000):a≤16777216:=nLL h1 rfl
theorem o54 {a b c:Nat} (h1:a<b) (h2:b=c):a<c:=E1 h1 (E6 h2)
theorem o56 {a b c:Nat} (h1:a-b=c+1):a-(b+1)=c:=by rw[OS,h1];rfl
theorem o62 {a b c:Nat} (h1:a<b) (h2:c<a):c<b:=Fq h2 h1
theorem o64 {a b:Nat} (h1:1≤a) (h2:a≤b):¬b=0:=Iy (E1 h1 h2)
theorem o69 {a:Nat} (h1:4≤a):0<a:=by lia
theorem o70 {a b:Nat} (h1:4≤a) (h2:b=a):0<b:=h2▸E1 (by decide) h1
theorem o71 {a b:Nat} (h1:a≤b):(↑a:Int)≤(↑b:Int):=GM.mpr h1
theorem o78 {a:Nat}:1+(↑a:Int)=(↑a:Int)+1:=by lia
theorem o79 {a:Nat}:1≤a+1:=Hi _ _
theorem o80 {a b:Nat} (h1:a<b):a+1≤b:=h1
theorem o82 {a b:Nat} (h1:¬a<b):b≤a:=K2 h1
theorem o84 {a b:Nat} (h1:a≤b):a≤b:=h1
theorem o85 {a b:Nat} (h1:a+0=b):a=b:=h1
theorem o86 {a b c:Nat} (h1:a+(b+1)=c):a<c:=h1▸Hq (Iz b)
theorem o88 {a b c:Nat} (h1:a+(b+1)=c):a+1+b=c:=(Jb a 1 b).trans h1
theorem o89 {a:Nat}:0+a=a:=Iu _
theorem o93 {a:Nat} (h1:2≤a):¬0≥a:=by lia
theorem vT {a b:Nat} (h1:a<b):a≤b:=Fs h1
theorem zG {a b:Nat} (h1:a<b):b-1+1=b:=GV (E3 (FY a) h1)
theorem Em {a b:Nat} (h1:a<b):a<a+(b-a):=Hq (KO h1)
theorem DD {a b c:Nat} (h1:a≤b):c≤b->a≤b:=by lia
theorem zQ {a b c:Nat} (h1:a+4*(b+1)+1<c):a+1+4*b+1<c:=E3 (FE (EY (E6 (Jb a 1 (4*b))) (Fi (Fi (by decide:1≤4) (4*b)) a))) h1
theorem AJ {a b c:Nat} (h1:a<200) (h2:b<a) (h3:c≤b):c≤16777216:=nTL (Fq (E3 h3 h2) h1) rfl
theorem wF {a b:Nat}:a≤a+b:=Fr _ _
theorem lZ {a b c:Nat} (h1:a=b-c) (h2:c<b):b-(c+1)<a:=by rw[h1];exact Nw h2 (G9 c)
theorem wj {a b:Nat} (h1:a≤b) (h2:¬a<b):a=b:=GF h1 (K2 h2)
theorem tB {a:Nat}:¬(↑a:Int)<0:=by lia
theorem BL {a:Nat} (h1:a<1000):¬(↑a:Int)≥2^63:=QC.mpr (jTT h1 (by decide))
theorem po {a:Nat} (h1:a<1000):a≤16777216:=nTL h1 rfl
theorem Ai {a:Nat}: -2^62≤(↑a:Int):=Ff _
theorem BC {a:Nat} (h1:0<a):¬(a-1)/2=a:=Fh (hlt h1)
theorem wL:¬0<0:=Fz _
theorem xc {a b:Nat} (h1:a<b):(a-1)/2<b:=E3 (hl a) h1
theorem EI {a b:Nat} (h1:a≤b+1):(a-1)/2≤b:=EY (Lf _ _) (Nat.sub_le_of_le_add h1)
theorem DM {a:Nat} (h1:¬a=0):¬a=(a-1)/2:=Iy (hlt (Hd h1))
theorem Eh {a b:Nat} (h1:¬(a-1)/2=(b-1)/2) (h2:(a-1)/2=b):0<b:=Hd λh=>h1 (by rw[h2,h])
theorem En {a b:Nat} (h1:¬a=0) (h2:(b-1)/2=(a-1)/2):¬(b-1)/2=a:=λh=>Fh (hlt (Hd h1)) (h2.symm.trans h)
theorem A6 {a:Nat} (h1:0<(a-1)/2):¬((a-1)/2-1)/2=a:=Fh (E1 (hlt h1) (hl a))
theorem Dq {a:Nat} (h1:0<(a-1)/2):¬(a-1)/2=a:=Fh (hlt (E1 h1 (hl a)))
theorem Ed {a b:Nat} (h1:0<(a-1)/2) (h2:(b-1)/2=(a-1)/2):¬(b-1)/2=a:=λh=>Fh (hlt (E1 h1 (hl a))) (h2.symm.trans h)
theorem zB {a b:Nat} (h1:0<a) (h2:(a-1)/2=b) (h3:a<b+1):False:=H6 (h2▸hlt h1:b+1≤a) h3
theorem DN {a b:Nat} (h1:a≤0+b) (h2:b<a):False:=by lia
theorem zA {a b:Nat} (h1:a=2*b+1∨a=2*b+2):(a-1)/2=b:=h1.elim (λh=>by rw[h];exact Nat.mul_div_cancel_left b (by decide)) λh=>by rw[h];exact Nat.mul_add_div (by decide) b 1
theorem AY {a b c:Nat} (h1:0<a) (h2:(b-1)/2=a) (h3:(a-1)/2=c):¬b=c:=Iy (E1 (h3▸hlt h1) (h2▸hl b))
theorem zv {a b c:Nat} (h1:a≤2*b+1) (h2:0<c) (h3:(c-1)/2=b) (h4:c<a):False:=H6 (EY h1 (hq2 h2 h3)) h4
theorem zU {a:Nat} (h1:¬a=0):(a-1)/2<a:=hlt (Hd h1)
theorem iU {a b c:Nat} (h1:a=b) (h2:c<a):c<b:=E1 h2 (E6 h1)
theorem wH {a b:Nat} (h1:a≤10) (h2:b<a):b<10:=E1 h2 h1
theorem AT {a b c:Nat} (h1:a<b+c):a<b+(c+1):=GN h1
theorem AF {a b:Nat}:a+b<a+(b+1):=Fd _
theorem zI {a b:Nat} (h1:a≤b) (h2:b<a+0):False:=by lia
theorem zF {a b c:Nat} (h1:a-(b+1)=c+1):a-(b+1+1)=c:=by rw[OS a (b+1) 1,h1];rfl
theorem wR {a b:Nat} (h1:a≤10) (h2:b≤a):b≤10:=EY h2 h1
theorem fq {a:Nat} (h1:a≤10):a≤1000:=nLL h1 rfl
theorem dX {a:Nat}:0≤(↑a:Int):=Ff _
theorem fO {a b:Nat} (h1:a≤10) (h2:b<a):(↑b:Int)<2^63:=jTT (E1 h2 h1) (by decide)
theorem tD {a:Nat} (h1:a≤10):a≤400:=nLL h1 rfl
theorem Bw {a:Nat} (h1:a≤10):2*a-1≤20:=EY (KB _ _) (FI 2 h1)
theorem vN {a:Nat} (h1:a≤20):(↑a:Int)<2^63:=jLT h1 (by decide)
theorem wW {a:Nat} (h1:a≤20):a<200:=nLT h1 rfl
theorem wS {a:Nat} (h1:a≤10):a≤20:=nLL h1 rfl
theorem vW {a b:Nat} (h1:a≤10) (h2:b≤14*a):b<1000:=E3 (EY h2 (FI 14 h1)) (by decide)
theorem AS {a:Nat} (h1:a≤20):a≤16777216:=nLL h1 rfl
theorem Ef {a:Nat}:¬a=a+2:=by lia
theorem D6 {a:Nat}:¬a+1=a+2:=by lia
theorem DJ {a:Nat}:¬a=a+1:=by lia
theorem DG {a:Nat} (h1:¬a=0):((↑a:Int)-1)/2=(↑((a-1)/2):Int):=by cases a with|zero=>exact absurd rfl h1|succ n=>exact congrArg (·/(2:Int)) (Jc (n:Int) 1)
theorem AH {a b c:Nat} (h1:a≤b) (h2:b+1≤c):a≤c:=Fs (E3 h1 h2)
theorem vV {a b c:Nat} (h1:a≤b) (h2:b<a+(c-a)):b<c:=(KP a c).elim (λh=>by rwa [IX h] at h2) λh=>absurd h1 (Nat.not_le_of_lt (by rwa [M7 h] at h2))
theorem BX {a b c:Nat} (h1:a+4*(b+1)+1<c):a+4*b+1<c:=E3 (FE (Fi (FI 4 (HZ b)) a)) h1
theorem Ez {a:Nat}:1+(2*a+1)=2*(a+1):=by lia
theorem Dj {a:Nat} (h1:¬a % 2=0):a=2*(a/2)+1:=by have h:=OB a 2;rw[(Lw a).resolve_left h1] at h;exact h.symm
theorem wO {a b:Nat} (h1:2*a+1=2*b):False:=by lia
theorem EH {a:Nat} (h1:a<a):False:=by lia
theorem zS {a b:Nat}:a≠b∧b≤a↔b+1≤a:=⟨λh=>Gf h.2 (E8 h.1),λh=>⟨Iy h,Fs h⟩⟩
theorem Er {a b:Nat} (h1:a<b) (h2:b<a):b=a:=by lia
theorem Dy {a b c d:Nat} (h1:a=b) (h2:b<a):c<d:=by lia
theorem v3 {a b:Nat} (h1:a≤10) (h2:b≤a):b≤1000:=nLL (EY h2 h1) rfl
theorem DU {a b c d:Nat} (h1:a≤2) (h2:b≤c+a+0+2*d):b≤c+2*(d+1):=EY h2 (EY (E6 (HG c a (2*d))) (Fi (EY (Hj h1 (2*d)) (E6 (G7 2 (2*d)))) c))
theorem Eb {a b c:Nat} (h1:a≤1000) (h2:b≤0+2*a) (h3:c=16777216):¬b>c:=by rw[h3];exact F9.mpr (EY h2 (EY (E6 (Iu _)) (EY (FI 2 h1) (by decide))))
theorem zR {a b:Nat} (h1:a≤100) (h2:b≤a):b≤1000:=nLL (EY h2 h1) rfl
theorem D9 {a:Nat} (h1:a≤10000):1+a≤16777216:=by lia
theorem AX {a:Nat} (h1:a≤100):a≤1000:=nLL h1 rfl
theorem EQ {a b c:Nat} (h1:a+(b+1)≤c):a<c:=E1 (Hq (Iz b)) h1
theorem Dp {a b c:Nat} (h1:a+(b+1)≤c):a+1+b≤c:=EY (E6 (Jb a 1 b)) h1
theorem Dl {a b:Nat}:a+(b+1)=a+1+b:=by lia
theorem DV {a:Nat}:0+a≤a:=by lia
theorem Af {a:Nat} (h1:a≤10):2*a-1≤900:=EY (KB _ _) (EY (FI 2 h1) (by decide))
theorem BH {a:Nat} (h1:a≤10):(↑a:Int)<2^63:=jLT h1 (by decide)
theorem BU {a b:Nat} (h1:a<b):a-1<b:=E3 (KB _ _) h1
theorem EL {a b:Nat} (h1:a<b):¬(↑b:Int)=(↑a:Int):=by lia
theorem vZ {a:Nat} (h1:a≤1000):a+1≤16777216:=EY (FE h1) (by decide)
theorem DW {a:Int} {b:Nat}:a+(↑b:Int)+1=a+(↑(b+1):Int):=by lia
theorem D7 {a:Nat}:(↑a:Int)≤(↑a:Int)+1:=by lia
theorem DK {a:Nat}:((↑a:Int)+1-(↑a:Int)).toNat=1:=by rw[Pu,Jc];rfl
theorem BP {a:Nat}:a≤a+1:=Fr _ _
theorem Dw {a:Nat}:Km (Pt 0 (↑a:Int)).toNat a=a:=by rw[Od (Ff a)];exact Nat.min_self a
theorem sV {a b c:Nat} (h1:a<1000) (h2:b=1) (h3:c≤a):c+b≤16777216:=h2▸EY (EY (FE h3) h1) (by decide)
theorem EF {a:Nat}:(Pt 0 (Km 6 (↑a:Int))).toNat=Km 6 a:=by cases KP 6 a with|inl h=>rw[OC (show (6:Int)≤a from GM.mpr h),Lg h];rfl|inr h=>rw[Int.min_eq_right (show (a:Int)≤6 from GM.mpr h),Oe h,Od (Ff a)];rfl
theorem Eo {a:Nat} (h1:a≤63):a≤16777216:=nLL h1 rfl
theorem Do {a:Nat}:4+Km 6 a≤1000:=EY (Fi (IT 6 a) 4) (by decide)
theorem Ej {a:Nat}:4+Km 6 a≤10:=Fi (IT 6 a) 4
theorem DH {a:Nat}:4≤4+a:=Fr _ _
theorem EK {a:Nat} (h1:4≤a) (h2:0=a):False:=absurd (EY h1 (E6 (I4 h2))) (by decide)
theorem DO {a b:Nat} (h1:4≤a) (h2:b=a):4≤b:=EY h1 (E6 (I4 h2))
theorem Ei {a b:Nat} (h1:a≤10) (h2:b=a):b≤10:=EY (E6 h2) h1
theorem z7 {a:Nat} (h1:a<2^62):¬(↑a:Int)≥2^63:=QC.mpr (jTT h1 (by decide))
theorem Ba {a b:Nat} (h1:a≤1000) (h2:b=1):a+b≤16777216:=h2▸EY (FE h1) (by decide)
theorem Ek {a:Nat}:¬97+a=39:=by lia
theorem DA {a:Nat}:¬97+a=34:=by lia
theorem w5 {a:Nat} (h1:a<3):a=0∨a=1∨a=2:=by
 cases a with
 |zero=>exact .inl rfl
 |succ n=>cases n with
  |zero=>exact .inr (.inl rfl)
  |succ m=>exact .inr (.inr (congrArg (·+2) (OT.mp (MM (MM h1)))))
theorem Dv {a b c:Nat} (h1:a=b) (h2:1≤c) (h3:c≤b):c-1<a:=by rw[h1];exact E1 (KC h2 (by decide)) h3
theorem A1 {a b c:Nat} (h1:a=b) (h2:c-1<b):c-1<a:=E1 h2 (E6 (I4 h1))
theorem A7 {a:Nat}:((↑a:Int)-1).toNat=a-1:=Int.toNat_sub a 1
theorem DR {a:Nat} (h1:1≤a):0≤(↑a:Int)-1:=by lia
theorem Dz {a:Nat} (h1:0<a):¬(↑a:Int)=0:=by lia
theorem Bn {a:Nat}: -2^63≤(↑a:Int):=Ff _
theorem EN {a b:Nat} (h1:(↑a:Int)<(↑b:Int)):a≤b:=by lia
theorem DE {a b c d:Nat} (h1:a+b=c+1) (h2:d+1=a):d+(b+1)=c+1:=by rw[←h1,←h2];exact (Jb d 1 b).symm
theorem Bv {a b:Nat} (h1:a<b):Km a b=a:=Lg (Fs h1)
theorem Bj {a b c:Nat} (h1:a+16*(b+1)+16<c):a+1+16*b+16<c:=g16 h1 (by decide)
theorem Dx {a b e f g:Nat} (h3:a≤e) (h5:e+1<b) (h4:f≤g+1):2*(b-(e+1))+f+1<2*(b-a)+g+1:=by lia
theorem DS {a b f d:Nat} (h:a<b) (h4:f≤d+1):f<2*(b-a)+d+1:=E3 h4 (K3 (ML (Nat.mul_pos (by decide) (KO h))))
theorem pwm {a b:Nat} (hk:a<10) (hm:b=59∨b=124) (h:97+a=b):False:=by lia
theorem rg0 (t:Nat):(if (0:Int)<(t:Int) then (t:Int)-0 else 0)=(t:Int):=by
 cases t with
 |zero=>rfl
 |succ n=>rw[if_pos (show (0:Int)<((n+1:Nat):Int) from FO.mpr (Iz n)),Int.sub_zero]
theorem rg1 (t:Nat):(if (1:Int)<1+(t:Int) then 1+(t:Int)-1 else 0)=(t:Int):=by
 cases t with
 |zero=>rfl
 |succ n=>rw[if_pos (Int.lt_add_of_pos_right 1 (show (0:Int)<((n+1:Nat):Int) from FO.mpr (Iz n))),Pu,Jc]
theorem EC {a b:Nat} (h:a≤b):(if (a:Int)<(b:Int) then (b:Int)-(a:Int) else 0)=((b-a:Nat):Int):=by
 split
 ·exact (O8 h).symm
 ·rw[M7 (F9.mp λq=>‹¬_› (FO.mpr q))];rfl
@[elab_as_elim] theorem b8 {γ:Type} {e:γ} {Q:Prop} {x:γ} {Z:γ->Prop} (h:x=e∧Q) (k:Q->Z e):Z x:=h.1▸k h.2
@[elab_as_elim] theorem pv {γ:Type} {e:γ} {Q R:Prop} {x:γ} {Z:γ->Prop} (h:Q∧R∧x=e) (k:Q->R->Z e):Z x:=h.2.2▸k h.1 h.2.1
variable {P Z R S:Prop} {Q QF:Fl->St->Prop} {α β γ δ:Type} {T id:String} {k t i j n blo bhi alo ahi:Nat} {m:MV} {b l L it dx lb js jp io dio dsx pbk fs sx lsc:Addr} {A:Gk} {B names ws As Bs:List Str} {o o':Obj} {h h':Heap} {ms vs args:List MV} {xs:List Value} {m':MO} {ρ:Lo} {v f:Value} {st':St} {x name y buf W Pc tok esc:Str} {r value e test slice target iter elt:G0} {u:Option MV} {ts:List T4} {body orelse:List Stmt} {es ifs:List G0} {items:Array Value} {QU Cond:St->Prop} {env:Env} {pos apos pos' cpos p2 p4 p5 p6 p7 p3 pt:Pos} {fd:FuncData} {σ' φ' φ:Sg} {X:Xc} {prog:Program} {E:Value->Shared->Prop} {gs:List (Str×Value)} {scope:O7} {kw:List (Str×MV)} {ys:List P2} {ta tb:Nv} {cur:N3} {ls:LS} {pb:Option Str} {ds:List LD}
theorem xa1 {Q:Prop} (h:P∧Q) (k:P->Q->Z):Z:=k h.1 h.2
theorem g4 {Q:α->Prop} (h:P∧∃x,Q x) (k:P->∀x,Q x->Z):Z:=h.2.elim λa h0=>k h.1 a h0
theorem jD {Q R:α->β->Prop} (h:P∧∃x,∃y,Q x y∧R x y) (k:P->∀x y,Q x y->R x y->Z):Z:=h.2.elim λa h0=>h0.elim λb h1=>k h.1 a b h1.1 h1.2
theorem xa2 {Q:Prop} (h:P∧Q∧R) (k:P->Q->R->Z):Z:=k h.1 h.2.1 h.2.2
theorem xa3 {Q:Prop} (h:P∧Q∧R∧S) (k:P->Q->R->S->Z):Z:=k h.1 h.2.1 h.2.2.1 h.2.2.2
theorem xa4 {Q T:Prop} (h:P∧Q∧R∧S∧T) (k:P->Q->R->S->T->Z):Z:=k h.1 h.2.1 h.2.2.1 h.2.2.2.1 h.2.2.2.2
theorem xe1 {P:α->Prop} (h:∃x,P x) (k:∀x,P x->Z):Z:=h.elim λa h0=>k a h0
theorem ad {P Q:α->Prop} (h:∃x,P x∧Q x) (k:∀x,P x->Q x->Z):Z:=h.elim λa h0=>k a h0.1 h0.2
theorem aV {P Q R:α->Prop} (h:∃x,P x∧Q x∧R x) (k:∀x,P x->Q x->R x->Z):Z:=h.elim λa h0=>k a h0.1 h0.2.1 h0.2.2
theorem gf {P Q:α->Prop} {R S:α->β->Prop} (h:∃x,P x∧Q x∧∃y,R x y∧S x y) (k:∀x,P x->Q x->∀y,R x y->S x y->Z):Z:=h.elim λa h0=>h0.2.2.elim λb h1=>k a h0.1 h0.2.1 b h1.1 h1.2
theorem gh {P Q R S:α->Prop} (h:∃x,P x∧Q x∧R x∧S x) (k:∀x,P x->Q x->R x->S x->Z):Z:=h.elim λa h0=>k a h0.1 h0.2.1 h0.2.2.1 h0.2.2.2
theorem fy {P Q R S T:α->Prop} (h:∃x,P x∧Q x∧R x∧S x∧T x) (k:∀x,P x->Q x->R x->S x->T x->Z):Z:=h.elim λa h0=>k a h0.1 h0.2.1 h0.2.2.1 h0.2.2.2.1 h0.2.2.2.2
theorem xe2 {P:α->β->Prop} (h:∃x,∃y,P x y) (k:∀x y,P x y->Z):Z:=h.elim λa h0=>h0.elim λb h1=>k a b h1
theorem am {P Q:α->β->Prop} (h:∃x,∃y,P x y∧Q x y) (k:∀x y,P x y->Q x y->Z):Z:=h.elim λa h0=>h0.elim λb h1=>k a b h1.1 h1.2
theorem bM {P Q R:α->β->Prop} (h:∃x,∃y,P x y∧Q x y∧R x y) (k:∀x y,P x y->Q x y->R x y->Z):Z:=h.elim λa h0=>h0.elim λb h1=>k a b h1.1 h1.2.1 h1.2.2
theorem lr {P Q R S:α->β->Prop} (h:∃x,∃y,P x y∧Q x y∧R x y∧S x y) (k:∀x y,P x y->Q x y->R x y->S x y->Z):Z:=h.elim λa h0=>h0.elim λb h1=>k a b h1.1 h1.2.1 h1.2.2.1 h1.2.2.2
theorem i8 {P Q R:α->β->Prop} {S T:α->β->γ->Prop} (h:∃x,∃y,P x y∧Q x y∧R x y∧∃z,S x y z∧T x y z) (k:∀x y,P x y->Q x y->R x y->∀z,S x y z->T x y z->Z):Z:=h.elim λa h0=>h0.elim λb h1=>h1.2.2.2.elim λc h2=>k a b h1.1 h1.2.1 h1.2.2.1 c h2.1 h2.2
theorem fv {P Q R S T:α->β->Prop} (h:∃x,∃y,P x y∧Q x y∧R x y∧S x y∧T x y) (k:∀x y,P x y->Q x y->R x y->S x y->T x y->Z):Z:=h.elim λa h0=>h0.elim λb h1=>k a b h1.1 h1.2.1 h1.2.2.1 h1.2.2.2.1 h1.2.2.2.2
theorem ia {P Q R S T U:α->β->Prop} (h:∃x,∃y,P x y∧Q x y∧R x y∧S x y∧T x y∧U x y) (k:∀x y,P x y->Q x y->R x y->S x y->T x y->U x y->Z):Z:=h.elim λa h0=>h0.elim λb h1=>k a b h1.1 h1.2.1 h1.2.2.1 h1.2.2.2.1 h1.2.2.2.2.1 h1.2.2.2.2.2
theorem gu {P Q:α->β->γ->Prop} (h:∃x,∃y,∃z,P x y z∧Q x y z) (k:∀x y z,P x y z->Q x y z->Z):Z:=h.elim λa h0=>h0.elim λb h1=>h1.elim λc h2=>k a b c h2.1 h2.2
theorem iw {P Q R S:α->β->γ->Prop} (h:∃x,∃y,∃z,P x y z∧Q x y z∧R x y z∧S x y z) (k:∀x y z,P x y z->Q x y z->R x y z->S x y z->Z):Z:=h.elim λa h0=>h0.elim λb h1=>h1.elim λc h2=>k a b c h2.1 h2.2.1 h2.2.2.1 h2.2.2.2
theorem Cp {P Q R S T:α->β->γ->Prop} (h:∃x,∃y,∃z,P x y z∧Q x y z∧R x y z∧S x y z∧T x y z) (k:∀x y z,P x y z->Q x y z->R x y z->S x y z->T x y z->Z):Z:=h.elim λa h0=>h0.elim λb h1=>h1.elim λc h2=>k a b c h2.1 h2.2.1 h2.2.2.1 h2.2.2.2.1 h2.2.2.2.2
theorem Cg {P Q R S T U V:α->β->γ->δ->Prop} (h:∃x,∃y,∃z,∃u,P x y z u∧Q x y z u∧R x y z u∧S x y z u∧T x y z u∧U x y z u∧V x y z u) (k:∀x y z u,P x y z u->Q x y z u->R x y z u->S x y z u->T x y z u->U x y z u->V x y z u->Z):Z:=h.elim λa h0=>h0.elim λb h1=>h1.elim λc h2=>h2.elim λd h3=>k a b c d h3.1 h3.2.1 h3.2.2.1 h3.2.2.2.1 h3.2.2.2.2.1 h3.2.2.2.2.2.1 h3.2.2.2.2.2.2
theorem bx {P Q:α->β->γ->δ->Prop} (h:∃x,∃y,∃z,∃u,P x y z u∧Q x y z u) (k:∀x y,∀z u,P x y z u->Q x y z u->Z):Z:=h.elim λa h0=>h0.elim λb h1=>h1.elim λc h2=>h2.elim λd h3=>k a b c d h3.1 h3.2
theorem gH {Q R:α->Prop} (a:P) (x:α) (c:Q x) (d:R x):P∧∃x,Q x∧R x:=⟨a,x,c,d⟩
theorem jr {Q:α->β->Prop} (a:P) (x:α) (y:β) (d:Q x y):P∧∃x,∃y,Q x y:=⟨a,x,y,d⟩
theorem ju {Q R:α->β->Prop} (a:P) (x:α) (y:β) (d:Q x y) (e:R x y):P∧∃x,∃y,Q x y∧R x y:=⟨a,x,y,d,e⟩
theorem ia2 {Q:Prop} (a:P) (b:Q) (c:R):P∧Q∧R:=⟨a,b,c⟩
theorem ia3 {Q:Prop} (a:P) (b:Q) (c:R) (d:S):P∧Q∧R∧S:=⟨a,b,c,d⟩
theorem ia4 {Q T:Prop} (a:P) (b:Q) (c:R) (d:S) (e:T):P∧Q∧R∧S∧T:=⟨a,b,c,d,e⟩
theorem ia6 {Q T U V:Prop} (a:P) (b:Q) (c:R) (d:S) (e:T) (f:U) (g:V):P∧Q∧R∧S∧T∧U∧V:=⟨a,b,c,d,e,f,g⟩
theorem af {P Q:α->Prop} (x:α) (b:P x) (c:Q x):∃x,P x∧Q x:=⟨x,b,c⟩
theorem c7 {P:α->Prop} {Q:α->β->Prop} (x:α) (b:P x) (y:β) (d:Q x y):∃x,P x∧∃y,Q x y:=⟨x,b,y,d⟩
theorem aR {P Q R:α->Prop} (x:α) (b:P x) (c:Q x) (d:R x):∃x,P x∧Q x∧R x:=⟨x,b,c,d⟩
theorem ck {P Q:α->Prop} {R:α->β->Prop} (x:α) (b:P x) (c:Q x) (y:β) (e:R x y):∃x,P x∧Q x∧∃y,R x y:=⟨x,b,c,y,e⟩
theorem iK {P Q:α->Prop} {R S:α->β->Prop} (x:α) (b:P x) (c:Q x) (y:β) (e:R x y) (f:S x y):∃x,P x∧Q x∧∃y,R x y∧S x y:=⟨x,b,c,y,e,f⟩
theorem cI {P Q R S:α->Prop} (x:α) (b:P x) (c:Q x) (d:R x) (e:S x):∃x,P x∧Q x∧R x∧S x:=⟨x,b,c,d,e⟩
theorem gk {P Q R S T:α->Prop} (x:α) (b:P x) (c:Q x) (d:R x) (e:S x) (f:T x):∃x,P x∧Q x∧R x∧S x∧T x:=⟨x,b,c,d,e,f⟩
theorem ie2 {P:α->β->Prop} (x:α) (y:β) (c:P x y):∃x,∃y,P x y:=⟨x,y,c⟩
theorem cz {P Q:α->β->Prop} (x:α) (y:β) (c:P x y) (d:Q x y):∃x,∃y,P x y∧Q x y:=⟨x,y,c,d⟩
theorem cZ {P Q R:α->β->Prop} (x:α) (y:β) (c:P x y) (d:Q x y) (e:R x y):∃x,∃y,P x y∧Q x y∧R x y:=⟨x,y,c,d,e⟩
theorem fB {P Q R S:α->β->Prop} (x:α) (y:β) (c:P x y) (d:Q x y) (e:R x y) (f:S x y):∃x,∃y,P x y∧Q x y∧R x y∧S x y:=⟨x,y,c,d,e,f⟩
theorem hU {P Q R S T:α->β->Prop} (x:α) (y:β) (c:P x y) (d:Q x y) (e:R x y) (f:S x y) (g:T x y):∃x,∃y,P x y∧Q x y∧R x y∧S x y∧T x y:=⟨x,y,c,d,e,f,g⟩
theorem ie3 {P:α->β->γ->Prop} (x:α) (y:β) (z:γ) (d:P x y z):∃x,∃y,∃z,P x y z:=⟨x,y,z,d⟩
theorem oG {P Q:α->β->γ->Prop} (x:α) (y:β) (z:γ) (d:P x y z) (e:Q x y z):∃x,∃y,∃z,P x y z∧Q x y z:=⟨x,y,z,d,e⟩
theorem jt {P Q R:α->β->γ->Prop} (x:α) (y:β) (z:γ) (d:P x y z) (e:Q x y z) (f:R x y z):∃x,∃y,∃z,P x y z∧Q x y z∧R x y z:=⟨x,y,z,d,e,f⟩
theorem lQ {P Q R S T:α->β->γ->Prop} (x:α) (y:β) (z:γ) (d:P x y z) (e:Q x y z) (f:R x y z) (g:S x y z) (h:T x y z):∃x,∃y,∃z,P x y z∧Q x y z∧R x y z∧S x y z∧T x y z:=⟨x,y,z,d,e,f,g,h⟩
theorem jA {P Q R:α->β->γ->δ->Prop} (x:α) (y:β) (z:γ) (u:δ) (e:P x y z u) (f:Q x y z u) (g:R x y z u):∃x,∃y,∃z,∃u,P x y z u∧Q x y z u∧R x y z u:=⟨x,y,z,u,e,f,g⟩
theorem eU {P Q R S T U:α->β->γ->δ->Prop} (x:α) (y:β) (z:γ) (u:δ) (e:P x y z u) (f:Q x y z u) (g:R x y z u) (h:S x y z u) (i:T x y z u) (j:U x y z u):∃x,∃y,∃z,∃u,P x y z u∧Q x y z u∧R x y z u∧S x y z u∧T x y z u∧U x y z u:=⟨x,y,z,u,e,f,g,h,i,j⟩
theorem aTL {a m:Nat} (h:a<k) (hk:IQ k (m+1)=true):a≤m:=FD (E1 h (Fo hk))
theorem aTT {a m:Nat} (h:a<k) (hk:IQ k m=true):a<m:=E1 h (Fo hk)
theorem El {a m c:Nat} (h:a<k) (hk:IQ (k+c) m=true):a+c<m:=E1 (IR h c) (Fo hk)
theorem Es {a m c:Nat} (h:a<k) (hk:IQ (k+c) (m+1)=true):a+c≤m:=FD (E1 (IR h c) (Fo hk))
theorem iTT {a k:Nat} {m:Int} (h:a<k) (hk:decide ((k:Int)≤m)=true):(a:Int)<m:=NJ (FO.mpr h) (of_decide_eq_true hk)
theorem iGe {a:Nat} {m:Int} (hk:decide (m≤0)=true):m≤(a:Int):=Iv (of_decide_eq_true hk) (Ff a)
theorem lz {a:Nat} (h:a<0):P:=(JV a h).elim
theorem p1 {b:Nat} (h:1≤b):b-1<b:=KC h (K4 0)
theorem p1' {a b:Nat} (h:a<b):b-1<b:=p1 (E3 (FY _) h)
theorem cs {a b:Nat} (h:a≤b):(b:Int)-a=((b-a:Nat):Int):=(O8 h).symm
theorem tp1 {a b:Nat} (h:a<b):((b:Int)-1).toNat=b-1:=by exact A7
theorem tp0 {a b:Nat} (h:a<b):0≤(b:Int)-1:=by exact Int.sub_nonneg_of_le (GM.mpr (E3 (FY _) h))
theorem tpa (a b:Nat):((a:Int)+b).toNat=a+b:=FU (a+b)
theorem x1 {a c:Nat} (h:a+1<c):(a:Int)+(1:Nat)<c:=by exact FO.mpr h
theorem ifT {c:Prop} [Decidable c] {A B:Prop} (h:c) (a:A):if c then A else B:=(if_pos h).mpr a
theorem ifF {c:Prop} [Decidable c] {A B:Prop} (h:¬c) (b:B):if c then A else B:=(if_neg h).mpr b
section
local macro_rules | `(tactic|rw[$rs,*])=>rwm (JS rs.elemsAndSeps)
local macro_rules | `(tactic|rw[if_pos $h])=>ifm `ifT `if_pos h
local macro_rules | `(tactic|rw[if_neg $h])=>ifm `ifF `if_neg h
local macro_rules | `(tactic|decide%$k)=>csm k DF #[]
local macro_rules | `(tactic|decide%$k+kernel)=>csm k Ea #[]
local macro_rules | `(s! $s)=>sbm s
local macro_rules | `(tactic|cases%$k $h:ident)=>csm k csA #[h]
local macro_rules | `(tactic|cases%$k (show $t from $e))=>csm k csB #[t,e]
section
inductive MV
 |k (v:Value)
 |i (n:Int)
 |s (x:Str)
 |t (c:Value) (vs:List MV)
 |r (a:Addr)
 |bm (f:String) (self:MV)
noncomputable abbrev Lo:=List (Str×Option MV)
inductive MO
 |lst (vs:List MV)
 |dS (f:Str->Option MV)
 |dI (f:Int->Option MV)
 |ins (c:Addr) (dx:Addr)
 |ns (m:List (Str×MV))
 |deq (vs:List MV)
 |set0
 |cel (v:Option MV)
 |fr (ρ:Lo)
 |itl (l:Addr) (i:Nat)
 |any (P:Obj->Prop)
 |hp (P:Heap->Obj->Prop)
noncomputable abbrev Sg:=Addr->Option MO
noncomputable def Sg.put (σ:Sg) (a:Addr) (o:MO):Sg:=λb=>if b=a then EU o else σ b
noncomputable def Sg.del (σ:Sg) (a:Addr):Sg:=λb=>if b=a then none else σ b
theorem Sg.put_same (σ:Sg) (a:Addr) (o:MO):σ.put a o a=EU o:=if_pos rfl
theorem Sg.put_ne (σ:Sg) {a:Addr} (o:MO) (h:b≠a):σ.put a o b=σ b:=if_neg h
noncomputable def imm (o:Obj):Bool:=match o.data,o.cls with
 | .dict ..,_=>false
 | .cell _,_=>false
 |_,.type c=>c=="tuple" ||c=="builtin_function_or_method"
 |_,.ref a=>a==153
 |_,_=>false
theorem qH {v} (h:o.data= .cell v):imm o=false:=by unfold imm;rw[h]
theorem kq {es n} (h:o.data= .dict es n):imm o=false:=by unfold imm;rw[h]
mutual
noncomputable def VR (h:Heap):MV->Value->Prop
 | .k v,x=>x=v
 | .i n,x=>∃t,x= .int n t
 | .s y,x=>∃t,x= .str y t
 | .t c vs,x=>∃a o items n,x= .ref a∧h.get? a=EU o∧imm o=true∧o.cls=c∧o.data= .seq items n∧VRs h vs items.toList
 | .r a,x=>x= .ref a
 | .bm f m,x=>∃a o y,x= .ref a∧h.get? a=EU o∧imm o=true∧o.cls= .type "builtin_function_or_method" ∧o.data= .fields #[.builtin f,y]∧VR h m y
noncomputable def VRs (h:Heap):List MV->List Value->Prop
 | [],xs=>xs=[]
 |m::ms,xs=>∃y ys,xs=y::ys∧VR h m y∧VRs h ms ys
end
noncomputable def Keep (h h':Heap):Prop:=∀b o,h.get? b=EU o->imm o=true->h'.get? b=EU o
theorem Keep.refl (h:Heap):Keep h h:=λ_ _ e _=>e
theorem Keep.trans {h₁ h₂ h₃:Heap} (x:Keep h₁ h₂) (y:Keep h₂ h₃):Keep h₁ h₃:=λb o e i=>y b o (x b o e i) i
mutual
theorem VR.keep {h h':Heap} (k:Keep h h'):∀{m:MV} {x:Value},VR h m x->VR h' m x
 | .k _,_,e=>e
 | .i _,_,e=>e
 | .s _,_,e=>e
 | .t _ _,_,h=>by
  refine bx h λa o items n e1 z1=>?_;refine xa4 z1 λe2 e3 e4 e5 e6=>?_;exact (eU a o items n e1 (k _ _ e2 e3) e3 e4 e5 (VRs.keep k e6))
 | .r _,_,e=>e
 | .bm _ _,_,h=>by
  refine iw h λa o y e1 e2 e3 z1=>?_;refine xa2 z1 λe4 e5 e6=>?_;exact (lQ a o y e1 (k _ _ e2 e3) e3 e4 ⟨e5,VR.keep k e6⟩)
theorem VRs.keep {h h':Heap} (k:Keep h h'):∀{m:List MV} {x:List Value},VRs h m x->VRs h' m x
 | [],_,e=>e
 |_::_,_,h=>by
  refine bM h λy ys e1 e2 e3=>?_;exact (cZ y ys e1 (VR.keep k e2) (VRs.keep k e3))
end
theorem cH (h:Heap) (n:Int) (t:Nv):VR h (.i n) (.int n t):=⟨t,rfl⟩
theorem ft (h:Heap) (x:Str) (t:Nv):VR h (.s x) (.str x t):=⟨t,rfl⟩
theorem ba (h:Heap) (v:Value):VR h (.k v) v:=rfl
theorem bN (h:Heap) (a:Addr):VR h (.r a) (.ref a):=rfl
theorem VRs.nil (h:Heap):VRs h [] []:=by unfold VRs;rfl
theorem VRs.cons {m ms x xs} (a:VR h m x) (b:VRs h ms xs):VRs h (m::ms) (x::xs):=by unfold VRs;exact (cZ x xs rfl a b)
theorem g7 {m:MV} {P:List Value->Prop} (r:VRs h (m::ms) xs) (k:∀v vs,VR h m v->VRs h ms vs->P (v::vs)):P xs:=by
 unfold VRs at r;refine bM r λv vs e a b=>?_;rw[e];exact k v vs a b
theorem fm {P:List Value->Prop} (r:VRs h [] xs) (k:P []):P xs:=by
 unfold VRs at r;rw[r];exact k
theorem hN {a:Addr} {P:List Value->Prop} (r:VRs h (.r a::ms) xs) (k:∀vs,VRs h ms vs->P (.ref a::vs)):P xs:=g7 r λv vs e r=>by
 rw[show v= .ref a from e];exact k vs r
theorem kJ {a:Int} {P:List Value->Prop} (r:VRs h (.i a::ms) xs) (k:∀t vs,VRs h ms vs->P (.int a t::vs)):P xs:=g7 r λv vs e r=>e.elim λt e=>by
 rw[e];exact k t vs r
theorem jv {a:Str} {P:List Value->Prop} (r:VRs h (.s a::ms) xs) (k:∀t vs,VRs h ms vs->P (.str a t::vs)):P xs:=g7 r λv vs e r=>e.elim λt e=>by
 rw[e];exact k t vs r
@[elab_as_elim] theorem wt {a:Int} {P:List Value->Prop} (r:VRs h [.i a] xs) (k:∀t0,P [.int a t0]):P xs:=kJ r λt0 _ r0=>fm (P:=λl=>P (.int a t0::l)) r0 (k t0)
@[elab_as_elim] theorem Db {a:Int} {b:Int} {P:List Value->Prop} (r:VRs h [.i a,.i b] xs) (k:∀t0 t1,P [.int a t0,.int b t1]):P xs:=kJ r λt0 _ r0=>kJ (P:=λl=>P (.int a t0::l)) r0 λt1 _ r1=>fm (P:=λl=>P (.int a t0:: .int b t1::l)) r1 (k t0 t1)
@[elab_as_elim] theorem BY {a:MV} {b:MV} {P:List Value->Prop} (r:VRs h [a,b] xs) (k:∀v0 v1,VR h a v0->VR h b v1->P [v0,v1]):P xs:=g7 r λv0 _ e0 r0=>g7 (P:=λl=>P (v0::l)) r0 λv1 _ e1 r1=>fm (P:=λl=>P (v0::v1::l)) r1 (k v0 v1 e0 e1)
@[elab_as_elim] theorem fN {a:Addr} {P:List Value->Prop} (r:VRs h [.r a] xs) (k:P [.ref a]):P xs:=hN r λ_ r0=>fm (P:=λl=>P (.ref a::l)) r0 k
@[elab_as_elim] theorem tN {a:Addr} {b:MV} {P:List Value->Prop} (r:VRs h [.r a,b] xs) (k:∀v1,VR h b v1->P [.ref a,v1]):P xs:=hN r λ_ r0=>g7 (P:=λl=>P (.ref a::l)) r0 λv1 _ e1 r1=>fm (P:=λl=>P (.ref a::v1::l)) r1 (k v1 e1)
@[elab_as_elim] theorem u7 {a:Addr} {b:MV} {c:MV} {P:List Value->Prop} (r:VRs h [.r a,b,c] xs) (k:∀v1 v2,VR h b v1->VR h c v2->P [.ref a,v1,v2]):P xs:=hN r λ_ r0=>g7 (P:=λl=>P (.ref a::l)) r0 λv1 _ e1 r1=>g7 (P:=λl=>P (.ref a::v1::l)) r1 λv2 _ e2 r2=>fm (P:=λl=>P (.ref a::v1::v2::l)) r2 (k v1 v2 e1 e2)
@[elab_as_elim] theorem Ci {a:Addr} {P:List Value->Prop} (r:VRs h [.r a,.r b] xs) (k:P [.ref a,.ref b]):P xs:=hN r λ_ r0=>hN (P:=λl=>P (.ref a::l)) r0 λ_ r1=>fm (P:=λl=>P (.ref a:: .ref b::l)) r1 k
@[elab_as_elim] theorem B0 {a:Addr} {b:Str} {P:List Value->Prop} (r:VRs h [.r a,.s b] xs) (k:∀t1,P [.ref a,.str b t1]):P xs:=hN r λ_ r0=>jv (P:=λl=>P (.ref a::l)) r0 λt1 _ r1=>fm (P:=λl=>P (.ref a:: .str b t1::l)) r1 (k t1)
@[elab_as_elim] theorem wQ {a:Str} {P:List Value->Prop} (r:VRs h [.s a] xs) (k:∀t0,P [.str a t0]):P xs:=jv r λt0 _ r0=>fm (P:=λl=>P (.str a t0::l)) r0 (k t0)
@[elab_as_elim] theorem CS {a:Str} {b:MV} {P:List Value->Prop} (r:VRs h [.s a,b] xs) (k:∀t0 v1,VR h b v1->P [.str a t0,v1]):P xs:=jv r λt0 _ r0=>g7 (P:=λl=>P (.str a t0::l)) r0 λv1 _ e1 r1=>fm (P:=λl=>P (.str a t0::v1::l)) r1 (k t0 v1 e1)
@[elab_as_elim] theorem xC {a:Str} {P:List Value->Prop} (r:VRs h [.s a,.r b] xs) (k:∀t0,P [.str a t0,.ref b]):P xs:=jv r λt0 _ r0=>hN (P:=λl=>P (.str a t0::l)) r0 λ_ r1=>fm (P:=λl=>P (.str a t0:: .ref b::l)) r1 (k t0)
@[elab_as_elim] theorem yi {a:Str} {b:Str} {c:Int} {d:Int} {P:List Value->Prop} (r:VRs h [.s a,.s b,.i c,.i d] xs) (k:∀t0 t1 t2 t3,P [.str a t0,.str b t1,.int c t2,.int d t3]):P xs:=jv r λt0 _ r0=>jv (P:=λl=>P (.str a t0::l)) r0 λt1 _ r1=>kJ (P:=λl=>P (.str a t0:: .str b t1::l)) r1 λt2 _ r2=>kJ (P:=λl=>P (.str a t0:: .str b t1:: .int c t2::l)) r2 λt3 _ r3=>fm (P:=λl=>P (.str a t0:: .str b t1:: .int c t2:: .int d t3::l)) r3 (k t0 t1 t2 t3)
theorem VRs.length {h:Heap}:∀{ms:List MV} {xs:List Value},VRs h ms xs->xs.length=ms.length
 | [],_,e=>by unfold VRs at e;rw[e];rfl
 |_::_,_,e=>by
  unfold VRs at e;refine am e λy ys z1 z2=>?_;clear e;subst z1;obtain ⟨_,e3⟩:=z2;simp[VRs.length e3]
theorem VRs.get {h:Heap}:∀{ms:List MV} {xs:List Value} {i:Nat} {m:MV},VRs h ms xs->ms[i]?=EU m->∃x,xs[i]?=EU x∧VR h m x
 | [],_,_,_,_,e=>by simp at e
 |m::ms,_,i,m',e,e'=>by
  unfold VRs at e;refine am e λy ys z1 z2=>?_;clear e;subst z1;refine xa1 z2 λe2 e3=>?_;clear z2
  cases i with
  |zero=>simp at e';subst e';exact (af y rfl e2)
  |succ i=>exact VRs.get (i:=i) e3 (by simpa using e')
theorem VRs.append {h:Heap}:∀{ms ms':List MV} {xs xs':List Value},VRs h ms xs->VRs h ms' xs'->VRs h (ms++ms') (xs++xs')
 | [],_,_,_,e,e'=>by unfold VRs at e;subst e;exact e'
 |_::_,_,_,_,e,e'=>by
  unfold VRs at e;refine am e λy ys z1 z2=>?_;clear e;subst z1;refine xa1 z2 λe2 e3=>?_;exact VRs.cons e2 (VRs.append e3 e')
noncomputable def lk:Lo->Str->Option (Option MV)
 | [],_=>none
 |(n,v)::l,x=>if x=n then EU v else lk l x
noncomputable def stL:Lo->Str->MV->Lo
 | [],_,_=>[]
 |(n,v)::l,x,m=>if x=n then (n,EU m)::l else (n,v)::stL l x m
theorem gT:∀(l:Lo) (x y:Str) (m:MV),lk (stL l x m) y=if y=x then (lk l x).map λ_=>EU m else lk l y
 | [],x,y,m=>by simp[stL,lk]
 |(n,v)::l,x,y,m=>by
  unfold stL;by_cases h:x=n
  ·subst h;rw[if_pos rfl];by_cases h2:y=x
   ·subst h2;simp[lk]
   ·simp[lk,h2]
  ·rw[if_neg h];by_cases h2:y=n
   ·subst h2;have:¬y=x:=λe=>h e.symm;simp[lk,this]
   ·simp only[lk,if_neg h2,gT l x y m,if_neg h]
noncomputable def FrR (h:Heap) (F:Addr) (ρ:Lo):Prop:=∃m,h.Ns F m∧(∀x v,lk ρ x=EU (EU v)->∃y,m x=EU y∧VR h v y)
noncomputable def nk:List (Str×MV)->Str->Option MV
 | [],_=>none
 |(n,v)::l,x=>if x=n then EU v else nk l x
noncomputable def NsR (h:Heap):List (Str×MV)->List DictEntry->Prop
 | [],es=>es=[]
 |(k,v)::m,es=>∃e es',es=e::es'∧(∃t,e.key= .str k t)∧VR h v e.val∧NsR h m es'
theorem NsR.keep {h h':Heap} (k:Keep h h'):∀{m:List (Str×MV)} {es:List DictEntry},NsR h m es->NsR h' m es
 | [],_,e=>e
 |(_,_)::_,_,h=>by
  refine lr h λe es' e1 e2 e3 e4=>?_;exact (fB e es' e1 e2 (e3.keep k) (NsR.keep k e4))
noncomputable def OR (h:Heap) (a:Addr):MO->Prop
 | .ins c dx=>h.get? a=EU {cls:= .ref c,dict:=EU dx,data:= .plain}∧c≠153
 | .ns m=>∃es n,h.get? a=EU {cls:= .type "dict",data:= .dict es n}∧NsR h m es.toList
 | .lst vs=>∃items,h.PlainList a items∧VRs h vs items.toList
 | .fr ρ=>FrR h a ρ
 | .itl l i=>h.IsListIter a l i
 | .any P=>∃o,h.get? a=EU o∧imm o=false∧P o
 | .hp P=>∃o h₀,h.get? a=EU o∧imm o=false∧Keep h₀ h∧P h₀ o
 | .cel none=>h.IsCell a none
 | .cel (EU m)=>∃v,h.IsCell a (EU v)∧VR h m v
 |_=>False
theorem OR.notImm {a:Addr} {m:MO} (x:OR h a m):∃o,h.get? a=EU o∧imm o=false:=by
 cases m with
 |lst vs=>refine ad x λitems z1 _=>?_;clear x;refine xe1 z1 λn e=>?_;clear z1;exact (af _ e rfl)
 |fr ρ=>refine ad x λm z1 _=>?_;clear x;refine gu z1 λo es ep ho z2=>?_;clear z1;obtain ⟨hd,_⟩:=z2;exact (af o ho (kq hd))
 |itl l i=>refine aV x λo ho hc hd=>?_;clear x;exact (af o ho (by unfold imm;rw[hd,hc];rfl))
 |any P=>refine aV x λo ho hi _=>?_;clear x;exact (af o ho hi)
 |hp P=>refine bM x λo _ ho hi _=>?_;clear x;exact (af o ho hi)
 |ins c dx=>exact (af _ x.1 (by show (c==153)=false;simpa using x.2))
 |ns m=>refine am x λes n ho _=>?_;clear x;exact (af _ ho rfl)
 |cel v=>
  cases v with
  |none=>refine ad x λo ho hd=>?_;exact (af o ho (qH hd))
  |some m=>refine ad x λv z1 _=>?_;refine ad z1 λo ho hd=>?_;exact (af o ho (qH hd))
 |_=>exact x.elim
theorem Heap.Ns.same {a m} (x:h.Ns a m) (e:h'.get? a=h.get? a):h'.Ns a m:=by
 refine gu x λo es ep ho r=>?_;exact (oG o es ep (e.trans ho) r)
theorem OR.keep {h h':Heap} {a:Addr} {m:MO} (x:OR h a m) (e:h'.get? a=h.get? a) (k:Keep h h'):OR h' a m:=by
 cases m with
 |lst vs=>refine ad x λitems z1 e6=>?_;clear x;obtain ⟨n,e1⟩:=z1;exact (af items ⟨n,e.trans e1⟩ (e6.keep k))
 |fr ρ=>
  refine ad x λm e1 e2=>?_;clear x;exact (af m (Heap.Ns.same e1 e) (λx v hx=>let ⟨y,a,b⟩:=e2 x v hx;⟨y,a,b.keep k⟩))
 |itl l i=>refine ad x λo ho r=>?_;clear x;exact (af o (e.trans ho) r)
 |any P=>refine ad x λo ho r=>?_;clear x;exact (af o (e.trans ho) r)
 |hp P=>refine lr x λo h₀ ho r k0 p=>?_;clear x;exact (fB o h₀ (e.trans ho) r (k0.trans k) p)
 |ins c dx=>exact ⟨e.trans x.1,x.2⟩
 |ns m=>refine am x λes n ho r=>?_;clear x;exact (cz es n (e.trans ho) (r.keep k))
 |cel v=>
  cases v with
  |none=>refine ad x λo ho hd=>?_;exact (af o (e.trans ho) hd)
  |some m=>refine ad x λv z1 r=>?_;refine ad z1 λo ho hd=>?_;exact (af v ⟨o,e.trans ho,hd⟩ (r.keep k))
 |_=>exact x.elim
structure Cx where
 w:FH
 h0:Heap
 os:NH
 last:∃o,h0.get? (h0.objs.size-1)=EU o
structure Inv (C:Cx) (σ:Sg) (s:Shared):Prop where
 old:∀b o,C.h0.get? b=EU o->s.heap.get? b=EU o
 rep:∀a m,σ a=EU m->C.h0.objs.size≤a∧OR s.heap a m
 gens:s.gens= #[]
 os:s.os=C.os
variable {C:Cx} {σ:Sg} {s:Shared}
theorem Inv.sz (I:Inv C σ s):C.h0.objs.size≤s.heap.objs.size:=by
 obtain ⟨o,ho⟩:=C.last;have z:C.h0.objs.size-1<s.heap.objs.size:=Heap.lt_size (I.old _ _ ho);exact KQ z
theorem Inv.toks (I:Inv C σ s) (t:Nat):Inv C σ {s with toks:=t}:=⟨I.old,I.rep,I.gens,I.os⟩
theorem Inv.grow (I:Inv C σ s) (k:∀b o,s.heap.get? b=EU o->h'.get? b=EU o) (t:Nat):Inv C σ {s with heap:=h',toks:=t}:=by
 refine ⟨λb o e=>k b o (I.old b o e),λa m e=>?_,I.gens,I.os⟩;refine xa1 (I.rep a m e) λh1 h2=>?_;refine ad h2.notImm λoo ho _=>?_;exact ⟨h1,h2.keep ((k _ _ ho).trans ho.symm) λb o e _=>k b o e⟩
theorem Inv.lt (I:Inv C σ s) {a:Addr} {m:MO} (e:σ a=EU m):a<s.heap.objs.size:=by
 refine ad ((I.rep a m e).2.notImm) λo ho _=>?_;exact Heap.lt_size ho
theorem Inv.fresh (I:Inv C σ s):σ s.heap.objs.size=none:=by
 cases e:σ s.heap.objs.size with
 |none=>rfl
 |some m=>exact absurd (I.lt e) (Fz _)
theorem Inv.ne (I:Inv C σ s) {a:Addr} {m:MO} (e:σ a=EU m):a≠s.heap.objs.size:=Fh (I.lt e)
theorem keep_push (h:Heap) (o:Obj):Keep h (h.push o):=λ_ _ e _=>Heap.get?_push_of_some o e
theorem uP {a:Addr} (o:Obj) (e:h.get? a=EU o'):(h.push o).get? a=h.get? a:=(Heap.get?_push_of_some o e).trans e.symm
theorem Inv.push (I:Inv C σ s) (o:Obj):Inv C σ {s with heap:=s.heap.push o}:=by
 refine ⟨λb o' e=>Heap.get?_push_of_some o (I.old b o' e),λa m e=>?_,I.gens,I.os⟩
 ·refine xa1 (I.rep a m e) λh1 h2=>?_;refine ad h2.notImm λoo ho _=>?_;exact ⟨h1,h2.keep (uP o ho) (keep_push _ o)⟩
theorem Inv.own (I:Inv C σ s) {a:Addr} {m:MO} (h1:C.h0.objs.size≤a) (h2:OR s.heap a m):Inv C (σ.put a m) s:=by
 refine ⟨I.old,λb n e=>?_,I.gens,I.os⟩;unfold Sg.put at e;split at e
 ·rename_i hb;subst hb;cases e;exact ⟨h1,h2⟩
 ·exact I.rep b n e
theorem Inv.del (I:Inv C σ s) (a:Addr):Inv C (σ.del a) s:=by
 refine ⟨I.old,λb n e=>?_,I.gens,I.os⟩;unfold Sg.del at e;split at e
 ·cases e
 ·exact I.rep b n e
theorem ky {a:Addr} {m:MO} (x:OR h a m) (sb:Heap.SameBut a h h'):Keep h h':=λb o e i=>by
 by_cases hb:b=a
 ·clear sb;subst hb;refine ad x.notImm λo' ho' hi=>?_;rw[e] at ho';cases ho';rw[i] at hi;cases hi
 ·rw[sb.2 b hb];exact e
theorem lK (I:Inv C σ s) {a:Addr} {m:MO} (e:σ a=EU m) (h:C.h0.get? b=EU o):b≠a:=by
 have:=Heap.lt_size h;have:=(I.rep a m e).1;exact Fh (E1 ‹_› this)
theorem Inv.upd (I:Inv C σ s) {a:Addr} {m:MO} (e:σ a=EU m) (sb:Heap.SameBut a s.heap h') (x:OR h' a m'):Inv C (σ.put a m') {s with heap:=h',toks:=t}:=by
 have k:=ky (I.rep a m e).2 sb;refine ⟨λb o hb=>by rw[sb.2 b (lK I e hb)];exact I.old b o hb,λb n hb=>?_,I.gens,I.os⟩
 ·unfold Sg.put at hb;split at hb
  ·rename_i hba;clear sb;subst hba;cases hb;exact ⟨(I.rep _ _ e).1,x⟩
  ·rename_i hba;refine xa1 (I.rep b n hb) λh1 h2=>?_;exact ⟨h1,h2.keep (sb.2 b hba) k⟩
end
section
variable {m:MO} {l:G0}
structure St where
 σ:Sg
 ρ:Lo
structure Xc where
 C:Cx
 A:Gk
 env:Env
 gs:List (Str×Value)
noncomputable abbrev pgm:Program:=E9
noncomputable abbrev Xc.M (X:Xc):Model:=Fa pgm X.C.w
noncomputable def NoE:Value->Shared->Prop:=λ_ _=>False
noncomputable def tot (σ φ:Sg) (F:Addr) (ρ:Lo):Sg:=λa=>if a=F then EU (.fr ρ) else (σ a).or (φ a)
structure IF (X:Xc) (φ:Sg) (st:St) (s:Shared):Prop where
 inv:Inv X.C (tot st.σ φ X.env.locals st.ρ) s
 no:st.σ X.env.locals=none
 dis:∀a m,st.σ a=EU m->φ a=none
 loc:∀x v,lk st.ρ x=EU v->X.env.kindOf x=EU .local∧(x==("__debug__" :Str))=false
structure XOk (X:Xc):Prop where
 fn:X.env.scope.kind= .function
 hh:X.A.handled=none
 glo:∀x v,X.gs.lookup x=EU v->X.env.kindOf x=EU .globalImplicit∧(x==("__debug__" :Str))=false∧
  ∀s,(∀b o,X.C.h0.get? b=EU o->s.heap.get? b=EU o)->∀(E:Value->Shared->Prop) (Q:Value->Shared->Prop),Q v s->E4 X.M X.A (loadGlobal X.env x) Q E s
inductive Post (X:Xc) (φ:Sg) (s:Shared) (Q:MV->St->Prop) (v:Value) (s':Shared):Prop
 |i (m:MV) (st:St) (r:VR s'.heap m v) (I:IF X φ st s') (k:Keep s.heap s'.heap) (q:Q m st)
noncomputable def WV (X:Xc) (t:KW Value) (st:St) (Q:MV->St->Prop):Prop:=∀φ s,IF X φ st s->E4 X.M X.A t (Post X φ s Q) NoE s
noncomputable def WE (X:Xc) (e:G0) (st:St) (Q:MV->St->Prop):Prop:=WV X (eval e X.env) st Q
noncomputable def W1 (X:Xc) (f:Value->KW Value) (a:MV) (st:St) (Q:MV->St->Prop):Prop:=
 ∀φ s v,IF X φ st s->VR s.heap a v->E4 X.M X.A (f v) (Post X φ s Q) NoE s
noncomputable def W2 (X:Xc) (f:Value->Value->KW Value) (a b:MV) (st:St) (Q:MV->St->Prop):Prop:=
 ∀φ s v w,IF X φ st s->VR s.heap a v->VR s.heap b w->E4 X.M X.A (f v w) (Post X φ s Q) NoE s
inductive PostB (X:Xc) (φ:Sg) (s:Shared) (Q:Bool->St->Prop) (b:Bool) (s':Shared):Prop
 |i (st':St) (I:IF X φ st' s') (k:Keep s.heap s'.heap) (q:Q b st')
noncomputable def WB (X:Xc) (e:G0) (st:St) (Q:Bool->St->Prop):Prop:=
 ∀φ s,IF X φ st s->E4 X.M X.A (isTrue e X.env (eval e X.env)) (PostB X φ s Q) NoE s
noncomputable def WT (X:Xc) (a:MV) (st:St) (Q:Bool->St->Prop):Prop:=
 ∀φ s v,IF X φ st s->VR s.heap a v->E4 X.M X.A (NK v) (PostB X φ s Q) NoE s
variable {X:Xc} {st:St} {φ:Sg} {Q:MV->St->Prop}
theorem IF.toks {s:Shared} (I:IF X φ st s) (t:Nat):IF X φ st {s with toks:=t}:=⟨I.inv.toks t,I.no,I.dis,I.loc⟩
theorem IF.tot {s:Shared} (I:IF X φ st s) {a:Addr} {m:MO} (e:st.σ a=EU m):tot st.σ φ X.env.locals st.ρ a=EU m:=by
 unfold Internal.tot;rw[if_neg (λh=>by rw[h,I.no] at e;cases e),e];rfl
theorem IF.own {s:Shared} (I:IF X φ st s) {a:Addr} (e:st.σ a=EU m):OR s.heap a m:=(I.inv.rep a m (I.tot e)).2
theorem IF.upd {s:Shared} (I:IF X φ st s) {a:Addr} {m m':MO} {h':Heap} {t:Nat} (e:st.σ a=EU m) (sb:Heap.SameBut a s.heap h') (x:OR h' a m'):
 IF X φ ⟨st.σ.put a m',st.ρ⟩ {s with heap:=h',toks:=t}:=by
 have ne:a≠X.env.locals:=λh=>by rw[h,I.no] at e;cases e
 have z:=I.inv.upd (t:=t) (I.tot e) sb x
 have q:(Internal.tot st.σ φ X.env.locals st.ρ).put a m'=Internal.tot (st.σ.put a m') φ X.env.locals st.ρ:=by
  funext b;unfold Sg.put Internal.tot;by_cases h1:b=a
  ·clear e sb x z;subst h1;simp[ne]
  ·simp[h1]
 rw[q] at z;refine ⟨z,?_,λb n hb=>?_,I.loc⟩
 ·show (if X.env.locals=a then EU m' else st.σ X.env.locals)=none;rw[if_neg (E8 ne)];exact I.no
 ·have hb:(if b=a then EU m' else st.σ b)=EU n:=hb;by_cases h1:b=a
  ·clear sb x ne z q hb;subst h1;exact I.dis _ _ e
  ·rw[if_neg h1] at hb;exact I.dis _ _ hb
theorem bA {σ φ:Sg} {F:Addr} {a:Addr} (h:tot σ φ F ρ a=none):a≠F∧σ a=none∧φ a=none:=by
 unfold tot at h;split at h
 ·cases h
 ·rename_i ne
  cases h1:σ a with
  |some m=>rw[h1] at h;cases h
  |none=>rw[h1] at h;exact (ia2 ne rfl h)
theorem IF.new {s:Shared} (I:IF X φ st s) (x:OR (s.heap.push o) s.heap.objs.size m):st.σ s.heap.objs.size=none∧IF X φ ⟨st.σ.put s.heap.objs.size m,st.ρ⟩ {s with heap:=s.heap.push o}:=by
 refine xa2 (bA I.inv.fresh) λn1 n2 n3=>?_;have z:=(I.inv.push o).own (a:=s.heap.objs.size) (m:=m) I.inv.sz x
 have q:(Internal.tot st.σ φ X.env.locals st.ρ).put s.heap.objs.size m=Internal.tot (st.σ.put s.heap.objs.size m) φ X.env.locals st.ρ:=by
  funext b;unfold Sg.put Internal.tot;by_cases h1:b=s.heap.objs.size
  ·subst h1;simp[n1]
  ·simp[h1]
 rw[q] at z;refine ⟨n2,z,?_,λb n hb=>?_,I.loc⟩
 ·show (if X.env.locals=s.heap.objs.size then EU m else st.σ X.env.locals)=none;rw[if_neg (E8 n1)];exact I.no
 ·have hb:(if b=s.heap.objs.size then EU m else st.σ b)=EU n:=hb;by_cases h1:b=s.heap.objs.size
  ·clear hb;subst h1;exact n3
  ·rw[if_neg h1] at hb;exact I.dis _ _ hb
theorem IF.push {s:Shared} (I:IF X φ st s) (o:Obj):IF X φ st {s with heap:=s.heap.push o}:=⟨I.inv.push o,I.no,I.dis,I.loc⟩
theorem Post.mk {s s':Shared} {m:MV} (a:VR s'.heap m v) (b:IF X φ st' s') (c:Keep s.heap s'.heap) (d:Q m st'):Post X φ s Q v s':=⟨m,st',a,b,c,d⟩
theorem Post.trans {s s₁ s₂:Shared} {v:Value} (k:Keep s.heap s₁.heap) (x:Post X φ s₁ Q v s₂):Post X φ s Q v s₂:=by
 obtain ⟨m,st',a,b,c,d⟩:=x;exact ⟨m,st',a,b,k.trans c,d⟩
theorem PostB.trans {QB:Bool->St->Prop} {s s₁ s₂:Shared} {b:Bool} (k:Keep s.heap s₁.heap) (x:PostB X φ s₁ QB b s₂):PostB X φ s QB b s₂:=by
 obtain ⟨st',b,c,d⟩:=x;exact ⟨st',b,k.trans c,d⟩
theorem ab {M:Model} {t:KW α} {s:Shared} {P R:α->Shared->Prop} (h:E4 M A t P NoE s) (f:∀v s',P v s'->R v s'):E4 M A t R NoE s:=
 FB h f (λ_ _ x=>x)
theorem aq {i:Int} {k pos} (h:Q (.i i) st):WE X (.Constant (.int i) k pos) st Q:=λφ s I=>
 wpAny_Constant_int (.mk (cH ..) (I.toks _) (.refl _) h)
theorem aI {k pos} (h:Q (.s x) st):WE X (.Constant (.str x) k pos) st Q:=λφ s I=>
 Jw (.mk (ft ..) (I.toks _) (.refl _) h)
theorem fE {k pos} (h:Q (.k .none) st):WE X (.Constant .none k pos) st Q:=λφ s I=>
 PySem.wpAny_Constant_none (.mk (ba ..) I (.refl _) h)
theorem eL {b:Bool} {k pos} (h:Q (.k (.bool b)) st):WE X (.Constant (.bool b) k pos) st Q:=λφ s I=>
 PySem.wpAny_Constant_bool (.mk (ba ..) I (.refl _) h)
theorem ar {op pos} (h:WE X l st λa st₁=>WE X r st₁ λb st₂=>W2 X (Ha op) a b st₂ Q):WE X (.BinOp l op r pos) st Q:=λφ s I=>by
 refine wpAny_BinOp (ab (h φ s I) λv s₁ pp=>?_);obtain ⟨a,st₁,r1,I1,k1,h1⟩:=pp;refine ab (h1 φ s₁ I1) λw s₂ pp=>?_;obtain ⟨b,st₂,r2,I2,k2,h2⟩:=pp;exact ab (h2 φ s₂ v w I2 (r1.keep k2) r2) λu s₃ p=>p.trans (k1.trans k2)
theorem kX {op pos} (hm:KX op r=false) (h:WE X l st λa st₁=>WE X r st₁ λb st₂=>W2 X (Fu op) a b st₂ Q):WE X (.Compare l [op] [r] pos) st Q:=λφ s I=>by
 refine wpAny_Compare1 (ab (h φ s I) λv s₁ pp=>?_) hm;obtain ⟨a,st₁,r1,I1,k1,h1⟩:=pp;refine ab (h1 φ s₁ I1) λw s₂ pp=>?_;obtain ⟨b,st₂,r2,I2,k2,h2⟩:=pp;exact ab (h2 φ s₂ v w I2 (r1.keep k2) r2) λu s₃ p=>p.trans (k1.trans k2)
theorem xF {x:G0} {op pos} (h:WE X x st λa st₁=>W1 X (unaryOp op) a st₁ Q):WE X (.UnaryOp op x pos) st Q:=λφ s I=>by
 refine PySem.wpAny_UnaryOp (ab (h φ s I) λv s₁ pp=>?_);obtain ⟨a,st₁,r1,I1,k1,h1⟩:=pp;exact ab (h1 φ s₁ v I1 r1) λu s₃ p=>p.trans k1
theorem IF.frame {s:Shared} (I:IF X φ st s):FrR s.heap X.env.locals st.ρ:=(I.inv.rep X.env.locals (.fr st.ρ) (if_pos rfl)).2
theorem gM (O:XOk X) {pos m} (h:lk st.ρ x=EU (EU m)) (hq:Q m st):WE X (.Name x pos) st Q:=λφ s I=>by
 refine ad I.frame λmm hn hv=>?_;refine ad (hv x m h) λy hy r=>?_;exact OU (KG O.fn (I.loc x _ h).1 hn hy (.mk r I (.refl _) hq)) (I.loc x _ h).2
theorem c8 (O:XOk X) {pos v} (h:X.gs.lookup x=EU v) (hq:Q (.k v) st):WE X (.Name x pos) st Q:=λφ s I=>by
 refine xa2 (O.glo x v h) λa b c=>?_;exact Name_function_global O.fn a (c s I.inv.old _ _ (.mk (ba ..) I (.refl _) hq)) b
theorem IF.store {s:Shared} (I:IF X φ st s) {m:MV} {mm:Str->Option Value} (r:VR s.heap m v) (hmm:∀x v,lk st.ρ x=EU (EU v)->∃y,mm x=EU y∧VR s.heap v y)
 (hn':h'.Ns X.env.locals (λy=>if y=x then EU v else mm y)) (sb:Heap.SameBut X.env.locals s.heap h'):IF X φ ⟨st.σ,stL st.ρ x m⟩ {s with heap:=h',toks:=t}∧Keep s.heap h':=by
 have e:Internal.tot st.σ φ X.env.locals st.ρ X.env.locals=EU (.fr st.ρ):=if_pos rfl;have k:=ky (I.inv.rep _ _ e).2 sb
 have z:OR h' X.env.locals (.fr (stL st.ρ x m)):=by
  refine (af _ hn' (λy u hy=>?_));rw[gT] at hy;by_cases hx:y=x
  ·rw[if_pos hx] at hy;rw[if_pos hx]
   cases hlk:lk st.ρ x with
   |none=>rw[hlk] at hy;cases hy
   |some q=>rw[hlk] at hy;cases hy;exact (af v rfl (r.keep k))
  ·rw[if_neg hx] at hy;rw[if_neg hx];refine ad (hmm y u hy) λw hw rw_=>?_;exact (af w hw (rw_.keep k))
 have w:=I.inv.upd (t:=t) e sb z
 have q:(Internal.tot st.σ φ X.env.locals st.ρ).put X.env.locals (.fr (stL st.ρ x m))=Internal.tot st.σ φ X.env.locals (stL st.ρ x m):=by
  funext b;unfold Sg.put Internal.tot;by_cases h1:b=X.env.locals
  ·simp[h1]
  ·simp[h1]
 rw[q] at w;refine ⟨⟨w,I.no,I.dis,λy u hy=>?_⟩,k⟩;have hy:lk (stL st.ρ x m) y=EU u:=hy;rw[gT] at hy;split at hy
 ·rename_i hx;subst hx
  cases hlk:lk st.ρ y with
  |none=>rw[hlk] at hy;cases hy
  |some q=>exact I.loc y q hlk
 ·exact I.loc y u hy
end
section
variable {X:Xc} {st:St} {φ:Sg}
theorem IF.grow {s:Shared} (I:IF X φ st s) {h':Heap} (k:∀b o,s.heap.get? b=EU o->h'.get? b=EU o) (t:Nat):IF X φ st {s with heap:=h',toks:=t}:=⟨I.inv.grow k t,I.no,I.dis,I.loc⟩
theorem aB (k:∀b o,h.get? b=EU o->h'.get? b=EU o):Keep h h':=λb o e _=>k b o e
theorem mn (k:Heap.ExtBut h.objs.size h h'):∀b o,h.get? b=EU o->h'.get? b=EU o:=λb o e=>k b o (Fh (Heap.lt_size e)) e
inductive PostU (X:Xc) (φ:Sg) (s:Shared) (Q:St->Prop) (s':Shared):Prop
 |i (st':St) (I:IF X φ st' s') (k:Keep s.heap s'.heap) (q:Q st')
theorem PostU.trans {Q:St->Prop} {s s₁ s₂:Shared} (k:Keep s.heap s₁.heap) (x:PostU X φ s₁ Q s₂):PostU X φ s Q s₂:=by
 obtain ⟨st',b,c,d⟩:=x;exact ⟨st',b,k.trans c,d⟩
noncomputable def WA (X:Xc) (tgt:G0) (m:MV) (st:St) (Q:St->Prop):Prop:=
 ∀φ s v,IF X φ st s->VR s.heap m v->E4 X.M X.A (Ly tgt X.env v) (λ_=>PostU X φ s Q) NoE s
noncomputable def WAs (X:Xc):List G0->List MV->St->(St->Prop)->Prop
 | [],[],st,Q=>Q st
 |t::ts,m::ms,st,Q=>WA X t m st λst'=>WAs X ts ms st' Q
 |_,_,_,_=>False
theorem gw (O:XOk X) {s:Shared} {Q:St->Prop} (hl:lk st.ρ x=EU u) (hq:Q ⟨st.σ,stL st.ρ x m⟩) (I:IF X φ st s) (r:VR s.heap m v):
 E4 X.M X.A (storeName X.env x v) (λ_=>PostU X φ s Q) NoE s:=by
 refine ad I.frame λmm hn hv=>?_;refine wpAny_storeName_local (I.loc x _ hl).1 hn (λh' hn' sb=>?_) (by rw[O.fn];rfl);refine xa1 (I.store (t:=s.toks+1) r hv hn' sb) λI' k=>?_;exact ⟨_,I',k,hq⟩
theorem mj (O:XOk X) {pos m u} {Q:St->Prop} (hl:lk st.ρ x=EU u) (hq:Q ⟨st.σ,stL st.ρ x m⟩):WA X (.Name x pos) m st Q:=λφ s v I r=>
 Lh (gw O hl hq I r)
noncomputable def Starless:List G0->Prop
 | []=>True
 | .Starred .. ::_=>False
 |_::l=>Starless l
theorem ca (env:Env):∀{ts:List G0},Starless ts->MN ts env=ts.map λt=>(false,Ly t env)
 | [],_=>rfl
 |t::ts,h=>by
  have ih:Starless ts->MN ts env=ts.map λt=>(false,Ly t env):=ca env;cases t<;>first|exact h.elim|exact congrArg (QD _) (ih h)
theorem pC {Q:St->Prop}:∀{ts:List G0} {ms:List MV} {st:St} {s:Shared} {vs:List Value},WAs X ts ms st Q->IF X φ st s->VRs s.heap ms vs->
 E4 X.M X.A (Q2 (ts.map λt=>Ly t X.env) vs) (λ_=>PostU X φ s Q) NoE s
 | [],[],st,s,vs,h,I,r=>by
  unfold VRs at r;subst r;exact O9 ⟨st,I,.refl _,h⟩
 |t::ts,m::ms,st,s,vs,h,I,r=>by
  unfold VRs at r;refine am r λy ys z1 z2=>?_;clear r;subst z1;refine xa1 z2 λe2 e3=>?_;refine OV (ab (h φ s y I e2) λ_ s₁ pp=>?_);obtain ⟨st₁,I₁,k₁,h₁⟩:=pp;exact ab (pC h₁ I₁ (e3.keep k₁)) λ_ s₂ p=>p.trans k₁
 | [],_::_,_,_,_,h,_,_=>h.elim
 |_::_,[],_,_,_,h,_,_=>h.elim
theorem jk (O:XOk X) {ts:List G0} {k pos} {Q:St->Prop} (hs:Starless ts) (hn:ts.length=ms.length) (h:WAs X ts ms st Q):WA X (.Tuple ts k pos) (.t (.type "tuple") ms) st Q:=λφ s v I r=>by
 refine bx r λa o items n z1 z2=>?_;clear r;subst z1;refine xa4 z2 λe2 e3 e4 e5 e6=>?_;have ea:=ca X.env hs;have len:=e6.length;refine assign_Tuple_tuple O.hh (ck o e2 e4 n e5) (by rw[ea];simp only[EZ,hn];rw[←len];simp) (by rw[ea];simp[Lz]) λh' he=>?_;rw[ea,FR];have k:=mn he;exact ab (pC (φ:=φ) h (I.grow k s.toks) (e6.keep (aB k))) λ_ s₂ p=>p.trans (aB k)
inductive Fl
 |next|brk|cont
 |ret (m:MV)
noncomputable def FlR (h:Heap):Fl->Flow->Prop
 | .next,f=>f= .next
 | .brk,f=>f= .brk
 | .cont,f=>f= .cont
 | .ret m,f=>∃v,f= .ret v∧VR h m v
inductive PostS (X:Xc) (φ:Sg) (s:Shared) (Q:Fl->St->Prop) (f:Flow) (s':Shared):Prop
 |i (fl:Fl) (st':St) (r:FlR s'.heap fl f) (I:IF X φ st' s') (k:Keep s.heap s'.heap) (q:Q fl st')
theorem PostS.trans {Q:Fl->St->Prop} {s s₁ s₂:Shared} {f:Flow} (k:Keep s.heap s₁.heap) (x:PostS X φ s₁ Q f s₂):PostS X φ s Q f s₂:=by
 obtain ⟨fl,st',a,b,c,d⟩:=x;exact ⟨fl,st',a,b,k.trans c,d⟩
noncomputable def WS1 (X:Xc) (x:Stmt) (st:St) (Q:Fl->St->Prop):Prop:=∀φ s,IF X φ st s->E4 X.M X.A (exec x X.env) (PostS X φ s Q) NoE s
noncomputable def WS (X:Xc) (x:List Stmt) (st:St) (Q:Fl->St->Prop):Prop:=∀φ s,IF X φ st s->E4 X.M X.A (execs x X.env) (PostS X φ s Q) NoE s
variable {Q:Fl->St->Prop}
noncomputable def fu (X:Xc) (rest:List Stmt) (Q:Fl->St->Prop):Fl->St->Prop
 | .next,st=>WS X rest st Q
 |f,st=>Q f st
theorem ak (h:Q .next st):WS X [] st Q:=λφ s I=>PP ⟨.next,st,rfl,I,.refl _,h⟩
theorem aa {x:Stmt} {rest:List Stmt} (h:WS1 X x st (fu X rest Q)):WS X (x::rest) st Q:=λφ s I=>by
 refine wpAny_execs_cons (ab (h φ s I) λf s₁ pp=>?_);obtain ⟨fl,st₁,r,I₁,k,q⟩:=pp
 cases fl with
 |next=>cases (show f= .next from r);exact ab (q φ s₁ I₁) λf s₂ p=>p.trans k
 |brk=>cases (show f= .brk from r);exact ⟨.brk,st₁,rfl,I₁,k,q⟩
 |cont=>cases (show f= .cont from r);exact ⟨.cont,st₁,rfl,I₁,k,q⟩
 |ret m=>
  refine ad r λv z1 rv=>?_;clear r;subst z1;exact ⟨.ret m,st₁,(af v rfl rv),I₁,k,q⟩
theorem ah {t:G0} {pos} (hs:Iq [t] value pos.line X.env=pure false) (hw:Hr [t] value X.env=pure none) (ht:Starless [t])
 (h:WE X value st λm st₁=>WA X t m st₁ λst₂=>Q .next st₂):WS1 X (.Assign [t] value pos) st Q:=λφ s I=>by
 refine wpAny_Assign_stores (ab (h φ s I) λv s₁ pp=>?_) hs hw;obtain ⟨m,st₁,r,I₁,k,h₁⟩:=pp;rw[ca X.env ht];show E4 _ _ (Ly t X.env v) _ _ _;exact ab (h₁ φ s₁ v I₁ r) λ_ s₂ ⟨st₂,I₂,k₂,q⟩=>⟨.next,st₂,rfl,I₂,k.trans k₂,q⟩
theorem xl {pos} (h:Q .next st):WS1 X (.Pass pos) st Q:=λφ s I=>wpAny_Pass ⟨.next,st,rfl,I,.refl _,h⟩
theorem mR {pos} (h:Q .brk st):WS1 X (.Break pos) st Q:=λφ s I=>wpAny_Break ⟨.brk,st,rfl,I,.refl _,h⟩
theorem iO {pos} (h:Q .cont st):WS1 X (.Continue pos) st Q:=λφ s I=>wpAny_Continue ⟨.cont,st,rfl,I,.refl _,h⟩
theorem be {pos} (h:WE X e st λm st₁=>Q (.ret m) st₁):WS1 X (.Return (EU e) pos) st Q:=λφ s I=>
 wpAny_Return_some (ab (h φ s I) λv s₁ ⟨m,st₁,r,I₁,k,q⟩=>⟨.ret m,st₁,(af v rfl r),I₁,k,q⟩)
theorem lP {pos} (h:Q (.ret (.k .none)) st):WS1 X (.Return none pos) st Q:=λφ s I=>
 wpAny_Return_none ⟨.ret (.k .none),st,(af _ rfl (ba ..)),I,.refl _,h⟩
theorem bl {pos} (h:WB X test st λb st₁=>if b=true then WS X body st₁ Q else WS X orelse st₁ Q):WS1 X (.If test body orelse pos) st Q:=λφ s I=>by
 refine wpAny_If (ab (h φ s I) λb s₁ pp=>?_);obtain ⟨st₁,I₁,k,q⟩:=pp
 cases b with
 |true=>rw[if_pos rfl] at q⊢;exact ab (q φ s₁ I₁) λf s₂ p=>p.trans k
 |false=>rw[if_neg s!"d"] at q⊢;exact ab (q φ s₁ I₁) λf s₂ p=>p.trans k
noncomputable def MV.flat:MV->Prop
 | .k (.ref _)=>False
 | .k _=>True
 | .i _=>True
 | .s _=>True
 |_=>False
theorem aA {pos} (hi:GC X.env=false) (hs:J3 e none pos.line X.env=pure false) (h:WE X e st λm st₁=>m.flat∧Q .next st₁):WS1 X (.Expr e pos) st Q:=λφ s I=>by
 refine wpAny_Expr (ab (h φ s I) λv s₁ pp=>?_) hi hs;obtain ⟨m,st₁,r,I₁,k,f,q⟩:=pp;have z:PostS X φ s Q .next s₁:=⟨.next,st₁,rfl,I₁,k,q⟩
 cases m with
 |k u=>cases ((show v=u from r));clear r;cases v<;>first|exact f.elim|exact z
 |i n=>refine xe1 r λt z1=>?_;clear r;subst z1;exact z
 |s x=>refine xe1 r λt z1=>?_;clear r;subst z1;exact z
 |_=>exact f.elim
@[reducible] def WhP (J:Nat->St->Prop) (n:Nat) (Q:Fl->St->Prop):Fl->St->Prop
 | .next,st=>∃m,m<n∧J m st
 | .cont,st=>∃m,m<n∧J m st
 | .brk,st=>Q .next st
 | .ret v,st=>Q (.ret v) st
theorem dg {pos} (J:Nat->St->Prop)
 (turn:∀J':Nat->St->Prop,(∀n st,J n st->J' n st)->∀n st,J n st->WB X test st λb st₁=>if b=true then WS X body st₁ (WhP J' n Q) else WS X orelse st₁ Q) (n:Nat) (h:J n st):WS1 X (.While test body orelse pos) st Q:=λφ s I=>by
 refine wpAny_While ?_;refine codeAny_whileLoop (λn s'=>∃st',IF X φ st' s'∧Keep s.heap s'.heap∧J n st') (λn s₁ pp=>?_) n (aR st I (.refl _) h);refine aV pp λst₁ I₁ k₁ j₁=>?_;clear pp;refine FB (turn J (λ_ _ h=>h) n st₁ j₁ φ s₁ I₁) (λb s₂ pp=>?_) λ_ _ x=>x.elim;obtain ⟨st₂,I₂,k₂,q₂⟩:=pp
 cases b with
 |false=>
  rw[if_neg s!"d"] at q₂⊢;exact FB (q₂ φ s₂ I₂) (λf s₃ p=>p.trans (k₁.trans k₂)) λ_ _ x=>x.elim
 |true=>
  rw[if_pos rfl] at q₂⊢;refine FB (q₂ φ s₂ I₂) (λf s₃ pp=>?_) λ_ _ x=>x.elim;obtain ⟨fl,st₃,r,I₃,k₃,q₃⟩:=pp;have kk:=k₁.trans (k₂.trans k₃)
  cases fl with
  |next=>cases (show f= .next from r);refine ad q₃ λm hm j=>?_;clear q₃;exact (c7 m hm st₃ ⟨I₃,kk,j⟩)
  |cont=>cases (show f= .cont from r);refine ad q₃ λm hm j=>?_;clear q₃;exact (c7 m hm st₃ ⟨I₃,kk,j⟩)
  |brk=>cases (show f= .brk from r);exact ⟨.next,st₃,rfl,I₃,kk,q₃⟩
  |ret m=>refine ad r λv z1 rv=>?_;clear r;subst z1;exact ⟨.ret m,st₃,(af v rfl rv),I₃,kk,q₃⟩
end
section
variable {X:Xc} {st:St} {φ:Sg} {Q:MV->St->Prop} {QB:Bool->St->Prop}
section
variable {x y:Int}
theorem dJ {f:Value->Value->KW Value} {x y:Int} (h:∀φ s t u,IF X φ st s->E4 X.M X.A (f (.int x t) (.int y u)) (Post X φ s Q) NoE s):W2 X f (.i x) (.i y) st Q:=λφ s v w I e1 e2=>e1.elim λt e1=>e2.elim λu e2=>by
 rw[e1,e2];exact h φ s t u I
theorem jB {f:Value->Value->KW Value} {x y:Str} (h:∀φ s t u,IF X φ st s->E4 X.M X.A (f (.str x t) (.str y u)) (Post X φ s Q) NoE s):W2 X f (.s x) (.s y) st Q:=λφ s v w I e1 e2=>e1.elim λt e1=>e2.elim λu e2=>by
 rw[e1,e2];exact h φ s t u I
theorem c0 (h:Q (.i (x+y)) st):W2 X (Ha .Add) (.i x) (.i y) st Q:=dJ λφ s t u I=>PQ (.mk (cH ..) (I.toks _) (.refl _) h)
theorem eY (h:Q (.i (x-y)) st):W2 X (Ha .Sub) (.i x) (.i y) st Q:=dJ λφ s t u I=>PT (.mk (cH ..) (I.toks _) (.refl _) h)
theorem oN (hm:IntMulOk x y) (h:Q (.i (x*y)) st):W2 X (Ha .Mult) (.i x) (.i y) st Q:=dJ λφ s t u I=>PU (.mk (cH ..) (I.toks _) (.refl _) h) hm
theorem B8 (hb:y≠0) (h:Q (.i (x.fmod y)) st):W2 X (Ha .Mod) (.i x) (.i y) st Q:=dJ λφ s t u I=>PV hb (.mk (cH ..) (I.toks _) (.refl _) h)
theorem oH (hp:KR x y=false) (hb:y≠0) (h:Q (.i (x.fdiv y)) st):W2 X (Ha .FloorDiv) (.i x) (.i y) st Q:=dJ λφ s t u I=>PX hb (.mk (cH ..) (I.toks _) (.refl _) h) (.inl hp)
theorem Dd (hb:0≤y) (h:Q (.i (x.fdiv (2^y.toNat))) st):W2 X (Ha .RShift) (.i x) (.i y) st Q:=dJ λφ s t u I=>PY hb (.mk (cH ..) (I.toks _) (.refl _) h)
theorem gZ (h:Q (.k (.bool (decide (x<y)))) st):W2 X (Fu .Lt) (.i x) (.i y) st Q:=dJ λφ s t u I=>PZ (.mk (ba ..) I (.refl _) h)
theorem iu (h:Q (.k (.bool (decide (y<x)))) st):W2 X (Fu .Gt) (.i x) (.i y) st Q:=dJ λφ s t u I=>P4 (.mk (ba ..) I (.refl _) h)
theorem Au (h:Q (.k (.bool (decide (x≤y)))) st):W2 X (Fu .LtE) (.i x) (.i y) st Q:=dJ λφ s t u I=>P5 (.mk (ba ..) I (.refl _) h)
theorem tC (h:Q (.k (.bool (decide (y≤x)))) st):W2 X (Fu .GtE) (.i x) (.i y) st Q:=dJ λφ s t u I=>P6 (.mk (ba ..) I (.refl _) h)
theorem j5 (h:Q (.k (.bool (x==y))) st):W2 X (Fu .Eq) (.i x) (.i y) st Q:=dJ λφ s t u I=>P7 (.mk (ba ..) I (.refl _) h)
theorem tf (h:Q (.k (.bool (x !=y))) st):W2 X (Fu .NotEq) (.i x) (.i y) st Q:=dJ λφ s t u I=>P8 (.mk (ba ..) I (.refl _) h)
theorem xW (h:Q (.i (-x)) st):W1 X (unaryOp .USub) (.i x) st Q:=λφ s v I ⟨t,e1⟩=>by
 subst e1;exact P9 (.mk (cH ..) (I.toks _) (.refl _) h)
end
section
variable {x y:Str}
theorem oE (h:Q (.k (.bool (x==y))) st):W2 X (Fu .Eq) (.s x) (.s y) st Q:=jB λφ s t u I=>Qa (.mk (ba ..) I (.refl _) h)
theorem sJ (h:Q (.k (.bool (x !=y))) st):W2 X (Fu .NotEq) (.s x) (.s y) st Q:=jB λφ s t u I=>Qb (.mk (ba ..) I (.refl _) h)
theorem s7 (h:Q (.k (.bool (Fb y x))) st):W2 X (Fu .In) (.s x) (.s y) st Q:=jB λφ s t u I=>Qc (.mk (ba ..) I (.refl _) h)
theorem cU (hl:x.length+y.length≤sizeLine) (h:Q (.s (x++y)) st):W2 X (Ha .Add) (.s x) (.s y) st Q:=jB λφ s t u I=>Lc (λt' tk=> .mk (ft ..) (I.toks _) (.refl _) h) hl
end
noncomputable def MV.isNone:MV->Bool
 | .k .none=>true
 |_=>false
theorem m6 (r:VR h m v):(v== .none)=m.isNone:=by
 cases m with
 |k u=>cases ((show v=u from r));clear r;cases v<;>rfl
 |i n=>obtain ⟨t,rfl⟩:=r;rfl
 |s x=>obtain ⟨t,rfl⟩:=r;rfl
 |t c vs=>refine bx r λa o items n z1 _=>?_;clear r;subst z1;rfl
 |r a=>cases ((show v= .ref a from r));rfl
 |bm f m=>refine gu r λa o y z1 _=>?_;clear r;subst z1;rfl
theorem pD (h:Q (.k (.bool m.isNone)) st):W2 X (Fu .Is) m (.k .none) st Q:=λφ s v w I r e2=>by
 cases (show w= .none from e2);refine is_none ?_;rw[m6 r];exact .mk (ba ..) I (.refl _) h
theorem eZ (h:Q (.k (.bool (!m.isNone))) st):W2 X (Fu .IsNot) m (.k .none) st Q:=λφ s v w I r e2=>by
 cases (show w= .none from e2);refine isNot_none ?_;rw[m6 r];exact .mk (ba ..) I (.refl _) h
theorem ay {b:Bool} (h:QB b st):WT X (.k (.bool b)) st QB:=λφ s v I e=>by
 cases (show v= .bool b from e);exact Li ⟨st,I,.refl _,h⟩
theorem Bi (h:QB false st):WT X (.k .none) st QB:=λφ s v I e=>by
 cases (show v= .none from e);exact truthy_none ⟨st,I,.refl _,h⟩
theorem bY (he:isTrue e X.env (eval e X.env)=(do let v←eval e X.env;Ke e.pos;IY [v] (NK v))) (h:WE X e st λm st₁=>WT X m st₁ QB):WB X e st QB:=λφ s I=>by
 refine isTrue_plain (ab (h φ s I) λv s₁ pp=>?_) he;obtain ⟨m,st₁,r,I₁,k,q⟩:=pp;exact ab (q φ s₁ v I₁ r) λb s₂ p=>p.trans k
theorem aC {l:G0} {op pos} (hm:KX op r=false) (h:WE X l st λa st₁=>WE X r st₁ λb st₂=>W2 X (Fu op) a b st₂ λc st₃=>WT X c st₃ QB):WB X (.Compare l [op] [r] pos) st QB:=λφ s I=>by
 refine wpAny_isTrue_Compare1 (ab (h φ s I) λv s₁ pp=>?_) hm;obtain ⟨a,st₁,r1,I1,k1,h1⟩:=pp;refine ab (h1 φ s₁ I1) λw s₂ pp=>?_;obtain ⟨b,st₂,r2,I2,k2,h2⟩:=pp;refine ab (h2 φ s₂ v w I2 (r1.keep k2) r2) λu s₃ pp=>?_;obtain ⟨c,st₃,r3,I3,k3,h3⟩:=pp;exact ab (h3 φ s₃ u I3 r3) λb s₄ p=>p.trans (k1.trans (k2.trans k3))
theorem gD {pos} (h:WB X e st λb st₁=>QB (!b) st₁):WB X (.UnaryOp .Not e pos) st QB:=λφ s I=>
 isTrue_not (ab (h φ s I) λb s₁ ⟨st₁,I₁,k,q⟩=>⟨st₁,I₁,k,q⟩)
theorem ie {pos} (h:QB true st):WB X (.BoolOp .And [] pos) st QB:=λφ s I=>isTrue_and_nil ⟨st,I,.refl _,h⟩
theorem vF {pos} (h:QB false st):WB X (.BoolOp .Or [] pos) st QB:=λφ s I=>isTrue_or_nil ⟨st,I,.refl _,h⟩
theorem bW {rest:List G0} {pos} (h:WB X e st λb st₁=>if b=true then WB X (.BoolOp .And rest pos) st₁ QB else QB false st₁):WB X (.BoolOp .And (e::rest) pos) st QB:=λφ s I=>by
 refine isTrue_and (ab (h φ s I) λb s₁ pp=>?_);obtain ⟨st₁,I₁,k,q⟩:=pp
 cases b with
 |true=>
  rw[if_pos rfl] at q⊢;exact ab (q φ s₁ I₁) λb s₂ p=>p.trans k
 |false=>
  rw[if_neg s!"d"] at q⊢;exact ⟨st₁,I₁,k,q⟩
theorem Cr {rest:List G0} {pos} (h:WB X e st λb st₁=>if b=true then QB true st₁ else WB X (.BoolOp .Or rest pos) st₁ QB):WB X (.BoolOp .Or (e::rest) pos) st QB:=λφ s I=>by
 refine isTrue_or (ab (h φ s I) λb s₁ pp=>?_);obtain ⟨st₁,I₁,k,q⟩:=pp
 cases b with
 |true=>
  rw[if_pos rfl] at q⊢;exact ⟨st₁,I₁,k,q⟩
 |false=>
  rw[if_neg s!"d"] at q⊢;exact ab (q φ s₁ I₁) λb s₂ p=>p.trans k
theorem xz {body orelse:G0} {pos} (h:WB X test st λb st₁=>if b=true then WE X body st₁ Q else WE X orelse st₁ Q):WE X (.IfExp test body orelse pos) st Q:=λφ s I=>by
 refine IfExp_ (ab (h φ s I) λb s₁ pp=>?_);obtain ⟨st₁,I₁,k,q⟩:=pp
 cases b with
 |true=>rw[if_pos rfl] at q⊢;exact ab (q φ s₁ I₁) λf s₂ p=>p.trans k
 |false=>rw[if_neg s!"d"] at q⊢;exact ab (q φ s₁ I₁) λf s₂ p=>p.trans k
noncomputable def WEs (X:Xc):List G0->St->(List MV->St->Prop)->Prop
 | [],st,Q=>Q [] st
 |e::es,st,Q=>WE X e st λm st₁=>WEs X es st₁ λms st₂=>Q (m::ms) st₂
theorem bf (env:Env):∀{ts:List G0},Starless ts->Hk ts env=ts.map λt=>(false,eval t env)
 | [],_=>rfl
 |t::ts,h=>by
  have ih:Starless ts->Hk ts env=ts.map λt=>(false,eval t env):=bf env;cases t<;>first|exact h.elim|exact congrArg (QD _) (ih h)
theorem Starless.tail {t:G0} {ts:List G0} (h:Starless (t::ts)):Starless ts:=by
 cases t<;>first|exact h.elim|exact h
inductive PostL (X:Xc) (φ:Sg) (s:Shared) (Q:List MV->St->Prop) (vs:List Value) (s':Shared):Prop
 |i (ms:List MV) (st':St) (r:VRs s'.heap ms vs) (I:IF X φ st' s') (k:Keep s.heap s'.heap) (q:Q ms st')
theorem cv {Q:List MV->St->Prop} {pos:Pos}:∀{es:List G0} {st:St} {s:Shared},Starless es->WEs X es st Q->IF X φ st s->
 E4 X.M X.A (Pa (ID pos (Hk es X.env))) (PostL X φ s Q) NoE s
 | [],st,s,_,h,I=>Qd ⟨[],st,.nil _,I,.refl _,h⟩
 |e::es,st,s,hs,h,I=>by
  refine LA (ab (h φ s I) λv s₁ ⟨m,st₁,r₁,I₁,k₁,h₁⟩=>?_) ?_
  ·refine ab (cv hs.tail h₁ I₁) λvs s₂ pp=>?_;obtain ⟨ms,st₂,r₂,I₂,k₂,q⟩:=pp;exact ⟨m::ms,st₂,.cons (r₁.keep k₂) r₂,I₂,k₁.trans k₂,q⟩
  ·rw[bf _ hs,bf _ hs.tail];rfl
theorem tW {vs:List Value} (r:VRs h ms vs):OR (h.push {cls:= .type "list",data:= .seq vs.toArray}) h.objs.size (.lst ms):=
 (af vs.toArray ⟨0,Heap.get?_push_size _ rfl⟩ (by rw[G6];exact r.keep (keep_push _ _)))
theorem b9 {pos} (hs:Starless es) (h:WEs X es st λms st₁=>ms.length≤sizeLine∧∀a,st₁.σ a=none->Q (.r a) ⟨st₁.σ.put a (.lst ms),st₁.ρ⟩):WE X (.List es pos) st Q:=λφ s I=>by
 refine wpAny_List (ab (cv hs h I) λvs s₁ pp=>?_);obtain ⟨ms,st₁,r,I₁,k,hl,q⟩:=pp;refine ⟨by rw[r.length];exact hl,?_⟩;refine xa1 (I₁.new (tW r)) λn I₂=>?_;exact .mk (bN ..) I₂ (k.trans (keep_push _ _)) (q _ n)
theorem rk {vs:List Value} (r:VRs h ms vs):VR (h.push {cls:= .type "tuple",data:= .seq vs.toArray}) (.t (.type "tuple") ms) (.ref h.objs.size):=
 (eU _ _ vs.toArray 0 rfl (Heap.get?_push_size _ rfl) rfl rfl rfl (by rw[G6];exact r.keep (keep_push _ _)))
theorem cX {k pos} (hs:Starless es) (h:WEs X es st λms st₁=>ms.length≤sizeLine∧Q (.t (.type "tuple") ms) st₁):WE X (.Tuple es k pos) st Q:=λφ s I=>by
 refine wpAny_Tuple (ab (cv hs h I) λvs s₁ pp=>?_);obtain ⟨ms,st₁,r,I₁,k,hl,q⟩:=pp;refine ⟨by rw[r.length];exact hl,?_⟩;exact .mk (rk r) (I₁.push _) (k.trans (keep_push _ _)) q
end
section
variable {k:Int}
variable {X:Xc} {st:St} {φ:Sg} {Q:MV->St->Prop} {QB:Bool->St->Prop}
theorem VRs.arr (r:VRs h ms items.toList) (e:ms[i]?=EU m):∃x,items[i]?=EU x∧VR h m x:=by
 refine ad (r.get e) λx a b=>?_;exact (af x (by rw[←Mx];exact a) b)
theorem VRs.size {h:Heap} {ms:List MV} {items:Array Value} (r:VRs h ms items.toList):items.size=ms.length:=by
 have:=r.length;simpa using this
theorem aP {pos} (h:WE X value st λa st₁=>WE X slice st₁ λb st₂=>W2 X (KY value slice) a b st₂ Q):WE X (.Subscript value slice pos) st Q:=λφ s I=>by
 refine Subscript_ (ab (h φ s I) λv s₁ pp=>?_);obtain ⟨a,st₁,r1,I1,k1,h1⟩:=pp;refine ab (h1 φ s₁ I1) λw s₂ pp=>?_;obtain ⟨b,st₂,r2,I2,k2,h2⟩:=pp;exact ab (h2 φ s₂ v w I2 (r1.keep k2) r2) λu s₃ p=>p.trans (k1.trans k2)
noncomputable def gU (value slice:G0):Prop:=(∀o i,Of slice false o i=Pd [o,i] (Pe o i))∧∀o r,IM value o r=pure ()
theorem aY (hp:gU value slice) (e:st.σ l=EU (.lst vs)) (h0:0≤k) (hfit:k<2^63) (hx:vs[k.toNat]?=EU m) (hq:Q m st):
 W2 X (KY value slice) (.r l) (.i k) st Q:=λφ s v w I e1 ⟨u,e2⟩=>by
 cases (show v= .ref l from e1);subst e2;refine ad (I.own e) λitems pl r=>?_;refine ad (r.arr hx) λx hx' rx=>?_;exact item_list pl.isList h0 hfit hx' (.mk rx I (.refl _) hq) (hp.1 _ _) (λr=>hp.2 _ r)
theorem xO (hp:gU value slice) (hlo: -(2^63)≤k) (hfit:k<2^63) (hj:Ny k vs.length=EU j) (hx:vs[j]?=EU m) (hq:Q m st):
 W2 X (KY value slice) (.t (.type "tuple") vs) (.i k) st Q:=λφ s v w I r1 r2=>by
 refine bx r1 λa o items n e1 z=>?_;refine xa4 z λe2 e3 e4 e5 r=>?_;obtain ⟨u,e6⟩:=r2;clear r1 z;subst e1 e6;refine ad (r.arr hx) λx hx' rx=>?_;rw[←r.size] at hj;have T:IsTup s.heap a items:=⟨o,e2,e4,n,e5⟩
 exact subscriptTail_builtin T.typeIs slot_tuple_getitem.lookup (getItem_tuple T hlo hfit hj hx' (.mk rx I (.refl _) hq)) (hp.1 _ _) (λr=>hp.2 _ r)
theorem eR {o i:G0} {pos m} (hi:∀v ov iv:Value,(match i with| .Slice _ _ none _=>[iv,v,ov]|_=>[v,ov,iv])=[v,ov,iv])
 (h:WE X o st λa st₁=>WE X i st₁ λb st₂=>∀φ s v w u,IF X φ st₂ s->VR s.heap a v->VR s.heap b w->VR s.heap m u->E4 X.M X.A (NL v w u) (λ_=>PostU X φ s QU) NoE s):
 WA X (.Subscript o i pos) m st QU:=λφ s u I r0=>by
 rw[arm_assign_Subscript];refine EX (wpAny_holding (ab (h φ s I) λv s₁ pp=>?_));obtain ⟨a,st₁,r1,I1,k1,h1⟩:=pp;refine EX (wpAny_holding (ab (h1 φ s₁ I1) λw s₂ pp=>?_));obtain ⟨b,st₂,r2,I2,k2,h2⟩:=pp;refine EX (GH (EX (wpAny_holding (ab (h2 φ s₂ v w u I2 (r1.keep k2) r2 (r0.keep (k1.trans k2))) λ_ s₃ p=>?_))));have q:=p.trans (k1.trans k2);intro Γ p' _;rw[KW.wp_release];exact q
theorem cp {s:Shared} (I:IF X φ st s) {a:Addr} {m:MO} (e:st.σ a=EU m) (sb:Heap.SameBut a s.heap h'):Keep s.heap h':=ky (I.own e) sb
end
section
variable {X:Xc} {st:St} {φ:Sg} {Q:MV->St->Prop} {QB:Bool->St->Prop}
theorem bt {M:Model} {s:Shared} (hs:Starless es) {R:Args->Shared->Prop}
 (h:E4 M A (Pa (ID pos (Hk es env))) (λvs s'=>R ⟨vs,[]⟩ s') NoE s):E4 M A (MP f true (ID pos (Hk es env)) []) R NoE s:=by
 cases es with
 |nil=>
  unfold MP;show E4 M A (Pa (ID pos (Hk [] env))>>=_) R NoE s;refine EX (ab h λvs s' hq=>?_);refine EX (E0 (wpAny_holding ?_));exact EX (E0 (EX (E0 (E0 hq))))
 |cons e es=>
  rw[bf env hs] at h⊢;exact evalArgs_plain h
noncomputable def WC (X:Xc) (f:Value) (args:List MV) (st:St) (Q:MV->St->Prop):Prop:=
 ∀φ s vs,IF X φ st s->VRs s.heap args vs->E4 X.M X.A (call f vs) (Post X φ s Q) NoE s
theorem bL (hs:Starless es):(ID pos (Hk es env)).any (·.1)=false:=by
 rw[bf env hs];simp[ID]
theorem aT (O:XOk X) {p:Pos} (hf:X.gs.lookup x=EU (.builtin id)) (hs:Starless es) (h:WEs X es st λms st₁=>WC X (.builtin id) ms st₁ Q):
 WE X (.Call (.Name x p) es [] pos) st Q:=λφ s I=>by
 refine LB rfl ?_;refine ab (c8 O hf (Q:=λm st'=>m= .k (.builtin id)∧st'=st) ⟨rfl,rfl⟩ φ s I) λv s₁ pp=>?_;obtain ⟨m,st₁,r,I₁,k,e1,e2⟩:=pp;clear I;subst e1 e2;cases (show v= .builtin id from r);refine HD (bL hs) (bt hs (ab (cv hs h I₁) λvs s₂ pp=>?_));obtain ⟨ms,st₂,r₂,I₂,k₂,q⟩:=pp;exact ab (q φ s₂ vs I₂ r₂) λu s₃ z=>z.trans (k.trans k₂)
theorem bB (O:XOk X) {p:Pos} {a:Addr} (hf:X.gs.lookup x=EU (.ref a)) (ho:X.C.h0.get? a=EU o) (hd:o.data= .func fd) (hs:Starless es)
 (h:WEs X es st λms st₁=>WC X (.ref a) ms st₁ Q):WE X (.Call (.Name x p) es [] pos) st Q:=λφ s I=>by
 refine LB rfl ?_;refine ab (c8 O hf (Q:=λm st'=>m= .k (.ref a)∧st'=st) ⟨rfl,rfl⟩ φ s I) λv s₁ pp=>?_;obtain ⟨m,st₁,r,I₁,k,e1,e2⟩:=pp;clear I;subst e1 e2;cases (show v= .ref a from r);refine Pf (o:=o) (fd:=fd) (bt hs (ab (cv hs h I₁) λvs s₂ ⟨ms,st₂,r₂,I₂,k₂,q⟩=>⟨⟨I₂.inv.old a o ho,hd⟩,?_⟩));exact ab (q φ s₂ vs I₂ r₂) λu s₃ z=>z.trans (k.trans k₂)
noncomputable def oV (X:Xc) (a:MV) (st:St) (T:String):Prop:=∀φ s v,IF X φ st s->VR s.heap a v->s.TypeIs v T∧∀b,v= .ref b->∃ob,s.heap.get? b=EU ob∧ob.dict=none
theorem bK (e:st.σ l=EU (.lst vs)):oV X (.r l) st "list" :=λφ s v I r=>by
 cases (show v= .ref l from r);refine ad (I.own e) λitems z1 _=>?_;refine xe1 z1 λn pl=>?_;clear z1;exact ⟨(af _ pl rfl),λb hb=>by cases hb;exact (af _ pl rfl)⟩
theorem ir:oV X (.s x) st "str" :=λφ s v I ⟨t,e⟩=>by
 subst e;exact ⟨rfl,λb hb=>by cases hb⟩
theorem kE0 (env:Env):G5 [] env=[]:=rfl
theorem kE1 (n:Option Str) (e:G0) (p:Pos) (ks:List JN) (env:Env):G5 (⟨n,e,p⟩::ks) env=(n,eval e env)::G5 ks env:=rfl
theorem bp {o:G0} (hs:Starless es)
 (hbase:F6 o name X.env (eval o X.env)=eval o X.env) (hn:es.length<30) (hline:(apos.endLine==pos.line)=true)
 (pa:PlainAttrs T) (slot:Ni T name id) (hty:GX (.builtin id)=pure (.type "method_descriptor"))
 (h:WE X o st λa st₁=>oV X a st₁ T∧WEs X es st₁ λms st₂=>WC X (.builtin id) (a::ms) st₂ Q):
 WE X (.Call (.Attribute o name apos) es [] pos) st Q:=λφ s I=>by
 have few:((ID pos (Hk es X.env)).all (λx=>!x.1)&&(HS pos (G5 [] X.env)).all (λx=>x.1.isSome)
  &&decide (es.length+([]:List JN).length+(if ([]:List JN).isEmpty then 0 else 1)<30))=true:=by
  rw[bf X.env hs];simp[ID,HS,kE0,hn]
 refine Pi hbase few hline pa slot hty (ab (h φ s I) λv s₁ pp=>?_);obtain ⟨a,st₁,r,I₁,k,ht,q⟩:=pp;refine xa1 (ht φ s₁ v I₁ r) λt1 t2=>?_;refine (ia2 t1 t2 ?_);refine HD (bL hs) (bt hs (ab (cv hs q I₁) λvs s₂ pp=>?_));obtain ⟨ms,st₂,r₂,I₂,k₂,q₂⟩:=pp;exact ab (q₂ φ s₂ (v::vs) I₂ (.cons (r.keep k₂) r₂)) λu s₃ z=>z.trans (k.trans k₂)
theorem VRs.snoc {x:Value} (r:VRs h ms items.toList) (e:VR h m x):VRs h (ms++[m]) (items.push x).toList:=by
 rw[Array.toList_push];exact r.append (.cons e (.nil _))
theorem fZ (e:st.σ l=EU (.lst vs)) (hsz:vs.length≤sizeLine) (hq:Q (.k .none) ⟨st.σ.put l (.lst (vs++[m])),st.ρ⟩):
 WC X (.builtin "list.append") [.r l,m] st Q:=λφ s us I r=>by
 refine tN r λx e2=>?_;refine ad (I.own e) λitems pl rr=>?_;refine Nz pl (λh' pl' sb=>?_) (by rw[rr.size];exact hsz);have k:=cp I e sb;exact .mk (ba ..) (I.upd (m':= .lst (vs++[m])) (t:=s.toks) e sb (af _ pl' ((rr.keep k).snoc (e2.keep k)))) k hq
theorem dz (e:st.σ l=EU (.lst vs)) (hfit:(vs.length:Int)<2^63) (hq:Q (.i vs.length) st):WC X (.builtin "len") [.r l] st Q:=λφ s us I r=>by
 refine fN r ?_;refine ad (I.own e) λitems pl rr=>?_;refine call_len_list pl.isList (by rw[rr.size];exact hfit) ?_;rw[rr.size];exact .mk (cH ..) (I.toks _) (.refl _) hq
end
noncomputable def joi (σ φ:Sg):Sg:=λa=>(σ a).or (φ a)
noncomputable def Dis (σ φ:Sg):Prop:=∀a m,σ a=EU m->φ a=none
theorem Inv.sub {C:Cx} {σ:Sg} {s:Shared} (I:Inv C σ s) (h:∀a m,σ' a=EU m->σ a=EU m):Inv C σ' s:=
 ⟨I.old,λa m e=>I.rep a m (h a m e),I.gens,I.os⟩
noncomputable def s9 (C:Cx) (φ:Sg) (s:Shared) (Q:MV->Sg->Prop) (v:Value) (s':Shared):Prop:=
 ∃m σ',VR s'.heap m v∧Inv C (joi σ' φ) s'∧Dis σ' φ∧Keep s.heap s'.heap∧Q m σ'
noncomputable def Ct (C:Cx) (A:Gk) (f:Value) (args:List MV) (σ:Sg) (Q:MV->Sg->Prop):Prop:=
 ∀φ s vs,Inv C (joi σ φ) s->Dis σ φ->VRs s.heap args vs->E4 (Fa pgm C.w) A (call f vs) (s9 C φ s Q) NoE s
theorem xV {st:St} {Q:MV->St->Prop} (h:Ct X.C X.A f args st.σ λm σ'=>Q m ⟨σ',st.ρ⟩):WC X f args st Q:=λφ s vs I r=>by
 let φ':Sg:=λa=>if a=X.env.locals then EU (.fr st.ρ) else φ a
 have e1:joi st.σ φ'=tot st.σ φ X.env.locals st.ρ:=by
  funext a;show (st.σ a).or (if a=X.env.locals then EU (.fr st.ρ) else φ a)=if a=X.env.locals then EU (.fr st.ρ) else (st.σ a).or (φ a)
  by_cases h:a=X.env.locals
  ·rw[if_pos h,if_pos h,h,I.no];rfl
  ·rw[if_neg h,if_neg h]
 have d1:Dis st.σ φ':=λa m e=>by
  show (if a=X.env.locals then EU (MO.fr st.ρ) else φ a)=none;rw[if_neg (λh=>by rw[h,I.no] at e;cases e)];exact I.dis a m e
 refine ab (h φ' s vs (by rw[e1];exact I.inv) d1 r) λv s' pp=>?_;refine fv pp λm σ' r' I' d' k q=>?_;clear pp
 have no:σ' X.env.locals=none:=by
  cases hh:σ' X.env.locals with
  |none=>rfl
  |some m=>
   have:=d' _ _ hh;have:(if X.env.locals=X.env.locals then EU (MO.fr st.ρ) else φ X.env.locals)=none:=this;rw[if_pos rfl] at this;cases this
 have e2:joi σ' φ'=tot σ' φ X.env.locals st.ρ:=by
  funext a;show (σ' a).or (if a=X.env.locals then EU (.fr st.ρ) else φ a)=if a=X.env.locals then EU (.fr st.ρ) else (σ' a).or (φ a)
  by_cases h:a=X.env.locals
  ·rw[if_pos h,if_pos h,h,no];rfl
  ·rw[if_neg h,if_neg h]
 refine ⟨m,⟨σ',st.ρ⟩,r',⟨by show Inv X.C (tot σ' φ X.env.locals st.ρ) s';rw[←e2];exact I',no,λa m e=>?_,I.loc⟩,k,q⟩;have:=d' a m e;have this:(if a=X.env.locals then EU (MO.fr st.ρ) else φ a)=none:=this;by_cases h:a=X.env.locals
 ·rw[if_pos h] at this;cases this
 ·rw[if_neg h] at this;exact this
noncomputable def BindOk (C:Cx) (fd:FuncData) (args:List MV) (ps:List (Str×MV)):Prop:=
 ∀s vs,(∀b o,C.h0.get? b=EU o->s.heap.get? b=EU o)->VRs s.heap args vs->∃binds:List (Str×Value),BindsTo s fd ⟨vs,[]⟩ binds∧(∀x∈binds,fd.scope.names.lookup x.1=EU .local)∧
  ∀x m,ps.lookup x=EU m->∃v,binds.reverse.lookup x=EU v∧VR s.heap m v
noncomputable def lo0 (fd:FuncData) (ps:List (Str×MV)):Lo:=(fd.scope.names.filter λp=>p.2== .local).map λp=>(p.1,ps.lookup p.1)
theorem gR {f:Str->Option MV}:∀{l:List (Str×NameKind)} {x:Str} {v:Option MV},lk (l.map λp=>(p.1,f p.1)) x=EU v->v=f x∧∃k,(x,k)∈l
 | [],x,v,h=>by cases h
 |(n,k)::l,x,v,h=>by
  simp only[FV,lk] at h;split at h
  ·rename_i e;subst e;cases h;exact ⟨rfl,k,.head _⟩
  ·refine g4 (gR h) λa k' b=>?_;exact ⟨a,k',.tail _ b⟩
noncomputable def RP (Q:MV->Sg->Prop):Fl->St->Prop
 | .ret m,st=>Q m st.σ
 |_,st=>Q (.k .none) st.σ
theorem Dg {P Q:MV->Sg->Prop} {st:St} (h:∀m σ',P m σ'->Q m σ') (x:P m st.σ):RP Q (.ret m) st:=h _ _ x
theorem DI {P Q:MV->Sg->Prop} {st:St} (h:∀m σ',P m σ'->Q m σ') (x:P (.k .none) st.σ):RP Q .next st:=h _ _ x
section
variable {k:Int}
variable {X:Xc} {st:St} {φ:Sg} {Q:MV->St->Prop} {QB:Bool->St->Prop}
theorem fW (f:Array Value->Array Value) (its:Array Value) (n:Nat):
 ∃n',F4 f {cls:= .type "list",data:= .seq its n}={cls:= .type "list",data:= .seq (f its) n'}:=⟨_,by unfold F4;rfl⟩
theorem nN {w:FH} {s:Shared} {t:Nv} {Q:Unit->Shared->Prop} (hl:s.heap.PlainList l items)
 (h0:0≤k) (hfit:k<2^63) (hn:k<items.size)
 (hQ:∀h',h'.PlainList l (items.setIfInBounds k.toNat v)->Heap.SameBut l s.heap h'->Q () {s with heap:=h'}):
 E4 (Fa prog w) A (NL (.ref l) (.int k t) v) Q E s:=by
 refine xe1 hl λn ho=>?_;clear hl;have T:s.TypeIs (.ref l) "list" :=(af _ ho rfl)
 unfold NL
 try with_reducible refine wpAny_holding ?_
 first|refine EX (E0 ?_)|skip
 refine EX (wpAny_sequenceKey T s!"d" ?_);refine EX (Gn (name:=EW "__setitem__") T Pj (Gv Pj T entry_list_setitem ?_ (args_list_setitem _ _ _)));show E4 _ _ (Qe (.int k t)>>=_) _ _ s;refine EX (wpAny_listSubscript_int (fitsIndex_of h0 hfit) ?_);clear hfit;refine xe1 (Int.eq_ofNat_of_zero_le h0) λj z1=>?_;clear h0;subst z1;have hj:j<items.size:=by exact FO.mp hn
 refine xe1 (fW (·.setIfInBounds j v) items n) λn' hm=>?_
 have done:Q () {s with heap:=s.heap.update l (F4 (·.setIfInBounds j v))}:=
  hQ _ ⟨n',by rw[Heap.get?_update_self _ ho (by rw[hm];rfl),hm];rfl⟩ (Heap.SameBut.update ..)
 show E4 _ _ ((seqItemAt l j>>=λr=>pure (r.map (j,·)))>>=_) _ _ s;refine EX (EX (wpAny_seqItemAt ho rfl (E0 ?_)));rw[show items[j]?=EU items[j] from H0 hj];show E4 _ _ (setSeqItemAt l j v>>=_) _ _ s;refine EX (wpAny_setSeqItemAt ho rfl ?_)
 first
  |exact EX (E0 (E0 (af (.none) rfl (E0 done))))
  |exact E0 ⟨.none,rfl,E0 done⟩
theorem VRs.set {h:Heap}:∀{ms:List MV} {xs:List Value} {i:Nat} {m:MV} {x:Value},VRs h ms xs->VR h m x->VRs h (ms.set i m) (xs.set i x)
 | [],_,i,m,x,r,e=>by unfold VRs at r;subst r;exact .nil _
 |a::ms,_,0,m,x,r,e=>by
  unfold VRs at r;refine am r λy ys z1 z2=>?_;clear r;subst z1;refine xa1 z2 λe2 e3=>?_;clear z2;exact .cons e e3
 |a::ms,_,i+1,m,x,r,e=>by
  unfold VRs at r;refine am r λy ys z1 z2=>?_;clear r;subst z1;refine xa1 z2 λe2 e3=>?_;exact .cons e2 (VRs.set e3 e)
theorem gK (e:st.σ l=EU (.lst vs)) (h0:0≤k) (hfit:k<2^63) (hn:k<vs.length) (hq:QU ⟨st.σ.put l (.lst (vs.set k.toNat m)),st.ρ⟩):
 ∀φ s v w u,IF X φ st s->VR s.heap (.r l) v->VR s.heap (.i k) w->VR s.heap m u->E4 X.M X.A (NL v w u) (λ_=>PostU X φ s QU) NoE s:=λφ s v w u I r1 ⟨t,r2⟩ r3=>by
 cases (show v= .ref l from r1);subst r2;refine ad (I.own e) λitems pl rr=>?_;refine nN pl h0 hfit (by rw[rr.size];exact hn) λh' pl' sb=>?_;have k':=cp I e sb;refine ⟨_,I.upd (m':= .lst (vs.set k.toNat m)) (t:=s.toks) e sb (af _ pl' ?_),k',hq⟩;rw[Array.toList_setIfInBounds];exact (rr.keep k').set (r3.keep k')
theorem sv (t u:Addr) (a b c d:Int) (ta tb tc td:Nv) (n m:Nat) (o o':Obj) (hc:o.cls= .type "tuple") (hc':o'.cls= .type "tuple")
 (hd:o.data= .seq #[.int a ta,.int b tb] n) (hd':o'.data= .seq #[.int c tc,.int d td] m):
 Og (Builtin.«tuple.__lt__» ⟨[.ref t,.ref u],[]⟩)
  (λ_ R s=>s.heap.get? t=EU o∧s.heap.get? u=EU o'∧R (.ok (.ret (.bool (decide (a<c∨(a=c∧b<d)))))) s):=by
 intro prog w A R s h;obtain ⟨hp,g,dd,tk,os⟩:=s;refine xa2 h λhl hb h=>?_
 wp_walk using GP hl,GP hb
 rw[hc',FM]
 wp_walk using GP hl,GP hb
 rw[hd]
 wp_walk using GP hl,GP hb
 rw[hd'];refine E0 ?_;refine E0 ?_;refine EX ?_;show E4 _ _ (forIn [(Jx a ta,Jx c tc),(Jx b tb,Jx d td)] _ _) _ _ _;rw[G2];refine EX (EX (LE ?_));by_cases h1:a=c
 ·subst h1;simp only[beq_self_eq_true,Me,FL,if_false];refine E0 ?_;dsimp only;rw[G2];refine EX (EX (LE ?_));by_cases h2:b=d
  ·subst h2;simp only[beq_self_eq_true,Me,FL,if_false];refine E0 ?_;dsimp only;rw[List.forIn_nil]
   wp_walk
   show R (Except.ok (Flow.ret (.bool false))) _;simpa using h
  ·have e:(b==d)=false:=by simpa using h2
   simp only[e,Ka,if_true];refine EX (EX (HL (E0 (a:=()) (EX ?_))));show E4 _ _ (Fu .Lt (.int b tb) (.int d td)) _ _ _;refine NM ?_
   wp_walk
   simpa using h
 ·have e:(a==c)=false:=by simpa using h1
  simp only[e,Ka,if_true];refine EX (EX (HL (E0 (a:=()) (EX ?_))));show E4 _ _ (Fu .Lt (.int a ta) (.int c tc)) _ _ _;refine NM ?_
  wp_walk
  simpa[h1] using h
end
section
variable {b:Int}
variable {X:Xc} {st:St} {φ:Sg} {Q:MV->St->Prop} {QB:Bool->St->Prop}
theorem dK {a:Int} (r:VRs h [.i a,.i b] items.toList):∃ta tb,items= #[.int a ta,.int b tb]:=by
 unfold VRs at r;refine bM r λy ys e z1 r=>?_;obtain ⟨ta,rfl⟩:=z1;unfold VRs at r;refine am r λz zs z1 z2=>?_;clear r;subst z1;obtain ⟨⟨tb,rfl⟩,r⟩:=z2;unfold VRs at r;subst r;exact (ie2 ta tb (by rw[←Hg (xs:=items),e]))
theorem xA {a c d:Int} (hu:X.A.units<cLine) (h:Q (.k (.bool (decide (a<c∨(a=c∧b<d))))) st):
 W2 X (Fu .Lt) (.t (.type "tuple") [.i a,.i b]) (.t (.type "tuple") [.i c,.i d]) st Q:=λφ s v w I r1 r2=>by
 refine bx r1 λt o its n z1 z2=>?_;clear r1;subst z1;refine xa4 z2 λe2 e3 e4 e5 r=>?_;clear z2;refine bx r2 λu o' its' n' z1 z2=>?_;clear r2;subst z1;refine xa4 z2 λf2 f3 f4 f5 r'=>?_;clear z2;refine xe2 (dK r) λta tb z1=>?_;clear r;subst z1;refine xe2 (dK r') λtc td z1=>?_;clear r';subst z1;show E4 _ _ (Mf .Lt (.ref t) (.ref u)) _ _ _;have T:s.TypeIs (.ref t) "tuple" :=(af o e2 e4)
 have U:s.TypeIs (.ref u) "tuple" :=(af o' f2 f4)
 refine M8 (op:= .Lt) (T:="tuple") T U G8 ?_ (.inr hu);refine Jj G8 T Jy (Jk _ _) ((sv t u a b c d ta tb tc td n n' o o' e4 f4 e5 f5).inModel pgm X.C.w) (ia2 e2 f2 ?_);exact ⟨s!"4",.mk (ba ..) I (.refl _) h⟩
theorem xH (e:st.σ l=EU (.lst (vs++[m]))) (hsz:vs.length+1≤sizeLine) (hq:Q m ⟨st.σ.put l (.lst vs),st.ρ⟩):WC X (.builtin "list.pop") [.r l] st Q:=λφ s us I r=>by
 refine fN r ?_;refine ad (I.own e) λitems z1 rr=>?_;refine xe1 z1 λn pl=>?_;clear z1;have sz:=rr.size;simp only[E7,Hm,Oh] at sz;refine ad (rr.arr (i:=items.size-1) (m:=m) (by rw[sz];simp)) λx hx rx=>?_;have T:s.TypeIs (.ref l) "list" :=(af _ pl rfl)
 refine Jj JJ T PySem.F.entry_list_pop (PySem.F.args_list_pop_1 _) ((MeetsSeq.list_pop_last l items n x hx (by exact sz▸hsz)).inModel pgm X.C.w) ⟨pl,?_⟩;have sb:Heap.SameBut l s.heap (s.heap.update l (F4 λxs=>xs.eraseIdxIfInBounds (items.size-1))):=Heap.SameBut.update ..;have k:=cp I e sb;refine xe1 (fW (λxs=>xs.eraseIdxIfInBounds (items.size-1)) items n) λn' hm=>?_
 have er:(items.eraseIdxIfInBounds (items.size-1)).toList=items.toList.take vs.length:=by
  have h1:items.size-1<items.size:=by exact sz▸Fd _
  simp[LF,h1];rw[List.eraseIdx_eq_take_drop_succ,sz];simp[sz]
 have rv:VRs s.heap vs (items.toList.take vs.length):=by
  have:∀(vs:List MV) (xs:List Value),VRs s.heap (vs++[m]) xs->VRs s.heap vs (xs.take vs.length):=by
   intro vs
   induction vs with
   |nil=>intro xs _;simp;exact .nil _
   |cons v vs ih=>
    intro xs h;rw[List.cons_append] at h;unfold VRs at h;refine am h λy ys z1 z2=>?_;clear h;subst z1;refine xa1 z2 λh1 h2=>?_;clear z2;exact .cons h1 (ih _ h2)
  exact this vs _ rr
 exact .mk (rx.keep k) (I.upd (m':= .lst vs) (t:=s.toks) e sb (af _ ⟨n',by rw[Heap.get?_update_self _ pl (by rw[hm];rfl),hm]⟩ (by rw[er];exact rv.keep k))) k hq
end
section
variable {Q:MV->St->Prop}
theorem df {a b:String}:(EW a=EW b)↔a=b:=by
 constructor
 ·intro h;rw[MQ,MQ] at h
  have h1:(a.toList.map Kw)=(b.toList.map Kw):=by
   have:=congrArg (λs:Str=>s.cps.toList) h;simpa using this
  have inj:∀(x y:List Char),x.map Kw=y.map Kw->x=y:=by
   intro x
   induction x with
   |nil=>intro y h;cases y with
    |nil=>rfl
    |cons=>simp at h
   |cons c x ih=>intro y h;cases y with
    |nil=>simp at h
    |cons d y=>
     simp only[FV,Jp] at h
     have:c=d:=by
      apply Char.ext;exact UInt32.toNat_inj.mp h.1
     rw[this,ih y h.2]
  exact String.toList_inj.mp (inj _ _ h1)
 ·rintro rfl;rfl
noncomputable abbrev LL:=List (String×Option MV)
noncomputable def fL:LL->String->Option (Option MV)
 | [],_=>none
 |(n,v)::l,x=>if x=n then EU v else fL l x
noncomputable def stS:LL->String->MV->LL
 | [],_,_=>[]
 |(n,v)::l,x,m=>if x=n then (n,EU m)::l else (n,v)::stS l x m
noncomputable def mkL (l:LL):Lo:=l.map λp=>(EW p.1,p.2)
theorem ue:∀{l:LL} {x:String},lk (mkL l) (EW x)=fL l x
 | [],_=>rfl
 |(n,v)::l,x=>by
  show (if EW x=EW n then _ else _)=if x=n then _ else _
  by_cases h:x=n
  ·rw[if_pos h,if_pos (df.mpr h)]
  ·rw[if_neg h,if_neg λe=>h (df.mp e)];exact ue
theorem sF:∀{l:LL} {x:String} {m:MV},stL (mkL l) (EW x) m=mkL (stS l x m)
 | [],_,_=>rfl
 |(n,v)::l,x,m=>by
  show (if EW x=EW n then _ else _)=mkL (if x=n then _ else _);by_cases h:x=n
  ·rw[if_pos h,if_pos (df.mpr h)];rfl
  ·rw[if_neg h,if_neg λe=>h (df.mp e)];exact congrArg (_::·) sF
theorem lkL {l:LL} {x:String} {r:Option (Option MV)} (h:fL l x=r):lk (mkL l) (EW x)=r:=ue.trans h
noncomputable def gI {α:Type}:List α->Nat->Option α
 | [],_=>none
 |a::_,0=>EU a
 |_::l,k+1=>gI l k
noncomputable def sI {α:Type}:List α->Nat->α->List α
 | [],_,_=>[]
 |_::l,0,x=>x::l
 |a::l,k+1,x=>a::sI l k x
noncomputable def zL:List String->List (Option MV)->Lo
 |n::ns,v::vs=>(EW n,v)::zL ns vs
 |_,_=>[]
theorem p0 {α:Type} {x:α}:∀{l:List α} {k:Nat},gI l k=EU x->x∈l
 |a::l,0,h=>My h▸ .head l
 |_::l,k+1,h=> .tail _ (p0 (l:=l) h)
theorem AB {x n:String} {ns:List String} (e:EW x=EW n) (h:x∈ns):n∈ns:=by cases df.mp e;exact h
theorem lkI {x:String} {u:Option MV}:∀{ns:List String} {vs:List (Option MV)} {k:Nat},ns.Nodup->gI ns k=EU x->gI vs k=EU u->lk (zL ns vs) (EW x)=EU u
 |n::ns,v::vs,0,_,h,g=>by cases h;cases g;exact if_pos rfl
 |n::ns,v::vs,k+1,hd,h,g=>(if_neg λe=>(G3.mp hd).1 (AB e (p0 (l:=ns) h))).trans (lkI (G3.mp hd).2 h g)
theorem stI {x:String} {m:MV}:∀{ns:List String} {vs:List (Option MV)} {k:Nat},ns.Nodup->gI ns k=EU x->stL (zL ns vs) (EW x) m=zL ns (sI vs k (EU m))
 |_::_,[],_,_,_=>rfl
 |n::ns,v::vs,0,_,h=>by cases h;exact if_pos rfl
 |n::ns,v::vs,k+1,hd,h=>(if_neg λe=>(G3.mp hd).1 (AB e (p0 (l:=ns) h))).trans (congrArg (_::·) (stI (G3.mp hd).2 h))
variable {X:Xc} {σ:Sg} {ns:List String} {vs:List (Option MV)} {k:Nat} {x:String}
theorem bd (O:XOk X) (hd:ns.Nodup) (hn:gI ns k=EU x) {pos m} (hv:gI vs k=EU (EU m)) (hq:Q m ⟨σ,zL ns vs⟩):WE X (.Name (EW x) pos) ⟨σ,zL ns vs⟩ Q:=gM O (lkI hd hn hv) hq
theorem cG (O:XOk X) (hd:ns.Nodup) (hn:gI ns k=EU x) {pos m u} {Q:St->Prop} (hv:gI vs k=EU u) (hq:Q ⟨σ,zL ns (sI vs k (EU m))⟩):WA X (.Name (EW x) pos) m ⟨σ,zL ns vs⟩ Q:=mj O (lkI hd hn hv) (stI hd hn▸hq)
inductive Az {α:Type} (ns:List String) (f:α->List (Option MV)) (P:α->Sg->Prop):St->Prop
 |mk (a:α) {σ:Sg} (h:P a σ):Az ns f P ⟨σ,zL ns (f a)⟩
variable {X:Xc} {σ:Sg} {l:LL}
theorem av (O:XOk X) {x:String} {pos m} (h:fL l x=EU (EU m)) (hq:Q m ⟨σ,mkL l⟩):WE X (.Name (EW x) pos) ⟨σ,mkL l⟩ Q:=gM O (lkL h) hq
theorem cT (O:XOk X) {x:String} {pos m u} {Q:St->Prop} (h:fL l x=EU u) (hq:Q ⟨σ,mkL (stS l x m)⟩):WA X (.Name (EW x) pos) m ⟨σ,mkL l⟩ Q:=mj O (lkL h) (sF▸hq)
inductive At {α:Type} (f:α->LL) (P:α->Sg->Prop):St->Prop
 |mk (a:α) {σ:Sg} (h:P a σ):At f P ⟨σ,mkL (f a)⟩
theorem cE (σ:Sg) (l:Addr) (a b:MO):(σ.put l a).put l b=σ.put l b:=by
 funext c;unfold Sg.put;split<;>rfl
theorem cK {P:List α->Prop} (h:P []) (vs:List α) (e:vs.length=0):P vs:=FS.mp e▸h
theorem bk {P:List α->Prop} (h:∀a (vs:List α),vs.length=n->P (a::vs)):∀vs:List α,vs.length=n+1->P vs
 |a::vs,e=>h a vs (N0 e)
end
section
noncomputable abbrev P2:=Int×Int
noncomputable def tp (p:P2):MV:= .t (.type "tuple") [.i p.1,.i p.2]
noncomputable def lt2 (p q:P2):Prop:=p.1<q.1∨(p.1=q.1∧p.2<q.2)
instance (p q:P2):Decidable (lt2 p q):=by unfold lt2;exact inferInstance
noncomputable def sd (new:P2):Nat->Nat->List P2->List P2
 |0,pos,xs=>xs.set pos new
 |f+1,pos,xs=>if pos=0 then xs.set pos new else
  let par:=(xs[(pos-1)/2]?).getD (0,0)
  if lt2 new par then sd new f ((pos-1)/2) (xs.set pos par) else xs.set pos new
structure SJ (l:Addr) (xs:List P2) (pos:Nat) (σ:Sg) (new:P2) (n:Nat) (ys:List P2) (f:Nat) (σ':Sg):Prop where
 e:σ' l=EU (.lst (ys.map tp))
 o:∀b,b≠l->σ' b=σ b
 p:n<ys.length
 l':ys.length=xs.length
 f':n≤f
 t:sd new f n ys=sd new pos pos xs
theorem AL {n:Nat} (h:¬n=0):((n:Int)-1).fdiv (2^(1:Int).toNat)=(((n-1)/2:Nat):Int):=by
 rw[show ((2:Int)^(1:Int).toNat)=2 from rfl,LG _ s!"d"];exact DG h
theorem dY {n:Nat} (h:¬n=0):(n-1)/2<n:=by exact zU h
theorem mlt {n:Nat} {ys:List P2} (h:n<ys.length):(n:Int)<((ys.map tp).length:Nat):=by rw[EZ];exact FO.mpr h
theorem lU {n:Nat} {ys:List P2} (h:n<ys.length):(ys.map tp)[(n:Int).toNat]?=EU (tp ys[n]):=by rw[FU,Fx,E2 h];rfl
variable {l:Addr} {xs ys:List P2} {pos n f:Nat} {σ σ':Sg} {new:P2}
theorem SJ.z (h:SJ l xs pos σ new n ys f σ') (hx:xs.length<1000):(n:Int)<2^63:=iTT (Fq (h.l'▸h.p) hx) s!"d"
theorem SJ.put (h:SJ l xs pos σ new n ys f σ') {zs:List P2} (hs:zs=sd new f n ys):σ'.put l (.lst (zs.map tp))=σ.put l (.lst ((sd new pos pos xs).map tp)):=by
 subst hs;funext b;show (if b=l then EU _ else σ' b)=if b=l then EU _ else σ b
 rw[h.t];by_cases hb:b=l
 ·rw[if_pos hb,if_pos hb]
 ·rw[if_neg hb,if_neg hb];exact h.o b hb
theorem SJ.done (h:SJ l xs pos σ new n ys f σ') (hs:sd new f n ys=ys.set n new):σ'.put l (.lst ((ys.map tp).set ((n:Int).toNat) (tp new)))=σ.put l (.lst ((sd new pos pos xs).map tp)):=
 (congrArg (λz=>σ'.put l (.lst z)) JO.symm).trans (h.put hs.symm)
theorem Ee:sd new f 0 ys=ys.set 0 new:=by cases f<;>rfl
theorem Ah (h0:¬n=0) (h:n<ys.length):sd new (f+1) n ys=if lt2 new (ys[(n-1)/2]'(Fq (dY h0) h)) then sd new f ((n-1)/2) (ys.set n (ys[(n-1)/2]'(Fq (dY h0) h))) else ys.set n new:=by
 simp only[sd,if_neg h0,E2 (Fq (dY h0) h),Option.getD_some]
theorem SJ.step (h:SJ l xs pos σ new n ys (f+1) σ') (h0:¬n=0) (hlt:lt2 new (ys[(n-1)/2]'(Fq (dY h0) h.p))):
 SJ l xs pos σ new ((n-1)/2) (ys.set n (ys[(n-1)/2]'(Fq (dY h0) h.p))) f (σ'.put l (.lst ((ys.map tp).set ((n:Int).toNat) (tp (ys[(n-1)/2]'(Fq (dY h0) h.p)))))):=by
 refine ⟨(if_pos rfl).trans (congrArg (λz=>EU (MO.lst z)) JO.symm),λb hb=>(if_neg hb).trans (h.o b hb),?_,FA.trans h.l',?_,?_⟩
 ·rw[FA];exact Fq (dY h0) h.p
 ·exact FD (E1 (dY h0) h.f')
 ·rw[←h.t,Ah h0 h.p,if_pos hlt]
theorem qP (X:Xc) (O:XOk X) (hu:X.A.units<cLine) (l:Addr) (xs:List P2) (pos:Nat) (σ:Sg) (hp:pos<xs.length) (hx:xs.length<1000) (e:σ l=EU (.lst (xs.map tp))) (hq:∀ρ,Q .next ⟨σ.put l (.lst ((sd (xs[pos]) pos pos xs).map tp)),ρ⟩):
 WS X (cu (top 10)) ⟨σ,mkL [("heap",EU (.r l)),("startpos",EU (.i 0)),("pos",EU (.i pos)),("newitem",none),("parentpos",none),("parent",none)]⟩ Q:=by
 conv=>arg 2;whnf
 refine aa (ah s!"2" s!"2" trivial (aP (av O rfl (av O rfl (aY ⟨λ_ _=>s!"r",λ_ _=>s!"r"⟩ e (Ff _) (iTT (Fq hp hx) s!"d") (lU hp) (cT O rfl ?_))))));generalize xs[pos]=new at hq⊢;refine aa (dg (λn=>At (λa:List P2×Nat×Option MV×Option MV=>[("heap",EU (.r l)),("startpos",EU (.i 0)),("pos",EU (.i n)),("newitem",EU (tp new)),("parentpos",a.2.2.1),("parent",a.2.2.2)]) λa=>SJ l xs pos σ new n a.1 a.2.1) ?_ pos (.mk (xs,pos,none,none) ⟨e,λb _=>rfl,hp,rfl,Fd _,rfl⟩));rintro J hJ n _ ⟨⟨ys,f,u5,u6⟩,h⟩;dsimp only at h;refine aC s!"r" (av O rfl (av O rfl (iu (ay ?_))));by_cases h0:n=0
 ·subst h0;exact ifF s!"d" (ak (aa (ah s!"2" s!"2" trivial (av O rfl (eR (λ_ _ _=>rfl) (av O rfl (av O rfl (gK h.e (Ff _) (h.z hx) (mlt h.p) (ak (h.done Ee▸hq _))))))))))
 obtain ⟨g,rfl⟩:∃g,f=g+1:=⟨f-1,(Mz (E1 (Hd h0) h.f')).symm⟩
 have hpp:=Fq (dY h0) h.p;refine ifT (decide_eq_true (FO.mpr (Hd h0))) (aa (ah s!"2" s!"2" trivial (ar (ar (av O rfl (aq (eY (aq (Dd s!"d" (cT O rfl ?_))))))))));rw[AL h0];refine aa (ah s!"2" s!"2" trivial (aP (av O rfl (av O rfl
  (aY ⟨λ_ _=>s!"r",λ_ _=>s!"r"⟩ h.e (Ff _) (iTT (Fq (h.l'▸hpp) hx) s!"d") (lU hpp) (cT O rfl ?_))))))
 refine aa (bl (aC s!"r" (av O rfl (av O rfl (xA hu (ay ?_))))));by_cases hlt:lt2 new (ys[(n-1)/2])
 ·refine ifT (decide_eq_true hlt) (aa (ah s!"2" s!"2" trivial (av O rfl (eR (λ_ _ _=>rfl) (av O rfl (av O rfl (gK h.e (Ff _) (h.z hx) (mlt h.p) ?_)))))));exact aa (ah s!"2" s!"2" trivial (av O rfl (cT O rfl (aa (iO (af _ (dY h0) (hJ _ _ (.mk (_,g,_,_) (h.step h0 hlt)))))))))
 ·refine ifF (λq=>hlt (of_decide_eq_true q)) (ak (aa (mR (aa (ah s!"2" s!"2" trivial (av O rfl (eR (λ_ _ _=>rfl) (av O rfl (av O rfl (gK h.e (Ff _) (h.z hx) (mlt h.p) ?_))))))))));exact ak (h.done ((Ah h0 h.p).trans (if_neg hlt))▸hq _)
end
structure Gd (C:Cx):Prop where
 says:Says C.w C.h0
 lim:C.h0.NoLimit
theorem Says.obj {w:FH} (S:Says w h) {a:Addr} (e:(K w.params).lookup a=EU o) (hd:fC.contains a=false):h.get? a=EU o:=by
 obtain ⟨v,hv⟩:=S.k (a,o) (dH e);have:dZ a v o=o:=by unfold dZ;rw[hd]
 rw[hv];exact congrArg EU this
theorem Says.fn {w:FH} (S:Says w h) {a:Addr} {st:Stmt} {n q:Str} {d pm cd:Value} {an:Option Addr} (e:(K w.params).lookup a=EU (mkF st n q d .none pm an cd)):
 ∃v,h.get? a=EU (mkF st n q d v pm an cd):=by
 refine xe1 (S.k (a,_) (dH e)) λv hv=>?_
 cases hd:fC.contains a with
 |true=>
  refine ⟨v,?_⟩;rw[hv];unfold dZ;rw[hd];rfl
 |false=>
  refine ⟨.none,?_⟩;rw[hv];unfold dZ;rw[hd]
theorem rn {l:List (Addr×Value)} {a:Addr} {o:Value} (h:l.lookup a=EU o):(a,o)∈l:=by
 induction l with
 |nil=>cases h
 |cons p r ih=>
  obtain ⟨b,x⟩:=p;simp only[IP] at h;split at h
  ·rename_i q;cases h;rw[beq_iff_eq.mp q];exact .head _
  ·exact .tail _ (ih h)
theorem Says.code {w:FH} (S:Says w h) {c:Addr} {q:Str} {t:Nv} (e:dy.lookup c=EU (.str q t)):h.CodeRec (.ref c) q:=by
 have z:=S.c (c,_) (rn e);obtain ⟨o,ho⟩:=g5 z;rw[ho] at z;obtain ⟨cc,d,dt,sl⟩:=o
 cases dt with
 |fields vs=>exact (jA c _ vs t rfl ho ⟨rfl,z⟩)
 |_=>cases z
noncomputable def oX (o:Option Obj):List DictEntry:=match o with
 |some ⟨_,_,.dict es _,_⟩=>es.toList
 |_=>[]
noncomputable def dw (l:List DictEntry) (x:Str):Option Value:=(l.find? λe=>e.key.isStr x).map (·.val)
noncomputable def ic (l:List DictEntry):Bool:=l.all λe=>match e.key with
 | .str _ _=>true
 |_=>false
theorem CR {a:Addr} (e:h.get? a=EU o) {es:Array DictEntry} (hd:o.data= .dict es n) (hk:ic es.toList=true):h.Ns a (dw es.toList):=by
 refine (jt o es n e hd ⟨λen hen=>?_,λx=>?_⟩)
 ·have:=Fm.mp hk en (MR.mpr hen)
  cases hke:en.key with
  |str s t=>exact (ie2 s t rfl)
  |_=>rw[hke] at this;cases this
 ·unfold nsFind findBy dw;rw[←Array.find?_toList]
noncomputable def l3 (P:F0):List DictEntry:=oX ((K P).lookup 3)
noncomputable def l0 (P:F0):List DictEntry:=oX ((K P).lookup 0)
theorem gX {w:FH} (S:Says w h) {a:Addr} (hd:fC.contains a=false) (hs:(match (K w.params).lookup a with|some ⟨_,_,.dict es _,_⟩=>ic es.toList|_=>false)=true):
 h.Ns a (dw (oX ((K w.params).lookup a))):=by
 cases e:(K w.params).lookup a with
 |none=>rw[e] at hs;cases hs
 |some o=>
  rw[e] at hs;obtain ⟨c,d,dt,sl⟩:=o
  cases dt with
  |dict es n=>exact CR (S.obj e hd) rfl hs
  |_=>cases hs
theorem s3 (P:F0):(match (K P).lookup 3 with|some ⟨_,_,.dict es _,_⟩=>ic es.toList|_=>false)=true:=s!"k"
theorem s0 (P:F0):(match (K P).lookup 0 with|some ⟨_,_,.dict es _,_⟩=>ic es.toList|_=>false)=true:=s!"k"
noncomputable def hO (sc:O7) (P:F0) (gs:List (Str×Value)):Bool:=gs.all λp=>sc.names.lookup p.1==EU .globalImplicit&& !(p.1==("__debug__" :Str))&&
 (dw (l3 P) p.1==EU p.2||((dw (l3 P) p.1).isNone&&dw (l0 P) p.1==EU p.2))
theorem gy {l:List (Str×Value)} {a:Str} {o:Value} (h:l.lookup a=EU o):(a,o)∈l:=by
 induction l with
 |nil=>cases h
 |cons p r ih=>
  obtain ⟨b,x⟩:=p;simp only[IP] at h;split at h
  ·rename_i q;cases h;rw[beq_iff_eq.mp q];exact .head _
  ·exact .tail _ (ih h)
theorem xok {C:Cx} (G:Gd C) (hh:A.handled=none) {a:Addr} (hk:fd.scope.kind= .function) (hg:fd.globals=3) (hb:fd.builtins=0)
 (ok:hO fd.scope C.w.params gs=true):XOk ⟨C,A.deeper (JP fd L a),JP fd L a,gs⟩:=by
 refine ⟨hk,hh,λx v e=>?_⟩;have z:=Fm.mp ok (x,v) (gy e);simp only[Fc,JT,Ga,beq_iff_eq,I5] at z;refine xa1 z λz5 z3=>?_;clear z;refine xa1 z5 λz1 z2=>?_;clear z5;refine (ia2 z1 (by simpa using z2) (λs old E Q q=>?_))
 have n3:s.heap.Ns (JP fd L a).globals (dw (l3 C.w.params)):=by
  show s.heap.Ns fd.globals _;rw[hg];exact (gX G.says rfl (s3 _)).keeps old
 rcases z3 with z3|⟨z3,z4⟩
 ·exact Lj n3 z3 q
 ·have n0:s.heap.Ns (JP fd L a).builtins (dw (l0 C.w.params)):=by
   show s.heap.Ns fd.builtins _;rw[hb];exact (gX G.says rfl (s0 _)).keeps old
  exact K5 n3 z3 n0 z4 q
structure Rm (n:Nat) (A:Gk):Prop where
 hh:A.handled=none
 d:A.depth+4*n+1<MS
 u:A.units+16*n+16<cLine
theorem Rm.deeper {n:Nat} {A:Gk} (R:Rm (n+1) A) (env:Env):Rm n (A.deeper env):=by
 refine ⟨R.hh,?_,?_⟩
 ·have:=R.d;show A.depth+1+4*n+1<_;exact zQ this
 ·have:=R.u;show A.units+3+16*n+16<_;exact g16 this s!"d"
theorem aX {C:Cx} {ns:List Str} (hl:ns.length=args.length) (hloc:(ns.all λx=>fd.scope.names.lookup x==EU .local)=true) (hnd:ns.Nodup)
 (hb:∀vs:List Value,vs.length=args.length->Ll fd ⟨vs,[]⟩=pure (ns.zip vs)):BindOk C fd args (ns.zip args):=λs vs old r=>by
 have len:=r.length;refine (aR (ns.zip vs) (.of_eq (hb vs len)) (λx hx=>?_) (λx m hm=>?_))
 ·have:=Fm.mp hloc x.1 (List.of_mem_zip hx).1;simpa using this
 ·clear hb hloc
  have key:∀(ns:List Str) (args:List MV) (vs:List Value),ns.Nodup->ns.length=args.length->VRs s.heap args vs->(ns.zip args).lookup x=EU m->∃v,(x,v)∈ns.zip vs∧VR s.heap m v:=by
   intro ns
   induction ns with
   |nil=>intro args vs _ _ _ h;cases h
   |cons n ns ih=>
    intro args vs nd hl r h
    cases args with
    |nil=>cases hl
    |cons a as=>
     unfold VRs at r;refine am r λy ys z1 z2=>?_;clear r;subst z1;refine xa1 z2 λr1 r2=>?_;clear z2;simp only[List.zip_cons_cons,IP] at h;split at h
     ·rename_i q;clear hl;cases h;rw[beq_iff_eq.mp q];exact (af y (.head _) r1)
     ·refine ad (ih as ys (G3.mp nd).2 (by simpa using hl) r2 h) λv hv rv=>?_;exact (af v (.tail _ hv) rv)
  refine ad (key ns args vs hnd hl r hm) λv hv rv=>?_;refine (af v ?_ rv)
  have uniq:∀(l:List (Str×Value)),(l.map (·.1)).Nodup->(x,v)∈l->l.lookup x=EU v:=by
   intro l
   induction l with
   |nil=>intro _ h;cases h
   |cons p l ih=>
    intro nd h;obtain ⟨b,y⟩:=p;simp only[IP];rcases FF.mp h with h1|h1
    ·clear nd h;cases h1;simp
    ·have nb:x≠b:=λhb=>(G3.mp nd).1 (Fp.mpr (af _ h1 hb));rw[beq_eq_false_iff_ne.mpr nb];exact ih (G3.mp nd).2 h1
  refine uniq _ ?_ (List.mem_reverse.mpr hv);rw[List.map_reverse];show Jq _ _;rw[List.pairwise_reverse,List.map_fst_zip (by exact EY (E6 hl) (E6 (I4 len)))];exact Jq.imp (λh=>E8 h) hnd
theorem Ct.mono {C:Cx} {σ:Sg} {Q Q':MV->Sg->Prop} (h:Ct C A f args σ Q) (k:∀m σ',Q m σ'->Q' m σ'):Ct C A f args σ Q':=λφ s vs I d r=>
 ab (h φ s vs I d r) λv s' y=>by
  obtain ⟨m,σ',a,b,c,e,q⟩:=y;exact ⟨m,σ',a,b,c,e,k m σ' q⟩
theorem wcE {σ τ:Sg} {v:MV} {Q:MV->St->Prop} (h:Ct X.C X.A f args σ λm σ'=>m=v∧σ'=τ) (hq:Q v ⟨τ,ρ⟩):WC X f args ⟨σ,ρ⟩ Q:=xV (Ct.mono h λm σ' e=>by clear h;obtain ⟨rfl,rfl⟩:=e;exact hq)
theorem uw {st:St} {QB:Bool->St->Prop} (e:st.σ l=EU (.lst vs)) (hfit:(vs.length:Int)<2^63) (h:QB (!vs.isEmpty) st):WT X (.r l) st QB:=λφ s v I r=>by
 cases (show v= .ref l from r);refine ad (I.own e) λitems pl rr=>?_
 have z:(!vs.isEmpty)=(items.size !=0):=by
  rw[rr.size];clear e hfit h rr;cases vs<;>simp
 rw[z] at h;refine wpAny_truthy_list pl.isList (by rw[rr.size];exact hfit) ?_;exact ⟨st,I.toks _,.refl _,h⟩
section
variable {m:MO}
variable {X:Xc} {st:St} {φ:Sg}
theorem IF.hide {s:Shared} (I:IF X φ st s) {a:Addr} (hn:st.σ a=none) (hF:a≠X.env.locals) (hz:X.C.h0.objs.size≤a) (x:OR s.heap a m):IF X (φ.put a m) st s:=by
 have q:Internal.tot st.σ (φ.put a m) X.env.locals st.ρ=(Internal.tot st.σ φ X.env.locals st.ρ).put a m:=by
  funext b;unfold Sg.put Internal.tot;by_cases h1:b=a
  ·clear hz x;subst h1;simp[hF,hn]
  ·simp[h1]
 refine ⟨by rw[q];exact I.inv.own hz x,I.no,λb n hb=>?_,I.loc⟩;show (if b=a then EU m else φ b)=none;rw[if_neg (λh=>by rw[h,hn] at hb;cases hb)];exact I.dis b n hb
theorem IF.unhide {s:Shared} (I:IF X φ' st s) (h:∀a m,φ a=EU m->φ' a=EU m):IF X φ st s:=by
 refine ⟨I.inv.sub λb n hb=>?_,I.no,λb n hb=>?_,I.loc⟩
 ·unfold Internal.tot at hb⊢;by_cases h1:b=X.env.locals
  ·rw[if_pos h1] at hb⊢;exact hb
  ·rw[if_neg h1] at hb⊢
   cases e:st.σ b with
   |some m=>rw[e] at hb;exact hb
   |none=>rw[e] at hb;exact h b n hb
 ·cases e:φ b with
  |none=>rfl
  |some m=>have:=h b m e;rw[I.dis b n hb] at this;cases this
theorem IF.move {s:Shared} (I:IF X (φ.put it m) st s) (nF:it≠X.env.locals) (ns:st.σ it=none) (ex:Heap.ExtBut it s.heap h') (x:OR h' it m'):
 IF X (φ.put it m') st {s with heap:=h',toks:=t}∧Keep s.heap h':=by
 have own:Internal.tot st.σ (φ.put it m) X.env.locals st.ρ it=EU m:=by
  unfold Internal.tot;rw[if_neg nF,ns];exact if_pos rfl
 have kk:Keep s.heap h':=λb o e im=>by
  refine ex b o (λhb=>?_) e;clear nF ns ex x;subst hb;refine ad ((I.inv.rep _ _ own).2.notImm) λo' ho' hi'=>?_;rw[e] at ho';cases ho';rw[im] at hi';cases hi'
 refine ⟨⟨⟨λb o hb=>ex b o (λh=>?_) (I.inv.old b o hb),λb n hb=>?_,I.inv.gens,I.inv.os⟩,I.no,λb n hb=>?_,I.loc⟩,kk⟩
 ·clear nF ns ex x;subst h;have:=Heap.lt_size hb;have:=(I.inv.rep _ _ own).1;exact absurd (E1 ‹_› this) (Fz _)
 ·by_cases h1:b=it
  ·clear ex;subst h1
   have e:Internal.tot st.σ (φ.put b m') X.env.locals st.ρ b=EU m':=by
    unfold Internal.tot;rw[if_neg nF,ns];exact if_pos rfl
   rw[e] at hb;cases hb;exact ⟨(I.inv.rep _ _ own).1,x⟩
  ·have e:Internal.tot st.σ (φ.put it m') X.env.locals st.ρ b=Internal.tot st.σ (φ.put it m) X.env.locals st.ρ b:=by
    unfold Internal.tot Sg.put;simp[h1]
   rw[e] at hb;refine xa1 (I.inv.rep b n hb) λa1 a2=>?_;refine ad a2.notImm λo ho _=>?_;exact ⟨a1,a2.keep ((ex b o h1 ho).trans ho.symm) kk⟩
 ·have d:(if b=it then EU m else φ b)=none:=I.dis b n hb;show (if b=it then EU m' else φ b)=none;by_cases h1:b=it
  ·rw[if_pos h1] at d;cases d
  ·rw[if_neg h1] at d⊢;exact d
structure Steps (X:Xc) (mo:Nat->MO) (vs:List MV) (Cond:St->Prop):Prop where
 item:∀(i:Nat) (hi:i<vs.length) (φ:Sg) (st:St) (s:Shared) (it:Addr) (Qx:Option Value->Shared->Prop),IF X φ st s->Cond st->OR s.heap it (mo i)->
  (∀h' x t,OR h' it (mo (i+1))->Heap.ExtBut it s.heap h'->(Keep s.heap h'->VR h' vs[i] x)->Qx (EU x) {s with heap:=h',toks:=t})->E4 X.M X.A (HM (.ref it)) Qx NoE s
 done:∀(φ:Sg) (st:St) (s:Shared) (it:Addr) (Qx:Option Value->Shared->Prop),IF X φ st s->Cond st->OR s.heap it (mo vs.length)->
  (∀h' t,Heap.ExtBut it s.heap h'->Qx none {s with heap:=h',toks:=t})->E4 X.M X.A (HM (.ref it)) Qx NoE s
theorem IF.forget {s:Shared} (I:IF X (φ.put it m) st s) (nF:it≠X.env.locals) (ns:st.σ it=none) (nφ:φ it=none) (ex:Heap.ExtBut it s.heap h'):
 IF X φ st {s with heap:=h',toks:=t}∧Keep s.heap h':=by
 have own:Internal.tot st.σ (φ.put it m) X.env.locals st.ρ it=EU m:=by
  unfold Internal.tot;rw[if_neg nF,ns];exact if_pos rfl
 have kk:Keep s.heap h':=λb o e im=>by
  refine ex b o (λhb=>?_) e;clear nF ns nφ ex;subst hb;refine ad ((I.inv.rep _ _ own).2.notImm) λo' ho' hi'=>?_;rw[e] at ho';cases ho';rw[im] at hi';cases hi'
 have I₃:IF X φ st s:=I.unhide λa n e=>by
  show (if a=it then EU _ else φ a)=EU n;rw[if_neg (λh=>by rw[h,nφ] at e;cases e)];exact e
 refine ⟨⟨⟨λb o hb=>ex b o (λh=>?_) (I.inv.old b o hb),λb n hb=>?_,I.inv.gens,I.inv.os⟩,I.no,I₃.dis,I.loc⟩,kk⟩
 ·clear nF ns nφ ex;subst h;have:=Heap.lt_size hb;have:=(I.inv.rep _ _ own).1;exact absurd (E1 ‹_› this) (Fz _)
 ·refine xa1 (I₃.inv.rep b n hb) λa1 a2=>?_;refine ad a2.notImm λo ho _=>?_
  have nb:b≠it:=λh=>by
   clear I ex own;subst h;have hb:(if b=X.env.locals then EU (MO.fr st.ρ) else (st.σ b).or (φ b))=EU n:=hb;rw[if_neg nF,ns,nφ] at hb;cases hb
  exact ⟨a1,a2.keep ((ex b o nb ho).trans ho.symm) kk⟩
noncomputable def fa (X:Xc) (target:G0) (mo:Nat->MO):Prop:=∀(i:Nat) (s:Shared) (it:Addr) (v:Value) (Q':Unit->Shared->Prop) (E':Value->Shared->Prop),OR s.heap it (mo i)->Q' () s->E4 X.M X.A (Ko target (.ref it) v) Q' E' s
theorem dG {mo:Nat->MO} (h:∀it v,Ko target (.ref it) v=pure ()):fa X target mo:=λi s it v Q' E' _ hq=>by rw[h];exact E0 hq
theorem hX {elts:List G0} {x1} {p:Pos}:fa X (.Tuple elts x1 p) λi=> .itl l i:=λi s it v Q' E' h hq=>by
 cases v with
 |ref a=>exact wpAny_letOwnedTupleGo_listiter h hq
 |_=>exact E0 hq
@[reducible] def FoP (J:Nat->St->Prop) (i:Nat) (Q:Fl->St->Prop):Fl->St->Prop
 | .next,st=>J (i+1) st
 | .cont,st=>J (i+1) st
 | .brk,st=>Q .next st
 | .ret v,st=>Q (.ret v) st
theorem jZ {pos} {mo:Nat->MO} (J:Nat->St->Prop) (S:Steps X mo vs Cond)
 (hs:∀x,F5 iter X.env x=pure x) (ht:fa X target mo)
 (h:WE X iter st λm st₁=>J 0 st₁∧∀φ s v,IF X φ st₁ s->VR s.heap m v->∀Qx:Value->Shared->Prop,
  (∀it h' t,(∀b o,s.heap.get? b=EU o->h'.get? b=EU o)->s.heap.objs.size≤it->OR h' it (mo 0)->Qx (.ref it) {s with heap:=h',toks:=t})->E4 X.M X.A (Jz v) Qx NoE s)
 (cond:∀i st,J i st->Cond st)
 (turn:∀J':Nat->St->Prop,(∀i st,J i st->J' i st)->∀i (hi:i<vs.length) st,J i st->WA X target vs[i] st λst₂=>WS X body st₂ (FoP J' i Q))
 (fin:∀st,J vs.length st->WS X orelse st Q):WS1 X (.For target iter body orelse pos) st Q:=λφ s I=>by
 refine wpAny_For (ab (h φ s I) λx s₁ pp=>?_) hs;obtain ⟨m,st₁,r,I₁,k₁,j₁,hiter⟩:=pp;refine hiter φ s₁ x I₁ r _ λit h₁ t₁ keep₁ new₁ or₁=>?_
 have fr:∀b,s₁.heap.objs.size≤b->Internal.tot st₁.σ φ X.env.locals st₁.ρ b=none:=λb hb=>by
  cases e:Internal.tot st₁.σ φ X.env.locals st₁.ρ b with
  |none=>rfl
  |some m=>exact absurd (E1 (I₁.inv.lt e) hb) (Fz _)
 refine xa2 (bA (fr it new₁)) λnF n2 n3=>?_;have I₂:IF X (φ.put it (mo 0)) st₁ {s₁ with heap:=h₁,toks:=t₁}:=(I₁.grow keep₁ t₁).hide n2 nF (EY I₁.inv.sz new₁) or₁
 have drop:∀(i:Nat) a m,φ a=EU m->(φ.put it (mo i)) a=EU m:=λi a m e=>by
  show (if a=it then EU _ else φ a)=EU m;rw[if_neg (λh=>by rw[h,n3] at e;cases e)];exact e
 refine OD (λn s'=>∃i st',IF X (φ.put it (mo i)) st' s'∧Keep s.heap s'.heap∧J i st'∧i≤vs.length∧n=vs.length-i) (λn s₂ y=>?_) vs.length
  ⟨0,st₁,I₂,k₁.trans (aB keep₁),j₁,FY _,rfl⟩
 refine fv y λi st₂ I₂ k₂ j₂ hi hn=>?_;have li:(φ.put it (mo i)) it=EU (mo i):=if_pos rfl
 have ns:st₂.σ it=none:=by
  cases e:st₂.σ it with
  |none=>rfl
  |some m=>have:=I₂.dis it m e;rw[li] at this;cases this
 have own:Internal.tot st₂.σ (φ.put it (mo i)) X.env.locals st₂.ρ it=EU (mo i):=by
  unfold Internal.tot;rw[if_neg nF,ns];exact li
 have ori:=(I₂.inv.rep _ _ own).2;by_cases hlt:i<vs.length
 ·refine FB (S.item i hlt _ st₂ s₂ it _ I₂ (cond i st₂ j₂) ori λh' x t or' ex rx=>?_) (λ_ _ z=>z) λ_ _ x=>x.elim;refine ht (i+1) _ it _ _ _ or' ?_;refine xa1 (I₂.move (t:=t) nF ns ex or') λI₃ kk=>?_;refine FB (turn J (λ_ _ h=>h) i hlt st₂ j₂ _ _ x I₃ (rx kk)) (λ_ s₄ pp=>?_) λ_ _ x=>x.elim;obtain ⟨st₄,I₄,k₄,q₄⟩:=pp;refine FB (q₄ _ s₄ I₄) (λf s₅ pp=>?_) λ_ _ x=>x.elim;obtain ⟨fl,st₅,rf,I₅,k₅,q₅⟩:=pp;have kt:=k₂.trans (kk.trans (k₄.trans k₅))
  cases fl with
  |next=>cases (show f= .next from rf);exact ⟨vs.length-(i+1),by exact lZ hn hlt,i+1,st₅,I₅,kt,q₅,by exact o80 hlt,rfl⟩
  |cont=>cases (show f= .cont from rf);exact ⟨vs.length-(i+1),by exact lZ hn hlt,i+1,st₅,I₅,kt,q₅,by exact o80 hlt,rfl⟩
  |brk=>cases (show f= .brk from rf);exact ⟨.next,st₅,rfl,I₅.unhide (drop _),kt,q₅⟩
  |ret m=>refine ad rf λv z1 rv=>?_;clear rf;subst z1;exact ⟨.ret m,st₅,⟨v,rfl,rv⟩,I₅.unhide (drop _),kt,q₅⟩
 ·have hin:i=vs.length:=by exact wj hi hlt
  clear hi hn li own hlt;subst hin;refine FB (S.done _ st₂ s₂ it _ I₂ (cond _ st₂ j₂) ori λh' t ex=>?_) (λ_ _ z=>z) λ_ _ x=>x.elim;refine xa1 (I₂.forget (t:=t) nF ns n3 ex) λI₃ kk=>?_;exact FB (fin st₂ j₂ φ _ I₃) (λf s₅ p=>p.trans (k₂.trans kk)) λ_ _ x=>x.elim
theorem fK {pos} {mo:Nat->MO} (J:Nat->St->Prop) (S:Steps X mo vs Cond)
 (hs:∀x,F5 iter X.env x=pure x) (ht:∀it v,Ko target (.ref it) v=pure ())
 (h:WE X iter st λm st₁=>J 0 st₁∧∀φ s v,IF X φ st₁ s->VR s.heap m v->∀Qx:Value->Shared->Prop,
  (∀it h' t,(∀b o,s.heap.get? b=EU o->h'.get? b=EU o)->s.heap.objs.size≤it->OR h' it (mo 0)->Qx (.ref it) {s with heap:=h',toks:=t})->E4 X.M X.A (Jz v) Qx NoE s)
 (cond:∀i st,J i st->Cond st)
 (turn:∀J':Nat->St->Prop,(∀i st,J i st->J' i st)->∀i (hi:i<vs.length) st,J i st->WA X target vs[i] st λst₂=>WS X body st₂ (FoP J' i Q))
 (fin:∀st,J vs.length st->WS X orelse st Q):WS1 X (.For target iter body orelse pos) st Q:=jZ J S hs (dG ht) h cond turn fin
theorem ci (O:XOk X) (l:Addr) (vs:List MV):Steps X (λi=> .itl l i) vs λst=>st.σ l=EU (.lst vs) where
 item:=λi hi φ st s it Qx I e ori hq=>by
  refine ad (I.own e) λitems pl rr=>?_;obtain ⟨x,hx,rx⟩:=rr.arr (E2 hi);exact Kf ori pl.isList hx λh' hit' sb=>hq h' x s.toks hit' sb.extBut λkk=>rx.keep kk
 done:=λφ st s it Qx I e ori hq=>by
  refine ad (I.own e) λitems pl rr=>?_;exact N1 O.hh ori pl.isList (by rw[←rr.size];simp) λh' ex=>hq h' s.toks ex
theorem cB (e:st.σ l=EU (.lst vs)):∀φ s v,IF X φ st s->VR s.heap (.r l) v->∀Qx:Value->Shared->Prop,
 (∀it h' t,(∀b o,s.heap.get? b=EU o->h'.get? b=EU o)->s.heap.objs.size≤it->OR h' it (.itl l 0)->Qx (.ref it) {s with heap:=h',toks:=t})->E4 X.M X.A (Jz v) Qx NoE s:=λφ s v I r Qx hq=>by
 cases (show v= .ref l from r);refine ad (I.own e) λitems pl rr=>?_;exact wpAny_pyIter_list pl.isList (hq _ _ s.toks (λb o e=>Heap.get?_push_of_some _ e) (Fd _) (aR _ (Heap.get?_push_size _ rfl) rfl rfl))
end
section
variable {n:Int}
variable {X:Xc} {st:St} {φ:Sg} {Q:MV->St->Prop}
theorem fR (O:XOk X) {p:Pos} {e:G0} (hf:X.gs.lookup x=EU (.type T)) (hs:Starless (e::es)) (h:WEs X (e::es) st λms st₁=>WC X (.type T) ms st₁ Q):
 WE X (.Call (.Name x p) (e::es) [] pos) st Q:=λφ s I=>by
 refine LB rfl ?_;refine ab (c8 O hf (Q:=λm st'=>m= .k (.type T)∧st'=st) ⟨rfl,rfl⟩ φ s I) λv s₁ pp=>?_;obtain ⟨m,st₁,r,I₁,k,e1,e2⟩:=pp;clear I;subst e1 e2;cases (show v= .type T from r);refine M9 (bL hs) (bt hs (ab (cv hs h I₁) λvs s₂ pp=>?_));obtain ⟨ms,st₂,r₂,I₂,k₂,q⟩:=pp;exact ab (q φ s₂ vs I₂ r₂) λu s₃ z=>z.trans (k.trans k₂)
noncomputable def rgO (a b:Int):MO:= .any λo=>∃t u v,o={cls:= .type "range",dict:=none,data:= .fields #[.int a t,.int b u,.int 1 v],slots:= #[]}
noncomputable def rgI (a n:Int):MO:= .any λo=>o={cls:= .type "range_iterator",dict:=none,data:= .fields #[Kh a,Kh n,Kh 1],slots:= #[]}
theorem pg (hq:∀a,st.σ a=none->Q (.r a) ⟨st.σ.put a (rgO 0 n),st.ρ⟩):WC X (.type "range") [.i n] st Q:=λφ s us I r=>by
 refine wt r λt=>?_;refine call_range_1 ?_;obtain ⟨nn,I₂⟩:=I.new (m:=rgO 0 n) (o:={cls:= .type "range",data:= .fields #[.int 0 s.toks,.int n t,.int 1 (s.toks+1)]}) (ck _ (Heap.get?_push_size _ rfl) rfl _ ⟨_,_,rfl⟩);exact .mk (bN ..) (I₂.toks _) (keep_push _ _) (hq _ nn)
theorem pN {a:Int} (hq:∀b,st.σ b=none->Q (.r b) ⟨st.σ.put b (rgO a n),st.ρ⟩):WC X (.type "range") [.i a,.i n] st Q:=λφ s us I r=>by
 refine Db r λt u=>?_;refine call_range_2 ?_;obtain ⟨nn,I₂⟩:=I.new (m:=rgO a n) (o:={cls:= .type "range",data:= .fields #[.int a t,.int n u,.int 1 s.toks]}) (ck _ (Heap.get?_push_size _ rfl) rfl _ ⟨_,_,rfl⟩);exact .mk (bN ..) (I₂.toks _) (keep_push _ _) (hq _ nn)
noncomputable def cY (a:Int) (n:Nat):List MV:=(F7 n).map λ(i:Nat)=>MV.i (a+(i:Int))
theorem gB (O:XOk X) (a:Int) (n:Nat):Steps X (λi=>rgI (a+i) (n-i)) (cY a n) λ_=>True where
 item:=λi hi φ st s it Qx I e ori hq=>by
  refine aV ori λo ho _ z1=>?_;clear ori;subst z1;have hi':i<n:=by simpa[cY] using hi
  refine wpAny_pyNext_range_item (x:=a+i) (left:=n-i) (step:=1) ho (by exact Int.sub_pos_of_lt (FO.mpr hi')) λh' hit' sb=>?_;refine hq h' _ _ (aR _ hit' rfl ?_) sb.extBut λkk=>?_
  ·rw[show a+(i:Int)+1=a+((i+1:Nat):Int) by exact DW,show (n:Int)-i-1=n-((i+1:Nat):Int) by exact Int.sub_sub _ _ _]
  ·simp only[cY,F8,Kx];exact cH ..
 done:=λφ st s it Qx I e ori hq=>by
  refine aV ori λo ho _ z1=>?_;clear ori;subst z1;refine wpAny_pyNext_range_end O.hh ho (by simp[cY]) λh' ex=>hq h' s.toks ex
theorem iq {r:Addr} {a b:Int} (ha: -(2^62)≤a) (ha':a<2^62) (hb: -(2^62)≤b) (hb':b<2^62) (n:Nat) (hn:(if a<b then b-a else 0)=(n:Int)) (e:st.σ r=EU (rgO a b)):
 ∀φ s v,IF X φ st s->VR s.heap (.r r) v->∀Qx:Value->Shared->Prop,
  (∀it h' t,(∀b o,s.heap.get? b=EU o->h'.get? b=EU o)->s.heap.objs.size≤it->OR h' it (rgI (a+(0:Nat)) (n-(0:Nat)))->Qx (.ref it) {s with heap:=h',toks:=t})->E4 X.M X.A (Jz v) Qx NoE s:=λφ s v I rr Qx hq=>by
 cases (show v= .ref r from rr);refine aV (I.own e) λo ho _ z1=>?_;refine xe2 z1 λt u z2=>?_;clear z1;obtain ⟨w,rfl⟩:=z2;refine wpAny_pyIter_range (a:=a) (b:=b) (c:=1) ho (small_one ha ha' hb hb') (hq _ _ s.toks (λb o e=>Heap.get?_push_of_some _ e) (Fd _) (aR _ (Heap.get?_push_size _ rfl) rfl ?_));rw[Q3,hn];simp
end
section
variable {X:Xc} {st:St} {φ:Sg} {Q:MV->St->Prop}
theorem yV (O:XOk X) {pos c m} (hl:X.env.kindOf x=EU .cell) (hc:X.env.cells.lookup x=EU c) (hd:(x==("__debug__" :Str))=false) (e:st.σ c=EU (.cel (EU m))) (hq:Q m st):
 WE X (.Name x pos) st Q:=λφ s I=>by
 refine ad (I.own e) λv hv r=>?_;exact OU (wpAny_loadName_cell O.fn hl hc hv (.mk r I (.refl _) hq)) hd
theorem yh (O:XOk X) {pos c m u} (hl:X.env.kindOf x=EU .cell) (hc:X.env.cells.lookup x=EU c) (e:st.σ c=EU (.cel u)) (hq:QU ⟨st.σ.put c (.cel (EU m)),st.ρ⟩):
 WA X (.Name x pos) m st QU:=λφ s v I r=>by
 have own:=I.own e
 have fin:∀h',h'.IsCell c (EU v)->Heap.SameBut c s.heap h'->PostU X φ s QU {s with heap:=h'}:=λh' hv sb=>by
  have k:=cp I e sb;exact ⟨_,I.upd (m':= .cel (EU m)) (t:=s.toks) e sb (af v hv (r.keep k)),k,hq⟩
 cases u with
 |none=>exact Lh (Oj O.fn hl hc own fin)
 |some w=>refine ad own λv' hv' _=>?_;exact Lh (Oj O.fn hl hc hv' fin)
end
section
variable {X:Xc} {st:St} {φ:Sg} {Q:MV->St->Prop}
noncomputable abbrev Xi (X:Xc) (scope:O7) (cl:List (Str×Addr)) (C:Addr) (gs:List (Str×Value)):Xc:=⟨X.C,X.A,Gl scope cl C X.env,gs⟩
theorem IF.enter {s:Shared} {cl:List (Str×Addr)} {C:Addr} {ρi:Lo} (I:IF X φ st s) (hC:Internal.tot st.σ φ X.env.locals st.ρ C=none) (hz:X.C.h0.objs.size≤C) (fr:FrR s.heap C ρi)
 (loc:∀x v,lk ρi x=EU v->(Gl scope cl C X.env).kindOf x=EU .local∧(x==("__debug__" :Str))=false):
 IF (Xi X scope cl C gs) (φ.put X.env.locals (.fr st.ρ)) ⟨st.σ,ρi⟩ s:=by
 refine xa2 (bA hC) λn1 n2 n3=>?_
 have q:Internal.tot st.σ (φ.put X.env.locals (.fr st.ρ)) C ρi=(Internal.tot st.σ φ X.env.locals st.ρ).put C (.fr ρi):=by
  funext b;unfold Sg.put Internal.tot;by_cases h1:b=C
  ·clear hC hz fr loc n1 n2 n3;subst h1;simp
  ·by_cases h2:b=X.env.locals
   ·subst h2;simp[h1,I.no]
   ·simp[h1,h2]
 refine ⟨?_,n2,λb n hb=>?_,loc⟩
 ·show Inv X.C (Internal.tot st.σ (φ.put X.env.locals (.fr st.ρ)) C ρi) s;rw[q];exact I.inv.own hz fr
 ·show (if b=X.env.locals then EU _ else φ b)=none;have hb:st.σ b=EU n:=hb;rw[if_neg (λh=>by rw[h,I.no] at hb;cases hb)];exact I.dis b n hb
theorem IF.leave {s:Shared} {cl:List (Str×Addr)} {C:Addr} (I:IF (Xi X scope cl C gs) φ' st' s) (nF:X.env.locals≠C) (hF:φ' X.env.locals=EU (.fr ρ)) (hC:φ C=none)
 (sub:∀a m,a≠X.env.locals->φ a=EU m->φ' a=EU m) (hl:∀x v,lk ρ x=EU v->X.env.kindOf x=EU .local∧(x==("__debug__" :Str))=false):IF X φ ⟨st'.σ,ρ⟩ s:=by
 have no:st'.σ X.env.locals=none:=by
  cases e:st'.σ X.env.locals with
  |none=>rfl
  |some m=>have:=I.dis _ m e;rw[hF] at this;cases this
 refine ⟨I.inv.sub λb n hb=>?_,no,λb n hb=>?_,hl⟩
 ·show (if b=C then EU (MO.fr st'.ρ) else (st'.σ b).or (φ' b))=EU n;have hb:(if b=X.env.locals then EU (MO.fr ρ) else (st'.σ b).or (φ b))=EU n:=hb;by_cases h1:b=X.env.locals
  ·subst h1;rw[if_pos rfl] at hb;rw[if_neg nF,no,hF];exact hb
  ·rw[if_neg h1] at hb
   have nC:b≠C:=λh=>by
    subst h;have:=I.no;have:st'.σ b=none:=this;rw[this,hC] at hb;cases hb
   rw[if_neg nC]
   cases e:st'.σ b with
   |some m=>rw[e] at hb;exact hb
   |none=>rw[e] at hb;exact sub b n h1 hb
 ·cases e:φ b with
  |none=>rfl
  |some m=>have:=sub b m (λh=>by subst h;have hb:st'.σ X.env.locals=EU n:=hb;rw[no] at hb;cases hb) e;rw[I.dis b n hb] at this;cases this
theorem IF.show_ {s:Shared} {a:Addr} {m:MO} (I:IF X (φ.put a m) st s) (hn:st.σ a=none) (hF:a≠X.env.locals) (hφ:φ a=none):IF X φ ⟨st.σ.put a m,st.ρ⟩ s:=by
 have q:Internal.tot (st.σ.put a m) φ X.env.locals st.ρ=Internal.tot st.σ (φ.put a m) X.env.locals st.ρ:=by
  funext b;unfold Sg.put Internal.tot;by_cases h1:b=a
  ·clear I hφ;subst h1;simp[hF,hn]
  ·simp[h1]
 refine ⟨by show Inv X.C (Internal.tot (st.σ.put a m) φ X.env.locals st.ρ) s;rw[q];exact I.inv,?_,λb n hb=>?_,I.loc⟩
 ·show (if X.env.locals=a then EU m else st.σ X.env.locals)=none;rw[if_neg (E8 hF)];exact I.no
 ·have hb:(if b=a then EU m else st.σ b)=EU n:=hb;by_cases h1:b=a
  ·rw[h1];exact hφ
  ·rw[if_neg h1] at hb;have d:(if b=a then EU m else φ b)=none:=I.dis b n hb;rw[if_neg h1] at d;exact d
end
section
variable {QV:Value->Shared->Prop}
variable {X:Xc} {st:St} {φ:Sg} {Q:MV->St->Prop}
noncomputable def bQ (X:Xc):List G0->St->(Bool->St->Prop)->Prop
 | [],st,Q=>Q true st
 | [c],st,Q=>WB X c st Q
 |_,_,_=>False
theorem vo {QB:Bool->St->Prop} {s:Shared} (h:bQ X ifs st QB) (I:IF X φ st s):
 E4 X.M X.A (forIn ifs true λc r=>if r=true then do let ok←isTrue c X.env (eval c X.env);pure (H3 ok) else pure (H3 r)) (PostB X φ s QB) NoE s:=by
 rcases ifs with _|⟨c,_|⟨d,l⟩⟩
 ·exact wpAny_tests_nil ⟨st,I,.refl _,h⟩
 ·exact wpAny_tests_one (h φ s I)
 ·exact h.elim
noncomputable def loC (scope:O7):Lo:=(scope.names.filter λp=>p.2== .local).map λp=>(p.1,none)
theorem d8 (σ:Sg) {a:Addr} (m n:MO) (h:a≠b):(σ.put a m).put b n=(σ.put b n).put a m:=by
 funext c;unfold Sg.put;by_cases h1:c=b
 ·subst h1;simp[E8 h]
 ·simp[h1]
theorem IF.leave' {s:Shared} {cl:List (Str×Addr)} {C:Addr} (I:IF (Xi X scope cl C gs) φ' st' s) (nF:X.env.locals≠C) (hF:φ' X.env.locals=EU (.fr ρ)) (hC:φ C=none)
 (sub:∀a m,a≠X.env.locals->φ a=EU m->φ' a=EU m) (hl:∀x v,lk ρ x=EU v->X.env.kindOf x=EU .local∧(x==("__debug__" :Str))=false):IF X (φ.put C (.fr st'.ρ)) ⟨st'.σ,ρ⟩ s:=
 (I.leave nF hF hC sub hl).hide I.no (E8 nF) (I.inv.rep C (.fr st'.ρ) (if_pos rfl)).1 (I.inv.rep C (.fr st'.ρ) (if_pos rfl)).2
theorem pu {w:FH} {R:LH->Shared->Prop} {s:Shared} {it acc:Value} (I:Nat->Shared->Prop)
 (turn:∀n s,I n s->E4 (Fa prog w) A (HM it) (λr s₁=>match r with
  |none=>R (.ok .next) s₁
  |some v=>E4 (Fa prog w) A (Ko target it v) (λ_ s₁'=>E4 (Fa prog w) A (Ly target env v) (λ_ s₂=>
   E4 (Fa prog w) A (forIn ifs true λc r=>if r=true then do let ok←isTrue c env (eval c env);pure (H3 ok) else pure (H3 r)) (λok s₃=>
    if ok=true then E4 (Fa prog w) A (eval elt env) (λx s₄=>
     E4 (Fa prog w) A (call (.builtin "list.append") [acc,x]) (λ_ s₅=>∃m,m<n∧I m s₅) NoE s₄) NoE s₃
    else∃m,m<n∧I m s₃) NoE s₂) NoE s₁') NoE s₁) NoE s)
 (n:Nat) (h:I n s):IZ (Fa prog w) A (.compLoop (.ListComp elt [⟨target,iter,ifs,0⟩] scope pos) 0 it acc env) R s:=by
 refine codeAny_loop rfl I (λn s hI=>?_) n h;show E4 _ A ((compTurn (.ListComp elt [⟨target,iter,ifs,0⟩] scope pos) 0 it acc env).onRaise (λx=>do noteFrame x env;theTreesLotGoes x)) _ _ s;refine wpAny_noted ?_;rw[compTurn_list];refine EX (GH (EX (FB (turn n s hI) (λr s₁ h₁=>?_) λ_ _ z=>z.elim)))
 cases r with
 |none=>exact E0 h₁
 |some v=>
  refine EX (FB h₁ (λ_ s₁' h₁'=>?_) λ_ _ z=>z.elim);refine EX (FB h₁' (λ_ s₂ h₂=>EX (FB h₂ (λok s₃ h₃=>?_) λ_ _ z=>z.elim)) λ_ _ z=>z.elim)
  cases ok with
  |false=>exact E0 ⟨rfl,h₃⟩
  |true=>
   exact EX (EX (FB h₃ (λx s₄ h₄=>EX (FB h₄ (λ_ s₅ h₅=>E0 (E0 ⟨rfl,h₅⟩)) λ_ _ z=>z.elim)) λ_ _ z=>z.elim))
theorem vq {cl:List (Str×Addr)} {mo:Nat->MO} {C D:Addr} {ψ:Sg} {s:Shared} {st₀:St}
 {R:LH->Shared->Prop}
 (J:Nat->List MV->St->Prop) (S:Steps (Xi X scope cl C gs) mo vs Cond) (ht:fa (Xi X scope cl C gs) target mo) (sz:vs.length≤sizeLine)
 (nit:it≠C) (nD:D≠C) (nDi:it≠D) (ψi:ψ it=none) (ψD:ψ D=none)
 (I₀:IF (Xi X scope cl C gs) ((ψ.put D (.lst [])).put it (mo 0)) st₀ s) (j₀:J 0 [] st₀) (jl:∀i acc st,J i acc st->acc.length≤i)
 (cond:∀i acc st,J i acc st->Cond st)
 (turn:∀i (hi:i<vs.length) acc st,J i acc st->WA (Xi X scope cl C gs) target vs[i] st λst₂=>bQ (Xi X scope cl C gs) ifs st₂ λok st₃=>
  if ok=true then WE (Xi X scope cl C gs) elt st₃ λm st₄=>J (i+1) (acc++[m]) st₄ else J (i+1) acc st₃)
 (fin:∀acc st' s',J vs.length acc st'->IF (Xi X scope cl C gs) (ψ.put D (.lst acc)) st' s'->Keep s.heap s'.heap->R (.ok .next) s'):
 IZ (Fa pgm X.C.w) X.A (.compLoop (.ListComp elt [⟨target,iter,ifs,0⟩] scope pos) 0 (.ref it) (.ref D) (Gl scope cl C X.env)) R s:=by
 refine pu (λn s'=>∃i acc st',IF (Xi X scope cl C gs) ((ψ.put D (.lst acc)).put it (mo i)) st' s'∧Keep s.heap s'.heap∧J i acc st'∧i≤vs.length∧n=vs.length-i) ?_ vs.length (lQ 0 ([]) st₀ I₀ (.refl _) j₀ (FY _) rfl);intro n s₂ zr1;refine iw zr1 λi acc st₂ I₂ k₂ j₂ z1=>?_;clear zr1;obtain ⟨hi,hn⟩:=z1;have li:((ψ.put D (.lst acc)).put it (mo i)) it=EU (mo i):=if_pos rfl
 have nsi:∀{st:St} {s:Shared} {i:Nat} {acc:List MV},IF (Xi X scope cl C gs) ((ψ.put D (.lst acc)).put it (mo i)) st s->st.σ it=none:=λ{st} {s} {i} {acc} I=>by
  cases e:st.σ it with
  |none=>rfl
  |some m=>have z:=I.dis it m e;have:((ψ.put D (.lst acc)).put it (mo i)) it=EU (mo i):=if_pos rfl;rw[this] at z;cases z
 have nsD:∀{st:St} {s:Shared} {i:Nat} {acc:List MV},IF (Xi X scope cl C gs) ((ψ.put D (.lst acc)).put it (mo i)) st s->st.σ D=none:=λ{st} {s} {i} {acc} I=>by
  cases e:st.σ D with
  |none=>rfl
  |some m=>
   have z:=I.dis D m e;have:((ψ.put D (.lst acc)).put it (mo i)) D=EU (.lst acc):=by unfold Sg.put;rw[if_neg (E8 nDi),if_pos rfl]
   rw[this] at z;cases z
 have own:Internal.tot st₂.σ ((ψ.put D (.lst acc)).put it (mo i)) C st₂.ρ it=EU (mo i):=by
  unfold Internal.tot;rw[if_neg nit,nsi I₂];exact li
 have ori:=(I₂.inv.rep _ _ own).2;have NE:∀{α:Type} {t:KW α} {P:α->Shared->Prop} {E:Value->Shared->Prop} {s:Shared},E4 (Fa pgm X.C.w) X.A t P NoE s->E4 (Fa pgm X.C.w) X.A t P E s:=λh=>FB h (λ_ _ x=>x) λ_ _ x=>x.elim;by_cases hlt:i<vs.length
 ·refine NE (S.item i hlt _ st₂ s₂ it _ I₂ (cond i acc st₂ j₂) ori λh' x t or' ex rx=>?_);refine ht (i+1) _ it _ _ _ or' ?_;refine xa1 (I₂.move (t:=t) nit (nsi I₂) ex or') λI₃ kk=>?_;refine NE (ab (turn i hlt acc st₂ j₂ _ _ x I₃ (rx kk)) λ_ s₄ pp=>?_);obtain ⟨st₄,I₄,k₄,q₄⟩:=pp;refine NE (ab (vo q₄ I₄) λok s₅ pp=>?_);obtain ⟨st₅,I₅,k₅,q₅⟩:=pp;have kt:=k₂.trans (kk.trans (k₄.trans k₅))
  cases ok with
  |false=>
   rw[if_neg s!"d"] at q₅⊢;exact (c7 (vs.length-(i+1)) (by exact lZ hn hlt) (i+1) ⟨acc,st₅,I₅,kt,q₅,by exact o80 hlt,rfl⟩)
  |true=>
   rw[if_pos rfl] at q₅⊢;refine NE (ab (q₅ _ s₅ I₅) λy s₆ pp=>?_);obtain ⟨m,st₆,r₆,I₆,k₆,q₆⟩:=pp;have I₆':=I₆;rw[d8 _ _ _ (E8 nDi)] at I₆'
   have ownD:Internal.tot st₆.σ (((ψ.put it (mo (i+1))).put D (.lst acc))) C st₆.ρ D=EU (.lst acc):=by
    unfold Internal.tot;rw[if_neg nD,nsD I₆];exact if_pos rfl
   refine ad ((I₆'.inv.rep _ _ ownD).2) λitems pl rr=>?_;refine Nz pl (λh₇ pl₇ sb₇=>?_) (by rw[rr.size];have:=jl _ _ _ q₆;simp at this;exact Fs (E1 (E3 this hlt) sz));have k₇:Keep s₆.heap h₇:=(I₆'.move (h':=h₇) (m':= .any λ_=>True) (t:=0) nD (nsD I₆) sb₇.extBut (by obtain ⟨n,pl₇⟩:=pl₇;exact (aR _ pl₇ rfl trivial))).2;refine xa1 (I₆'.move (h':=h₇) (m':= .lst (acc++[m])) (t:=s₆.toks) nD (nsD I₆) sb₇.extBut (af _ pl₇ ((rr.keep k₇).snoc (r₆.keep k₇)))) λI₇ _=>?_;rw[d8 _ _ _ nDi] at I₇;exact (c7 (vs.length-(i+1)) (by exact lZ hn hlt) (i+1) ⟨acc++[m],st₆,I₇,kt.trans (k₆.trans k₇),q₆,by exact o80 hlt,rfl⟩)
 ·have hin:i=vs.length:=by exact wj hi hlt
  clear hi hn li own hlt;subst hin;refine NE (S.done _ st₂ s₂ it _ I₂ (cond _ acc st₂ j₂) ori λh' t ex=>?_);refine xa1 (I₂.forget (t:=t) nit (nsi I₂) (by unfold Sg.put;rw[if_neg nDi];exact ψi) ex) λI₃ kk=>?_;exact fin acc st₂ _ j₂ I₃ (k₂.trans kk)
noncomputable def c9 (scope:O7):Bool:=(scope.names.all λy=>!(y.2== .cell)&& !(y.1==("__debug__" :Str))&&(!(y.2== .local)||scope.names.lookup y.1==EU .local))&&scope.kind== .function
theorem jR {cl:List (Str×Addr)} {Ω:Type} {moW:Ω->Nat->MO} {vsW:Ω->List MV} {CondW:Ω->St->Prop} {use:Option (Value->KW Unit)}
 (JW:Ω->Nat->List MV->St->Prop) (ρ₁:Lo) (PW:Ω->List MV->St->Prop)
 (SW:∀o C,Steps (Xi X scope cl C gs) (moW o) (vsW o) (CondW o))
 (selfW:∀(o:Ω) (C:Addr) (φ:Sg) (st:St) (s:Shared) (it:Addr) (Qx:Value->Shared->Prop),IF (Xi X scope cl C gs) φ st s->OR s.heap it (moW o 0)->Qx (.ref it) s->E4 X.M X.A (Jz (.ref it)) Qx NoE s)
 (hs:∀x,F5 iter X.env x=pure x) (htW:∀o C,fa (Xi X scope cl C gs) target (moW o))
 (hclos:H9 scope X.env=pure cl) (hsc:c9 scope=true) (szW:∀o,(vsW o).length≤sizeLine)
 {s:Shared} (I:IF X φ st s)
 (h:WE X iter st λm st₁=>∃o,st₁.ρ=ρ₁∧(∀φ s v,IF X φ st₁ s->VR s.heap m v->∀Qx:Value->Shared->Prop,
  (∀it h' t,(∀b o,s.heap.get? b=EU o->h'.get? b=EU o)->s.heap.objs.size≤it->OR h' it (moW o 0)->Qx (.ref it) {s with heap:=h',toks:=t})->E4 X.M X.A (Jz v) Qx NoE s)∧
  JW o 0 [] ⟨st₁.σ,loC scope⟩∧∀acc st',JW o (vsW o).length acc st'->PW o acc st')
 (jlW:∀o i acc st,JW o i acc st->acc.length≤i)
 (condW:∀o i acc st,JW o i acc st->CondW o st)
 (turnW:∀o C i (hi:i<(vsW o).length) acc st,JW o i acc st->WA (Xi X scope cl C gs) target (vsW o)[i] st λst₂=>bQ (Xi X scope cl C gs) ifs st₂ λok st₃=>
  if ok=true then WE (Xi X scope cl C gs) elt st₃ λm st₄=>JW o (i+1) (acc++[m]) st₄ else JW o (i+1) acc st₃)
 {QV:Value->Shared->Prop}
 (finW:∀o acc st' s' D C ρc,PW o acc st'->IF X ((φ.put D (.lst acc)).put C (.fr ρc)) ⟨st'.σ,ρ₁⟩ s'->Keep s.heap s'.heap->C≠X.env.locals->D≠X.env.locals->D≠C->φ C=none->φ D=none->st'.σ C=none->st'.σ D=none->
  QE X.M X.A E use QV (.ref D) C (.ok .next) s'):
 E4 X.M X.A (comprehension (.ListComp elt [⟨target,iter,ifs,0⟩] scope pos) scope X.env pos' (Pk []) false (eval iter X.env) use) QV E s:=by
 simp only[c9,Fc,Fm,JT,Ga,beq_iff_eq] at hsc;refine xa1 hsc λhsc hkind=>?_;have hcell:∀y∈scope.names,y.2≠ .cell:=λy hy e=>by have:=(hsc y hy).1.1;rw[e] at this;cases this
 have hdbg:∀y∈scope.names,(y.1==("__debug__" :Str))=false:=λy hy=>by simpa using (hsc y hy).1.2
 have hnames:∀y∈scope.names,y.2= .local->scope.names.lookup y.1=EU .local:=λy hy e=>by
  rcases (hsc y hy).2 with h|h
  ·rw[e] at h;cases h
  ·exact h
 have NE:∀{α:Type} {t:KW α} {P:α->Shared->Prop} {E:Value->Shared->Prop} {s:Shared},E4 (Fa pgm X.C.w) X.A t P NoE s->E4 (Fa pgm X.C.w) X.A t P E s:=λh=>FB h (λ_ _ x=>x) λ_ _ x=>x.elim;refine wpAny_comprehension_free rfl hs hclos hkind hnames (NE (ab (h φ s I) λx s₁ pp=>?_));obtain ⟨m,st₁,r,I₁,k₁,o,eρ,hiter,j₁,hq⟩:=pp;have S:=SW o;have self:=selfW o;have ht:=htW o;have sz:=szW o;have jl:=jlW o;have cond:=condW o;have turn:=turnW o;have fin:=finW o;generalize moW o=mo at S self ht hiter;generalize vsW o=vs at S sz hq turn;generalize CondW o=Cond at S cond;generalize JW o=J at j₁ hq jl cond turn;generalize PW o=P at hq fin;refine NE (hiter φ s₁ x I₁ r _ λit h₁ t₁ keep₁ new₁ or₁=>?_);refine Q4 ?_;refine Ol hcell (by intro y hy;simp at hy) (λh₂ hns₂ hsb₂=>?_) hkind;dsimp only at hns₂ hsb₂⊢;generalize hH2:h₁.push {cls:= .type "list",data:= .seq ([]:List Value).toArray}=H2 at hns₂ hsb₂⊢;generalize hC:H2.objs.size=C at hns₂ hsb₂⊢;generalize hD:h₁.objs.size=D;have sC:C=D+1:=by rw[←hC,←hH2,Heap.size_push,hD]
 have DC:D≠C:=by rw[sC];exact Fh (G9 _)
 have itD:it<D:=by
  refine ad or₁.notImm λo ho _=>?_;rw[←hD];exact Heap.lt_size ho
 have keep₂:∀b o,h₁.get? b=EU o->h₂.get? b=EU o:=λb o e=>by
  have lt:=Heap.lt_size e;refine hsb₂.extBut b o (λhb=>?_) (Heap.get?_push_of_some _ (hH2▸Heap.get?_push_of_some _ e));rw[hb,sC,←hD] at lt;exact absurd lt (F9.mpr (HZ _))
 have keepA:∀b o,s₁.heap.get? b=EU o->h₂.get? b=EU o:=λb o e=>keep₂ b o (keep₁ b o e)
 have fr:∀b,s₁.heap.objs.size≤b->Internal.tot st₁.σ φ X.env.locals st₁.ρ b=none:=λb hb=>by
  cases e:Internal.tot st₁.σ φ X.env.locals st₁.ρ b with
  |none=>rfl
  |some m=>exact absurd (E1 (I₁.inv.lt e) hb) (Fz _)
 have itC:it≠C:=by rw[sC];exact Fh (GN itD)
 have itnD:it≠D:=Fh itD;have leD:s₁.heap.objs.size≤D:=EY new₁ (Fs itD);have leC:s₁.heap.objs.size≤C:=by rw[sC];exact GO leD
 refine xa2 (bA (fr C leC)) λc1 c2 c3=>?_;refine xa2 (bA (fr D leD)) λd1 d2 d3=>?_;refine xa2 (bA (fr it new₁)) λi1 i2 i3=>?_
 have frame:FrR h₂ C (loC scope):=⟨_,hns₂,λx v hx=>by
  refine xa1 (gR (f:=λ_=>(none:Option MV)) (l:=scope.names.filter λp=>p.2== .local) hx) λe _=>?_;cases e⟩
 have lloc:∀x v,lk (loC scope) x=EU v->(Gl scope cl C X.env).kindOf x=EU .local∧(x==("__debug__" :Str))=false:=λx v hx=>by
  refine g4 (gR (f:=λ_=>(none:Option MV)) (l:=scope.names.filter λp=>p.2== .local) hx) λ_ k hmem=>?_;refine xa1 (GB.mp hmem) λh1 h2=>?_;have:k= .local:=by simpa using h2
  clear hmem h2;subst this;exact ⟨lookup_relabel_local (hnames _ h1 rfl),hdbg _ h1⟩
 have IA:IF X φ st₁ {s₁ with heap:=h₂,toks:=t₁+([]:List (Str×Value)).length}:=I₁.grow keepA _
 have IB:IF (Xi X scope cl C gs) (φ.put X.env.locals (.fr st₁.ρ)) ⟨st₁.σ,loC scope⟩ {s₁ with heap:=h₂,toks:=t₁+([]:List (Str×Value)).length}:=
  IA.enter (fr C leC) (EY I₁.inv.sz leC) frame lloc
 have ODh:OR h₂ D (.lst []):=(af (#[]) ⟨0,hsb₂.extBut D _ DC (Heap.get?_push_of_some _ (by rw[←hH2,←hD];exact Heap.get?_push_size _ rfl))⟩ (.nil _))
 have ICd:=IB.hide (a:=D) (m:= .lst []) d2 DC (EY I₁.inv.sz leD) ODh;refine ad or₁.notImm λoit hoit _=>?_;have IDd:=ICd.hide (a:=it) (m:=mo 0) i2 itC (EY I₁.inv.sz new₁) (or₁.keep ((keep₂ _ _ hoit).trans hoit.symm) (aB keep₂));have ψi:(φ.put X.env.locals (.fr st₁.ρ)) it=none:=by unfold Sg.put;rw[if_neg i1];exact i3
 have ψD:(φ.put X.env.locals (.fr st₁.ρ)) D=none:=by unfold Sg.put;rw[if_neg d1];exact d3
 have loop:=vq (X:=X) (elt:=elt) (target:=target) (iter:=iter) (ifs:=ifs) (pos:=pos) (R:=QE X.M X.A E use QV (.ref D) C) J (S C) (ht C) sz itC DC itnD ψi ψD IDd j₁ jl cond (turn C) (λacc st' s' j I' k=>by
  have no:st'.σ X.env.locals=none:=by
   cases e:st'.σ X.env.locals with
   |none=>rfl
   |some m=>
    have z:=I'.dis _ m e;unfold Sg.put at z;rw[if_neg (E8 d1),if_pos rfl] at z;cases z
  have nD:st'.σ D=none:=by
   cases e:st'.σ D with
   |none=>rfl
   |some m=>have z:=I'.dis _ m e;unfold Sg.put at z;rw[if_pos rfl] at z;cases z
  refine fin acc st' s' D C st'.ρ (hq acc st' j) ?_ (k₁.trans ((aB keepA).trans k)) c1 d1 DC c3 d3 I'.no nD;have hl:=I₁.loc;rw[eρ] at hl I';refine I'.leave' (φ:=φ.put D (.lst acc)) (E8 c1) (by unfold Sg.put;rw[if_neg (E8 d1),if_pos rfl]) (by unfold Sg.put;rw[if_neg (E8 DC)];exact c3) (λa m hn e=>?_) hl;by_cases h1:a=D
  ·clear hD sC DC itD itnD leD d1 d2 d3 ODh ICd IDd ψD I' nD;subst h1;unfold Sg.put at e⊢;rw[if_pos rfl] at e⊢;exact e
  ·unfold Sg.put at e⊢;rw[if_neg h1] at e⊢;rw[if_neg hn];exact e)
 exact codeAny_compStart_list loop (NE (self C _ _ _ it _ IDd ((IDd.inv.rep it (mo 0) (by unfold Internal.tot;rw[if_neg (show it≠(Xi X scope cl C gs).env.locals from itC)];show (st₁.σ it).or _=_;rw[i2];exact if_pos rfl)).2) loop))
theorem ly {cl:List (Str×Addr)} {mo:Nat->MO} {use:Option (Value->KW Unit)}
 (J:Nat->List MV->St->Prop) (ρ₁:Lo) (P:List MV->St->Prop)
 (S:∀C,Steps (Xi X scope cl C gs) mo vs Cond)
 (self:∀(C:Addr) (φ:Sg) (st:St) (s:Shared) (it:Addr) (Qx:Value->Shared->Prop),IF (Xi X scope cl C gs) φ st s->OR s.heap it (mo 0)->Qx (.ref it) s->E4 X.M X.A (Jz (.ref it)) Qx NoE s)
 (hs:∀x,F5 iter X.env x=pure x) (ht:∀C,fa (Xi X scope cl C gs) target mo)
 (hclos:H9 scope X.env=pure cl) (hsc:c9 scope=true) (sz:vs.length≤sizeLine)
 {s:Shared} (I:IF X φ st s)
 (h:WE X iter st λm st₁=>st₁.ρ=ρ₁∧(∀φ s v,IF X φ st₁ s->VR s.heap m v->∀Qx:Value->Shared->Prop,
  (∀it h' t,(∀b o,s.heap.get? b=EU o->h'.get? b=EU o)->s.heap.objs.size≤it->OR h' it (mo 0)->Qx (.ref it) {s with heap:=h',toks:=t})->E4 X.M X.A (Jz v) Qx NoE s)∧
  J 0 [] ⟨st₁.σ,loC scope⟩∧∀acc st',J vs.length acc st'->P acc st')
 (jl:∀i acc st,J i acc st->acc.length≤i)
 (cond:∀i acc st,J i acc st->Cond st)
 (turn:∀C i (hi:i<vs.length) acc st,J i acc st->WA (Xi X scope cl C gs) target vs[i] st λst₂=>bQ (Xi X scope cl C gs) ifs st₂ λok st₃=>
  if ok=true then WE (Xi X scope cl C gs) elt st₃ λm st₄=>J (i+1) (acc++[m]) st₄ else J (i+1) acc st₃)
 {QV:Value->Shared->Prop}
 (fin:∀acc st' s' D C ρc,P acc st'->IF X ((φ.put D (.lst acc)).put C (.fr ρc)) ⟨st'.σ,ρ₁⟩ s'->Keep s.heap s'.heap->C≠X.env.locals->D≠X.env.locals->D≠C->φ C=none->φ D=none->st'.σ C=none->st'.σ D=none->
  QE X.M X.A E use QV (.ref D) C (.ok .next) s'):
 E4 X.M X.A (comprehension (.ListComp elt [⟨target,iter,ifs,0⟩] scope pos) scope X.env pos' (Pk []) false (eval iter X.env) use) QV E s:=
 jR (Ω:=Unit) (λ_=>J) ρ₁ (λ_=>P) (λ_=>S) (λ_=>self) hs (λ_=>ht) hclos hsc (λ_=>sz) I (λφ s I=>ab (h φ s I) λv s' p=>p.casesOn λm st r I k q=>⟨m,st,r,I,k,⟨(),q⟩⟩) (λ_=>jl) (λ_=>cond) (λ_=>turn) λ_=>fin
end
section
variable {X:Xc} {st:St} {φ:Sg}
noncomputable def qm (X:Xc) (m:MV) (st:St) (mo:Nat->MO):Prop:=∀φ s v,IF X φ st s->VR s.heap m v->∀Qx:Value->Shared->Prop,
 (∀it h' t,(∀b o,s.heap.get? b=EU o->h'.get? b=EU o)->s.heap.objs.size≤it->OR h' it (mo 0)->Qx (.ref it) {s with heap:=h',toks:=t})->E4 X.M X.A (Jz v) Qx NoE s
noncomputable def i9 (X:Xc) (mo:Nat->MO):Prop:=∀(φ:Sg) (st:St) (s:Shared) (it:Addr) (Qx:Value->Shared->Prop),IF X φ st s->OR s.heap it (mo 0)->Qx (.ref it) s->E4 X.M X.A (Jz (.ref it)) Qx NoE s
theorem jn {Q:MV->St->Prop} (cl:List (Str×Addr)) (gs:List (Str×Value)) {mo:Nat->MO}
 (J:Nat->List MV->St->Prop)
 (S:∀C,Steps (Xi X scope cl C gs) mo vs Cond) (self:∀C,i9 (Xi X scope cl C gs) mo)
 (hs:∀x,F5 iter X.env x=pure x) (ht:∀C,fa (Xi X scope cl C gs) target mo)
 (hclos:H9 scope X.env=pure cl) (hsc:c9 scope=true) (sz:vs.length≤sizeLine)
 (h:WE X iter st λm st₁=>st₁.ρ=st.ρ∧qm X m st₁ mo∧J 0 [] ⟨st₁.σ,loC scope⟩∧
  ∀acc st',J vs.length acc st'->∀D,st'.σ D=none->Q (.r D) ⟨st'.σ.put D (.lst acc),st.ρ⟩)
 (jl:∀i acc st,J i acc st->acc.length≤i) (cond:∀i acc st,J i acc st->Cond st)
 (turn:∀C i (hi:i<vs.length) acc st,J i acc st->WA (Xi X scope cl C gs) target vs[i] st λst₂=>bQ (Xi X scope cl C gs) ifs st₂ λok st₃=>
  if ok=true then WE (Xi X scope cl C gs) elt st₃ λm st₄=>J (i+1) (acc++[m]) st₄ else J (i+1) acc st₃):
 WE X (.ListComp elt [⟨target,iter,ifs,0⟩] scope pos) st Q:=λφ s I=>by
 rw[Q5];refine ly (use:=none) J st.ρ _ S self hs ht hclos hsc sz I h jl cond turn λacc st' s' D C ρc hq I' k nC nD DC φC φD sC sD=>?_;refine ad ((I'.inv.rep C (.fr ρc) (by unfold tot Sg.put;rw[if_neg nC];show (st'.σ C).or _=_;rw[sC];exact if_pos rfl)).2) λm hn _=>?_;refine (af m hn (λh' sb=>?_));refine xa1 (I'.forget (t:=s'.toks) nC sC (by unfold Sg.put;rw[if_neg (E8 DC)];exact φC) sb.extBut) λI₂ k₂=>?_;exact .mk (bN ..) (I₂.show_ sD nD φD) (k.trans k₂) (hq D sD)
theorem kH {px:Pos} {spos:Pos} (cl:List (Str×Addr)) (gs:List (Str×Value)) {mo:Nat->MO}
 (J:Nat->List MV->St->Prop)
 (hsw:J3 (.ListComp elt [⟨target,iter,ifs,0⟩] scope pos) (EU (.Name x px)) spos.line X.env=pure true)
 (S:∀C,Steps (Xi X scope cl C gs) mo vs Cond) (self:∀C,i9 (Xi X scope cl C gs) mo)
 (hs:∀x,F5 iter X.env x=pure x) (ht:∀C,fa (Xi X scope cl C gs) target mo)
 (hclos:H9 scope X.env=pure cl) (hsc:c9 scope=true) (sz:vs.length≤sizeLine)
 (h:WE X iter st λm st₁=>st₁.ρ=st.ρ∧qm X m st₁ mo∧J 0 [] ⟨st₁.σ,loC scope⟩∧
  ∀acc st',J vs.length acc st'->∀D,st'.σ D=none->WA X (.Name x px) (.r D) ⟨st'.σ.put D (.lst acc),st.ρ⟩ λst₂=>Q .next st₂)
 (jl:∀i acc st,J i acc st->acc.length≤i) (cond:∀i acc st,J i acc st->Cond st)
 (turn:∀C i (hi:i<vs.length) acc st,J i acc st->WA (Xi X scope cl C gs) target vs[i] st λst₂=>bQ (Xi X scope cl C gs) ifs st₂ λok st₃=>
  if ok=true then WE (Xi X scope cl C gs) elt st₃ λm st₄=>J (i+1) (acc++[m]) st₄ else J (i+1) acc st₃):
 WS1 X (.Assign [.Name x px] (.ListComp elt [⟨target,iter,ifs,0⟩] scope pos) spos) st Q:=λφ s I=>by
 rw[exec_Assign_Name_used _ _ _ _ hsw];refine EX (GH (EX ?_));show E4 X.M X.A (do let _←comprehension (.ListComp elt [⟨target,iter,ifs,0⟩] scope pos) scope X.env _ (Pk []) false (eval iter X.env) (EU (Ly (.Name x px) X.env))) _ _ s;refine EX (ab (ly (use:=EU (Ly (.Name x px) X.env)) (QV:=λ_ s'=>PostU X φ s (λst₂=>Q .next st₂) s') J st.ρ _ S self hs ht hclos hsc sz I h jl cond turn λacc st' s' D C ρc hq I' k nC nD DC φC φD sC sD=>?_) λ_ s' ⟨st₂,I₂,k₂,q⟩=>E0 (E0 ⟨.next,st₂,rfl,I₂,k₂,q⟩));rw[d8 _ _ _ DC] at I';have I₂:=I'.show_ sD nD (by unfold Sg.put;rw[if_neg DC];exact φD);refine ab (hq D sD _ s' _ I₂ (bN ..)) λ_ s'' pp=>?_;obtain ⟨st₃,I₃,k₃,q₃⟩:=pp
 have sC3:st₃.σ C=none:=by
  cases e:st₃.σ C with
  |none=>rfl
  |some m=>have z:=I₃.dis _ m e;unfold Sg.put at z;rw[if_pos rfl] at z;cases z
 refine ad ((I₃.inv.rep C (.fr ρc) (by unfold tot Sg.put;rw[if_neg nC];show (st₃.σ C).or _=_;rw[sC3];exact if_pos rfl)).2) λm hn _=>?_;refine (af m hn (λh' sb=>?_));refine xa1 (I₃.forget (t:=s''.toks) nC sC3 φC sb.extBut) λI₄ k₄=>?_;exact ⟨st₃,I₄,k.trans (k₃.trans k₄),q₃⟩
theorem kT {C:Cx} (G:Gd C) {X:Xc} (hC:X.C=C) (hh:X.A.handled=none) (hg:X.env.globals=3) (hb:X.env.builtins=0) {cl:List (Str×Addr)} {F:Addr} (hk:scope.kind= .function)
 (ok:hO (relabel scope X.env) C.w.params gs=true):XOk (Xi X scope cl F gs):=by
 subst hC;refine ⟨hk,hh,λx v e=>?_⟩;have z:=Fm.mp ok (x,v) (gy e);simp only[Fc,JT,Ga,beq_iff_eq,I5] at z;refine xa1 z λz5 z3=>?_;clear z;refine xa1 z5 λz1 z2=>?_;clear z5;refine (ia2 z1 (by simpa using z2) (λs old E Q q=>?_))
 have n3:s.heap.Ns (Gl scope cl F X.env).globals (dw (l3 X.C.w.params)):=by
  show s.heap.Ns X.env.globals _;rw[hg];exact (gX G.says rfl (s3 _)).keeps old
 rcases z3 with z3|⟨z3,z4⟩
 ·exact Lj n3 z3 q
 ·have n0:s.heap.Ns (Gl scope cl F X.env).builtins (dw (l0 X.C.w.params)):=by
   show s.heap.Ns X.env.builtins _;rw[hb];exact (gX G.says rfl (s0 _)).keeps old
  exact K5 n3 z3 n0 z4 q
theorem fc (O:XOk X) (l:Addr):i9 X (λi=> .itl l i):=λφ st s it Qx I ori hq=>wpAny_pyIter_listiter ori hq
end
section
variable {x:Addr} {o:G0}
open Builtin.ObjectAttr
variable {X:Xc} {st:St} {φ:Sg} {Q:MV->St->Prop}
noncomputable def KD (P:F0) (dv:Addr->Value):Frag:=(K P).map λp=>(p.1,dZ p.1 (dv p.1) p.2)
theorem lM {f:Addr->Obj->Obj}:∀(l:List (Addr×Obj)) (a:Addr),(l.map λp=>(p.1,f p.1 p.2)).lookup a=(l.lookup a).map (f a)
 | [],a=>rfl
 |(b,o)::l,a=>by
  simp only[FV,IP]
  cases h:a==b with
  |true=>rw[beq_iff_eq.mp h];rfl
  |false=>exact lM l a
theorem Says.kd {w:FH} (S:Says w h):∃dv,(KD w.params dv).In h:=by
 have:∀a:Addr,∃v:Value,∀o,(K w.params).lookup a=EU o->h.get? a=EU (dZ a v o):=λa=>by
  cases e:(K w.params).lookup a with
  |none=>exact ⟨.none,λo h=>by cases h⟩
  |some o=>
   refine xe1 (S.k (a,o) (dH e)) λv hv=>?_;exact ⟨v,λo' h=>by cases h;exact hv⟩
 obtain ⟨dv,hdv⟩:=Classical.axiomOfChoice this;refine ⟨dv,λa o e=>?_⟩;unfold KD at e;rw[lM (f:=λa o=>dZ a (dv a) o)] at e;refine ad (Gc.mp e) λo' e1 e2=>?_;rw[hdv a o' e1,←e2]
structure Kn (X:Xc) where
 dv:Addr->Value
 k:(KD X.C.w.params dv).In X.C.h0
noncomputable def kn {X:Xc} (G:Gd X.C):Kn X:=⟨G.says.kd.choose,G.says.kd.choose_spec⟩
theorem IF.kin {s:Shared} (I:IF X φ st s) (N:Kn X):(KD X.C.w.params N.dv).In s.heap:=N.k.keeps I.inv.old
noncomputable def dk (K:Frag) (C:Addr):Bool:=Il K (.ref C) "__getattribute__" ==EU (EU (.builtin "object.__getattribute__"))&&Il K (.ref C) "__getattr__" ==EU none&&
 Il K (.ref C) "__setattr__" ==EU (EU (.builtin "object.__setattr__"))&&plainOver K C&&(clsIn K C).any (·.hasDict)
theorem gr {K:Frag} {C:Addr} (h:dk K C=true):Il K (.ref C) "__getattribute__" =EU (EU (.builtin "object.__getattribute__"))∧Il K (.ref C) "__getattr__" =EU none∧
 Il K (.ref C) "__setattr__" =EU (EU (.builtin "object.__setattr__"))∧plainOver K C=true∧(clsIn K C).any (·.hasDict)=true:=by
 simp only[dk,Fc,beq_iff_eq] at h;refine xa1 h λz1 e=>?_;refine xa1 z1 λz2 d=>?_;obtain ⟨⟨a,b⟩,c⟩:=z2;exact (ia4 a b c d e)
theorem NsR.find {h : Heap} {name : Str} : ∀ {m : List (Str × MV)} {es : List DictEntry}, NsR h m es ->
    match nk m name with
    | some v => ∃ e, es.find? (λe => e.key.isStr name) = EU e ∧ VR h v e.val
    | none => es.find? (λe => e.key.isStr name) = none
  | [], es, r => by cases (show es = [] from r); rfl
  | (k, v) :: m, es, r => by
    refine am r λe es' z1 z2 => ?_; clear r; subst z1; refine xa2 z2 λz3 e3 e4 => ?_; clear z2; obtain ⟨t, e2⟩ := z3
    have ih := NsR.find (name := name) e4
    have hk : e.key.isStr name = decide (name = k) := by
      rw [e2]; show (k == name) = _
      by_cases hx : name = k
      · clear e2; subst hx; simp
      · simp [hx, E8 hx]
    by_cases hx : name = k
    · have : nk ((k, v) :: m) name = EU v := by simp [nk, hx]
      rw [this]
      exact (af e (by rw [Om, hk, decide_eq_true hx]) e3)
    · have : nk ((k, v) :: m) name = nk m name := by simp [nk, hx]
      rw [this]
      have q : (e :: es').find? (λe => e.key.isStr name) = es'.find? (λe => e.key.isStr name) := by rw [Om, hk, decide_eq_false hx]
      rw [q]; exact ih
theorem NsR.noref {h:Heap}:∀{m:List (Str×MV)} {es:List DictEntry},NsR h m es->es.any (·.refKey)=false
 | [],es,r=>by cases (show es=[] from r);rfl
 |(k,v)::m,es,r=>by
  refine am r λe es' z1 z2=>?_;clear r;subst z1;refine xa2 z2 λz3 e3 e4=>?_;obtain ⟨t,e2⟩:=z3;rw[Mh,NsR.noref e4,Kt];unfold DictEntry.refKey;rw[e2]
theorem jy {C:Addr} {ns:List (Str×MV)} (a:OR h x (.ins C dx)) (b:OR h dx (.ns ns)):∃es n,InstAt h x {cls:= .ref C,dict:=EU dx,data:= .plain} C (EU {cls:= .type "dict",data:= .dict es n})∧
 NsR h ns es.toList∧h.get? dx=EU {cls:= .type "dict",data:= .dict es n}:=by
 refine am b λes n ho r=>?_;clear b;exact (cZ es n ⟨a.1,rfl,rfl,ho⟩ r ho)
noncomputable def MV.out:MV->Prop
 | .k v=>handedIn v=true
 |_=>True
theorem VR.out (r:VR h m v) (o:m.out):handedIn v=true:=by
 cases m with
 |k u=>cases (show v=u from r);exact o
 |i n=>obtain ⟨t,rfl⟩:=r;rfl
 |s x=>obtain ⟨t,rfl⟩:=r;rfl
 |t c vs=>refine bx r λa o items n z1 _=>?_;clear r;subst z1;rfl
 |r a=>cases (show v= .ref a from r);rfl
 |bm f m=>refine gu r λa o y z1 _=>?_;clear r;subst z1;rfl
theorem zd {pos} (hb:F6 o name X.env (eval o X.env)=eval o X.env)
 (h:WE X o st λa st₁=>(∃x,a= .r x)∧W1 X (λv=>JQ v name true) a st₁ Q):WE X (.Attribute o name pos) st Q:=λφ s I=>by
 rw[OW,hb];refine EX (ab (h φ s I) λv s₁ pp=>?_);obtain ⟨a,st₁,r,I₁,k,⟨x,hx⟩,q⟩:=pp;refine EX (GH (EX (wpAny_holding (ab (q φ s₁ v I₁ r) λu s₂ p=>?_))));exact EX (On (E0 (p.trans k)))
theorem B5 (N:Kn X) {C:Addr} {ns:List (Str×MV)} (e1:st.σ x=EU (.ins C dx)) (e2:st.σ dx=EU (.ns ns)) (e3:nk ns name=EU m) (hm:m.out) (hC:dk (KD X.C.w.params N.dv) C=true)
 (hf:Il (KD X.C.w.params N.dv) (.ref C) name=EU none) (hq:Q m st):W1 X (λv=>JQ v name true) (.r x) st Q:=λφ s v I r=>by
 cases (show v= .ref x from r);refine bM (jy (I.own e1) (I.own e2)) λes n IA nr hd=>?_;have KI:=I.kin N;refine xa4 (gr hC) λc1 c2 c3 c4 c5=>?_;have z:=nr.find (name:=name);rw[e3] at z;refine ad z λe he rv=>?_;clear z;refine get_value (v:=e.val) KI IA c1 ?_ (rv.out hm) (.mk rv (I.toks _) (.refl _) hq);refine ad (QG c5) λcd hcd hhd=>?_;unfold findObj;rw[hcd,hf];show (W.ownOf cd (EU _) name).bind _=_;unfold W.ownOf;rw[hhd];show (QH name {cls:= .type "dict",data:= .dict es n}).bind _=_;unfold QH;show (match es.toList.find? (λe:DictEntry=>e.key.isStr name) with|some e=>EU (EU e.val)|none=>_).bind _=_;rw[he];rfl
noncomputable def aM:List (Str×MV)->Str->MV->List (Str×MV)
 | [],k,m=>[(k,m)]
 |(n,v)::l,k,m=>if k=n then (n,m)::l else (n,v)::aM l k m
theorem lV:∀(l:List (Str×MV)) (x y:Str) (m:MV),nk (aM l x m) y=if y=x then EU m else nk l y
 | [],x,y,m=>by simp[aM,nk]
 |(n,v)::l,x,y,m=>by
  unfold aM;by_cases h:x=n
  ·subst h;rw[if_pos rfl];by_cases h2:y=x
   ·subst h2;simp[nk]
   ·simp[nk,h2]
  ·rw[if_neg h];by_cases h2:y=n
   ·subst h2;have:¬y=x:=λe=>h e.symm;simp[nk,this]
   ·simp only[nk,if_neg h2,lV l x y m]
theorem kf:∀(l:List (Str×MV)) (x:Str) (m:MV),(aM l x m).length≤l.length+1
 | [],x,m=>by simp[aM]
 |(n,v)::l,x,m=>by
  unfold aM;split
  ·simp
  ·have:=kf l x m;simp;exact this
theorem NsR.len {h:Heap}:∀{m:List (Str×MV)} {es:List DictEntry},NsR h m es->es.length=m.length
 | [],es,r=>by cases (show es=[] from r);rfl
 |(k,v)::m,es,r=>by
  refine am r λe es' z1 z2=>?_;clear r;subst z1;refine xa2 z2 λ_ _ e4=>?_;simp[NsR.len e4]
noncomputable def fT (name:Str) (hs:Int) (key v:Value):List DictEntry->List DictEntry
 | []=>[⟨hs,key,v⟩]
 |e::es=>if e.key.isStr name then {e with val:=v}::es else e::fT name hs key v es
theorem sO (name:Str) (hs:Int) (key v:Value) (es:Array DictEntry) (n:Nat):∃n',Nj name hs key v {cls:= .type "dict",data:= .dict es n}={cls:= .type "dict",data:= .dict (fT name hs key v es.toList).toArray n'}:=by
 rw[Obj.putName_eq];unfold Obj.putNameByArray;dsimp only
 have key':∀l:List DictEntry,match l.findIdx? (λe=>e.key.isStr name) with
  |some i=>l.modify i (λe=>{e with val:=v})=fT name hs key v l
  |none=>l++[⟨hs,key,v⟩]=fT name hs key v l:=by
  intro l
  induction l with
  |nil=>simp[fT]
  |cons e l ih=>
   rw[List.findIdx?_cons]
   cases hk:e.key.isStr name with
   |true=>simp[fT,hk]
   |false=>
    simp only[fT,hk,FL,if_false]
    cases hi:l.findIdx? (λe=>e.key.isStr name) with
    |none=>rw[hi] at ih;simpa using ih
    |some i=>rw[hi] at ih;simpa using ih
 obtain ⟨l⟩:=es;have z:=key' l;rw[show (QI l).findIdx? (λe=>e.key.isStr name)=l.findIdx? (λe=>e.key.isStr name) from List.findIdx?_toArray ..]
 cases hi:l.findIdx? (λe=>e.key.isStr name) with
 |none=>
  rw[hi] at z;exact ⟨n+1,by show _=_;rw[←z];simp⟩
 |some i=>
  rw[hi] at z;refine ⟨n,?_⟩;show Obj.mk _ _ (.dict ((QI l).modify i λe=>{e with val:=v}) n) _=_;rw[←z,←Array.toList_modify]
theorem NsR.put {h:Heap} {name:Str} {hs:Int} {t:Nv} {v:Value} {mv:MV} (r:VR h mv v):∀{m:List (Str×MV)} {es:List DictEntry},NsR h m es->NsR h (aM m name mv) (fT name hs (.str name t) v es)
 | [],es,q=>by cases (show es=[] from q);exact (fB _ ([]) rfl ⟨t,rfl⟩ r rfl)
 |(k,w)::m,es,q=>by
  refine am q λe es' z1 z2=>?_;clear q;subst z1;refine xa2 z2 λz3 e3 e4=>?_;clear z2;obtain ⟨t',e2⟩:=z3
  have hk:e.key.isStr name=decide (name=k):=by
   rw[e2];show (k==name)=_;by_cases hx:name=k
   ·clear e2;subst hx;simp
   ·simp[hx,E8 hx]
  unfold aM fT;rw[hk];by_cases hx:name=k
  ·rw[if_pos hx,if_pos (decide_eq_true hx)];exact (fB _ _ rfl ⟨t',e2⟩ r e4)
  ·rw[if_neg hx,if_neg (by simp[hx])];exact (fB _ _ rfl ⟨t',e2⟩ e3 (NsR.put r e4))
theorem vL (N:Kn X) {C:Addr} {ns:List (Str×MV)} (e1:st.σ x=EU (.ins C dx)) (e2:st.σ dx=EU (.ns ns)) (hC:dk (KD X.C.w.params N.dv) C=true)
 (ht:MA (KD X.C.w.params N.dv) C name=EU none) (hz:ns.length<900) (hq:QU ⟨st.σ.put dx (.ns (aM ns name m)),st.ρ⟩) {φ:Sg} {s:Shared} {v:Value} (I:IF X φ st s) (r:VR s.heap m v):
 E4 X.M X.A (setAttr (.ref x) name v) (λ_=>PostU X φ s QU) NoE s:=by
 refine bM (jy (I.own e1) (I.own e2)) λes n IA nr D=>?_;have KI:=I.kin N;refine xa4 (gr hC) λc1 c2 c3 c4 c5=>?_;refine ad (QG c5) λcd hc hd'=>?_;refine set_plain KI IA c3 ?_;have I':=I.toks (s.toks+1);refine osa_open (s:={s with toks:=s.toks+1}) KI IA c4 ht λb=>?_;have hx:=(I.own e1).1;refine xe1 (sO name (HO X.C.w.params name) (.str name (s.toks+1)) v es n) λn' hn'=>?_;have sb:Heap.SameBut dx s.heap (s.heap.update dx (Nj name (HO X.C.w.params name) (.str name (s.toks+1)) v)):=Heap.SameBut.update ..
 have D':(s.heap.update dx (Nj name (HO X.C.w.params name) (.str name (s.toks+1)) v)).get? dx=EU {cls:= .type "dict",data:= .dict (fT name (HO X.C.w.params name) (.str name (s.toks+1)) v es.toList).toArray n'}:=by
  rw[Heap.get?_update_self _ D (by rw[hn'];rfl),hn']
 have k:=cp I e2 sb;have NR:=(nr.keep k).put (name:=name) (hs:=HO X.C.w.params name) (t:=s.toks+1) (r.keep k)
 have lz:(fT name (HO X.C.w.params name) (.str name (s.toks+1)) v es.toList).length≤1000:=by
  rw[NR.len];have:=kf ns name m;exact nLL (EY this hz) rfl
 refine EX (E0 (EX (EX (IN hx (EX (Ft.here (s:={s with toks:=s.toks+1}) (looks_clsIn KI hc) ?_))))));rw[hd'];refine E0 (a:=EU dx) (EX (E0 (EX ?_)));unfold nsSet;refine EX (EX (LI (E0 (EX (NN (EX (IN D ?_)))))));dsimp only
 have c:(!es.any (·.key.isStr name)&&es.any (·.refKey))=false:=by
  rw[←NO,←NO,nr.noref,Bool.and_false]
 rw[aRefKeyMayBeTheName_at,c];refine wpAny_updatePart D ?_;refine EX (wpAny_lookBehind D' (pastItsLine_dict (by rw[List.size_toArray,sizeLine_eq];exact nLL lz rfl)) ?_);refine E0 ?_;exact ⟨_,I.upd (m':= .ns (aM ns name m)) (t:=s.toks+1+1) e2 sb (cz _ n' D' (by rw[G6];exact NR)),k,hq⟩
theorem zg (N:Kn X) {pos} (h:WE X o st λa st₁=>∃x C dx ns,a= .r x∧st₁.σ x=EU (.ins C dx)∧st₁.σ dx=EU (.ns ns)∧dk (KD X.C.w.params N.dv) C=true∧
 MA (KD X.C.w.params N.dv) C name=EU none∧ns.length<900∧QU ⟨st₁.σ.put dx (.ns (aM ns name m)),st₁.ρ⟩):WA X (.Attribute o name pos) m st QU:=λφ s v I r=>by
 rw[assign_Attribute];refine EX (wpAny_holding (ab (h φ s I) λov s₁ pp=>?_));obtain ⟨a,st₁,r₁,I₁,k,z⟩:=pp;refine bx z λx C dx ns e0 z=>?_;refine xa4 z λe1 e2 e3 e4 z=>?_;refine xa1 z λe5 q=>?_;refine EX (GH (EX (wpAny_holding ?_)));subst e0;cases (show ov= .ref x from r₁);refine ab (vL N e1 e2 e3 e4 e5 q I₁ (r.keep k)) λ_ s₂ p=>?_;intro Γ p' _;rw[KW.wp_release];exact p.trans k
end
section
variable {ps:List (Str×MV)}
open Builtin.ObjectAttr
noncomputable def xg (P:Value->Shared->Prop) (r:LH) (s':Shared):Prop:=match r with
 | .ok (.ret v)=>P v s'
 |_=>False
noncomputable def CtA (C:Cx) (A:Gk) (f:Value) (args:List MV) (kw:List (Str×MV)) (σ:Sg) (Q:MV->Sg->Prop):Prop:=
 ∀φ s vs ks,Inv C (joi σ φ) s->Dis σ φ->VRs s.heap args vs->VRs s.heap (kw.map (·.2)) ks->IZ (Fa pgm C.w) A (.call f ⟨vs,(kw.map (·.1)).zip ks⟩) (xg (s9 C φ s Q)) s
theorem fx {M:Model} {vs:List Value} {ks:List (Str×Value)} {s:Shared} {P:Value->Shared->Prop} (h:IZ M A (.call f ⟨vs,ks⟩) (xg P) s):E4 M A (call f vs ks) P NoE s:=
 wpAny_call (codeAny_mono h λr s' z=>by
  rcases r with e|(v|_|_|_)<;>first|exact z|exact z.elim)
theorem CtA.ct {C:Cx} {σ:Sg} {Q:MV->Sg->Prop} (h:CtA C A f args [] σ Q):Ct C A f args σ Q:=λφ s vs I d r=>fx (h φ s vs [] I d r (.nil _))
theorem CtA.mono {C:Cx} {σ:Sg} {Q Q':MV->Sg->Prop} (h:CtA C A f args kw σ Q) (k:∀m σ',Q m σ'->Q' m σ'):CtA C A f args kw σ Q':=λφ s vs ks I d r r'=>
 codeAny_mono (h φ s vs ks I d r r') λr s' z=>by
  rcases r with e|(v|_|_|_)<;>first|exact z.elim|skip
  refine fv z λm σ' a b c e q=>?_;exact (hU m σ' a b c e (k m σ' q))
noncomputable def d4 (C:Cx) (fd:FuncData) (args:List MV) (kw:List (Str×MV)) (ps:List (Str×MV)):Prop:=
 ∀(s:Shared) (vs ks:List Value),(∀b o,C.h0.get? b=EU o->s.heap.get? b=EU o)->VRs s.heap args vs->VRs s.heap (kw.map (·.2)) ks->∀(M:Model) (A:Gk) (E:Value->Shared->Prop) (Q:List (Str×Value)->Shared->Prop),
  (∀binds h' t,(∀b o,s.heap.get? b=EU o->h'.get? b=EU o)->(∀x∈binds,fd.scope.names.lookup x.1=EU .local)->(∀x m,ps.lookup x=EU m->∃v,binds.reverse.lookup x=EU v∧VR h' m v)->Q binds {s with heap:=h',toks:=t})->
  E4 M A (Ll fd ⟨vs,(kw.map (·.1)).zip ks⟩) Q E s
theorem BindOk.a {C:Cx} (h:BindOk C fd args ps):d4 C fd args [] ps:=λs vs ks old r _ M A E Q hq=>by
 refine aV (h s vs old r) λbinds b1 b2 b3=>?_;show E4 M A (Ll fd ⟨vs,[]⟩) Q E s;exact b1 M A E Q (hq binds s.heap s.toks (λ_ _ e=>e) b2 b3)
theorem yd {C:Cx} {a:Addr} {σ:Sg} {Q:MV->Sg->Prop}
 (hroom:A.depth<MS) (ho:C.h0.get? a=EU o) (hdata:o.data= .func fd) (hlim:C.h0.NoLimit) (hcd:C.h0.CodeRec fd.code fd.qualname)
 (hbody:fd.body= .stmts body) (hcell:∀x∈fd.scope.names,x.2≠ .cell)
 (hdup:∀x k,(x,k)∈fd.scope.names->fd.scope.names.lookup x=EU k∧(x==("__debug__" :Str))=false)
 (hco:fd.scope.isCoroutine=false) (hgen:fd.scope.isGenerator=false) (hk:fd.scope.kind= .function)
 (hb:d4 C fd args kw ps)
 (gs:List (Str×Value)) (h:∀L,WS ⟨C,A.deeper (JP fd L a),JP fd L a,gs⟩ body ⟨σ,lo0 fd ps⟩ (RP Q)):CtA C A (.ref a) args kw σ Q:=λφ s vs ks I d r r'=>by
 refine codeAny_call_function hroom (I.old _ _ ho) hdata hco hgen hbody (hcd.keeps I.old) (hb s vs ks I.old r r' _ _ _ _ λbinds h₁ t₁ keep₁ hloc hbv=>?_);have I₁:Inv C (joi σ φ) {s with heap:=h₁,toks:=t₁}:=I.grow keep₁ _;refine Ol hcell hloc (λh₀ hns hsb=>?_) hk;have hkeep:∀b o,h₁.get? b=EU o->h₀.get? b=EU o:=λb o e=>hsb.extBut b o (Fh (Heap.lt_size e)) (Heap.get?_push_of_some _ e);refine ⟨(hlim.keeps I₁.old).fresh _ hsb,codeAny_func ?_⟩;have L0:=I₁.fresh
 have hL:σ h₁.objs.size=none∧φ h₁.objs.size=none:=by
  have z:(σ h₁.objs.size).or (φ h₁.objs.size)=none:=L0
  cases e:σ h₁.objs.size with
  |none=>rw[e] at z;exact ⟨rfl,z⟩
  |some m=>rw[e] at z;cases z
 have kk:Keep h₁ h₀:=aB hkeep;have I₀:Inv C (joi σ φ) {s with heap:=h₀,toks:=t₁+binds.length}:=I₁.grow hkeep _
 have fr:FrR h₀ h₁.objs.size (lo0 fd ps):=by
  refine (af _ hns (λx v hx=>?_));refine xa1 (gR (f:=λy=>ps.lookup y) (l:=fd.scope.names.filter λp=>p.2== .local) hx) λe _=>?_;refine ad (hbv x v e.symm) λu hu ru=>?_;exact (af u hu (ru.keep kk))
 have IFs:IF ⟨C,A.deeper (JP fd h₁.objs.size a),JP fd h₁.objs.size a,gs⟩ φ ⟨σ,lo0 fd ps⟩ {s with heap:=h₀,toks:=t₁+binds.length}:=by
  refine ⟨?_,hL.1,d,λx v hx=>?_⟩
  ·have z:=I₀.own (a:=h₁.objs.size) (m:= .fr (lo0 fd ps)) I₁.sz fr;have e:(joi σ φ).put h₁.objs.size (.fr (lo0 fd ps))=tot σ φ h₁.objs.size (lo0 fd ps):=rfl;rw[e] at z;exact z
  ·refine g4 (gR (f:=λy=>ps.lookup y) (l:=fd.scope.names.filter λp=>p.2== .local) hx) λ_ k hmem=>?_;refine xa1 (GB.mp hmem) λh1 h2=>?_;refine xa1 (hdup x k h1) λh3 h4=>?_;have:k= .local:=by simpa using h2
   subst this;exact ⟨h3,h4⟩
 refine FB (h h₁.objs.size φ _ IFs) (λf s' pp=>?_) λ_ _ x=>x.elim;obtain ⟨fl,st',rf,I',k',q⟩:=pp;have k0:Keep s.heap h₁:=aB keep₁
 have fin:∀m v,VR s'.heap m v->Q m st'.σ->s9 C φ s Q v s':=λm v rv hq=>
  ⟨m,st'.σ,rv,I'.inv.sub λb mm e=>by
   have e:(st'.σ b).or (φ b)=EU mm:=e;show (if b=h₁.objs.size then EU (MO.fr st'.ρ) else (st'.σ b).or (φ b))=EU mm
   have nn:b≠h₁.objs.size:=λhb=>by
    subst hb;have n1:st'.σ h₁.objs.size=none:=I'.no;rw[n1,hL.2] at e;cases e
   rw[if_neg nn];exact e,I'.dis,k0.trans (kk.trans k'),hq⟩
 cases fl with
 |next=>cases (show f= .next from rf);exact fin _ _ (ba ..) q
 |brk=>cases (show f= .brk from rf);exact fin _ _ (ba ..) q
 |cont=>cases (show f= .cont from rf);exact fin _ _ (ba ..) q
 |ret m=>refine ad rf λv z1 rv=>?_;clear rf;subst z1;exact fin _ _ rv q
noncomputable def lo1 (s:Stmt) (ps:List (Str×MV)):Lo:=((cg s).names.filter λp=>p.2== .local).map λp=>(p.1,ps.lookup p.1)
theorem aW {C:Cx} (G:Gd C) (R:Rm (k+1) A) {a c:Addr} {x:Stmt} {n q:Str} {d pm:Value} {an:Option Addr} {t:Nv} {σ:Sg} {Q:MV->Sg->Prop}
 (e:(K C.w.params).lookup a=EU (mkF x n q d .none pm an (.ref c))) (ec:dy.lookup c=EU (.str q t))
 (hn:((cg x).names.all λp=>!(p.2== .cell)&&(cg x).names.lookup p.1==EU p.2&& !(p.1==("__debug__" :Str)))=true)
 (hs:(!(cg x).isCoroutine&& !(cg x).isGenerator&&(cg x).kind== .function)=true)
 (gs:List (Str×Value)) (hg:hO (cg x) C.w.params gs=true)
 (hb:∀v,d4 C (dD x n q d v pm an (.ref c)) args kw ps)
 {ρ:Lo} (hL:lo1 x ps=ρ)
 (h:∀Q':MV->Sg->Prop,(∀m σ',Q m σ'->Q' m σ')->∀X:Xc,X.C=C->XOk X->Rm k X.A->GC X.env=false->X.gs=gs->(∃v L,X.env=JP (dD x n q d v pm an (.ref c)) L a)->WS X (cu x) ⟨σ,ρ⟩ (RP Q')):CtA C A (.ref a) args kw σ Q:=by
 obtain ⟨v,hv⟩:=G.says.fn e;simp only[Fc,Ga,beq_iff_eq] at hs;obtain ⟨⟨s1,s2⟩,s3⟩:=hs;have hn':=λp hp=>Fm.mp hn p hp;refine yd (fd:=dD x n q d v pm an (.ref c)) (ps:=ps) (by have:=R.d;exact E3 (EY (Fr _ _) (Fr _ 1)) this) hv rfl G.lim (G.says.code ec) rfl (λp hp hc=>?_) (λy k hy=>?_) s1 s2 s3 (hb v) gs λL=>?_
 ·have:=hn' p hp;simp[hc] at this
 ·have:=hn' (y,k) hy;simp only[Fc,Ga,beq_iff_eq] at this;exact ⟨this.1.2,by simpa using this.2⟩
 ·rw[show lo0 (dD x n q d v pm an (.ref c)) ps=ρ from hL];exact h Q (λ_ _ h=>h) _ rfl (xok G R.hh s3 rfl rfl hg) (R.deeper _) (by unfold GC;show ((cg x).kind== .module&&_)=false;rw[s3];rfl) rfl (ie2 v L rfl)
variable {X:Xc} {st:St} {Q:MV->St->Prop}
noncomputable def WCk (X:Xc) (f:Value) (args:List MV) (kw:List (Str×MV)) (st:St) (Q:MV->St->Prop):Prop:=
 ∀φ s vs ks,IF X φ st s->VRs s.heap args vs->VRs s.heap (kw.map (·.2)) ks->E4 X.M X.A (call f vs ((kw.map (·.1)).zip ks)) (Post X φ s Q) NoE s
theorem iI (h:CtA X.C X.A f args kw st.σ λm σ'=>Q m ⟨σ',st.ρ⟩):WCk X f args kw st Q:=λφ s vs ks I r r'=>by
 let φ':Sg:=λa=>if a=X.env.locals then EU (.fr st.ρ) else φ a
 have e1:joi st.σ φ'=tot st.σ φ X.env.locals st.ρ:=by
  funext a;show (st.σ a).or (if a=X.env.locals then EU (.fr st.ρ) else φ a)=if a=X.env.locals then EU (.fr st.ρ) else (st.σ a).or (φ a)
  by_cases h:a=X.env.locals
  ·rw[if_pos h,if_pos h,h,I.no];rfl
  ·rw[if_neg h,if_neg h]
 have d1:Dis st.σ φ':=λa m e=>by
  show (if a=X.env.locals then EU (MO.fr st.ρ) else φ a)=none;rw[if_neg (λh=>by rw[h,I.no] at e;cases e)];exact I.dis a m e
 refine ab (fx (h φ' s vs ks (by rw[e1];exact I.inv) d1 r r')) λv s' pp=>?_;refine fv pp λm σ' r' I' d' k q=>?_;clear pp
 have no:σ' X.env.locals=none:=by
  cases hh:σ' X.env.locals with
  |none=>rfl
  |some m=>
   have:=d' _ _ hh;have:(if X.env.locals=X.env.locals then EU (MO.fr st.ρ) else φ X.env.locals)=none:=this;rw[if_pos rfl] at this;cases this
 have e2:joi σ' φ'=tot σ' φ X.env.locals st.ρ:=by
  funext a;show (σ' a).or (if a=X.env.locals then EU (.fr st.ρ) else φ a)=if a=X.env.locals then EU (.fr st.ρ) else (σ' a).or (φ a)
  by_cases h:a=X.env.locals
  ·rw[if_pos h,if_pos h,h,no];rfl
  ·rw[if_neg h,if_neg h]
 refine ⟨m,⟨σ',st.ρ⟩,r',⟨by show Inv X.C (tot σ' φ X.env.locals st.ρ) s';rw[←e2];exact I',no,λa m e=>?_,I.loc⟩,k,q⟩;have:=d' a m e;have this:(if a=X.env.locals then EU (MO.fr st.ρ) else φ a)=none:=this;by_cases h:a=X.env.locals
 ·rw[if_pos h] at this;cases this
 ·rw[if_neg h] at this;exact this
inductive MethP (X:Xc) (N:Kn X) (name:Str) (es:List G0) (st:St) (Q:MV->St->Prop):MV->Prop
 |mk (x C dx:Addr) (ns:List (Str×MV)) (f:Addr) (ob:Obj) (fd:FuncData) (e1:st.σ x=EU (.ins C dx)) (e2:st.σ dx=EU (.ns ns)) (e3:nk ns name=none) (e4:dk (KD X.C.w.params N.dv) C=true)
  (e5:Il (KD X.C.w.params N.dv) (.ref C) name=EU (EU (.ref f))) (e6:MT (KD X.C.w.params N.dv) (.ref f)=EU (.type "function")) (e7:X.C.h0.get? f=EU ob) (e8:ob.data= .func fd)
  (q:WEs X es st λms st₂=>WC X (.ref f) (.r x::ms) st₂ Q):MethP X N name es st Q (.r x)
noncomputable abbrev kL (X:Xc) (N:Kn X) (a:MV) (name:Str) (es:List G0) (st:St) (Q:MV->St->Prop):Prop:=MethP X N name es st Q a
theorem bJ (N:Kn X) {o:G0} {pl:KW Bool}
 (he:eval (.Call (.Attribute o name apos) es [] pos) X.env=(do
  let ov←eval o X.env
  Ke apos.atName
  let (f,first)←IY [ov] (HV ov name pl)
  I0 pos f first (ID pos (Hk es X.env)) [])) (hs:Starless es)
 (h:WE X o st λa st₁=>kL X N a name es st₁ Q):WE X (.Call (.Attribute o name apos) es [] pos) st Q:=λφ s I=>by
 refine JR ?_ he;refine ab (h φ s I) λv s₁ p=>?_;obtain ⟨_,st₁,r,I₁,k,x,C,dx,ns,f,ob,fd,e1,e2,e3,e4,e5,e6,e7,e8,q⟩:=p;cases (show v= .ref x from r);refine bM (jy (I₁.own e1) (I₁.own e2)) λes' n IA nr D=>?_;refine xa4 (gr e4) λc1 c2 c3 c4 c5=>?_;have z:=nr.find (name:=name);rw[e3] at z;refine method_fn (I₁.kin N) IA c1 c2 e5 e6 ?_ ?_
 ·show (QH name {cls:= .type "dict",data:= .dict es' n}).map _=_;unfold QH;show (match es'.toList.find? (λe:DictEntry=>e.key.isStr name) with|some e=>EU (EU e.val)|none=>if es'.toList.any (·.refKey) then none else EU none).map _=_;rw[z,nr.noref];rfl
 ·refine Pf (o:=ob) (fd:=fd) (bt hs (ab (cv hs q I₁) λvs s₂ p=>?_));obtain ⟨ms,st₂,r₂,I₂,k₂,q₂⟩:=p;exact ⟨⟨I₂.inv.old f ob e7,e8⟩,ab (q₂ φ s₂ (.ref x::vs) I₂ (.cons (bN ..) r₂)) λu s₃ p=>p.trans (k.trans k₂)⟩
end
theorem jO {C:Cx} (G:Gd C) (R:Rm (k+1) A) {xs:List P2} {pos:Nat} {σ:Sg} (hp:pos<xs.length) (hx:xs.length<1000) (e:σ l=EU (.lst (xs.map tp))):
 Ct C A (.ref 285) [.r l,.i 0,.i pos] σ λm σ'=>m= .k .none∧σ'=σ.put l (.lst ((sd (xs[pos]) pos pos xs).map tp)):=by
 refine CtA.ct (aW G R (a:=285) (c:=284) (x:=top 10) (n:="_siftdown") (q:="_siftdown") (d:= .none) (pm:= .str "cpy313.heapq" 667) (an:=none) (t:=689) (ps:=(["heap","startpos","pos"]:List Str).zip [.r l,.i 0,.i pos]) s!"k" s!"k" s!"k" s!"k" [] s!"k"
  (λv=>(aX rfl s!"k" s!"1" (bk λa=>bk λb=>bk λc=>cK s!"k")).a) (ρ:=mkL [("heap",EU (.r l)),("startpos",EU (.i 0)),("pos",EU (.i pos)),("newitem",none),("parentpos",none),("parent",none)]) s!"k" λQf hQf X hC O R' hi hg _=>?_)
 exact qP X O (E3 (Fr _ (16*k+16)) (HG .. ▸R'.u)) l xs pos σ hp hx e λ_=>hQf _ _ ⟨rfl,rfl⟩
theorem q6 {C:Cx} (G:Gd C) (R:Rm (k+2) A) {xs:List P2} {p:P2} {σ:Sg} (hx:xs.length<900) (e:σ l=EU (.lst (xs.map tp))):
 Ct C A (.ref 271) [.r l,tp p] σ λm σ'=>m= .k .none∧σ'=σ.put l (.lst ((sd p xs.length xs.length (xs++[p])).map tp)):=by
 refine CtA.ct (aW G R (a:=271) (c:=270) (x:=top 8) (n:="heappush") (q:="heappush") (d:= .none) (pm:= .str "cpy313.heapq" 667) (an:=none) (t:=670)
  (ps:=(["heap","item"]:List Str).zip [.r l,tp p]) s!"k" s!"k" s!"k" s!"k" [("len",.builtin "len"),("_siftdown",.ref 285)] s!"k"
  (λv=>(aX rfl s!"k" s!"1" (bk λa=>bk λb=>cK s!"k")).a) (ρ:=mkL [("heap",EU (.r l)),("item",EU (tp p))]) s!"k" λQf hQf X hC O R' hi hg _=>?_)
 refine xe1 (G.says.fn (a:=285) (st:=top 10) (n:="_siftdown") (q:="_siftdown") (d:= .none) (pm:= .str "cpy313.heapq" 667) (an:=none) (cd:= .ref 284) s!"k") λv hv=>?_;subst hC;have gl:X.gs.lookup (EW "len")=EU (.builtin "len"):=hg▸s!"k";have gd:X.gs.lookup (EW "_siftdown")=EU (.ref 285):=hg▸s!"k";have z:(xs++[p]).length=xs.length+1:=E7;have em:((xs++[p]).map tp)=xs.map tp++[tp p]:=Fe;conv=>arg 2;whnf
 refine aa (aA hi s!"2" (aI ⟨trivial,?_⟩));refine aa (aA hi s!"2" (bp (T:="list") (id:="list.append") trivial s!"2" s!"d" s!"2" Fw Gw Gx
  (av O rfl ⟨bK e,av O rfl (fZ e (by rw[EZ,sizeLine_eq];exact aTL (m:=16777216) hx s!"d") ⟨trivial,?_⟩)⟩)))
 rw[←em];refine aa (aA hi s!"2" (bB O gd hv rfl trivial (av O rfl (aq (ar (aT O gl trivial (av O rfl (dz (Sg.put_same ..) ?_ (aq (eY ?_))))))))))
 ·rw[EZ,z];exact iTT (IR hx 1) s!"d"
 rw[show ((((xs++[p]).map tp).length:Int)-1)=(xs.length:Int) by rw[EZ,z];exact Jc (xs.length:Int) 1];refine wcE (jO (l:=l) (xs:=xs++[p]) (pos:=xs.length) G R' (z▸G9 _) (z▸El hx s!"d") (Sg.put_same ..)) ⟨trivial,ak (hQf _ _ ⟨rfl,?_⟩)⟩;show (σ.put l _).put l _=_;rw[cE,List.getElem_concat_length rfl]
section
noncomputable def suL:Nat->Nat->List P2->Nat×List P2
 |0,pos,ys=>(pos,ys)
 |f+1,pos,ys=>if 2*pos+1<ys.length then
  let c:=if 2*pos+1+1<ys.length∧¬lt2 ((ys[2*pos+1]?).getD (0,0)) ((ys[2*pos+1+1]?).getD (0,0)) then 2*pos+1+1 else 2*pos+1
  suL f c (ys.set pos ((ys[c]?).getD (0,0)))
  else (pos,ys)
noncomputable def su (new:P2) (xs:List P2):List P2:=sd new (suL xs.length 0 xs).1 (suL xs.length 0 xs).1 ((suL xs.length 0 xs).2.set (suL xs.length 0 xs).1 new)
theorem Rm.lt (R:Rm n A):A.units<cLine:=E3 (Fr _ (16*n+16)) (HG .. ▸R.u)
theorem co (h1:∀o i,Of slice false o i=Pd [o,i] (Pe o i)) (h2:∀o r,IM value o r=pure ()):gU value slice:=⟨h1,h2⟩
theorem j9 {x:Stmt} {st:St} {Q':Fl->St->Prop} (h:WS1 X x st Q') (k:∀fl st',Q' fl st'->Q fl st'):WS1 X x st Q:=λφ s I=>
 ab (h φ s I) λf s' ⟨fl,st',a,b,c,d⟩=>⟨fl,st',a,b,c,k _ _ d⟩
noncomputable def chi (p:Nat) (ys:List P2):Nat:=if 2*p+1+1<ys.length∧¬lt2 ((ys[2*p+1]?).getD (0,0)) ((ys[2*p+1+1]?).getD (0,0)) then 2*p+1+1 else 2*p+1
theorem dE {p:Nat} {ys:List P2} (hc:2*p+1<ys.length):chi p ys<ys.length∧p<chi p ys:=by
 unfold chi;by_cases h:2*p+1+1<ys.length∧¬lt2 ((ys[2*p+1]?).getD (0,0)) ((ys[2*p+1+1]?).getD (0,0))
 ·rw[if_pos h];exact ⟨h.1,by exact GN (IE (HE _ s!"d"))⟩
 ·rw[if_neg h];exact ⟨hc,by exact o43⟩
theorem sA {p c m:Nat} (h:p<c) (hc:c<m):m-c<m-p:=by exact Nw (Fq h hc) h
theorem Cz {g p:Nat} {ys:List P2} (hc:2*p+1<ys.length):suL (g+1) p ys=suL g (chi p ys) (ys.set p (ys[chi p ys]'(dE hc).1)):=by
 have e:suL (g+1) p ys=suL g (chi p ys) (ys.set p ((ys[chi p ys]?).getD (0,0))):=by simp only[suL,if_pos hc];rfl
 rw[e,E2 (dE hc).1];rfl
structure UJ (l:Addr) (xs:List P2) (σ:Sg) (p:Nat) (ys:List P2) (f:Nat) (σ':Sg):Prop where
 e:σ' l=EU (.lst (ys.map tp))
 o:∀b,b≠l->σ' b=σ b
 p':p<ys.length
 l':ys.length=xs.length
 f':ys.length-p≤f
 t:suL f p ys=suL xs.length 0 xs
variable {l:Addr} {xs ys:List P2} {p f:Nat} {σ σ':Sg}
theorem UJ.z (h:UJ l xs σ p ys f σ') (hx:xs.length<900) {c:Nat} (hc:c<ys.length):(c:Int)<2^63:=iTT (Fq (h.l'▸hc) hx) s!"d"
theorem UJ.step (h:UJ l xs σ p ys (f+1) σ') (hc:2*p+1<ys.length):
 UJ l xs σ (chi p ys) (ys.set p (ys[chi p ys]'(dE hc).1)) f (σ'.put l (.lst ((ys.map tp).set ((p:Int).toNat) (tp (ys[chi p ys]'(dE hc).1))))):=by
 refine ⟨(if_pos rfl).trans (congrArg (λz=>EU (MO.lst z)) JO.symm),λb hb=>(if_neg hb).trans (h.o b hb),?_,FA.trans h.l',?_,?_⟩
 ·rw[FA];exact (dE hc).1
 ·rw[FA];exact FD (E1 (sA (dE hc).2 (dE hc).1) h.f')
 ·rw[←h.t,Cz hc]
theorem um (X:Xc) (G:Gd X.C) (O:XOk X) (R:Rm (k+1) X.A) (hi:GC X.env=false) (l:Addr) (xs:List P2) (σ:Sg) (hp:0<xs.length) (hx:xs.length<900) (e:σ l=EU (.lst (xs.map tp)))
 (gl:X.gs.lookup (EW "len")=EU (.builtin "len")) (gd:X.gs.lookup (EW "_siftdown")=EU (.ref 285)) {Q:Fl->St->Prop} (hq:∀ρ,Q .next ⟨σ.put l (.lst ((su xs[0] xs).map tp)),ρ⟩):
 WS X (cu (top 11)) ⟨σ,mkL [("heap",EU (.r l)),("pos",EU (.i 0)),("endpos",none),("startpos",none),("newitem",none),("childpos",none),("rightpos",none)]⟩ Q:=by
 have hu:X.A.units<cLine:=R.lt;refine xe1 (G.says.fn (a:=285) (st:=top 10) (n:="_siftdown") (q:="_siftdown") (d:= .none) (pm:= .str "cpy313.heapq" 667) (an:=none) (cd:= .ref 284) s!"k") λv hv=>?_;have PS:∀{a b:Str} {p q:Pos},gU (.Name a p) (.Name b q):=co (λ_ _=>s!"r") (λ_ _=>s!"r");conv=>arg 2;whnf
 refine aa (ah s!"2" s!"2" trivial (aT O gl trivial (av O rfl (dz e (by rw[EZ];exact iTT hx s!"d") (cT O rfl ?_)))));rw[EZ];refine aa (ah s!"2" s!"2" trivial (av O rfl (cT O rfl (aa (ah s!"2" s!"2" trivial (aP (av O rfl (av O rfl (aY PS e s!"d" s!"d" (lU hp) (cT O rfl ?_))))))))));refine aa (ah s!"2" s!"2" trivial (ar (ar (aq (av O rfl (oN (Je s!"d") (aq (c0 (cT O rfl ?_)))))))));refine aa (dg (λn=>At (λa:List P2×Nat×Nat×Option MV=>[("heap",EU (.r l)),("pos",EU (.i a.2.1)),("endpos",EU (.i xs.length)),("startpos",EU (.i 0)),("newitem",EU (tp xs[0])),("childpos",EU (.i ((2*a.2.1+1:Nat):Int))),("rightpos",a.2.2.2)])
  λa σ'=>UJ l xs σ a.2.1 a.1 a.2.2.1 σ'∧n=a.1.length-a.2.1) ?_ xs.length (.mk (xs,0,xs.length,none) ⟨⟨e,λb _=>rfl,hp,rfl,Fd _,rfl⟩,rfl⟩))
 rintro J hJ n _ ⟨⟨ys,p,f,u⟩,h,hn⟩;rename_i σ';dsimp only at h hn⊢;subst hn;obtain ⟨g,rfl⟩:∃g,f=g+1:=⟨f-1,(Mz (E1 (KO h.p') h.f')).symm⟩
 refine aC s!"r" (av O rfl (av O rfl (gZ (ay ?_))));have hl:=h.l';by_cases hc:2*p+1<ys.length
 ·refine ifT (decide_eq_true (FO.mpr (hl▸hc))) (aa (ah s!"2" s!"2" trivial (ar (av O rfl (aq (c0 (cT O rfl (aa (j9 (Q':=λfl st'=>fl= .next∧
   At (λv:Option MV=>[("heap",EU (.r l)),("pos",EU (.i p)),("endpos",EU (.i xs.length)),("startpos",EU (.i 0)),("newitem",EU (tp xs[0])),("childpos",EU (.i (chi p ys:Int))),("rightpos",v)]) (λ_ σ1=>σ1=σ') st') ?_ ?_)))))))))
  ·refine bl (bW (aC s!"r" (av O rfl (av O rfl (gZ (ay ?_))))));rw[show (((2*p+1:Nat):Int)+1)=((2*p+1+1:Nat):Int) from rfl];by_cases hr:2*p+1+1<ys.length
   ·refine ifT (decide_eq_true (FO.mpr (hl▸hr))) (bW (gD (aC s!"r" (aP (av O rfl (av O rfl (aY PS h.e (Ff _) (h.z hx hc) (lU hc)
     (aP (av O rfl (av O rfl (aY PS h.e (Ff _) (h.z hx hr) (lU hr) (xA hu (ay ?_)))))))))))))
    by_cases hlt:lt2 (ys[2*p+1]) (ys[2*p+1+1])
    ·have hcv:chi p ys=2*p+1:=if_neg (by rw[E2 hc,E2 hr];exact λq=>q.2 hlt);rw[hcv,show decide (ys[2*p+1].1<ys[2*p+1+1].1∨(ys[2*p+1].1=ys[2*p+1+1].1∧ys[2*p+1].2<ys[2*p+1+1].2))=true from decide_eq_true hlt];exact ak ⟨rfl,.mk _ rfl⟩
    ·have hcv:chi p ys=2*p+1+1:=if_pos ⟨hr,by rw[E2 hc,E2 hr];exact hlt⟩;rw[hcv,show decide (ys[2*p+1].1<ys[2*p+1+1].1∨(ys[2*p+1].1=ys[2*p+1+1].1∧ys[2*p+1].2<ys[2*p+1+1].2))=false from decide_eq_false hlt];exact ie (aa (ah s!"2" s!"2" trivial (av O rfl (cT O rfl (ak ⟨rfl,.mk _ rfl⟩)))))
   ·have hcv:chi p ys=2*p+1:=if_neg (λh=>hr h.1);rw[hcv];exact ifF (λq=>hr (hl.symm▸FO.mp (of_decide_eq_true q))) (ak ⟨rfl,.mk _ rfl⟩)
  ·intro _ _ zr1;refine b8 zr1 λz2=>?_;clear zr1;obtain ⟨v',rfl⟩:=z2;refine aa (ah s!"2" s!"2" trivial (aP (av O rfl (av O rfl (aY PS h.e (Ff _) (h.z hx (dE hc).1) (lU (dE hc).1) (eR (λ_ _ _=>rfl) (av O rfl (av O rfl (gK h.e (Ff _) (h.z hx h.p') (mlt h.p') ?_)))))))));refine aa (ah s!"2" s!"2" trivial (av O rfl (cT O rfl (aa (ah s!"2" s!"2" trivial (ar (ar (aq (av O rfl (oN (Je s!"d") (aq (c0 (cT O rfl ?_)))))))))))));exact ak (af (ys.length-chi p ys) (sA (dE hc).2 (dE hc).1) (hJ _ _ (.mk (_,chi p ys,g,_) (Q6 (h.step hc) (congrArg (·-chi p ys) FA.symm)))))
 ·have tt:suL xs.length 0 xs=(p,ys):=by rw[←h.t];simp only[suL,if_neg hc]
  have hs:(ys.set p xs[0]).length=ys.length:=FA;refine ifF (λq=>hc (hl.symm▸FO.mp (of_decide_eq_true q))) (ak (aa (ah s!"2" s!"2" trivial (av O rfl (eR (λ_ _ _=>rfl) (av O rfl (av O rfl (gK h.e (Ff _) (h.z hx h.p') (mlt h.p') ?_))))))));rw[FU,←JO];refine aa (aA hi s!"2" (bB O gd hv rfl trivial (av O rfl (av O rfl (av O rfl ?_)))));refine wcE (jO (l:=l) (xs:=ys.set p xs[0]) (pos:=p) G R (hs▸h.p') (hs▸h.l'▸aTT hx s!"d") (Sg.put_same ..)) ⟨trivial,ak ?_⟩;rw[cE,JX];have es:σ'.put l (.lst ((sd xs[0] p p (ys.set p xs[0])).map tp))=σ.put l (.lst ((su xs[0] xs).map tp)):=?_
  ·exact es▸hq _
  unfold su;rw[tt];funext b;show (if b=l then _ else σ' b)=if b=l then _ else σ b
  by_cases hb:b=l
  ·rw[if_pos hb,if_pos hb]
  ·rw[if_neg hb,if_neg hb];exact h.o b hb
end
theorem vf {C:Cx} (G:Gd C) (R:Rm (k+2) A) {xs:List P2} {σ:Sg} (hp:0<xs.length) (hx:xs.length<900) (e:σ l=EU (.lst (xs.map tp))):
 Ct C A (.ref 292) [.r l,.i 0] σ λm σ'=>m= .k .none∧σ'=σ.put l (.lst ((su xs[0] xs).map tp)):=by
 refine CtA.ct (aW G R (a:=292) (c:=291) (x:=top 11) (n:="_siftup") (q:="_siftup") (d:= .none) (pm:= .str "cpy313.heapq" 667) (an:=none) (t:=701)
  (ps:=(["heap","pos"]:List Str).zip [.r l,.i 0]) s!"k" s!"k" s!"k" s!"k" [("len",.builtin "len"),("_siftdown",.ref 285)] s!"k"
  (λv=>(aX rfl s!"k" s!"1" (bk λa=>bk λb=>cK s!"k")).a) (ρ:=mkL [("heap",EU (.r l)),("pos",EU (.i 0)),("endpos",none),("startpos",none),("newitem",none),("childpos",none),("rightpos",none)]) s!"k" λQf hQf X hC O R' hi hg _=>?_)
 subst hC;exact um X G O R' hi l xs σ hp hx e (hg▸s!"k") (hg▸s!"k") λ_=>hQf _ _ ⟨rfl,rfl⟩
noncomputable def du (ys:List P2) (x:P2):P2×List P2:=match ys with
 | []=>(x,[])
 |y::_=>(y,su x (ys.set 0 x))
theorem tU {C:Cx} (G:Gd C) (R:Rm (k+3) A) {x:P2} {σ:Sg} (hx:ys.length<900) (e:σ l=EU (.lst ((ys++[x]).map tp))):
 Ct C A (.ref 278) [.r l] σ λm σ'=>m=tp (du ys x).1∧σ'=σ.put l (.lst ((du ys x).2.map tp)):=by
 refine CtA.ct (aW G R (a:=278) (c:=277) (x:=top 9) (n:="heappop") (q:="heappop") (d:= .none) (pm:= .str "cpy313.heapq" 667) (an:=none) (t:=679)
  (ps:=(["heap"]:List Str).zip [.r l]) s!"k" s!"k" s!"k" s!"k" [("_siftup",.ref 292)] s!"k"
  (λv=>(aX rfl s!"k" s!"1" (bk λa=>cK s!"k")).a) (ρ:=mkL [("heap",EU (.r l)),("lastelt",none),("returnitem",none)]) s!"k" λQf hQf X hC O R' hi hg _=>?_)
 refine xe1 (G.says.fn (a:=292) (st:=top 11) (n:="_siftup") (q:="_siftup") (d:= .none) (pm:= .str "cpy313.heapq" 667) (an:=none) (cd:= .ref 291) s!"k") λv hv=>?_;subst hC;have gd:X.gs.lookup (EW "_siftup")=EU (.ref 292):=hg▸s!"k";have e1:σ l=EU (.lst (ys.map tp++[tp x])):=e.trans (congrArg (λz=>EU (MO.lst z)) Fe);have hm:(ys.map tp).length<900:=(EZ tp).symm▸hx;conv=>arg 2;whnf
 refine aa (aA hi s!"2" (aI ⟨trivial,aa (ah s!"2" s!"2" trivial (bp (T:="list") (id:="list.pop") trivial s!"2" s!"d" s!"2" Fw JJ Mi
  (av O rfl ⟨bK e1,xH e1 (by rw[sizeLine_eq];exact Es (m:=16777216) (c:=1) hm (.refl true)) (cT O rfl ?_)⟩)))⟩))
 have e2:(σ.put l (.lst (ys.map tp))) l=EU (.lst (ys.map tp)):=Sg.put_same ..;refine aa (bl (bY s!"2" (av O rfl (uw e2 (iTT hm s!"d") ?_))))
 cases ys with
 |nil=>exact ifF s!"d" (ak (aa (be (av O rfl (hQf _ _ ⟨rfl,rfl⟩)))))
 |cons y ys=>
  refine ifT rfl (aa (ah s!"2" s!"2" trivial (aP (av O rfl (aq (aY (co (λ_ _=>s!"r") (λ_ _=>s!"r")) e2 s!"d" s!"d" (m:=tp y) rfl (cT O rfl ?_)))))));refine aa (ah s!"2" s!"2" trivial (av O rfl (eR (λ_ _ _=>rfl) (av O rfl (aq (gK e2 s!"d" s!"d" (FO.mpr (K4 _)) ?_))))));refine aa (aA hi s!"2" (bB O gd hv rfl trivial (av O rfl (aq (wcE (vf (l:=l) (xs:=(y::ys).set 0 x) G R' (K4 _) (FA.symm▸hx) (Sg.put_same ..)) ?_)))));refine ⟨trivial,aa (be (av O rfl (hQf _ _ ⟨rfl,?_⟩)))⟩;show ((σ.put l _).put l _).put l _=_;rw[cE,cE];rfl
section
open Builtin.ObjectAttr
theorem Rm.under {n:Nat} {A:Gk} (R:Rm (n+1) A) (C:Addr) (rest:List Value) (kw:List (Str×Value)):Rm n (A.under (.builtin "type.__call__" ⟨.ref C::rest,kw⟩)):=by
 refine ⟨R.hh,?_,?_⟩
 ·have:=R.d;show A.depth+1+4*n+1<_;exact zQ this
 ·have:=R.u;show A.units+1+16*n+16<_;exact Bj this
theorem Rm.in1 {n:Nat} {A:Gk} (R:Rm (n+1) A):Rm n A.in1:=by
 refine ⟨R.hh,?_,?_⟩
 ·have:=R.d;show A.depth+4*n+1<_;exact BX this
 ·have:=R.u;show A.units+1+16*n+16<_;exact Bj this
theorem Rm.le {m:Nat} (R:Rm n A) (h:m≤n):Rm m A:=by
 refine ⟨R.hh,?_,?_⟩
 ·have:=R.d;exact E3 (FE (Fi (FI 4 h) _)) this
 ·have:=R.u;exact E3 (Hj (Fi (FI 16 h) _) 16) this
variable {X:Xc} {st:St} {Q:MV->St->Prop}
noncomputable def WKs (X:Xc):List JN->St->(List (Str×MV)->St->Prop)->Prop
 | [],st,Q=>Q [] st
 |⟨EU n,e,_⟩::ks,st,Q=>WE X e st λm st₁=>WKs X ks st₁ λr st₂=>Q ((n,m)::r) st₂
 |⟨none,_,_⟩::_,_,_=>False
noncomputable def kN:List JN->Prop
 | []=>True
 |⟨EU _,_,_⟩::ks=>kN ks
 |⟨none,_,_⟩::_=>False
theorem iW {pos:Pos} {env:Env}:∀{ks:List JN},kN ks->(HS pos (G5 ks env)).all (·.1.isSome)=true∧(HS pos (G5 ks env)).any (·.1.isNone)=false
 | [],_=>⟨rfl,rfl⟩
 |⟨EU n,e,p⟩::ks,h=>by
  refine xa1 (iW (pos:=pos) (env:=env) (ks:=ks) h) λa b=>?_;unfold HS at a b⊢;simp only[kE1,FV,List.all_cons,Mh,a,b,Option.isSome_some,Option.isNone_some,Bool.and_true,Kt,and_self]
theorem qF {pos:Pos} {φ:Sg} {Q:List (Str×MV)->St->Prop}:∀{ks:List JN} {st:St} {s:Shared},kN ks->WKs X ks st Q->IF X φ st s->
 E4 X.M X.A (evalAll ((HS pos (G5 ks X.env)).map (·.2))) (λvs s'=>∃r st',VRs s'.heap (r.map (·.2)) vs∧(HS pos (G5 ks X.env)).filterMap (·.1)=r.map (·.1)∧IF X φ st' s'∧Keep s.heap s'.heap∧Q r st') NoE s
 | [],st,s,_,h,I=>wpAny_evalAll_nil (hU ([]) st (.nil _) rfl I (.refl _) h)
 |⟨EU n,e,p⟩::ks,st,s,hn,h,I=>by
  refine wpAny_evalAll_cons (EX (ab (h φ s I) λv s₁ pp=>?_));obtain ⟨m,st₁,r₁,I₁,k₁,h₁⟩:=pp;refine EX (GH (E0 ?_));refine ab (qF (pos:=pos) (ks:=ks) hn h₁ I₁) λvs s₂ pp=>?_;refine fv pp λr st₂ r₂ e₂ I₂ k₂ q=>?_;refine (hU ((n,m)::r) st₂ (.cons (r₁.keep k₂) r₂) ?_ I₂ (k₁.trans k₂) q);unfold HS at e₂⊢;simp only[kE1,FV,List.filterMap_cons,e₂]
 |⟨none,_,_⟩::_,_,_,hn,_,_=>hn.elim
theorem oS {s:Shared} {kws:List JN} (hs:Starless es) (hn:kN kws) {R:Args->Shared->Prop} {Q:List MV->List (Str×MV)->St->Prop}
 (h:WEs X es st λms st₁=>WKs X kws st₁ λr st₂=>Q ms r st₂) (I:IF X φ st s)
 (hR:∀ms r st' s' vs ks,VRs s'.heap ms vs->VRs s'.heap (r.map (·.2)) ks->IF X φ st' s'->Keep s.heap s'.heap->Q ms r st'->R ⟨vs,(r.map (·.1)).zip ks⟩ s'):
 E4 X.M X.A (MP f true (ID pos (Hk es X.env)) (HS pos (G5 kws X.env))) R NoE s:=by
 refine xa1 (iW (pos:=pos) (env:=X.env) hn) λha _=>?_
 have core:E4 X.M X.A (Pa (ID pos (Hk es X.env))) (λvs s₁=>E4 X.M X.A (evalAll ((HS pos (G5 kws X.env)).map (·.2))) (λks s₂=>R ⟨vs,((HS pos (G5 kws X.env)).filterMap (·.1)).zip ks⟩ s₂) NoE s₁) NoE s:=by
  refine ab (cv hs h I) λvs s₁ pp=>?_;obtain ⟨ms,st₁,r₁,I₁,k₁,h₁⟩:=pp;refine ab (qF (pos:=pos) hn h₁ I₁) λks s₂ pp=>?_;refine fv pp λr st₂ r₂ e₂ I₂ k₂ q=>?_;clear pp;rw[e₂];exact hR ms r st₂ s₂ vs ks (r₁.keep k₂) r₂ I₂ (k₁.trans k₂) q
 cases es with
 |nil=>
  have core':E4 X.M X.A (evalAll ((HS pos (G5 kws X.env)).map (·.2))) (λks s₂=>R ⟨[],((HS pos (G5 kws X.env)).filterMap (·.1)).zip ks⟩ s₂) NoE s:=by
   refine ab (qF (pos:=pos) hn h I) λks s₂ pp=>?_;refine fv pp λr st₂ r₂ e₂ I₂ k₂ q=>?_;rw[e₂];exact hR [] r st₂ s₂ [] ks (.nil _) r₂ I₂ k₂ q
  exact evalArgs_kw_nil ha core'
 |cons e es=>
  have es_eq:=bf X.env hs;rw[es_eq] at core⊢;exact evalArgs_kw ha core
theorem mC {M:Model} {s:Shared} {Q:Value->Shared->Prop} {C:Addr} {oc:Value} {od:Option Addr} {cd:ClassData} {sl} {args:List (Bool×KW Value)} {keywords:List (Option Str×KW Value)}
 (ha:args.any (·.1)=false) (hk:keywords.any (·.1.isNone)=false)
 (h:E4 M A (MP (.ref C) true args keywords) (λx s₁=>(s₁.heap.get? C=EU ⟨oc,od,.cls cd,sl⟩∧Ft M s₁.heap (Hf (.ref C) "__call__") (EU (.builtin "type.__call__")))∧E4 M A (call (.ref C) x.pos x.kw) Q NoE s₁) NoE s):
 E4 M A (I0 pos (.ref C) [] args keywords) Q NoE s:=by
 unfold I0;refine EX (wpAny_holding (ab h λx s₁ pp=>?_));obtain ⟨⟨ho,hl⟩,hc⟩:=pp;refine EX (GH ?_);rw[ha,hk];refine EX (m:=Oo (.ref C)) ?_;unfold Oo;refine EX (GP ho ?_);refine EX (hl.here ?_);refine E0 ?_;refine EX (ab hc λr s₂ q=>?_);exact EX (wpAny_holding (wpAny_point (E0 q)))
noncomputable def eQ (K:Frag) (C:Addr):Bool:=(match K.lookup C with|some ⟨_,_,.cls _,_⟩=>true|_=>false)&&NA K (.ref C) "__call__" ==EU (EU (.builtin "type.__call__"))
theorem f8 (O:XOk X) (N:Kn X) {p:Pos} {kws:List JN} {C:Addr} (hf:X.gs.lookup x=EU (.ref C)) (hs:Starless es) (hn:kN kws) (hc:eQ (KD X.C.w.params N.dv) C=true)
 (h:WEs X es st λms st₁=>WKs X kws st₁ λr st₂=>WCk X (.ref C) ms r st₂ Q):WE X (.Call (.Name x p) es kws pos) st Q:=λφ s I=>by
 refine wpAny_Call_Name_kw ?_;refine ab (c8 O hf (Q:=λm st'=>m= .k (.ref C)∧st'=st) ⟨rfl,rfl⟩ φ s I) λv s₁ pp=>?_;obtain ⟨m,st₁,r,I₁,k,e1,e2⟩:=pp;clear I;subst e1 e2;cases (show v= .ref C from r);simp only[eQ,Fc,beq_iff_eq] at hc;refine xa1 hc λc1 c2=>?_;clear hc;split at c1
 ·rename_i oc od cd sl ho;refine mC (oc:=oc) (od:=od) (cd:=cd) (sl:=sl) (bL hs) (iW hn).2 (oS hs hn h I₁ λms r st' s' vs ks r1 r2 I' k' q=>⟨⟨(I'.kin N) _ _ ho,Qg (I'.kin N) c2⟩,?_⟩);exact ab (q φ s' vs ks I' r1 r2) λu s₃ z=>z.trans (k.trans k')
 ·cases c1
theorem kl {C:Cx} {dv:Addr->Value} (hK:(KD C.w.params dv).In C.h0) (R:Rm (k+1) A) {cls init:Addr} {σ:Sg} {Q:MV->Sg->Prop} (h153:cls≠153)
 (hm:makesIn (KD C.w.params dv) cls=true) (hi:Il (KD C.w.params dv) (.ref cls) "__init__" =EU (EU (.ref init))) (hf:MT (KD C.w.params dv) (.ref init)=EU (.type "function"))
 (h:∀A',Rm k A'->∀x dx,σ x=none->σ dx=none->x≠dx->CtA C A' (.ref init) (.r x::args) kw ((σ.put dx (.ns [])).put x (.ins cls dx)) λm σ'=>m= .k .none∧Q (.r x) σ'):CtA C A (.ref cls) args kw σ Q:=λφ s vs ks I d r r'=>by
 have KI:(KD C.w.params dv).In s.heap:=hK.keeps I.old;obtain ⟨hh,g,dd,t,os⟩:=s
 have fresh:∀b,hh.objs.size≤b->joi σ φ b=none:=λb hb=>by
  cases e:joi σ φ b with
  |none=>rfl
  |some m=>exact absurd (E1 (I.lt e) hb) (Fz _)
 have fr2:∀b,hh.objs.size≤b->σ b=none∧φ b=none:=λb hb=>by
  have z:(σ b).or (φ b)=none:=fresh b hb
  cases e:σ b with
  |none=>rw[e] at z;exact ⟨rfl,z⟩
  |some m=>rw[e] at z;cases z
 refine xa1 (fr2 hh.objs.size (Fd _)) λd1 d2=>?_;refine xa1 (fr2 (hh.objs.size+1) (HZ _)) λx1 x2=>?_;have xd:hh.objs.size+1≠hh.objs.size:=IO _;refine make_core (makes_of KI hm) (looks_findIn KI hi) (λself=>bind_fn KI self hf) (.inl rfl) ?_;have H:=h _ (R.under cls vs ((kw.map (·.1)).zip ks)) (hh.objs.size+1) hh.objs.size x1 d1 xd;have I1:Inv C (joi σ φ) ⟨(hh.push IG).push (Ki cls hh.objs.size),g,dd,t,os⟩:=(I.push IG).push _;have od:OR ((hh.push IG).push (Ki cls hh.objs.size)) hh.objs.size (.ns []):=(cz (#[]) 0 (Heap.get?_push_of_some _ (Heap.get?_push_size _ rfl)) rfl)
 have ox:OR ((hh.push IG).push (Ki cls hh.objs.size)) (hh.objs.size+1) (.ins cls hh.objs.size):=⟨by
  have:=Heap.get?_push_size (hh.push IG) (o:=Ki cls hh.objs.size) rfl;rwa [Heap.size_push] at this,h153⟩
 have I2:=(I1.own (a:=hh.objs.size) (m:= .ns []) I.sz od).own (a:=hh.objs.size+1) (m:= .ins cls hh.objs.size) (GO I.sz) ox
 have e:((joi σ φ).put hh.objs.size (.ns [])).put (hh.objs.size+1) (.ins cls hh.objs.size)=joi ((σ.put hh.objs.size (.ns [])).put (hh.objs.size+1) (.ins cls hh.objs.size)) φ:=by
  funext b;unfold joi Sg.put;by_cases h1:b=hh.objs.size+1
  ·simp[h1]
  ·by_cases h2:b=hh.objs.size
   ·clear h1;subst h2;simp
   ·simp[h1,h2]
 rw[e] at I2;have k0:Keep hh ((hh.push IG).push (Ki cls hh.objs.size)):=λb o e _=>Heap.get?_push_of_some _ (Heap.get?_push_of_some _ e)
 have D:Dis ((σ.put hh.objs.size (.ns [])).put (hh.objs.size+1) (.ins cls hh.objs.size)) φ:=λa m ha=>by
  unfold Sg.put at ha;by_cases h1:a=hh.objs.size+1
  ·rw[h1];exact x2
  ·rw[if_neg h1] at ha;by_cases h2:a=hh.objs.size
   ·rw[h2];exact d2
   ·rw[if_neg h2] at ha;exact d a m ha
 have Z:=H φ _ (.ref (hh.objs.size+1)::vs) ks I2 D (.cons (bN ..) (r.keep k0)) (r'.keep k0);refine codeAny_mono Z λres s' z=>?_;rcases res with e|(v|_|_|_)<;>first|exact z.elim|skip
 refine ia z λm σ' r0 I' d' k' z1 q=>?_;clear z;subst z1;exact ⟨r0,_,σ',bN ..,I',d',k0.trans k',q⟩
end
section
variable {X:Xc} {st:St} {φ:Sg} {Q:MV->St->Prop}
theorem q8 {t₁ t₂:G0} {pos} {Q:Fl->St->Prop} (hw:Hr [t₁,t₂] value X.env=pure none) (ht:Starless [t₁,t₂])
 (h:WE X value st λm st₁=>WA X t₁ m st₁ λst₂=>WA X t₂ m st₂ λst₃=>Q .next st₃):WS1 X (.Assign [t₁,t₂] value pos) st Q:=λφ s I=>by
 refine wpAny_Assign_two (ab (h φ s I) λv s₁ pp=>?_) (by rw[ca X.env ht];rfl) hw;obtain ⟨m,st₁,r,I₁,k,h₁⟩:=pp;refine ab (h₁ φ s₁ v I₁ r) λ_ s₂ pp=>?_;obtain ⟨st₂,I₂,k₂,h₂⟩:=pp;exact ab (h₂ φ s₂ v I₂ (r.keep k₂)) λ_ s₃ ⟨st₃,I₃,k₃,q⟩=>⟨.next,st₃,rfl,I₃,k.trans (k₂.trans k₃),q⟩
noncomputable def WNs (X:Xc):List Str->List MV->St->(St->Prop)->Prop
 | [],[],st,Q=>Q st
 |x::xs,m::ms,st,Q=>(∃u,lk st.ρ x=EU u)∧WNs X xs ms ⟨st.σ,stL st.ρ x m⟩ Q
 |_,_,_,_=>False
theorem vB (O:XOk X) {Q:St->Prop}:∀{xs:List Str} {ms:List MV} {st:St} {s:Shared} {vs:List Value},WNs X xs ms st Q->IF X φ st s->VRs s.heap ms vs->
 E4 X.M X.A (Q2 (xs.map λn=>bindName X.env n) vs) (λ_=>PostU X φ s Q) NoE s
 | [],[],st,s,vs,h,I,r=>by
  unfold VRs at r;subst r;exact O9 ⟨st,I,.refl _,h⟩
 |x::xs,m::ms,st,s,vs,h,I,r=>by
  unfold VRs at r;refine am r λy ys z1 z2=>?_;clear r;subst z1;obtain ⟨e2,e3⟩:=z2;refine xa1 h λz1 h=>?_;obtain ⟨u,hu⟩:=z1;refine OV (bindName_ (ab (gw (Q:=λst'=>st'=⟨st.σ,stL st.ρ x m⟩) O hu rfl I e2) λ_ s₁ pp=>?_));obtain ⟨st₁,I₁,k₁,h₁⟩:=pp;subst h₁;exact ab (vB O h I₁ (e3.keep k₁)) λ_ s₂ p=>p.trans k₁
 | [],_::_,_,_,_,h,_,_=>h.elim
 |_::_,[],_,_,_,h,_,_=>h.elim
theorem VRs.rev {h:Heap}:∀{ms:List MV} {xs:List Value},VRs h ms xs->VRs h ms.reverse xs.reverse
 | [],xs,r=>by unfold VRs at r;subst r;exact .nil _
 |m::ms,xs,r=>by
  unfold VRs at r;refine am r λy ys z1 z2=>?_;clear r;subst z1;obtain ⟨e2,e3⟩:=z2;rw[NP,NP];exact e3.rev.append (.cons e2 (.nil _))
theorem iA (O:XOk X) {elts k tpos value pos} {Q:Fl->St->Prop} (hs:Iq [.Tuple elts k tpos] value pos.line X.env=pure false) (hw:Hr [.Tuple elts k tpos] value X.env=pure (EU names))
 (h:WE X value st λm st₁=>∃ms,m= .t (.type "tuple") ms∧names.length=ms.length∧WNs X names.reverse ms.reverse st₁ λst₂=>Q .next st₂):WS1 X (.Assign [.Tuple elts k tpos] value pos) st Q:=λφ s I=>by
 refine Assign_Tuple_swapped (ab (h φ s I) λv s₁ pp=>?_) hs hw;obtain ⟨m,st₁,r,I₁,k,ms,e,hl,h₁⟩:=pp;subst e;refine bx r λa o items n z1 z2=>?_;clear r;subst z1;refine xa4 z2 λe2 e3 e4 e5 e6=>?_;clear z2;have len:=e6.length;rw[show names.length=items.size by rw[hl,←len];simp];refine unpackItems_tuple O.hh (ck o e2 e4 n e5) λh' he=>?_;have k':=mn he;exact ab (vB O h₁ (I₁.grow k' s₁.toks) (e6.rev.keep (aB k'))) λ_ s₂ ⟨st₂,I₂,k₂,q⟩=>⟨.next,st₂,rfl,I₂,k.trans ((aB k').trans k₂),q⟩
theorem fP (O:XOk X) {pos' op value pos} {a:MV} {Q:Fl->St->Prop} (hl:lk st.ρ x=EU (EU a))
 (h:WE X value st λb st₁=>W2 X (LK op) a b st₁ λm st₂=>∃u,lk st₂.ρ x=EU u∧Q .next ⟨st₂.σ,stL st₂.ρ x m⟩):WS1 X (.AugAssign (.Name x pos') op value pos) st Q:=λφ s I=>by
 refine wpAny_AugAssign_Name ?_;refine ad I.frame λmm hn hv=>?_;refine ad (hv x a hl) λy hy r=>?_;refine KG O.fn (I.loc x _ hl).1 hn hy ?_;refine ab (h φ s I) λv s₁ pp=>?_;obtain ⟨b,st₁,r₁,I₁,k₁,h₁⟩:=pp;refine ab (h₁ φ s₁ y v I₁ (r.keep k₁) r₁) λw s₂ pp=>?_;obtain ⟨m,st₂,r₂,I₂,k₂,u,hu,q⟩:=pp;exact ab (gw (Q:=λst'=>Q .next st') O hu q I₂ r₂) λ_ s₃ ⟨st₃,I₃,k₃,q₃⟩=>⟨.next,st₃,rfl,I₃,k₁.trans (k₂.trans k₃),q₃⟩
theorem Post.imp {φ:Sg} {s s':Shared} {Q Q':MV->St->Prop} (p:Post X φ s Q v s') (h:∀m st,Q m st->Q' m st):Post X φ s Q' v s':=by
 obtain ⟨m,st,r,I,k,q⟩:=p;exact ⟨m,st,r,I,k,h _ _ q⟩
inductive AugI (ns:List String) (k:Nat) (Q:Fl->St->Prop) (m:MV):St->Prop
 |mk {vs:List (Option MV)} {σ:Sg} (u:Option MV) (g:gI vs k=EU u) (q:Q .next ⟨σ,zL ns (sI vs k (EU m))⟩):AugI ns k Q m ⟨σ,zL ns vs⟩
theorem uT (O:XOk X) {ns:List String} {vs:List (Option MV)} {x:String} {σ:Sg} (hd:ns.Nodup) (hn:gI ns k=EU x) {pos' op value pos} {a:MV} {Q:Fl->St->Prop} (hv:gI vs k=EU (EU a))
 (h:WE X value ⟨σ,zL ns vs⟩ λb st₁=>W2 X (LK op) a b st₁ (AugI ns k Q)):WS1 X (.AugAssign (.Name (EW x) pos') op value pos) ⟨σ,zL ns vs⟩ Q:=
 fP O (lkI hd hn hv) λφ s I=>ab (h φ s I) λv s₁ p=>p.imp λb st₁ h φ s v w I r r'=>ab (h φ s v w I r r') λu s₂ p=>p.imp λm st₂ z=>by
  obtain ⟨u,g,q⟩:=z;exact (af u (lkI hd hn g) (stI hd hn▸q))
theorem xK {x y:Int} (h:Q (.i (x+y)) st):W2 X (LK .Add) (.i x) (.i y) st Q:=dJ λφ s t u I=>Qh (.mk (cH ..) (I.toks _) (.refl _) h)
theorem gE (hl:x.length+y.length≤sizeLine) (h:Q (.s (x++y)) st):W2 X (LK .Add) (.s x) (.s y) st Q:=jB λφ s t u I=>SB.iadd (λt' k=> .mk (ft ..) (I.toks _) (.refl _) h) hl
noncomputable def WP (X:Xc):Option G0->St->(Option Int->St->Prop)->Prop
 |none,st,Q=>Q none st
 |some e,st,Q=>WE X e st λm st₁=>∃n,m= .i n∧Q (EU n) st₁
theorem jw {p:Option G0} {Q:Option Int->St->Prop} {s:Shared} (h:WP X p st Q) (I:IF X φ st s):
 E4 X.M X.A (evalPart p X.env) (λv s'=>∃l st',v=NB l∧IF X φ st' s'∧Keep s.heap s'.heap∧Q (l.map (·.1)) st') NoE s:=by
 cases p with
 |none=>rw[Q7];exact E0 (fB none st rfl I (.refl _) h)
 |some e=>
  rw[evalPart_some];refine ab (h φ s I) λv s₁ pp=>?_;obtain ⟨m,st₁,r,I₁,k,n,e,q⟩:=pp;subst e;refine xe1 r λt z1=>?_;clear r;subst z1;exact (fB (EU (n,t)) st₁ rfl I₁ k q)
theorem jz (l:Option (Int×Nv)):IsPart (NB l) (l.map (·.1)):=by
 cases l with
 |none=>exact .none
 |some p=>exact .int ..
noncomputable def cut (x:Str) (l u:Option Int):Str:=Q8 x l u
theorem mH {t:Nv} {l u:Option (Int×Nv)} {Qx:Value->Shared->Prop} {s:Shared} (hl:x.length≤sizeLine) (h:∀t' k,Qx (.str (cut x (l.map (·.1)) (u.map (·.1))) t') {s with toks:=k}):(sliceMade x t l u none).post Qx s:=by
 unfold sliceMade cut Q8 at*;unfold slicePicked;dsimp only[Option.map_none,Option.getD_none] at*;split
 ·rename_i hc;have z:=h t s.toks;rw[if_pos hc] at z;exact z
 ·rename_i hc;have z:=h s.toks (s.toks+1);rw[if_neg hc] at z;refine ⟨?_,z⟩;have a:∀(l:List Nat),(l.filterMap (x.cps[·]?)).length≤l.length:=λl=>List.length_filterMap_le ..;have b:=sliceIndices_le (l.map (·.1)) (u.map (·.1)) x.length;have c:=a (QJ (l.map (·.1)) (u.map (·.1)) 1 x.length);show (List.filterMap _ _).length≤_;exact EY c (EY b hl)
noncomputable def eG (l:List MV) (lo hi:Option Int):List MV:=(l.drop (lo.elim 0 (MU l.length))).take (hi.elim l.length (MU l.length)-lo.elim 0 (MU l.length))
theorem VRs.drop {h:Heap}:∀{ms:List MV} {xs:List Value},VRs h ms xs->∀k,VRs h (ms.drop k) (xs.drop k)
 |_,_,r,0=>by simpa using r
 | [],xs,r,k+1=>by unfold VRs at r;subst r;exact .nil _
 |m::ms,xs,r,k+1=>by
  unfold VRs at r;refine am r λy ys z1 z2=>?_;clear r;subst z1;refine xa1 z2 λe2 e3=>?_;exact e3.drop k
theorem VRs.take {h:Heap}:∀{ms:List MV} {xs:List Value},VRs h ms xs->∀k,VRs h (ms.take k) (xs.take k)
 |_,_,r,0=>by simp;exact .nil _
 | [],xs,r,k+1=>by unfold VRs at r;subst r;exact .nil _
 |m::ms,xs,r,k+1=>by
  unfold VRs at r;refine am r λy ys z1 z2=>?_;clear r;subst z1;refine xa1 z2 λe2 e3=>?_;exact .cons e2 (e3.take k)
theorem lO {lower upper:Option G0} {p:Pos} (ht:∀o r,IM value o r=pure ())
 (h:WE X value st λa st₁=>∃l vs,a= .r l∧WP X lower st₁ λlo st₂=>WP X upper st₂ λhi st₃=>st₃.σ l=EU (.lst vs)∧vs.length≤sizeLine∧∀b,st₃.σ b=none->Q (.r b) ⟨st₃.σ.put b (.lst (eG vs lo hi)),st₃.ρ⟩):
 WE X (.Subscript value (.Slice lower upper none p) pos) st Q:=λφ s I=>by
 refine MW (ab (h φ s I) λv s₁ y1=>?_) ht;obtain ⟨a,st₁,r,I₁,k₁,l,vs,e0,h₁⟩:=y1;refine ab (jw h₁ I₁) λvl s₂ y2=>?_;obtain ⟨lo,st₂,e₂,I₂,k₂,h₂⟩:=y2;refine ab (jw h₂ I₂) λvu s₃ pp=>?_;refine ia pp λhi st₃ e₃ I₃ k₃ e hl q=>?_;clear pp;subst e0;cases (show v= .ref l from r);refine ad (I₃.own e) λitems pl rr=>?_;refine ⟨l,items,lo.map (·.1),hi.map (·.1),rfl,pl.isList,by rw[rr.size];exact hl,e₂▸jz lo,e₃▸jz hi,?_⟩;have I₄:=I₃.push {cls:= .type "slice",data:= .fields #[vl,vu,.none]}
 have nr:VRs (s₃.heap.push {cls:= .type "slice",data:= .fields #[vl,vu,.none]}) (eG vs (lo.map (·.1)) (hi.map (·.1))) (NC items (lo.map (·.1)) (hi.map (·.1)) none).toList:=by
  rw[Qi];have sz:=rr.size;rw[G6];unfold eG;rw[←sz];exact ((rr.keep (keep_push _ _)).drop _).take _
 obtain ⟨n,I₅⟩:=I₄.new (m:= .lst (eG vs (lo.map (·.1)) (hi.map (·.1)))) (o:={cls:= .type "list",data:= .seq (NC items (lo.map (·.1)) (hi.map (·.1)) none)}) ⟨_,⟨0,Heap.get?_push_size _ rfl⟩,nr.keep (keep_push _ _)⟩;rw[Heap.size_push] at n I₅;exact .mk (bN ..) I₅ (k₁.trans (k₂.trans (k₃.trans ((keep_push _ _).trans (keep_push _ _))))) (q _ n)
theorem o3 {h:Heap}:∀{xs:List Str} {vs:List Value},VRs h (xs.map .s) vs->StrsAre vs xs
 | [],vs,r=>by simp[VRs] at r;subst r;exact .nil
 |x::xs,vs,r=>by
  simp only[FV] at r;unfold VRs at r;refine am r λy ys z1 z2=>?_;clear r;subst z1;obtain ⟨⟨t,rfl⟩,r⟩:=z2;exact .cons x t (o3 r)
theorem CW {xs:List Str} (h:Q (.k (.bool (xs.any (·==x)))) st):W2 X (Fu .In) (.s x) (.t (.type "tuple") (xs.map .s)) st Q:=λφ s v w I y1 y2=>by
 obtain ⟨t,e1⟩:=y1;refine bx y2 λa o items n e2 z=>?_;refine xa4 z λe3 e4 e5 e6 r=>?_;clear y2 z;subst e1 e2;exact in_tuple_strs ⟨o,e3,e5,n,e6⟩ (o3 r) (.mk (ba ..) I (.refl _) h)
theorem uH (h:Q (.k (.bool (!Txt.contains y x))) st):W2 X (Fu .NotIn) (.s x) (.s y) st Q:=jB λφ s t u I=>SB.notContains (.mk (ba ..) I (.refl _) h)
theorem oI {QB:Bool->St->Prop} (hf:x.length<2^62) (h:QB (x.length !=0) st):WT X (.s x) st QB:=λφ s v I ⟨t,e⟩=>by
 subst e;refine PySem.P.truthy_str (by exact z7 hf) ⟨st,I.toks _,.refl _,?_⟩
 have:((x.length:Int) !=0)=(x.length !=0):=by
  rw[Ig];simp
 rw[this];exact h
theorem CE {x:Int} {QB:Bool->St->Prop} (h:QB (x !=0) st):WT X (.i x) st QB:=λφ s v I ⟨t,e⟩=>by
 subst e;exact PySem.P.truthy_int ⟨st,I,.refl _,h⟩
end
section
variable {n:Str} {l:Lo} {r:Option MV} {b:String} {o:G0}
noncomputable def cC (K:Frag) (C:Addr) (names:List Str):Bool:=dk K C&&names.all λn=>Il K (.ref C) n==EU none&&MA K C n==EU none
theorem fw {K:Frag} {C:Addr} (h:cC K C names=true):dk K C=true:=(Na.mp h).1
theorem g8 {K:Frag} {C:Addr} (h:cC K C names=true) (hn:names.contains n=true):Il K (.ref C) n=EU none∧MA K C n=EU none:=by
 have z:=Fm.mp (Na.mp h).2 n (by simpa using hn);simpa using z
noncomputable def fI (K:Frag) (C:Addr) (l:List (Str×Addr)):Bool:=l.all λp=>Il K (.ref C) p.1==EU (EU (.ref p.2))&&MT K (.ref p.2)==EU (.type "function")
theorem kY {K:Frag} {C:Addr} {l:List (Str×Addr)} (h:fI K C l=true) {f:Addr} (hn:l.contains (n,f)=true):Il K (.ref C) n=EU (EU (.ref f))∧MT K (.ref f)=EU (.type "function"):=by
 have z:=Fm.mp h (n,f) (by simpa using hn);simpa using z
noncomputable def Et:List Str:=["isjunk","a","b","autojunk","matching_blocks","opcodes","fullbcount","b2j","bjunk","bpopular"]
theorem zw (P:F0) (dv:Addr->Value):cC (KD P dv) 260 Et=true:=s!"k"
noncomputable def DQ:List (Str×Addr):=[("__init__",178),("set_seqs",185),("set_seq1",192),("set_seq2",199),("_SequenceMatcher__chain_b",206),("find_longest_match",214),("get_matching_blocks",221)]
theorem AW (P:F0) (dv:Addr->Value):fI (KD P dv) 260 DQ=true:=s!"k"
noncomputable def kC:List Str:=["instream","infile","posix","eof","commenters","wordchars","whitespace","whitespace_split","quotes","escape","escapedquotes","state","pushback","lineno","debug","token","filestack","source","_punctuation_chars","_pushback_chars"]
theorem eK (P:F0) (dv:Addr->Value):cC (KD P dv) 975 kC=true:=s!"k"
noncomputable def Dn:List (Str×Addr):=[("__init__",899),("get_token",936),("read_token",943)]
theorem wG (P:F0) (dv:Addr->Value):fI (KD P dv) 975 Dn=true:=s!"k"
noncomputable def Ds:List Str:=["_StringIO__newline","_StringIO__buf","_StringIO__pos"]
theorem BB (P:F0) (dv:Addr->Value):cC (KD P dv) 840 Ds=true:=s!"k"
noncomputable def Ao:List (Str×Addr):=[("__init__",610),("_StringIO__translated",617),("_StringIO__check",624),("_StringIO__line",638),("read",786),("readline",794)]
theorem AM (P:F0) (dv:Addr->Value):fI (KD P dv) 840 Ao=true:=s!"k"
theorem cF (h:lk l x=EU u):lk (stL l x m) x=EU (EU m):=by rw[gT,if_pos rfl,h];rfl
theorem bo {r:Option (Option MV)} (hn:y≠x) (h:lk l y=r):lk (stL l x m) y=r:=by rw[gT,if_neg hn];exact h
theorem yf {l:List (Str×MV)}:nk (aM l x m) x=EU m:=by rw[lV,if_pos rfl]
theorem yu {l:List (Str×MV)} (hn:y≠x) (h:nk l y=r):nk (aM l x m) y=r:=by rw[lV,if_neg hn];exact h
theorem yW {σ:Sg} {a b:Addr} {m:MO} {r:Option MO} (hn:b≠a) (h:σ b=r):(σ.put a m) b=r:=by rw[Sg.put_ne _ _ hn];exact h
theorem bT {a:String} (h:decide (a=b)=false):EW a≠EW b:=λe=>of_decide_eq_false h (df.mp e)
theorem Dr {a:String} {r:Option (Option MV)} (hn:decide (a=b)=false) (h:lk l (EW a)=r):lk (stL l (EW b) m) (EW a)=r:=bo (bT hn) h
theorem ES {l:List (Str×MV)} {a:String} (hn:decide (a=b)=false) (h:nk l (EW a)=r):nk (aM l (EW b) m) (EW a)=r:=yu (bT hn) h
theorem aj {σ:Sg} {a b:Addr} {m:MO} (h1:σ a=none) (h2:σ b=EU m):b≠a:=λe=>by subst e;rw[h1] at h2;cases h2
variable {X:Xc} {st:St} {Q:MV->St->Prop}
theorem ag {Q:List MV->St->Prop} (h:Q [] st):WEs X [] st Q:=h
theorem ac {Q:List MV->St->Prop} (h:WE X e st λm st₁=>WEs X es st₁ λms st₂=>Q (m::ms) st₂):WEs X (e::es) st Q:=h
theorem fH {Q:St->Prop} (h:Q st):WAs X [] [] st Q:=h
theorem bZ {t:G0} {ts:List G0} {Q:St->Prop} (h:WA X t m st λst'=>WAs X ts ms st' Q):WAs X (t::ts) (m::ms) st Q:=h
theorem gQ {Q:List (Str×MV)->St->Prop} (h:Q [] st):WKs X [] st Q:=h
theorem kG {p:Pos} {ks:List JN} {Q:List (Str×MV)->St->Prop} (h:WE X e st λm st₁=>WKs X ks st₁ λr st₂=>Q ((n,m)::r) st₂):WKs X (⟨EU n,e,p⟩::ks) st Q:=h
theorem ae {rest:List Stmt} {Q:Fl->St->Prop} (h:WS X rest st Q):fu X rest Q .next st:=h
theorem cV {rest:List Stmt} {Q:Fl->St->Prop} (h:Q (.ret m) st):fu X rest Q (.ret m) st:=h
theorem we {rest:List Stmt} {Q:Fl->St->Prop} (h:Q .brk st):fu X rest Q .brk st:=h
theorem ug {rest:List Stmt} {Q:Fl->St->Prop} (h:Q .cont st):fu X rest Q .cont st:=h
theorem fD {Q:Option Int->St->Prop} (h:Q none st):WP X none st Q:=h
theorem fG {Q:Option Int->St->Prop} (h:WE X e st λm st₁=>∃n,m= .i n∧Q (EU n) st₁):WP X (EU e) st Q:=h
noncomputable def AtR (X:Xc) (a:MV) (name:Str) (st:St) (Q:MV->St->Prop):Prop:=(∃y,a= .r y)∧W1 X (λv=>JQ v name true) a st Q
theorem bh {pos} (hb:F6 o name X.env (eval o X.env)=eval o X.env)
 (h:WE X o st λa st₁=>AtR X a name st₁ Q):WE X (.Attribute o name pos) st Q:=zd hb h
theorem zO (N:Kn X) {x C:Addr} {ns:List (Str×MV)}
 (e1:st.σ x=EU (.ins C dx)) (e2:st.σ dx=EU (.ns ns)) (e3:nk ns name=EU m) (hA:cC (KD X.C.w.params N.dv) C names=true) (hn:names.contains name=true) (hm:m.out) (hq:Q m st):AtR X (.r x) name st Q:=
 ⟨⟨_,rfl⟩,B5 N e1 e2 e3 hm (fw hA) (g8 hA hn).1 hq⟩
noncomputable def dL (X:Xc) (N:Kn X) (a:MV) (name:Str) (m:MV) (st:St) (QU:St->Prop):Prop:=∃x C dx ns,a= .r x∧st.σ x=EU (.ins C dx)∧st.σ dx=EU (.ns ns)∧dk (KD X.C.w.params N.dv) C=true∧
 MA (KD X.C.w.params N.dv) C name=EU none∧ns.length<900∧QU ⟨st.σ.put dx (.ns (aM ns name m)),st.ρ⟩
theorem kj (N:Kn X) {pos} (h:WE X o st λa st₁=>dL X N a name m st₁ QU):WA X (.Attribute o name pos) m st QU:=zg N h
theorem Bl {N:Kn X} {x C:Addr} {ns:List (Str×MV)}
 (e1:st.σ x=EU (.ins C dx)) (e2:st.σ dx=EU (.ns ns)) (hA:cC (KD X.C.w.params N.dv) C names=true) (hn:names.contains name=true) (hz:ns.length<900) (hq:QU ⟨st.σ.put dx (.ns (aM ns name m)),st.ρ⟩):
 dL X N (.r x) name m st QU:=(eU _ _ _ _ rfl e1 e2 (fw hA) ((g8 hA hn).2) ⟨hz,hq⟩)
noncomputable def lC (X:Xc) (N:Kn X) (a:MV) (name:Str) (st:St) (P:Addr->Addr->Addr->Prop):Prop:=∃x C dx,a= .r x∧st.σ x=EU (.ins C dx)∧dk (KD X.C.w.params N.dv) C=true∧MA (KD X.C.w.params N.dv) C name=EU none∧P x C dx
theorem iD (N:Kn X) {tpos:Pos} {op:Operator} {Q:Fl->St->Prop}
 (h:WE X o st λa st₁=>lC X N a name st₁ λx C dx=>AtR X (.r x) name st₁ λold st₂=>
  WE X value st₂ λb st₃=>W2 X (LK op) old b st₃ λm st₄=>dL X N (.r x) name m st₄ λst₅=>Q .next st₅):
 WS1 X (.AugAssign (.Attribute o name tpos) op value pos) st Q:=λφ s I=>by
 refine wpAny_AugAssign_AttributeAny (ab (h φ s I) λv s₁ hp=>?_);obtain ⟨a,st₁,r,I₁,k₁,z⟩:=hp;refine Cp z λx C dx e0 e1 e3 e4 h₁=>?_;clear z;obtain ⟨_,h₁⟩:=h₁;subst e0;cases (show v= .ref x from r);refine ab (h₁ φ s₁ (.ref x) I₁ (bN ..)) λov s₂ hp=>?_;obtain ⟨old,st₂,r₂,I₂,k₂,h₂⟩:=hp;refine ab (h₂ φ s₂ I₂) λv s₃ hp=>?_;obtain ⟨b,st₃,r₃,I₃,k₃,h₃⟩:=hp;refine ab (h₃ φ s₃ ov v I₃ (r₂.keep k₃) r₃) λw s₄ hp=>?_;obtain ⟨m,st₄,r₄,I₄,k₄,z⟩:=hp;refine Cg z λy C' dx' ns f0 f1 f2 f3 f4 f5 q=>?_;clear z;cases f0;exact ab (vL (QU:=λst'=>Q .next st') N f1 f2 f3 f4 f5 q I₄ r₄) λ_ s₅ ⟨st₅,I₅,k₅,q₅⟩=>⟨.next,st₅,rfl,I₅,k₁.trans (k₂.trans (k₃.trans (k₄.trans k₅))),q₅⟩
theorem BD {N:Kn X} {x C:Addr} {P:Addr->Addr->Addr->Prop} (e1:st.σ x=EU (.ins C dx)) (hA:cC (KD X.C.w.params N.dv) C names=true) (hn:names.contains name=true) (h:P x C dx):lC X N (.r x) name st P:=
 (lQ _ _ _ rfl e1 (fw hA) ((g8 hA hn).2) h)
theorem y8 {N:Kn X} {x C:Addr} {ns:List (Str×MV)} {l:List (Str×Addr)} (f:Addr) (e1:st.σ x=EU (.ins C dx)) (e2:st.σ dx=EU (.ns ns)) (e3:nk ns name=none) (hA:cC (KD X.C.w.params N.dv) C names=true) (hM:fI (KD X.C.w.params N.dv) C l=true)
 (hn:l.contains (name,f)=true) (hf:∃ob fd,X.C.h0.get? f=EU ob∧ob.data= .func fd)
 (h:WEs X es st λms st₂=>WC X (.ref f) (.r x::ms) st₂ Q):kL X N (.r x) name es st Q:=by
 refine am hf λob fd h1 h2=>?_;exact ⟨_,_,_,_,_,_,_,e1,e2,e3,fw hA,(kY hM hn).1,(kY hM hn).2,h1,h2,h⟩
end
section
noncomputable def HI:MV->Value->Prop
 | .r a,v=>v= .ref a
 | .i n,v=>∃t,v= .int n t
 | .k u,v=>v=u
 | .s x,v=>∃t,v= .str x t
 |_,_=>False
noncomputable def MV.hi:MV->Prop
 | .r _=>True
 | .i _=>True
 | .k _=>True
 | .s _=>True
 |_=>False
theorem HI.vr (x:HI m v):VR h m v:=by
 cases m<;>first|exact x|exact x.elim
theorem VR.hi (x:VR h m v) (y:m.hi):HI m v:=by
 cases m<;>first|exact x|exact y.elim
section
variable {w:FH} {K:Type} [DecidableEq K]
noncomputable def HIs:List (K×MV)->List (K×Value)->Prop
 | [],l=>l=[]
 |(k,m)::r,l=>∃v l',l=(k,v)::l'∧HI m v∧HIs r l'
noncomputable def bw (l:List (K×MV)) (k:K):Option MV:=(l.find? λp=>p.1=k).map (·.2)
noncomputable def cJ (l:List (K×MV)) (k:K) (m:MV):List (K×MV):=if l.any (λp=>p.1=k) then l.map (λp=>if p.1=k then (p.1,m) else p) else l++[(k,m)]
theorem HIs.at {k : K} : ∀ {l : List (K × MV)} {r : List (K × Value)}, HIs l r -> match bw l k with
    | some m => ∃ v, MB r k = EU v ∧ HI m v
    | none => MB r k = none
  | [], r, h => by cases (show r = [] from h); rfl
  | (k', m) :: l, r, h => by
    refine am h λv r' z1 z2 => ?_; clear h; subst z1; refine xa1 z2 λh1 h2 => ?_
    have ih := HIs.at (k := k) h2
    unfold bw MB at *
    by_cases e : k' = k
    · simp [e]; exact h1
    · simpa [e] using ih
theorem HIs.any {p:K->Bool}:∀{l:List (K×MV)} {r:List (K×Value)},HIs l r->r.any (λx=>p x.1)=l.any (λx=>p x.1)
 | [],r,h=>by cases (show r=[] from h);rfl
 |(k',m)::l,r,h=>by
  refine am h λv r' z1 z2=>?_;clear h;subst z1;refine xa1 z2 λh1 h2=>?_;simp only[Mh,HIs.any h2]
theorem HIs.len:∀{l:List (K×MV)} {r:List (K×Value)},HIs l r->r.length=l.length
 | [],r,h=>by cases (show r=[] from h);rfl
 |(k',m)::l,r,h=>by
  refine am h λv r' z1 z2=>?_;clear h;subst z1;refine xa1 z2 λh1 h2=>?_;simp[HIs.len h2]
theorem HIs.upd {k:K} {m:MV} {v:Value} (e:HI m v):∀{l:List (K×MV)} {r:List (K×Value)},HIs l r->HIs (l.map λp=>if p.1=k then (p.1,m) else p) (r.map λp=>if p.1=k then (p.1,v) else p)
 | [],r,h=>by cases (show r=[] from h);rfl
 |(k',m')::l,r,h=>by
  refine am h λv' r' z1 z2=>?_;clear h;subst z1;refine xa1 z2 λh1 h2=>?_;clear z2;simp only[FV];by_cases q:k'=k
  ·rw[if_pos q,if_pos q];exact (cZ v _ rfl e (HIs.upd e h2))
  ·rw[if_neg q,if_neg q];exact (cZ v' _ rfl h1 (HIs.upd e h2))
theorem HIs.snoc {k:K} {m:MV} {v:Value} (e:HI m v):∀{l:List (K×MV)} {r:List (K×Value)},HIs l r->HIs (l++[(k,m)]) (r++[(k,v)])
 | [],r,h=>by cases (show r=[] from h);exact (cZ v ([]) rfl e rfl)
 |(k',m')::l,r,h=>by
  refine am h λv' r' z1 z2=>?_;clear h;subst z1;refine xa1 z2 λh1 h2=>?_;clear z2;exact (cZ v' _ rfl h1 (HIs.snoc e h2))
theorem HIs.put {k:K} (e:HI m v) {l:List (K×MV)} {r:List (K×Value)} (h:HIs l r):HIs (cJ l k m) (LM r k v):=by
 unfold cJ LM;rw[h.any (p:=λx=>decide (x=k))];split
 ·exact h.upd e
 ·exact h.snoc e
noncomputable def dO (knd:KeyKind pgm w K) (l:List (K×MV)):MO:= .any λo=>∃kvs,o.IsDictOf knd kvs∧HIs l kvs
variable {knd:KeyKind pgm w K}
theorem lR {d:Addr} {l:List (K×MV)} (x:OR h d (dO knd l)):∃kvs,h.DictOf knd d kvs∧HIs l kvs:=by
 refine gf x λo ho _ kvs a b=>?_;exact (af kvs (Heap.dictOf_iff.mpr ⟨o,ho,a⟩) b)
theorem tm {d:Addr} {l:List (K×MV)} {kvs:List (K×Value)} (x:h.DictOf knd d kvs) (y:HIs l kvs):OR h d (dO knd l):=by
 refine ad (Heap.dictOf_iff.mp x) λo ho a=>?_;have a':=a;refine bM a' λes ep _ hd _=>?_;exact (iK o ho (kq hd) kvs a y)
end
section
variable {X:Xc} {K:Type} [DecidableEq K] {knd:KeyKind pgm X.C.w K} {st:St} {φ:Sg} {Q:MV->St->Prop}
theorem Says.sysNe {w:FH} (S:Says w h) {d:Addr} (hd:h.objs.size≤d):(d==Kj)=false:=by
 have z:(K w.params).lookup 1010≠none:=by
  show _≠_;have:((K w.params).lookup 1010).isSome=true:=s!"k"
  intro e;rw[e] at this;cases this
 obtain ⟨o,ho⟩:=Option.ne_none_iff_exists'.mp z;obtain ⟨v,hv⟩:=S.k (1010,o) (dH ho);have:=Heap.lt_size hv;simp only[beq_eq_false_iff_ne];intro e;have e2:Kj=1:=rfl;rw[e2] at e;have h1:d<1010:=by rw[e];decide
 exact absurd (E1 (E3 hd h1) (Fs this)) (Fz _)
theorem IF.ge {s:Shared} (I:IF X φ st s) {a:Addr} {m:MO} (e:st.σ a=EU m):X.C.h0.objs.size≤a:=(I.inv.rep a m (I.tot e)).1
theorem Cf (G:Gd X.C) {d:Addr} {l:List (K×MV)} {k:K} {mk:MV} (hk:∀h v,VR h mk v->knd.is k v=true) (e:st.σ d=EU (dO knd l)) (hq:Q ((bw l k).getD m) st):
 WC X (.builtin "dict.get") [.r d,mk,m] st Q:=λφ s us I r=>by
 refine u7 r λz u e2 e3=>?_;refine ad (lR (I.own e)) λkvs hd hi=>?_;have ns:=G.says.sysNe (I.ge e);refine Jj JK hd.typeIs LN (PySem.F.args_dict_get_3 _ _ _) (NQ knd d (hk _ _ e2) ns u) (af _ hd.mapOf ?_);have a:=hi.at (k:=k)
 cases hm:bw l k with
 |none=>
  rw[hm] at a hq;dsimp only at a;rw[a];exact Post.mk e3 (I.toks _) (.refl _) hq
 |some m'=>
  rw[hm] at a hq;refine ad a λv h1 h2=>?_;rw[h1];exact Post.mk h2.vr (I.toks _) (.refl _) hq
theorem jd (G:Gd X.C) {d:Addr} {l:List (K×MV)} {k:K} {mk:MV} (hk:∀h v,VR h mk v->knd.is k v=true) (e:st.σ d=EU (dO knd l)) (hm:m.hi) (hz:l.length≤sizeLine)
 (hq:match bw l k with
  |some m'=>Q m' st
  |none=>Q m ⟨st.σ.put d (dO knd (cJ l k m)),st.ρ⟩):WC X (.builtin "dict.setdefault") [.r d,mk,m] st Q:=λφ s us I r=>by
 refine u7 r λz u e2 e3=>?_;refine ad (lR (I.own e)) λkvs hd hi=>?_;have ns:=G.says.sysNe (I.ge e);refine Jj KS hd.typeIs PySem.F.entry_dict_setdefault (PySem.F.args_dict_setdefault_3 _ _ _) (kt_meets_setdefault knd d (hk _ _ e2) ns u) (cI kvs hd (by rw[hi.len];exact hz) (λv hv=>?_) (λhv h' hd' sb=>?_))
 ·have a:=hi.at (k:=k)
  cases hm:bw l k with
  |none=>
   rw[hm] at a;dsimp only at a;rw[a] at hv;cases hv
  |some m'=>
   rw[hm] at a hq;refine ad a λv' h1 h2=>?_;clear a;rw[h1] at hv;clear h1;cases hv;exact Post.mk h2.vr (I.toks _) (.refl _) hq
 ·have a:=hi.at (k:=k)
  cases hm':bw l k with
  |none=>
   rw[hm'] at hq;have kk:=cp I e sb;exact Post.mk (e3.keep kk) (I.upd (m':=dO knd (cJ l k m)) (t:=s.toks+1) e sb (tm hd' (hi.put (e3.hi hm)))) kk hq
  |some m'=>
   rw[hm'] at a;refine ad a λv' h1 h2=>?_;clear a;rw[h1] at hv;cases hv
theorem Al {d:Addr} {l:List (K×MV)} {k:K} {mk:MV} (hk:∀h v,VR h mk v->knd.is k v=true) (e:st.σ d=EU (dO knd l)) (hm:m.hi) (hz:l.length≤sizeLine) (hq:QU ⟨st.σ.put d (dO knd (cJ l k m)),st.ρ⟩):
 ∀φ s v w u,IF X φ st s->VR s.heap (.r d) v->VR s.heap mk w->VR s.heap m u->E4 X.M X.A (NL v w u) (λ_=>PostU X φ s QU) NoE s:=λφ s v w u I r1 r2 r3=>by
 cases (show v= .ref d from r1);refine ad (lR (I.own e)) λkvs hd hi=>?_;refine wpAny_setItem_pairs (hk _ _ r2) hd (λh' hd' sb=>?_) (by rw[hi.len];exact hz);have kk:=cp I e sb;exact ⟨_,I.upd (m':=dO knd (cJ l k m)) (t:=s.toks+1) e sb (tm hd' (hi.put (r3.hi hm))),kk,hq⟩
theorem qi {w:FH}:∀h v,VR h (.s x) v->(strKind pgm w).is x v=true:=λh v ⟨t,e⟩=>by subst e;exact MX ..
theorem vx {w:FH} {x:Int}:∀h v,VR h (.i x) v->(intKind pgm w).is x v=true:=λh v ⟨t,e⟩=>by subst e;exact JA ..
theorem ke {pos} (knd:KeyKind pgm X.C.w K) (hq:∀d,st.σ d=none->Q (.r d) ⟨st.σ.put d (dO knd []),st.ρ⟩):WE X (.Dict [] [] pos) st Q:=λφ s I=>by
 rw[eval_Dict_empty];refine EX (GH ?_);unfold newDict;refine EX (wpAny_alloc (E0 ?_));refine xa1 (I.new (m:=dO knd []) (o:={cls:= .type "dict",data:= .dict #[]}) (tm (Heap.DictOf.new _) rfl)) λn I₂=>?_;exact .mk (bN ..) I₂ (keep_push _ _) (hq _ n)
end
end
section
variable {Q:Value->Shared->Prop} {x:Value}
open Builtin.ObjectAttr
set_option maxHeartbeats 1000000
theorem gY:Ni "method_descriptor" "__get__" "method_descriptor.__get__" :=
 .of (owner:="method_descriptor") (n:="__get__") (by rw[FC,Fg];kernel_rfl) s!"1" s!"1" s!"1"
  (by first|exact .inl s!"1"|exact .inr s!"1") (by rw[FM];kernel_rfl)
theorem rB:Hb Jf "method_descriptor.__get__" =EU Builtin.«method_descriptor.__get__»:=F3 s!"k"
theorem sQ (a b c:Value):HN "method_descriptor.__get__" ⟨[a,b,c],[]⟩:=by unfold HN;kernel_rfl
theorem wx:Gp (.type "method_descriptor") "__set__" =pure none:=by rw[FC,Fg];kernel_rfl
theorem v9:Gp (.type "method_descriptor") "__delete__" =pure none:=by rw[FC,Fg];kernel_rfl
noncomputable abbrev xY (id:String) (v:Value):Obj:={cls:= .type "builtin_function_or_method",data:= .fields #[.builtin id,v]}
theorem zt {M:Model} {a:Addr} (ho:h.get? a=EU o) (hc:o.cls= .type T) (hd:o.dict=none) (hn:LQ o=true) (fin:Gp (.type T) name=pure (EU (.builtin id)))
 (fty:GX (.builtin id)=pure (.type "method_descriptor")) (hname:(["__module__","__name__","__qualname__","__doc__","__annotations__"]:List Str).contains name=false):
 Ft M h (find (.ref a) (.type T) name) (.bind (.builtin "method_descriptor.__get__") (.builtin id)):=by
 have L1:Ft M h (Gp (.type T) name) (EU (.builtin id)):= .of_pure fin
 have L2:Ft M h (getOf (EU (.builtin id))) (EU (.builtin "method_descriptor.__get__")):=by
  show Ft M h (Hf _ _) _;unfold Hf;exact (Ft.of_pure fty).andThen (.of_pure gY.lookup)
 have sp1:Ft M h (Hf (.builtin id) "__set__") none:=(Ft.of_pure fty).andThen (f:=λt=>Gp t "__set__") (.of_pure wx);have sp2:Ft M h (Hf (.builtin id) "__delete__") none:=(Ft.of_pure fty).andThen (f:=λt=>Gp t "__delete__") (.of_pure v9)
 have tk:Ft M h (takesStores (.builtin id)) false:=by
  intro A Q E s k q;exact EX (sp1 A _ E s k (EX (sp2 A _ E s k (E0 q))))
 have L3:Ft M h (dataDescriptor? (EU (.builtin id)) (EU (.builtin "method_descriptor.__get__"))) none:=by
  intro A Q E s k q;exact EX (tk A _ E s k (E0 q))
 have L4:Ft M h (inOwnDict name (.ref a)) none:=by
  obtain ⟨oc,odi,oda,osl⟩:=o;dsimp only at hd hc;subst hd hc;intro A Q E s k q
  have body:E4 M A (instanceDict a false) (λx s'=>E4 M A (inDict name x) Q E s') E s:=by
   unfold instanceDict;refine EX (IN (k _ _ ho) ?_);exact E0 (E0 q)
  refine EX (EX (IN (k _ _ ho) ?_));clear ho;cases oda<;>first|exact body|cases hn
 have L5:Ft M h (copiedAttributeGuard name (.ref a)) ():=by
  intro A Q E s k q;unfold copiedAttributeGuard;show E4 M A (if (["__module__","__name__","__qualname__","__doc__","__annotations__"]:List Str).contains name=true then _ else _) Q E s;rw[hname,if_neg s!"d"];exact E0 q
 intro A Q E s k q;refine EX (L1 A _ E s k (EX (L2 A _ E s k (EX (L3 A _ E s k (EX (L4 A _ E s k (EX (L5 A _ E s k ?_)))))))));exact EX (HL (E0 q))
structure BmOk (T ga id:String) (name:Str):Prop where
 slot:Ni T "__getattribute__" ga
 entry:Hb Jf ga=EU Builtin.«object.__getattribute__»
 args:∀a b,HN ga ⟨[a,b],[]⟩
 fin:Gp (.type T) name=pure (EU (.builtin id))
 fty:GX (.builtin id)=pure (.type "method_descriptor")
 hname:(["__module__","__name__","__qualname__","__doc__","__annotations__"]:List Str).contains name=false
 told:Manifest.toldItsClass.contains id=false
 sub:GG (.type T) (.type T)=pure true
 own:∀(M:Model) (A:Gk) (E:Value->Shared->Prop) (s:Shared) (a:Addr) (Q:Fin->Shared->Prop),s.TypeIs (.ref a) T->Q (.done (.ret (.ref s.heap.objs.size))) {s with heap:=s.heap.push (xY id (.ref a))}->
  E4 M A (Builtin.«method_descriptor.__get__» ⟨[.builtin id,.ref a,.type T],[]⟩) Q E s
theorem kW {w:FH} {s:Shared} {a:Addr} {ga:String} (B:BmOk T ga id name)
 (ho:s.heap.get? a=EU o) (hc:o.cls= .type T) (hd:o.dict=none) (hn:LQ o=true)
 (h:Q (.ref s.heap.objs.size) {s with heap:=s.heap.push (xY id (.ref a)),toks:=s.toks+1}):
 E4 (Fa prog w) A (JQ (.ref a) name true) Q NoE s:=by
 have hT:∀t,({s with toks:=t}:Shared).TypeIs (.ref a) T:=λ_=>(af o ho hc)
 have ty:Ft (Fa prog w) s.heap (GX (.ref a)) (.type T):=by rw[←hc];exact (Ft.ld ho).andThen .now
 have F:=zt (M:=Fa prog w) (T:=T) ho hc hd hn B.fin B.fty B.hname;refine EX (NN (wpAny_holding (EX (ty _ _ _ _ (λ_ _ e=>e) (EX (FN B.slot.lookup ?_))))));dsimp only;rw[show ND (GL T)=false from rfl,OE,if_neg s!"d"];refine EX (E0 (EX (HW (wpAny_holding ?_))));unfold Pv;rw[show (true&&ND (LR ga))=false from rfl,if_neg s!"d"];unfold QK;rw[B.slot.bind];refine EX (E0 ?_);show E4 _ _ (call (.builtin ga) [.ref a,.str name s.toks]) _ _ _;refine wpAny_call (F1 B.slot.plain B.entry (B.slot.check _ _ _ _ _ _ _ _ (hT _) (B.args _ _) ?_));unfold Builtin.«object.__getattribute__»;refine EX (E0 (EX (E0 (EX (ty _ _ _ _ (λ_ _ e=>e) (EX (F _ _ _ _ (λ_ _ e=>e) ?_)))))));show E4 _ _ (IY _ (call (.builtin "method_descriptor.__get__") [.builtin id,.ref a,.type T])>>=_) _ _ _;refine EX (wpAny_holding (wpAny_call (F1 gY.plain rB (gY.check _ _ _ _ _ _ _ _ B.fty (sQ _ _ _) ?_))));refine B.own _ _ _ _ _ _ (hT _) ?_;exact E0 (E0 h)
theorem gx:Hb Jf "set.__getattribute__" =EU Builtin.«object.__getattribute__»:=
 QL (id':="object.__getattribute__") s!"k" s!"1" s!"1" s!"k"
theorem pA:GG (.type "dict") (.type "dict")=pure true:=by rw[FM];kernel_rfl
theorem rY:GG (.type "set") (.type "set")=pure true:=by rw[FM];kernel_rfl
theorem rc:BmOk "dict" "dict.__getattribute__" "dict.get" "get" :=by
 refine ⟨F.slot_dict_getattribute,am_entry_dict_getattribute,F.args_dict_getattribute_2,F.slot_dict_get.lookup,F.type_dict_get,s!"1",s!"1",pA,λM A E s a Q hT h=>?_⟩;obtain ⟨hp,g,d,tk,os⟩:=s;refine ad hT λo ho hc=>?_
 have ty:Ft M hp (IU (.ref a) (.type "dict")) true:=by
  refine Ft.andThen (a:= .type "dict") ?_ (.of_pure pA);rw[←hc];exact (Ft.ld ho).andThen .now
 have ty':Ft M hp (IU (.ref a) (.type (".".intercalate ("dict.get".cutAt '.').dropLast))) true:=by
  rw[show ".".intercalate ("dict.get".cutAt '.').dropLast="dict" by decide+kernel];exact ty
 unfold Builtin.«method_descriptor.__get__»;repeat lk
 exact h
theorem lp:BmOk "set" "set.__getattribute__" "set.__contains__" "__contains__" :=by
 refine ⟨F.slot_set_getattribute,gx,F.args_set_getattribute_2,F.slot_set_contains.lookup,F.type_set_contains,s!"1",s!"1",rY,λM A E s a Q hT h=>?_⟩;obtain ⟨hp,g,d,tk,os⟩:=s;refine ad hT λo ho hc=>?_
 have ty:Ft M hp (IU (.ref a) (.type "set")) true:=by
  refine Ft.andThen (a:= .type "set") ?_ (.of_pure rY);rw[←hc];exact (Ft.ld ho).andThen .now
 have ty':Ft M hp (IU (.ref a) (.type (".".intercalate ("set.__contains__".cutAt '.').dropLast))) true:=by
  rw[show ".".intercalate ("set.__contains__".cutAt '.').dropLast="set" by decide+kernel];exact ty
 unfold Builtin.«method_descriptor.__get__»;repeat lk
 exact h
theorem rW {w:FH} {A:Gk} {s:Shared} {a:Addr} {id:String} {B:Builtin} {rest:List Value} {S:PySem.Spec} (ho:s.heap.get? b=EU o) (ocl:o.cls= .type "builtin_function_or_method") (oda:o.data= .fields #[.builtin id,.ref a])
 (hc:∀(M:Model) (A:Gk) (P:Unit->Shared->Prop) (E:Value->Shared->Prop),P () s->E4 M A (Ia id ⟨.ref a::rest,[]⟩) P E s) (slot:Ni T name id) (entry:Hb Jf id=EU B)
 (g:Pl prog w (B ⟨.ref a::rest,[]⟩) S) (h:S A (wants Q NoE) s):E4 (Fa prog w) A (call (.ref b) rest) Q NoE s:=by
 obtain ⟨oc,od,odt,osl⟩:=o;dsimp only at ocl oda;subst ocl oda;refine wpAny_call (Mt ?_);show E4 _ _ (MC (.ref b) ⟨rest,[]⟩) _ _ s;refine nd_load ho ?_;show E4 _ _ (Ia id ⟨.ref a::rest,[]⟩>>=_) _ _ s;refine EX (hc _ _ _ _ ?_);refine EX (E0 (a:=Q9 (.builtin id ⟨.ref a::rest,[]⟩)) ?_);refine E0 ⟨Gq slot.plain _,?_⟩;refine Gb entry ?_;rw[FK slot.plain];exact g A (wants Q NoE) s h
theorem qN {s:Shared} {a:Addr} {sig:Manifest.Signature} {rest:List Value} (ho:s.heap.get? a=EU o) (hc:o.cls= .type T) (hn:LQ o=true) (hs:JY id=EU sig)
 (hk:builtinKind id=EU .method∨builtinKind id=EU .slot) (hv:Manifest.varargsMethods.contains id=false) (hm:GG (.type T) (.type "module")=pure false)
 (h1:Lr id sig ⟨.ref a::rest,[]⟩=pure ()) (h2:Lr id {sig with full:=s!"{Bind.lastOf T}.{Bind.lastOf id}"} ⟨.ref a::rest,[]⟩=pure ())
 (M:Model) (A:Gk) (P:Unit->Shared->Prop) (E:Value->Shared->Prop) (h:P () s):
 E4 M A (Ia id ⟨.ref a::rest,[]⟩) P E s:=by
 have ty:Ft M s.heap (GX (.ref a)) (.type T):=by rw[←hc];exact (Ft.ld ho).andThen .now
 have md:Ft M s.heap (IU (.ref a) (.type "module")) false:=ty.andThen (.of_pure hm)
 have nt:Ft M s.heap (isType (.ref a)) false:=by
  intro A Q E s k q;refine EX (IN (k _ _ ho) ?_);obtain ⟨oc,odi,oda,osl⟩:=o;clear ho hc;cases oda<;>first|exact E0 q|cases hn
 unfold Ia;rw[hs];rcases hk with hk|hk
 ·rw[hk];refine EX (md.here ?_);rw[hv];refine EX (nt.here ?_);refine EX (ty.here ?_);dsimp only;rw[h2];exact E0 h
 ·rw[hk];show E4 M A (Lr id sig ⟨.ref a::rest,[]⟩) P E s;rw[h1];exact E0 h
theorem tQ:GG (.type "dict") (.type "module")=pure false:=by rw[FM];kernel_rfl
theorem uf:GG (.type "set") (.type "module")=pure false:=by rw[FM];kernel_rfl
theorem yy:JY "dict.get" =EU ⟨.positional,"dict.get","get",.self,[⟨"key",.posOnly,true⟩,⟨"default",.posOnly,false⟩]⟩:=by
 rw[HX (id:="dict.get") (n:=['t','e','g']) (o:=['t','c','i','d']) s!"k" PySem.F.owner_dict];kernel_rfl
theorem wb:JY "set.__contains__" =EU ⟨.oneArg,"set.__contains__","__contains__",.self,[⟨"object",.posOnly,true⟩]⟩:=by
 rw[HX (id:="set.__contains__") (n:=['_','_','s','n','i','a','t','n','o','c','_','_']) (o:=['t','e','s']) s!"k" PySem.F.owner_set];kernel_rfl
theorem vg {s:Shared} {a:Addr} {y:Value} (ho:s.heap.get? a=EU o) (hc:o.cls= .type "dict") (hn:LQ o=true) (M:Model) (A:Gk) (P:Unit->Shared->Prop) (E:Value->Shared->Prop) (h:P () s):
 E4 M A (Ia "dict.get" ⟨[.ref a,x,y],[]⟩) P E s:=
 qN ho hc hn yy (.inl s!"1") s!"1" tQ s!"k" s!"k" M A P E h
theorem tF {s:Shared} {a:Addr} (ho:s.heap.get? a=EU o) (hc:o.cls= .type "set") (hn:LQ o=true) (M:Model) (A:Gk) (P:Unit->Shared->Prop) (E:Value->Shared->Prop) (h:P () s):
 E4 M A (Ia "set.__contains__" ⟨[.ref a,x],[]⟩) P E s:=
 qN ho hc hn wb (.inl s!"1") s!"1" uf s!"k" s!"k" M A P E h
end
section
noncomputable def fp:MO:= .any λo=>∃led:Bool,o={cls:= .type "set",dict:=none,data:= .set #[] 0 (.fresh 0 0 led)}
theorem pR {w:FH} {a:Addr} (x:OR h a fp):h.SetOf (strKind pgm w) a (λ_=>false) 0∧∃o,h.get? a=EU o∧o.cls= .type "set" ∧o.dict=none∧LQ o=true:=by
 refine aV x λo ho _ z1=>?_;clear x;refine xe1 z1 λled z2=>?_;clear z1;subst z2;exact (gH ⟨_, #[],0,_,ho,⟨rfl,rfl,rfl⟩,rfl,λe he=>by simp at he,λk=>s!"4",s!"d",s!"2",rfl⟩ _ ho ⟨rfl,rfl,rfl⟩)
theorem qy {w:FH} {K:Type} [DecidableEq K] {knd:KeyKind pgm w K} {l:List (K×MV)} {a:Addr} (x:OR h a (dO knd l)):∃o,h.get? a=EU o∧o.cls= .type "dict" ∧o.dict=none∧LQ o=true:=by
 refine gf x λo ho _ kvs z1 _=>?_;refine bM z1 λes ep z2 hd _=>?_;obtain ⟨c1,c2,c3⟩:=z2;exact (cI o ho c1 c2 (by unfold LQ;rw[hd]))
section
variable {prog:Program} {w:FH}
theorem je (a:Addr) (x:Str) (t:Nv):Pl prog w (Builtin.«frozenset.__contains__» ⟨[.ref a,.str x t],[]⟩)
 (λ_ R s=>s.heap.SetOf (strKind prog w) a (λ_=>false) 0∧R (.ok (.ret (.bool false))) {s with toks:=s.toks+1}):=
 .of_wp λA R s ⟨hS,h⟩=>by
  unfold Builtin.«frozenset.__contains__» Op;simp only[List.isEmpty_nil,bind_assoc];unfold Oq Os setContains;refine EX (E0 ?_)
  try dsimp only
  refine EX (E0 ?_)
  try dsimp only
  refine EX (Ie ?_);refine wpAny_holding ?_;refine EX ((strKind prog w).pyHash (k:=x) (MX ..) ?_);refine EX (wpAny_setFind_of (s:={s with toks:=s.toks+1}) (knd:=strKind prog w) (k:=x) (MX ..) rfl hS λr hr=>?_);refine E0 ?_;show E4 _ _ (ret (Pw r.isSome)) _ _ _;rw[hr];exact E0 (af _ rfl h)
end
variable {X:Xc} {st:St} {φ:Sg} {Q:MV->St->Prop}
theorem Ac {K:Type} [DecidableEq K] {knd:KeyKind pgm X.C.w K} {d:Addr} {l:List (K×MV)} (e:st.σ d=EU (dO knd l)) (hq:Q (.bm "dict.get" (.r d)) st):AtR X (.r d) "get" st Q:=
 ⟨⟨_,rfl⟩,λφ s v I r=>by
  cases (show v= .ref d from r);refine gh (qy (I.own e)) λo ho h1 h2 h3=>?_;refine kW rc ho h1 h2 h3 ?_;exact Post.mk (m:= .bm "dict.get" (.r d)) (lQ _ _ _ rfl (Heap.get?_push_size _ rfl) rfl rfl ⟨rfl,bN ..⟩) ((I.push _).toks _) (keep_push _ _) hq⟩
theorem rC {d:Addr} (e:st.σ d=EU fp) (hq:Q (.bm "set.__contains__" (.r d)) st):AtR X (.r d) "__contains__" st Q:=
 ⟨⟨_,rfl⟩,λφ s v I r=>by
  cases (show v= .ref d from r);refine g4 (pR (w:=X.C.w) (I.own e)) λ_ o z1=>?_;refine xa3 z1 λho h1 h2 h3=>?_;clear z1;refine kW lp ho h1 h2 h3 ?_;exact Post.mk (m:= .bm "set.__contains__" (.r d)) (lQ _ _ _ rfl (Heap.get?_push_size _ rfl) rfl rfl ⟨rfl,bN ..⟩) ((I.push _).toks _) (keep_push _ _) hq⟩
noncomputable def WBm (X:Xc) (id:String) (a:Addr) (args:List MV) (st:St) (Q:MV->St->Prop):Prop:=
 ∀φ s vs b o,IF X φ st s->VRs s.heap args vs->s.heap.get? b=EU o->o.cls= .type "builtin_function_or_method" ->o.data= .fields #[.builtin id,.ref a]->E4 X.M X.A (call (.ref b) vs) (Post X φ s Q) NoE s
theorem jV {M:Model} {s:Shared} {Q:Value->Shared->Prop} {args:List (Bool×KW Value)} (ha:args.any (·.1)=false) (ocl:o.cls= .type "builtin_function_or_method") (oda:o.data= .fields #[.builtin id,v])
 (h:E4 M A (MP (.ref b) true args []) (λx s₁=>s₁.heap.get? b=EU o∧E4 M A (call (.ref b) x.pos x.kw) Q NoE s₁) NoE s):
 E4 M A (I0 pos (.ref b) [] args []) Q NoE s:=by
 obtain ⟨oc,od,odt,osl⟩:=o;dsimp only at ocl oda;subst ocl oda;unfold I0;refine EX (wpAny_holding (ab h λx s₁ ⟨ho,hc⟩=>EX (GH ?_)));rw[ha];refine EX (m:=Oo (.ref b)) ?_;unfold Oo;refine EX (GP ho ?_);refine E0 ?_;refine EX (ab hc λr s₂ q=>?_);exact EX (wpAny_holding (wpAny_point (E0 q)))
theorem fj (O:XOk X) {p:Pos} {a:Addr} (hl:lk st.ρ x=EU (EU (.bm id (.r a)))) (hs:Starless es) (h:WEs X es st λms st₁=>WBm X id a ms st₁ Q):
 WE X (.Call (.Name x p) es [] pos) st Q:=λφ s I=>by
 refine LB rfl ?_;refine ab (gM O hl (Q:=λm st'=>m= .bm id (.r a)∧st'=st) ⟨rfl,rfl⟩ φ s I) λv s₁ pp=>?_;obtain ⟨m,st₁,r,I₁,k,e1,e2⟩:=pp;clear hl I;subst e1 e2;refine gu r λb o y z1 z2=>?_;clear r;subst z1;refine xa4 z2 λho hi hc hd ry=>?_;clear z2;cases ((show y= .ref a from ry));refine jV (o:=o) (bL hs) hc hd (bt hs (ab (cv hs h I₁) λvs s₂ ⟨ms,st₂,r₂,I₂,k₂,q⟩=>⟨k₂ b o ho hi,?_⟩));exact ab (q φ s₂ vs b o I₂ r₂ (k₂ b o ho hi) hc hd) λu s₃ z=>z.trans (k.trans k₂)
theorem zz (G:Gd X.C) {K:Type} [DecidableEq K] {knd:KeyKind pgm X.C.w K} {d:Addr} {l:List (K×MV)} {k:K} {mk:MV} (hk:∀h v,VR h mk v->knd.is k v=true) (e:st.σ d=EU (dO knd l)) (hq:Q ((bw l k).getD m) st):
 WBm X "dict.get" d [mk,m] st Q:=λφ s us b o I r ho oc od=>by
 refine BY r λz u e2 e3=>?_;refine ad (lR (I.own e)) λkvs hd hi=>?_;refine gh (qy (I.own e)) λo' ho' h1 h2 h3=>?_;have ns:=G.says.sysNe (I.ge e);refine rW ho oc od (λM A P E h=>vg ho' h1 h3 M A P E h) JK LN (NQ knd d (hk _ _ e2) ns u) (af _ hd.mapOf ?_);have a:=hi.at (k:=k)
 cases hm:bw l k with
 |none=>
  rw[hm] at a hq;dsimp only at a;rw[a];exact Post.mk e3 (I.toks _) (.refl _) hq
 |some m'=>
  rw[hm] at a hq;refine ad a λv h1 h2=>?_;rw[h1];exact Post.mk h2.vr (I.toks _) (.refl _) hq
theorem fb {d:Addr} (e:st.σ d=EU fp) (hq:Q (.k (.bool false)) st):WBm X "set.__contains__" d [.s x] st Q:=λφ s us b o I r ho oc od=>by
 refine wQ r λt=>?_;refine g4 (pR (w:=X.C.w) (I.own e)) λhS o' z1=>?_;refine xa3 z1 λho' h1 h2 h3=>?_;exact rW ho oc od (λM A P E h=>tF ho' h1 h3 M A P E h) PySem.F.slot_set_contains entry_set_contains (je d x t) ⟨hS,Post.mk (ba ..) (I.toks _) (.refl _) hq⟩
theorem bP (O:XOk X) {p:Pos} (hf:X.gs.lookup x=EU (.type T)) (hs:Starless es) (h:WEs X es st λms st₁=>WC X (.type T) ms st₁ Q):
 WE X (.Call (.Name x p) es [] pos) st Q:=λφ s I=>by
 refine LB rfl ?_;refine ab (c8 O hf (Q:=λm st'=>m= .k (.type T)∧st'=st) ⟨rfl,rfl⟩ φ s I) λv s₁ pp=>?_;obtain ⟨m,st₁,r,I₁,k,e1,e2⟩:=pp;clear I;subst e1 e2;cases (show v= .type T from r);refine M9 (bL hs) (bt hs (ab (cv hs h I₁) λvs s₂ pp=>?_));obtain ⟨ms,st₂,r₂,I₂,k₂,q⟩:=pp;exact ab (q φ s₂ vs I₂ r₂) λu s₃ z=>z.trans (k.trans k₂)
theorem vA (hq:∀a,st.σ a=none->Q (.r a) ⟨st.σ.put a fp,st.ρ⟩):WC X (.type "set") [] st Q:=λφ s us I r=>by
 unfold VRs at r;subst r;refine call_set_0 λled=>?_;obtain ⟨n,I₂⟩:=I.new (m:=fp) (o:={cls:= .type "set",dict:=none,data:= .set #[] 0 (.fresh 0 0 led)}) (ck _ (Heap.get?_push_size _ rfl) rfl led rfl);exact .mk (bN ..) I₂ (keep_push _ _) (hq _ n)
end
section
variable {X:Xc} {st:St} {φ:Sg}
theorem IF.upd2 {s:Shared} (I:IF X φ st s) {a:Addr} {m n n':MO} (ea:st.σ a=EU m) (eb:st.σ b=EU n) (ne:a≠b) (k:∀c o,c≠a->c≠b->s.heap.get? c=EU o->h'.get? c=EU o)
 (xa:OR h' a m') (xb:OR h' b n'):IF X φ ⟨(st.σ.put a m').put b n',st.ρ⟩ {s with heap:=h',toks:=t}∧Keep s.heap h':=by
 have na:a≠X.env.locals:=λh=>by rw[h,I.no] at ea;cases ea
 have nb:b≠X.env.locals:=λh=>by rw[h,I.no] at eb;cases eb
 have kk:Keep s.heap h':=λc o e im=>by
  refine k c o (λhc=>?_) (λhc=>?_) e
  ·clear ne k xa na;subst hc;refine ad ((I.own ea).notImm) λo' ho' hi'=>?_;rw[e] at ho';cases ho';rw[im] at hi';cases hi'
  ·clear ne k xb nb;subst hc;refine ad ((I.own eb).notImm) λo' ho' hi'=>?_;rw[e] at ho';cases ho';rw[im] at hi';cases hi'
 refine ⟨⟨⟨λc o hc=>k c o (lK I.inv (I.tot ea) hc) (lK I.inv (I.tot eb) hc) (I.inv.old c o hc),λc x hc=>?_,I.inv.gens,I.inv.os⟩,?_,λc x hc=>?_,I.loc⟩,kk⟩
 ·by_cases h1:c=a
  ·clear k;subst h1
   have e:Internal.tot ((st.σ.put c m').put b n') φ X.env.locals st.ρ c=EU m':=by
    unfold Internal.tot;rw[if_neg na];unfold Sg.put;simp[ne]
   rw[show Internal.tot ({σ:=(st.σ.put c m').put b n',ρ:=st.ρ}:St).σ φ X.env.locals _ c=EU m' from e] at hc;cases hc;exact ⟨(I.inv.rep c m (I.tot ea)).1,xa⟩
  ·by_cases h2:c=b
   ·clear ne k;subst h2
    have e:Internal.tot ((st.σ.put a m').put c n') φ X.env.locals st.ρ c=EU n':=by
     unfold Internal.tot;rw[if_neg nb];unfold Sg.put;simp
    rw[show Internal.tot ({σ:=(st.σ.put a m').put c n',ρ:=st.ρ}:St).σ φ X.env.locals _ c=EU n' from e] at hc;cases hc;exact ⟨(I.inv.rep c n (I.tot eb)).1,xb⟩
   ·have e:Internal.tot ((st.σ.put a m').put b n') φ X.env.locals st.ρ c=Internal.tot st.σ φ X.env.locals st.ρ c:=by
     unfold Internal.tot Sg.put;simp[h1,h2]
    rw[show Internal.tot ({σ:=(st.σ.put a m').put b n',ρ:=st.ρ}:St).σ φ X.env.locals _ c=_ from e] at hc;refine xa1 (I.inv.rep c x hc) λz1 z2=>?_;refine ad z2.notImm λo ho _=>?_;exact ⟨z1,z2.keep ((k c o h1 h2 ho).trans ho.symm) kk⟩
 ·show ((st.σ.put a m').put b n') X.env.locals=none;unfold Sg.put;rw[if_neg (E8 nb),if_neg (E8 na)];exact I.no
 ·have hc:((st.σ.put a m').put b n') c=EU x:=hc;unfold Sg.put at hc;by_cases h2:c=b
  ·rw[h2];exact I.dis b n eb
  ·rw[if_neg h2] at hc;by_cases h1:c=a
   ·rw[h1];exact I.dis a m ea
   ·rw[if_neg h1] at hc;exact I.dis c x hc
noncomputable def enO (it:Addr) (i:Nat):MO:= .any λo=>∃old,o={cls:= .type "enumerate",dict:=none,data:= .fields #[.none,.bool false,.ref it,Kh (i:Int),.none,old],slots:= #[]}
theorem vD {e:Addr} {i:Nat} {old:Value} (x:IsEnum h e it (i:Int) old):OR h e (enO it i):=(ck _ x rfl old rfl)
theorem qW {Q:MV->St->Prop} (el:st.σ l=EU (.lst vs)) (hq:∀it e,st.σ it=none->st.σ e=none->it≠e->Q (.r e) ⟨(st.σ.put it (.itl l 0)).put e (enO it 0),st.ρ⟩):WC X (.type "enumerate") [.r l] st Q:=λφ s us I r=>by
 refine fN r ?_;refine ad (I.own el) λitems z1 rr=>?_;refine xe1 z1 λn pl=>?_;clear z1;refine call_enumerate_1 pl λh' he hit hz hk=>?_;have I₁:IF X φ st {s with heap:=h',toks:=s.toks}:=I.grow hk s.toks
 have fr:∀b,s.heap.objs.size≤b->Internal.tot st.σ φ X.env.locals st.ρ b=none:=λb hb=>by
  cases e:Internal.tot st.σ φ X.env.locals st.ρ b with
  |none=>rfl
  |some m=>exact absurd (E1 (I.inv.lt e) hb) (Fz _)
 refine xa2 (bA (fr s.heap.objs.size (Fd _))) λa1 a2 a3=>?_;refine xa2 (bA (fr (s.heap.objs.size+1) (HZ _))) λb1 b2 b3=>?_;have ne:s.heap.objs.size≠s.heap.objs.size+1:=Fh (G9 _);have I₂:=I₁.hide a2 a1 I.inv.sz (m:= .itl l 0) hit;have I₃:=I₂.hide b2 b1 (GO I.inv.sz) (m:=enO s.heap.objs.size 0) (vD he);rw[d8 _ _ _ ne] at I₃;have I₄:=I₃.show_ a2 a1 (by unfold Sg.put;rw[if_neg ne];exact a3);have I₅:=I₄.show_ (by show (st.σ.put _ _) _=none;unfold Sg.put;rw[if_neg (E8 ne)];exact b2) b1 b3;exact .mk (bN ..) I₅ (aB hk) (hq _ _ a2 b2 ne)
inductive EnumP (X:Xc) (target:G0) (body:List Stmt) (Q:Fl->St->Prop):MV->St->Prop
 |mk {st₁:St} (e it l:Addr) (vs:List MV) (J:Nat->St->Prop) (ne:e≠it) (j:J 0 st₁) (cond:∀i st,J i st->st.σ e=EU (enO it i)∧st.σ it=EU (.itl l i)∧st.σ l=EU (.lst vs))
  (turn:∀J':Nat->St->Prop,(∀i st,J i st->J' i st)->∀i (hi:i<vs.length) st,J i st->WA X target (.t (.type "tuple") [.i (i:Int),vs[i]]) ⟨(st.σ.put e (enO it (i+1))).put it (.itl l (i+1)),st.ρ⟩ λst₂=>WS X body st₂ (FoP J' i Q))
  (fin:∀st,J vs.length st->∀st',(∀a,a≠it->st'.σ a=st.σ a)->st'.ρ=st.ρ->st'.σ it=none->Q .next st'):EnumP X target body Q (.r e) st₁
theorem qC {elts:List G0} {x1:Nat} {tp:Pos} {pos} (O:XOk X) (htg:target= .Tuple elts x1 tp) (hs:∀x,F5 iter X.env x=pure x)
 (h:WE X iter st (EnumP X target body Q)):WS1 X (.For target iter body [] pos) st Q:=λφ s I=>by
 subst htg;refine wpAny_For (ab (h φ s I) λx s₁ p=>?_) hs;obtain ⟨_,st₁,r,I₁,k₁,e,it,l,vs,J,ne,j₁,cond,turn,fin⟩:=p;cases (show x= .ref e from r);refine aV (I₁.own (cond 0 st₁ j₁).1) λoe hoe _ z1=>?_;refine xe1 z1 λold z2=>?_;clear z1;subst z2;refine wpAny_pyIter_enum hoe ?_;refine OD (λn s'=>∃i st',IF X φ st' s'∧Keep s.heap s'.heap∧J i st'∧i≤vs.length∧n=vs.length-i) ?_ vs.length (hU 0 st₁ I₁ k₁ j₁ (FY _) rfl);intro n s₂ zr1;refine fv zr1 λi st₂ I₂ k₂ j₂ hi hn=>?_;clear zr1;have NE:∀{α:Type} {t:KW α} {P:α->Shared->Prop} {E:Value->Shared->Prop} {s:Shared},E4 (Fa pgm X.C.w) X.A t P NoE s->E4 (Fa pgm X.C.w) X.A t P E s:=λh=>FB h (λ_ _ x=>x) λ_ _ x=>x.elim;refine xa2 (cond i st₂ j₂) λc1 c2 c3=>?_;refine aV (I₂.own c1) λoe hoe _ z1=>?_;refine xe1 z1 λold z2=>?_;clear z1;subst z2;refine ad (I₂.own c3) λitems pl rr=>?_;have hit:=I₂.own c2;by_cases hlt:i<vs.length
 ·obtain ⟨x,hx,rx⟩:=rr.arr (E2 hlt);refine wpAny_pyNext_enum_item hoe hit pl.isList hx ne λh₁ heo hit₁ ht₁ hz₁ hk₁=>?_;refine wpAny_letOwnedTupleGo_enum heo λh₂ he₂ hs₂=>?_;replace hs₂:Heap.SameBut e h₁ h₂:=hs₂
  have he₂':IsEnum h₂ e it ((i+1:Nat):Int) x:=by
   have:((i+1:Nat):Int)=(i:Int)+1:=by push_cast;rfl
   rw[this];exact he₂
  have itne:it≠e:=E8 ne;have hit₂:h₂.IsListIter it l (i+1):=hit₁.extBut hs₂.extBut itne;refine xa1 (I₂.upd2 (h':=h₂) (t:=s₂.toks+1) (m':=enO it (i+1)) (n':= .itl l (i+1)) c1 c2 ne (λc o n1 n2 ho=>hs₂.extBut c o n1 (hk₁ c o n1 n2 ho)) (vD he₂') hit₂) λI₃ k₃=>?_;have szne:s₂.heap.objs.size≠e:=Iy (Heap.lt_size hoe);have tup:h₂.get? s₂.heap.objs.size=EU {cls:= .type "tuple",data:= .seq #[.int (i:Int) s₂.toks,x]}:=(hs₂.2 _ szne).trans ht₁
  have tv:VR h₂ (.t (.type "tuple") [.i (i:Int),vs[i]]) (.ref s₂.heap.objs.size):=
   (eU _ _ (#[.int (i:Int) s₂.toks,x]) 0 rfl tup rfl rfl rfl (.cons (cH ..) (.cons (rx.keep k₃) (.nil _))))
  refine NE (ab (turn J (λ_ _ h=>h) i hlt st₂ j₂ φ _ _ I₃ tv) λ_ s₄ pp=>?_);obtain ⟨st₄,I₄,k₄,q₄⟩:=pp;refine NE (ab (q₄ φ s₄ I₄) λf s₅ pp=>?_);obtain ⟨fl,st₅,rf,I₅,k₅,q₅⟩:=pp;have kt:=k₂.trans (k₃.trans (k₄.trans k₅))
  cases fl with
  |next=>cases (show f= .next from rf);exact (c7 (vs.length-(i+1)) (by exact lZ hn hlt) (i+1) ⟨st₅,I₅,kt,q₅,by exact o80 hlt,rfl⟩)
  |cont=>cases (show f= .cont from rf);exact (c7 (vs.length-(i+1)) (by exact lZ hn hlt) (i+1) ⟨st₅,I₅,kt,q₅,by exact o80 hlt,rfl⟩)
  |brk=>cases (show f= .brk from rf);exact ⟨.next,st₅,rfl,I₅,kt,q₅⟩
  |ret m=>refine ad rf λv z1 rv=>?_;clear rf;subst z1;exact ⟨.ret m,st₅,(af v rfl rv),I₅,kt,q₅⟩
 ·have hin:i=vs.length:=by exact wj hi hlt
  clear hi hn hlt;subst hin;refine wpAny_pyNext_enum_end O.hh hoe hit pl.isList (by rw[←rr.size];simp) λh₁ ex=>PP ?_;have itF:it≠X.env.locals:=λh=>by rw[h,I₂.no] at c2;cases c2
  have hI:IF X (φ.put it (.itl l vs.length)) ⟨st₂.σ.del it,st₂.ρ⟩ s₂:=by
   have q:Internal.tot (st₂.σ.del it) (φ.put it (.itl l vs.length)) X.env.locals st₂.ρ=Internal.tot st₂.σ φ X.env.locals st₂.ρ:=by
    funext b;unfold Sg.put Sg.del Internal.tot;by_cases h1:b=it
    ·clear ne cond turn fin hoe c1 hit ex;subst h1;simp[itF,c2]
    ·simp[h1]
   refine ⟨by show Inv X.C (Internal.tot (st₂.σ.del it) _ _ _) s₂;rw[q];exact I₂.inv,?_,λb n hb=>?_,I₂.loc⟩
   ·show (if X.env.locals=it then none else st₂.σ X.env.locals)=none;rw[if_neg (E8 itF)];exact I₂.no
   ·have hb:(if b=it then none else st₂.σ b)=EU n:=hb;show (if b=it then EU _ else φ b)=none;by_cases h1:b=it
    ·rw[if_pos h1] at hb;cases hb
    ·rw[if_neg h1] at hb⊢;exact I₂.dis b n hb
  refine xa1 (hI.forget (t:=s₂.toks) itF (by show (st₂.σ.del it) it=none;exact if_pos rfl) (I₂.dis it _ c2) ex) λI₃ kk=>?_;exact ⟨.next,_,rfl,I₃,k₂.trans kk,fin st₂ j₂ _ (λa ha=>if_neg ha) rfl (if_pos rfl)⟩
end
section
theorem ift {b:Bool} {A B:Prop} (hb:b=true) (h:A):if b=true then A else B:=by rw[if_pos hb];exact h
theorem aD {b:Bool} {A B:Prop} (hb:b=false) (h:B):if b=true then A else B:=by rw[if_neg (by rw[hb];decide)];exact h
theorem CK {l:List MV} (h:l.length≤1000):l.length≤sizeLine:=by rw[sizeLine_eq];exact o51 h
theorem xT {l:List MV} {B:Prop} (h:IQ l.length 1000=true) (hb:B):l.length≤sizeLine∧B:=⟨CK (Fo h),hb⟩
theorem rX:(MV.k .none).isNone=true:=rfl
theorem A8 {a:Addr}:(MV.r a).isNone=false:=rfl
theorem Av {a:Int}:(MV.i a).isNone=false:=rfl
theorem BK {a:Str}:(MV.s a).isNone=false:=rfl
theorem Ap {c:Value} {a:List MV}:(MV.t c a).isNone=false:=rfl
theorem Bz {f:String} {a:MV}:(MV.bm f a).isNone=false:=rfl
theorem zu {b:Bool}:(MV.k (.bool b)).isNone=false:=rfl
theorem tY {b:Bool} (h:b=false):(!b)=true:=by rw[h];rfl
theorem vk {b:Bool} (h:b=true):(!b)=false:=by rw[h];rfl
theorem sbf {a b:String} (h:decide (a=b)=false):(EW a==EW b)=false:=beq_eq_false_iff_ne.mpr (bT h)
theorem sbt {a:Str}:(a==a)=true:=beq_self_eq_true a
theorem sbnf {a:Str}:(a !=a)=false:=s!"4"
theorem DZ {a b:String} (h:decide (a=b)=false):(EW a !=EW b)=true:=by simp only[bne,sbf h,Ka]
theorem Di (a:List MV):(!List.isEmpty ([]:List MV))=false:=rfl
theorem exI {a:Int} {Q:Int->Prop} (h:Q a):∃n,MV.i a= .i n∧Q n:=(af a rfl h)
theorem str_length_append (x y:Str):(x++y).length=x.length+y.length:=by
 show (x.cps++y.cps).size=_;rw[Array.size_append];rfl
theorem BV:nk [] x=none:=rfl
theorem mZ {l:List (Str×MV)} (h:l.length+0<n):l.length<n:=h
theorem w6 {l:List (Str×MV)} (h:l.length+(k+1)<n):(aM l x m).length+k<n:=by have:=kf l x m;exact E3 (Hj this _) (by rw[HG,G7 1];exact h)
theorem aK {σ:Sg} {a c d:Addr} {l:List (Str×MV)} (h1:σ a=EU (.ins c d)) (h2:σ b=EU (.ns l)):a≠b:=λe=>by subst e;rw[h1] at h2;cases h2
section
variable {x:Addr}
variable {X:Xc} {σ:Sg} {ρ:Lo} {Q:MV->St->Prop}
theorem ai (O:XOk X) {x:Str} {pos m} (h:lk ρ x=EU (EU m)) (hq:Q m ⟨σ,ρ⟩):WE X (.Name x pos) ⟨σ,ρ⟩ Q:=gM O h hq
theorem aL (O:XOk X) {x:Str} {pos m u} {Q:St->Prop} (hl:lk ρ x=EU u) (hq:Q ⟨σ,stL ρ x m⟩):WA X (.Name x pos) m ⟨σ,ρ⟩ Q:=mj O hl hq
theorem pV (N:Kn X) {C:Addr} {ns:List (Str×MV)}
 (e1:σ x=EU (.ins C dx)) (e2:σ dx=EU (.ns ns)) (e3:nk ns name=EU m) (hA:cC (KD X.C.w.params N.dv) C names=true) (hn:names.contains name=true) (hm:m.out) (hq:Q m ⟨σ,ρ⟩):AtR X (.r x) name ⟨σ,ρ⟩ Q:=zO N e1 e2 e3 hA hn hm hq
theorem pT {N:Kn X} {C:Addr} {ns:List (Str×MV)}
 (e1:σ x=EU (.ins C dx)) (e2:σ dx=EU (.ns ns)) (hA:cC (KD X.C.w.params N.dv) C names=true) (hn:names.contains name=true) (hz:ns.length<900) (hq:QU ⟨σ.put dx (.ns (aM ns name m)),ρ⟩):
 dL X N (.r x) name m ⟨σ,ρ⟩ QU:=Bl e1 e2 hA hn hz hq
theorem By {N:Kn X} {C:Addr} {P:Addr->Addr->Addr->Prop} (e1:σ x=EU (.ins C dx)) (hA:cC (KD X.C.w.params N.dv) C names=true) (hn:names.contains name=true) (h:P x C dx):lC X N (.r x) name ⟨σ,ρ⟩ P:=
 BD e1 hA hn h
theorem dR {N:Kn X} {x C:Addr} {ns:List (Str×MV)} {l:List (Str×Addr)} (f:Addr) (e1:σ x=EU (.ins C dx)) (e2:σ dx=EU (.ns ns)) (e3:nk ns name=none) (hA:cC (KD X.C.w.params N.dv) C names=true) (hM:fI (KD X.C.w.params N.dv) C l=true)
 (hn:l.contains (name,f)=true) (hf:∃ob fd,X.C.h0.get? f=EU ob∧ob.data= .func fd)
 (h:WEs X es ⟨σ,ρ⟩ λms st₂=>WC X (.ref f) (.r x::ms) st₂ Q):kL X N (.r x) name es ⟨σ,ρ⟩ Q:=y8 f e1 e2 e3 hA hM hn hf h
theorem bz (h:Ct X.C X.A f args σ λm σ'=>Q m ⟨σ',ρ⟩):WC X f args ⟨σ,ρ⟩ Q:=xV h
theorem Ec {K:Type} [DecidableEq K] {knd:KeyKind pgm X.C.w K} {d:Addr} {l:List (K×MV)} (e:σ d=EU (dO knd l)) (hq:Q (.bm "dict.get" (.r d)) ⟨σ,ρ⟩):AtR X (.r d) "get" ⟨σ,ρ⟩ Q:=Ac e hq
theorem ut {d:Addr} (e:σ d=EU fp) (hq:Q (.bm "set.__contains__" (.r d)) ⟨σ,ρ⟩):AtR X (.r d) "__contains__" ⟨σ,ρ⟩ Q:=rC e hq
end
section
variable {b:Bool} {vs:List (Option MV)} {x y:Int} {l:G0}
variable {X:Xc} {σ:Sg} {ρ:Lo}
noncomputable def EV (X:Xc) (σ:Sg) (ρ:Lo) (e:G0) (m:MV):Prop:=∀Q:MV->St->Prop,Q m ⟨σ,ρ⟩->WE X e ⟨σ,ρ⟩ Q
noncomputable def EVs (X:Xc) (σ:Sg) (ρ:Lo) (es:List G0) (ms:List MV):Prop:=∀Q:List MV->St->Prop,Q ms ⟨σ,ρ⟩->WEs X es ⟨σ,ρ⟩ Q
noncomputable def ET (X:Xc) (σ:Sg) (ρ:Lo) (e:G0) (b:Bool):Prop:=∀QB:Bool->St->Prop,QB b ⟨σ,ρ⟩->WB X e ⟨σ,ρ⟩ QB
noncomputable def O2 (X:Xc) (σ:Sg) (ρ:Lo) (f:Value->Value->KW Value) (a b m:MV):Prop:=∀Q:MV->St->Prop,Q m ⟨σ,ρ⟩->W2 X f a b ⟨σ,ρ⟩ Q
theorem EV.use {Q:MV->St->Prop} (h:EV X σ ρ e m) (hq:Q m ⟨σ,ρ⟩):WE X e ⟨σ,ρ⟩ Q:=h Q hq
theorem ET.use {QB:Bool->St->Prop} (h:ET X σ ρ e b) (hq:QB b ⟨σ,ρ⟩):WB X e ⟨σ,ρ⟩ QB:=h QB hq
theorem EVs.use {Q:List MV->St->Prop} (h:EVs X σ ρ es ms) (hq:Q ms ⟨σ,ρ⟩):WEs X es ⟨σ,ρ⟩ Q:=h Q hq
theorem yB (O:XOk X) {ns:List String} {x:String} {pos} (hd:ns.Nodup) (hn:gI ns k=EU x) (hv:gI vs k=EU (EU m)):EV X σ (zL ns vs) (.Name (EW x) pos) m:=λ_=>bd O hd hn hv
theorem AQ (O:XOk X) {x:Str} {pos} (h:lk ρ x=EU (EU m)):EV X σ ρ (.Name x pos) m:=λ_=>ai O h
theorem zH {i:Int} {k pos}:EV X σ ρ (.Constant (.int i) k pos) (.i i):=λ_=>aq
theorem AC {i:Str} {k pos}:EV X σ ρ (.Constant (.str i) k pos) (.s i):=λ_=>aI
theorem zh {k pos}:EV X σ ρ (.Constant .none k pos) (.k .none):=λ_=>fE
theorem xZ {k pos}:EV X σ ρ (.Constant (.bool b) k pos) (.k (.bool b)):=λ_=>eL
theorem AP {op pos} {a b:MV} (h1:EV X σ ρ l a) (h2:EV X σ ρ r b) (h:O2 X σ ρ (Ha op) a b m):EV X σ ρ (.BinOp l op r pos) m:=λQ hq=>ar (h1 _ (h2 _ (h Q hq)))
theorem BQ {op pos} {a b:MV} (hm:KX op r=false) (h1:EV X σ ρ l a) (h2:EV X σ ρ r b) (h:O2 X σ ρ (Fu op) a b m):EV X σ ρ (.Compare l [op] [r] pos) m:=λQ hq=>kX hm (h1 _ (h2 _ (h Q hq)))
theorem AZ {pos} {n:Int} (h:EV X σ ρ e (.i n)):EV X σ ρ (.UnaryOp .USub e pos) (.i (-n)):=λQ hq=>xF (h _ (xW hq))
theorem yv {o:G0} {pos} {a:MV} (hb:F6 o name X.env (eval o X.env)=eval o X.env) (h:EV X σ ρ o a) (ha:∀Q:MV->St->Prop,Q m ⟨σ,ρ⟩->AtR X a name ⟨σ,ρ⟩ Q):EV X σ ρ (.Attribute o name pos) m:=λQ hq=>bh hb (h _ (ha Q hq))
theorem y4:EVs X σ ρ [] []:=λ_=>ag
theorem xm (h:EV X σ ρ e m) (hs:EVs X σ ρ es ms):EVs X σ ρ (e::es) (m::ms):=λ_ hq=>ac (h _ (hs _ hq))
theorem xi {k pos} (hs:Starless es) (h:EVs X σ ρ es ms) (hz:IQ ms.length 1000=true):EV X σ ρ (.Tuple es k pos) (.t (.type "tuple") ms):=λQ hq=>cX hs (h _ (xT hz hq))
theorem CO:O2 X σ ρ (Ha .Add) (.i x) (.i y) (.i (x+y)):=λ_=>c0
theorem Cq:O2 X σ ρ (Ha .Sub) (.i x) (.i y) (.i (x-y)):=λ_=>eY
theorem EJ:O2 X σ ρ (Fu .Lt) (.i x) (.i y) (.k (.bool (decide (x<y)))):=λ_=>gZ
theorem DB:O2 X σ ρ (Fu .Gt) (.i x) (.i y) (.k (.bool (decide (y<x)))):=λ_=>iu
theorem D8:O2 X σ ρ (Fu .LtE) (.i x) (.i y) (.k (.bool (decide (x≤y)))):=λ_=>Au
theorem EA:O2 X σ ρ (Fu .GtE) (.i x) (.i y) (.k (.bool (decide (y≤x)))):=λ_=>tC
theorem Df:O2 X σ ρ (Fu .Eq) (.i x) (.i y) (.k (.bool (x==y))):=λ_=>j5
theorem Dt:O2 X σ ρ (Fu .NotEq) (.i x) (.i y) (.k (.bool (x !=y))):=λ_=>tf
theorem B6 {x y:Str}:O2 X σ ρ (Fu .Eq) (.s x) (.s y) (.k (.bool (x==y))):=λ_=>oE
theorem Cw {x y:Str}:O2 X σ ρ (Fu .NotEq) (.s x) (.s y) (.k (.bool (x !=y))):=λ_=>sJ
theorem Cs {x y:Str}:O2 X σ ρ (Fu .In) (.s x) (.s y) (.k (.bool (Fb y x))):=λ_=>s7
theorem Ax {x y:Str}:O2 X σ ρ (Fu .NotIn) (.s x) (.s y) (.k (.bool (!Txt.contains y x))):=λ_=>uH
theorem EO:O2 X σ ρ (Fu .Is) m (.k .none) (.k (.bool m.isNone)):=λ_=>pD
theorem De:O2 X σ ρ (Fu .IsNot) m (.k .none) (.k (.bool (!m.isNone))):=λ_=>eZ
theorem Ay {op pos} {a b:MV} {c:Bool} (hm:KX op r=false) (h1:EV X σ ρ l a) (h2:EV X σ ρ r b) (h:O2 X σ ρ (Fu op) a b (.k (.bool c))):ET X σ ρ (.Compare l [op] [r] pos) c:=λQ hq=>aC hm (h1 _ (h2 _ (h _ (ay hq))))
theorem AD {pos} (h:ET X σ ρ e b):ET X σ ρ (.UnaryOp .Not e pos) (!b):=λQ hq=>gD (h _ hq)
theorem wm (h:EV X σ ρ e m) (he:isTrue e X.env (eval e X.env)=(do let v←eval e X.env;Ke e.pos;IY [v] (NK v))) (ht:∀QB:Bool->St->Prop,QB b ⟨σ,ρ⟩->WT X m ⟨σ,ρ⟩ QB):ET X σ ρ e b:=λQ hq=>bY he (h _ (ht _ hq))
theorem zN (O:XOk X) {ns:List String} {x:String} {p:Pos} {rest:List Stmt} (h:EV X σ (zL ns vs) e m) (hd:ns.Nodup) (hn:gI ns k=EU x) (hv:gI vs k=EU u)
 (hs:Iq [.Name (EW x) p] e pos.line X.env=pure false) (hw:Hr [.Name (EW x) p] e X.env=pure none) (hq:WS X rest ⟨σ,zL ns (sI vs k (EU m))⟩ Q):WS X (.Assign [.Name (EW x) p] e pos::rest) ⟨σ,zL ns vs⟩ Q:=
 aa (ah hs hw trivial (h _ (cG O hd hn hv hq)))
theorem BA {rest:List Stmt} (h:EV X σ ρ e m) (hq:Q (.ret m) ⟨σ,ρ⟩):WS X (.Return (EU e) pos::rest) ⟨σ,ρ⟩ Q:=aa (be (h _ hq))
theorem CN {rest:List Stmt} (h:ET X σ ρ test b) (hq:if b=true then WS X body ⟨σ,ρ⟩ (fu X rest Q) else WS X orelse ⟨σ,ρ⟩ (fu X rest Q)):WS X (.If test body orelse pos::rest) ⟨σ,ρ⟩ Q:=aa (bl (h _ hq))
end
theorem hWS {x:List Stmt} {st:St} (h:WS X x st Q):WS X x st Q:=h
theorem EM {x:Stmt} {st:St} (h:WS1 X x st Q):WS1 X x st Q:=h
theorem hTh {x:List Stmt} {f:Fl} {st:St} (h:fu X x Q f st):fu X x Q f st:=h
theorem hIf {b:Bool} {A B:Prop} (h:if b=true then A else B):if b=true then A else B:=h
theorem hWE {st:St} {Q:MV->St->Prop} (h:WE X e st Q):WE X e st Q:=h
theorem hAt {a:MV} {n:Str} {st:St} {Q:MV->St->Prop} (h:AtR X a n st Q):AtR X a n st Q:=h
theorem EG {N:Kn X} {a:MV} {n:Str} {st:St} {Q:St->Prop} (h:dL X N a n m st Q):dL X N a n m st Q:=h
theorem hWA {st:St} {Q:St->Prop} (h:WA X e m st Q):WA X e m st Q:=h
theorem hWB {st:St} {Q:Bool->St->Prop} (h:WB X e st Q):WB X e st Q:=h
theorem hWT {e:MV} {st:St} {Q:Bool->St->Prop} (h:WT X e st Q):WT X e st Q:=h
theorem hW2 {f:Value->Value->KW Value} {a b:MV} {st:St} {Q:MV->St->Prop} (h:W2 X f a b st Q):W2 X f a b st Q:=h
theorem hWC {a:List MV} {st:St} {Q:MV->St->Prop} (h:WC X f a st Q):WC X f a st Q:=h
theorem hNm {st:St} {Q:MV->St->Prop} (h:WE X (.Name x pos) st Q):WE X (.Name x pos) st Q:=h
theorem hWN {st:St} {Q:St->Prop} (h:WA X (.Name x pos) m st Q):WA X (.Name x pos) m st Q:=h
end
section
local macro_rules | `(tactic|specialize $s:str)=>wk wA s
local macro_rules | `(tactic|walk_at $s:str)=> `(tactic|specialize $s:str)
section
variable {C:Cx}
noncomputable def sq1 (ns:List (Str×MV)) (la:Addr):=aM (aM (aM ns "a" (.r la)) "matching_blocks" (.k .none)) "opcodes" (.k .none)
noncomputable def dU:List String:=["self","a"]
theorem kD:dU.Nodup:=s!"1"
set_option maxHeartbeats 4000000 in
theorem qk (G:Gd C) (R:Rm (k+1) A) {x la:Addr} {ns:List (Str×MV)} {σ:Sg} (e1:σ x=EU (.ins 260 dx)) (e2:σ dx=EU (.ns ns)) (ha:nk ns "a" =EU (.k .none)) (hz:ns.length<100):
 CtA C A (.ref 192) [.r x,.r la] [] σ λm σ'=>m= .k .none∧σ'=σ.put dx (.ns (sq1 ns la)):=by
 refine aW G R (a:=192) (c:=191) (x:=aH 6 3) (n:="set_seq1") (q:="SequenceMatcher.set_seq1") (d:= .none) (pm:=(.str "cpy313.difflib" 286)) (an:=none) (t:=521)
  (ps:=(["self","a"]:List Str).zip [.r x,.r la]) s!"k" s!"k" s!"k" s!"k" [] s!"k" (λv=>(aX rfl s!"k" s!"1" (bk λa0=>bk λa1=>cK s!"k")).a) (ρ:=zL dU [EU (.r x),EU (.r la)]) s!"k" λQf hQf X hC O R' hin hg hE=>?_
 subst hC
 have N:=kn G
 have hd:=kD
 have i_self:gI dU 0=EU "self" :=rfl
 have i_a:gI dU 1=EU "a" :=rfl
 clear hg hE
 conv=>arg 2;whnf
 refine aa (aA hin s!"2" (aI ⟨trivial,?_⟩))
 have nxd:=aK e1 e2
 repeat walk_at "s"
 exact ⟨rfl,(congrArg (λz=>Sg.put z dx _) (cE ..)).trans (cE ..)⟩
end
noncomputable def bC (ws:List Str) (x:Str):List Nat:=(ws.zipIdx.filter λp=>p.1=x).map (·.2)
noncomputable def iL (l:List Nat):List MV:=l.map λ(i:Nat)=> .i (i:Int)
theorem gv (ws:List Str) (y x:Str):bC (ws++[y]) x=bC ws x++if y=x then [ws.length] else []:=by
 unfold bC;rw[List.zipIdx_append,Ik,Fe];by_cases h:y=x<;>simp[h]
theorem mY (h:x∉ws):bC ws x=[]:=by
 unfold bC;rw[Nk,List.filter_eq_nil_iff];intro p hp;have:=List.fst_mem_of_mem_zipIdx hp;simp only[decide_eq_true_eq];intro e;subst e;exact h this
noncomputable def Ix (w:FH) (σ:Sg) (d:Addr) (F:Addr->Prop) (ws:List Str) (n:Nat):Prop:=∃l:List (Str×MV),σ d=EU (dO (strKind pgm w) l)∧l.length≤n∧
 (∀x m,bw l x=EU m->∃a,m= .r a∧F a∧x∈ws.take n∧σ a=EU (.lst (iL (bC (ws.take n) x))))∧(∀x,x∈ws.take n->∃a,bw l x=EU (.r a))∧∀x y a,bw l x=EU (.r a)->bw l y=EU (.r a)->x=y
theorem h9 {K:Type} [DecidableEq K] (l:List (K×MV)) (k j:K) (m:MV):bw (cJ l k m) j=if j=k then EU m else bw l j:=by
 unfold bw cJ;by_cases h:l.any (λp=>decide (p.1=k))=true
 ·rw[if_pos h];by_cases hj:j=k
  ·subst hj;rw[if_pos rfl]
   induction l with
   |nil=>simp at h
   |cons p l ih=>
    by_cases hp:p.1=j
    ·simp[hp]
    ·have h':l.any (λp=>decide (p.1=j))=true:=by simpa[hp] using h
     have:=ih h';simpa[hp] using this
  ·rw[if_neg hj];clear h
   induction l with
   |nil=>rfl
   |cons p l ih=>
    by_cases hp:p.1=k
    ·have:¬k=j:=λe=>hj e.symm;simp only[FV,hp,if_true];simpa[this,hp] using ih
    ·by_cases hq:p.1=j
     ·simp[hp,hq,hj]
     ·simpa[hp,hq] using ih
 ·rw[if_neg h]
  have hn:l.find? (λp=>decide (p.1=k))=none:=by
   rw[Hx];intro p hp hq;exact h (List.any_eq_true.mpr (af p hp hq))
  rw[List.find?_append];by_cases hj:j=k
  ·clear h;subst hj;rw[hn,if_pos rfl];simp
  ·rw[if_neg hj];have:¬k=j:=λe=>hj e.symm;cases hf:l.find? (λp=>decide (p.1=j))<;>simp[this]
theorem uB {K:Type} [DecidableEq K] (l:List (K×MV)) (k:K) (m:MV):(cJ l k m).length≤l.length+1:=by
 unfold cJ;split<;>simp
theorem mO (l:List α) (n:Nat) (h:n<l.length):l.take (n+1)=l.take n++[l[n]]:=by rw[List.take_add_one,E2 h];rfl
theorem Ix.old {w:FH} {σ:Sg} {d a0 a:Addr} {F:Addr->Prop} {l:List (Str×MV)} (h:n<ws.length) (hd:σ d=EU (dO (strKind pgm w) l)) (hl:l.length≤n)
 (h1:∀x m,bw l x=EU m->∃a,m= .r a∧F a∧x∈ws.take n∧σ a=EU (.lst (iL (bC (ws.take n) x)))) (h2:∀x,x∈ws.take n->∃a,bw l x=EU (.r a)) (h3:∀x y a,bw l x=EU (.r a)->bw l y=EU (.r a)->x=y)
 (hx:bw l ws[n]=EU (.r a)) (n0:σ a0=none) (hda:d≠a):Ix w ((σ.put a0 (.lst [])).put a (.lst (iL (bC (ws.take n) ws[n])++[.i (n:Int)]))) d F ws (n+1):=by
 have tk:=mO ws n h;have len:(ws.take n).length=n:=by simp;exact Bv h
 refine (gk l ?_ (by exact o37 hl) (λx m hm=>?_) (λx hx'=>?_) h3)
 ·rw[Sg.put_ne _ _ hda,Sg.put_ne _ _ (λe=>by subst e;rw[n0] at hd;cases hd)];exact hd
 ·refine ad (h1 x m hm) λb z1 z2=>?_;subst z1;refine xa2 z2 λhF hmem hb=>?_;clear z2;refine (cI b rfl hF (by rw[tk];exact GI _ hmem) ?_);by_cases e:x=ws[n]
  ·clear hmem;subst e;rw[hx] at hm;clear hF hb;cases hm;rw[Sg.put_same,tk,gv,if_pos rfl,len];simp[iL]
  ·have nb:b≠a:=λq=>by clear hda;subst q;exact e (h3 _ _ _ hm hx)
   rw[Sg.put_ne _ _ nb,Sg.put_ne _ _ (λq=>by subst q;rw[n0] at hb;cases hb),hb,tk,gv,if_neg (λq=>e q.symm),Hh]
 ·rw[tk] at hx';rcases F2.mp hx' with q|q
  ·exact h2 x q
  ·rw[FW.mp q];exact ⟨a,hx⟩
theorem Ix.new {w:FH} {σ:Sg} {d a0:Addr} {F:Addr->Prop} {l:List (Str×MV)} (h:n<ws.length) (hd:σ d=EU (dO (strKind pgm w) l)) (hl:l.length≤n)
 (h1:∀x m,bw l x=EU m->∃a,m= .r a∧F a∧x∈ws.take n∧σ a=EU (.lst (iL (bC (ws.take n) x)))) (h2:∀x,x∈ws.take n->∃a,bw l x=EU (.r a)) (h3:∀x y a,bw l x=EU (.r a)->bw l y=EU (.r a)->x=y)
 (hx:bw l ws[n]=none) (n0:σ a0=none) (hF0:F a0):Ix w (((σ.put a0 (.lst [])).put d (dO (strKind pgm w) (cJ l ws[n] (.r a0)))).put a0 (.lst ([]++[.i (n:Int)]))) d F ws (n+1):=by
 have tk:=mO ws n h;have len:(ws.take n).length=n:=by simp;exact Bv h
 have da:d≠a0:=λe=>by clear hF0;subst e;rw[n0] at hd;cases hd
 have fresh:∀x,bw l x≠EU (.r a0):=λx e=>by
  refine gh (h1 x _ e) λb hb _ _ hb'=>?_;cases hb;rw[n0] at hb';cases hb'
 have notin:ws[n]∉ws.take n:=λhm=>by obtain ⟨b,hb⟩:=h2 _ hm;rw[hx] at hb;cases hb
 refine (gk (cJ l ws[n] (.r a0)) ?_ (by have:=uB l ws[n] (.r a0);exact EY this (FE hl)) (λx m hm=>?_) (λx hx'=>?_) (λx y b hx' hy=>?_))
 ·rw[Sg.put_ne _ _ da,Sg.put_same]
 ·rw[h9] at hm;by_cases e:x=ws[n]
  ·subst e;rw[if_pos rfl] at hm;cases hm;refine (cI a0 rfl hF0 (by rw[tk];exact Gz _ (FW.mpr rfl)) ?_);rw[Sg.put_same,tk,gv,if_pos rfl,len,mY notin];rfl
  ·rw[if_neg e] at hm;refine ad (h1 x m hm) λb z1 z2=>?_;subst z1;refine xa2 z2 λhF hmem hb=>?_;clear z2;refine (cI b rfl hF (by rw[tk];exact GI _ hmem) ?_);have nb:b≠a0:=λq=>by clear n0 hF0 da;subst q;exact fresh x hm
   have nd:b≠d:=λq=>by clear da;subst q;rw[hd] at hb;cases hb
   rw[Sg.put_ne _ _ nb,Sg.put_ne _ _ nd,Sg.put_ne _ _ nb,hb,tk,gv,if_neg (λq=>e q.symm),Hh]
 ·rw[tk] at hx';rw[h9];by_cases e:x=ws[n]
  ·exact ⟨a0,if_pos e⟩
  ·rw[if_neg e];rcases F2.mp hx' with q|q
   ·exact h2 x q
   ·exact absurd (FW.mp q) e
 ·rw[h9] at hx' hy;by_cases e:x=ws[n]
  ·by_cases e':y=ws[n]
   ·rw[e,e']
   ·rw[if_pos e] at hx';rw[if_neg e'] at hy;cases hx';exact absurd hy (fresh y)
  ·rw[if_neg e] at hx';by_cases e':y=ws[n]
   ·rw[if_pos e'] at hy;cases hy;exact absurd hx' (fresh x)
   ·rw[if_neg e'] at hy;exact h3 x y b hx' hy
theorem mU {st:St} {K:Type} [DecidableEq K] {knd:KeyKind pgm X.C.w K} {d:Addr} {l:List (K×MV)} (e:st.σ d=EU (dO knd l)):oV X (.r d) st "dict" :=λφ s v I r=>by
 cases (show v= .ref d from r);refine gh (qy (I.own e)) λo ho h1 h2 h3=>?_;exact ⟨(af o ho h1),λb hb=>by cases hb;exact (af o ho h2)⟩
section
variable {C:Cx}
theorem wq (ws:List Str) (x:Str):(bC ws x).length≤ws.length:=by
 unfold bC;rw[EZ];exact EY (GR _ _) s!"4"
theorem Ix.frame {w:FH} {σ:Sg} {d:Addr} {F:Addr->Prop} (h:Ix w σ d F ws n) (hd:σ' d=σ d) (hF:∀a m,F a->σ a=EU m->σ' a=EU m):Ix w σ' d F ws n:=by
 refine fy h λl a b c e f=>?_;refine (gk l (hd.trans a) b (λx m hm=>?_) e f);refine gh (c x m hm) λy h1 h2 h3 h4=>?_;exact (cI y h1 h2 h3 (hF y _ h2 h4))
structure Chained (w:FH) (σ:Sg) (dx lb:Addr) (ns:List (Str×MV)) (ws:List Str) (σ':Sg):Prop where
 ex:∃d js jp F,σ' dx=EU (.ns (aM (aM (aM ns "b2j" (.r d)) "bjunk" (.r js)) "bpopular" (.r jp)))∧Ix w σ' d F ws ws.length∧σ' js=EU fp
 keep:∀b m,b≠dx->σ b=EU m->σ' b=EU m
structure CJ (w:FH) (σ1:Sg) (e it lb d:Addr) (F:Addr->Prop) (ws:List Str) (i:Nat) (σ:Sg):Prop where
 c1:σ e=EU (enO it i)
 c2:σ it=EU (.itl lb i)
 ix:Ix w σ d F ws i
 old:∀b m,b≠d->σ1 b=EU m->σ b=EU m
noncomputable def aZ:List String:=["self","b","b2j","i","elt","indices","junk","isjunk","popular","n","ntest","idxs"]
theorem og:aZ.Nodup:=s!"1"
set_option maxHeartbeats 4000000 in
theorem vG (G:Gd C) (R:Rm (k+1) A) {x:Addr} {ns:List (Str×MV)} {σ:Sg} (e1:σ x=EU (.ins 260 dx)) (e2:σ dx=EU (.ns ns)) (hz:ns.length<100) (eb:nk ns "b" =EU (.r lb)) (elb:σ lb=EU (.lst (ws.map .s))) (ej:nk ns "isjunk" =EU (.k .none)) (ea:nk ns "autojunk" =EU (.k (.bool true))) (hw:ws.length<200):
 CtA C A (.ref 206) [.r x] [] σ λm σ'=>m= .k .none∧Chained C.w σ dx lb ns ws σ':=by
 refine aW G R (a:=206) (c:=205) (x:=aH 6 5) (n:="__chain_b") (q:="SequenceMatcher.__chain_b") (d:= .none) (pm:=(.str "cpy313.difflib" 286)) (an:=none) (t:=539)
  (ps:=(["self"]:List Str).zip [.r x]) s!"k" s!"k" s!"k" s!"k" [("enumerate",.type "enumerate"),("set",.type "set"),("len",.builtin "len")] s!"k" (λv=>(aX rfl s!"k" s!"1" (bk λa0=>cK s!"k")).a) (ρ:=zL aZ [EU (.r x),none,none,none,none,none,none,none,none,none,none,none]) s!"k" λQf hQf X hC O R' hin hg hE=>?_
 subst hC
 have N:=kn G
 have hd:=og
 have i_self:gI aZ 0=EU "self" :=rfl
 have i_b:gI aZ 1=EU "b" :=rfl
 have i_b2j:gI aZ 2=EU "b2j" :=rfl
 have i_i:gI aZ 3=EU "i" :=rfl
 have i_elt:gI aZ 4=EU "elt" :=rfl
 have i_indices:gI aZ 5=EU "indices" :=rfl
 have i_junk:gI aZ 6=EU "junk" :=rfl
 have i_isjunk:gI aZ 7=EU "isjunk" :=rfl
 have i_popular:gI aZ 8=EU "popular" :=rfl
 have i_n:gI aZ 9=EU "n" :=rfl
 have i_ntest:gI aZ 10=EU "ntest" :=rfl
 have i_idxs:gI aZ 11=EU "idxs" :=rfl
 have g_enumerate:X.gs.lookup (EW "enumerate")=EU (.type "enumerate" :Value):=hg▸s!"k"
 have g_set:X.gs.lookup (EW "set")=EU (.type "set" :Value):=hg▸s!"k"
 have g_len:X.gs.lookup (EW "len")=EU (.builtin "len" :Value):=hg▸s!"k"
 clear hg hE
 conv=>arg 2;whnf
 have nxd:=aK e1 e2
 repeat walk_at "s"
 refine ke (strKind pgm X.C.w) λd nd=>?_
 have dd:dx≠d:=aj nd e2
 have dxx:x≠d:=aj nd e1
 have db:lb≠d:=aj nd elb
 have bdx:lb≠dx:=λh=>by clear e1 hQf nxd dd;subst h;rw[elb] at e2;cases e2
 repeat walk_at "s"
 dsimp only
 have s_x:((σ.put d (dO (strKind pgm X.C.w) [])).put dx (.ns (aM ns "b2j" (.r d)))) x=EU (.ins 260 dx):=s!"sg"
 have s_dx:((σ.put d (dO (strKind pgm X.C.w) [])).put dx (.ns (aM ns "b2j" (.r d)))) dx=EU (.ns (aM ns "b2j" (.r d))):=s!"sg"
 have s_d:((σ.put d (dO (strKind pgm X.C.w) [])).put dx (.ns (aM ns "b2j" (.r d)))) d=EU (dO (strKind pgm X.C.w) []):=s!"sg"
 have s_lb:((σ.put d (dO (strKind pgm X.C.w) [])).put dx (.ns (aM ns "b2j" (.r d)))) lb=EU (.lst (ws.map .s)):=s!"sg"
 have s_old:∀b m,b≠dx->σ b=EU m->((σ.put d (dO (strKind pgm X.C.w) [])).put dx (.ns (aM ns "b2j" (.r d)))) b=EU m:=λb m nb hb=>by
  rw[Sg.put_ne _ _ nb,Sg.put_ne _ _ (aj nd hb)];exact hb
 generalize (σ.put d (dO (strKind pgm X.C.w) [])).put dx (.ns (aM ns "b2j" (.r d)))=σ1 at s_x s_dx s_d s_lb s_old⊢
 refine qC O rfl (λ_=>s!"2") (bP O g_enumerate trivial (ac (bd O hd ‹_› rfl (ag (qW (st:=⟨σ1,_⟩) s_lb λit e n1 n2 nie=>?_)))))
 have d_it:d≠it:=aj n1 s_d
 have d_e:d≠e:=aj n2 s_d
 let F:Addr->Prop:=λa=>σ1 a=none∧a≠e∧a≠it
 refine ⟨e,it,lb,ws.map .s,λi=>Az aZ (λu:Option MV×Option MV×Option MV=>[EU (.r x),EU (.r lb),EU (.r d),u.1,u.2.1,u.2.2,none,none,none,none,none,none]) λ_=>CJ X.C.w σ1 e it lb d F ws i,E8 nie,?_,?_,?_,?_⟩
 ·refine .mk (none,none,none) ⟨Sg.put_same ..,(Sg.put_ne _ _ nie).trans (Sg.put_same ..),(gk ([]) ?_ s!"4" (λx m hm=>by simp[bw] at hm) (λx hx=>by simp at hx) (λx y a hx=>by simp[bw] at hx)),λb m nb hb=>?_⟩
  ·exact (Sg.put_ne _ _ d_e).trans ((Sg.put_ne _ _ d_it).trans s_d)
  ·exact (Sg.put_ne _ _ (aj n2 hb)).trans ((Sg.put_ne _ _ (aj n1 hb)).trans hb)
 ·rintro i _ ⟨_,h⟩
  exact (ia2 h.c1 h.c2 (h.old lb _ db s_lb))
 ·rintro J hJ i hi _ ⟨u,h⟩
  rename_i σ2
  have hi':i<ws.length:=EZ MV.s▸hi
  rw[F8]
  dsimp only
  have a3':Ix X.C.w ((σ2.put e (enO it (i+1))).put it (.itl lb (i+1))) d F ws i:=h.ix.frame ((Sg.put_ne _ _ d_it).trans (Sg.put_ne _ _ d_e)) λa m hF hm=>(Sg.put_ne _ _ hF.2.2).trans ((Sg.put_ne _ _ hF.2.1).trans hm)
  have c1:((σ2.put e (enO it (i+1))).put it (.itl lb (i+1))) e=EU (enO it (i+1)):=(Sg.put_ne _ _ (E8 nie)).trans (Sg.put_same ..)
  have c2:((σ2.put e (enO it (i+1))).put it (.itl lb (i+1))) it=EU (.itl lb (i+1)):=Sg.put_same ..
  have c4:∀b m,b≠d->σ1 b=EU m->((σ2.put e (enO it (i+1))).put it (.itl lb (i+1))) b=EU m:=λb m nb hb=>
   (Sg.put_ne _ _ (aj n1 hb)).trans ((Sg.put_ne _ _ (aj n2 hb)).trans (h.old b m nb hb))
  generalize (σ2.put e (enO it (i+1))).put it (.itl lb (i+1))=σ3 at a3' c1 c2 c4⊢
  clear h
  refine jk O trivial rfl (bZ (cG O hd ‹_› rfl (bZ (cG O hd ‹_› rfl (fH ?_)))))
  refine fy a3' λl q1 q2 q3 q4 q5=>?_;clear a3'
  refine aa (ah s!"2" s!"2" trivial (bp (T:="dict") (id:="dict.setdefault") trivial s!"2" s!"d" s!"2" Ls KS PySem.F.type_dict_setdefault
   (bd O hd ‹_› rfl ⟨mU q1,ac (bd O hd ‹_› rfl (ac (b9 trivial (ag ⟨s!"4",λa0 n0=>ag ?_⟩))))⟩)))
  have d_a0:d≠a0:=aj n0 q1
  have hF0:F a0:=by
   refine (ia2 ?_ (λh=>?_) (λh=>?_))
   ·cases hh:σ1 a0 with
    |none=>rfl
    |some m=>have:=c4 a0 m (E8 d_a0) hh;rw[show σ3 a0=none from n0] at this;cases this
   ·clear n2 nie d_e hJ q3;subst h;rw[show σ3 a0=none from n0] at c1;cases c1
   ·clear n1 nie d_it hJ c1 q3;subst h;rw[show σ3 a0=none from n0] at c2;cases c2
  cases hm:bw l ws[i] with
  |some m=>
   refine ad (q3 _ _ hm) λa z1 z2=>?_;subst z1;refine xa2 z2 λhFa hmem ha=>?_;clear z2
   have a_a0:a≠a0:=aj n0 ha
   have d_a:d≠a:=λh=>by clear hm hFa a_a0;subst h;rw[q1] at ha;cases ha
   refine jd (K:=Str) G (k:=ws[i]) qi (l:=l) (show (σ3.put a0 _) d=_ by rw[Sg.put_ne _ _ d_a0];exact q1) trivial (by rw[sizeLine_eq];exact AJ hw hi' q2) ?_
   rw[hm]
   dsimp only
   refine cG O hd ‹_› rfl ?_
   have ea':(σ3.put a0 (.lst [])) a=EU (.lst (iL (bC (ws.take i) ws[i]))):=by rw[Sg.put_ne _ _ a_a0];exact ha
   refine aa (aA hin s!"2" (bp (T:="list") (id:="list.append") trivial s!"2" s!"d" s!"2" Fw Gw Gx
    (bd O hd ‹_› rfl ⟨bK ea',ac (bd O hd ‹_› rfl (ag (fZ (st:=⟨_,_⟩) ea' ?_ ⟨trivial,?_⟩)))⟩)))
   ·have:=wq (ws.take i) ws[i]
    have h2:(ws.take i).length≤i:=by rw[H4];exact o0
    rw[sizeLine_eq];simp only[iL,EZ];exact nTL (Fq (E3 (EY this h2) hi') hw) rfl
   ·refine ak (hJ _ _ (.mk (_,_,_) ⟨?_,?_,?_,λb m nb hb=>?_⟩))
    ·show ((σ3.put a0 _).put a _) e=_
     rw[Sg.put_ne _ _ (E8 hFa.2.1),Sg.put_ne _ _ (E8 hF0.2.1)];exact c1
    ·show ((σ3.put a0 _).put a _) it=_
     rw[Sg.put_ne _ _ (E8 hFa.2.2),Sg.put_ne _ _ (E8 hF0.2.2)];exact c2
    ·exact Ix.old hi' q1 q2 q3 q4 q5 hm n0 d_a
    ·show ((σ3.put a0 _).put a _) b=_
     rw[Sg.put_ne _ _ (aj hFa.1 hb),Sg.put_ne _ _ (aj hF0.1 hb)];exact c4 b m nb hb
  |none=>
   refine jd (K:=Str) G (k:=ws[i]) qi (l:=l) (show (σ3.put a0 _) d=_ by rw[Sg.put_ne _ _ d_a0];exact q1) trivial (by rw[sizeLine_eq];exact AJ hw hi' q2) ?_
   rw[hm]
   dsimp only
   refine cG O hd ‹_› rfl ?_
   have ea':((σ3.put a0 (.lst [])).put d (dO (strKind pgm X.C.w) (cJ l ws[i] (.r a0)))) a0=EU (.lst []):=by rw[Sg.put_ne _ _ (E8 d_a0),Sg.put_same]
   refine aa (aA hin s!"2" (bp (T:="list") (id:="list.append") trivial s!"2" s!"d" s!"2" Fw Gw Gx
    (bd O hd ‹_› rfl ⟨bK ea',ac (bd O hd ‹_› rfl (ag (fZ (st:=⟨_,_⟩) ea' s!"4" ⟨trivial,?_⟩)))⟩)))
   refine ak (hJ _ _ (.mk (_,_,_) ⟨?_,?_,?_,λb m nb hb=>?_⟩))
   ·show (((σ3.put a0 _).put d _).put a0 _) e=_
    rw[Sg.put_ne _ _ (E8 hF0.2.1),Sg.put_ne _ _ (E8 d_e),Sg.put_ne _ _ (E8 hF0.2.1)];exact c1
   ·show (((σ3.put a0 _).put d _).put a0 _) it=_
    rw[Sg.put_ne _ _ (E8 hF0.2.2),Sg.put_ne _ _ (E8 d_it),Sg.put_ne _ _ (E8 hF0.2.2)];exact c2
   ·exact Ix.new hi' q1 q2 q3 q4 q5 hm n0 hF0
   ·show (((σ3.put a0 _).put d _).put a0 _) b=_
    rw[Sg.put_ne _ _ (aj hF0.1 hb),Sg.put_ne _ _ nb,Sg.put_ne _ _ (aj hF0.1 hb)];exact c4 b m nb hb
 ·rintro _ ⟨u,h⟩ ⟨σ4,ρ4⟩ ho hr hit
  dsimp only at ho hr hit⊢
  subst hr
  have lw:(ws.map MV.s).length=ws.length:=EZ _
  have a3':Ix X.C.w σ4 d F ws ws.length:=(EZ MV.s▸h.ix).frame (ho d d_it) λa m hF hm=>(ho a hF.2.2).trans hm
  have a4':∀b m,b≠d->σ1 b=EU m->σ4 b=EU m:=λb m nb hb=>(ho b (aj n1 hb)).trans (h.old b m nb hb)
  have t_x:=a4' x _ dxx s_x
  have t_dx:=a4' dx _ dd s_dx
  have t_lb:=a4' lb _ db s_lb
  have keep4:∀b m,b≠dx->σ b=EU m->σ4 b=EU m:=λb m nb hb=>a4' b m (aj nd hb) (s_old b m nb hb)
  clear h ho
  refine ae ?_
  walk_at "s";walk_at "s"
  refine bP O g_set trivial (ag (vA λjs nj=>?_))
  have dxj:dx≠js:=aj nj t_dx
  have xj:x≠js:=aj nj t_x
  have lbj:lb≠js:=aj nj t_lb
  have dj:d≠js:=by refine ad a3' λl q _=>?_;clear a3';exact aj nj q
  dsimp only
  repeat walk_at "s"
  refine bP O g_set trivial (ag (vA λjp np=>?_))
  dsimp only
  have n_jp:∀{b:Addr} {m:MO},((σ4.put js fp).put dx (.ns (aM (aM ns "b2j" (.r d)) "bjunk" (.r js)))) b=EU m->b≠jp:=λh=>aj np h
  have dxp:dx≠jp:=n_jp s!"sg"
  have xp:x≠jp:=n_jp s!"sg"
  have jsp:js≠jp:=n_jp s!"sg"
  have lbp:lb≠jp:=n_jp s!"sg"
  repeat walk_at "s"
  refine aT O g_len trivial (ac (ai O (m:= .r lb) s!"lk" (ag (dz (st:=⟨_,_⟩) (vs:=ws.map .s) s!"sg" (by exact jTT (E3 (E6 lw) hw) s!"d") ?_))))
  repeat walk_at "s"
  refine aD s!"ff" ?_
  repeat walk_at "s"
  have fin:∀b m,b≠dx->σ4 b=EU m->((((σ4.put js fp).put dx (.ns (aM (aM ns "b2j" (.r d)) "bjunk" (.r js)))).put jp fp).put dx (.ns (aM (aM (aM ns "b2j" (.r d)) "bjunk" (.r js)) "bpopular" (.r jp)))) b=EU m:=λb m nb hb=>by
   have h1:b≠js:=aj nj hb
   have h2:b≠jp:=n_jp (m:=m) (by rw[Sg.put_ne _ _ nb,Sg.put_ne _ _ h1];exact hb)
   rw[Sg.put_ne _ _ nb,Sg.put_ne _ _ h2,Sg.put_ne _ _ nb,Sg.put_ne _ _ h1];exact hb
  refine ad a3' λl q1 q2=>?_;clear a3'
  refine ⟨rfl,⟨(jA d js jp F (Sg.put_same ..) (Ix.frame (σ:=σ4) ⟨l,q1,q2⟩ ((fin d _ (E8 dd) q1).trans q1.symm) λa m hF hm=>fin a m (λh=>by clear e1 e2 hQf nxd dd bdx s_x s_old t_x t_dx keep4 dxj np n_jp dxp fin;subst h;rw[hF.1] at s_dx;cases s_dx) hm) ?_),λb m nb hb=>fin b m nb (keep4 b m nb hb)⟩⟩
  walk_at "sg"
end
section
variable {binds:List (Str×Value)} {ps:List (Str×MV)} {x:Addr}
theorem VRs.c {m:MV} {x:Value} (r:VRs h (m::ms) (x::xs)):VR h m x∧VRs h ms xs:=by
 unfold VRs at r;refine bM r λy ys e a b=>?_;clear r;cases e;exact ⟨a,b⟩
noncomputable def PR (h:Heap) (ps:List (Str×MV)) (binds:List (Str×Value)):Prop:=∀x m,ps.lookup x=EU m->∃v,binds.reverse.lookup x=EU v∧VR h m v
theorem PR.nil:PR h [] binds:=λx m e=>by cases e
theorem PR.cons {n:Str} (e:binds.reverse.lookup n=EU v) (r:VR h m v) (t:PR h ps binds):PR h ((n,m)::ps) binds:=λx m' e'=>by
 simp only[IP] at e';split at e'
 ·rename_i q;cases e';rw[beq_iff_eq.mp q];exact (af v e r)
 ·exact t x m' e'
noncomputable def dT (l:List Value):Obj:={cls:= .type "tuple",dict:=none,data:= .seq l.toArray 0,slots:=[].toArray}
theorem fX {C:Cx} {T:Addr} (hd:fd.defaults= .ref T) (ho:C.h0.get? T=EU o) (hs:o.data= .seq items n)
 (hb:∀vs ks:List Value,vs.length=args.length->ks.length=kw.length->∃k binds,Ll fd ⟨vs,(kw.map (·.1)).zip ks⟩=Jr fd.defaults>>=k∧k (EU items)=pure binds∧
  (binds.all λx=>fd.scope.names.lookup x.1==EU .local)=true∧∀h,VRs h args vs->VRs h (kw.map (·.2)) ks->PR h ps binds):d4 C fd args kw ps:=λs vs ks old r r' M A E Q hq=>by
 refine lr (hb vs ks r.length (by rw[r'.length];simp)) λk binds e1 e2 e3 e4=>?_;have B:BindsTo s fd ⟨vs,(kw.map (·.1)).zip ks⟩ binds:=BindsTo.of_defaults hd (old _ _ ho) hs e1 e2;refine B M A E Q (hq binds s.heap s.toks (λ_ _ e=>e) (λx hx=>?_) (e4 _ r r'));have:=Fm.mp e3 x hx;simpa using this
theorem bu {C:Cx} (G:Gd C) {a:Addr} (h:(match (K C.w.params).lookup a with|some ⟨_,_,.func _,_⟩=>true|_=>false)=true):∃ob fd,C.h0.get? a=EU ob∧ob.data= .func fd:=by
 cases e:(K C.w.params).lookup a with
 |none=>rw[e] at h;cases h
 |some o=>
  rw[e] at h;obtain ⟨c,d,dt,sl⟩:=o
  cases dt with
  |func fd=>
   refine xe1 (G.says.k (a,_) (dH e)) λv hv=>?_
   cases hd:fC.contains a with
   |true=>exact (cz _ ({fd with doc:=v}) hv (by unfold dZ;rw[hd];rfl))
   |false=>exact (cz _ fd hv (by unfold dZ;rw[hd]))
  |_=>cases h
variable {C:Cx}
noncomputable def sm0:List (Str×MV):=aM (aM (aM (aM [] "isjunk" (.k .none)) "a" (.k .none)) "b" (.k .none)) "autojunk" (.k (.bool true))
noncomputable def sq2 (ns:List (Str×MV)) (lb:Addr):=aM (aM (aM (aM ns "b" (.r lb)) "matching_blocks" (.k .none)) "opcodes" (.k .none)) "fullbcount" (.k .none)
noncomputable def smN (la lb:Addr):=sq2 (sq1 sm0 la) lb
noncomputable def dP:List String:=["self","b"]
theorem kh:dP.Nodup:=s!"1"
set_option maxHeartbeats 4000000 in
theorem pz (G:Gd C) (R:Rm (k+2) A) {ns:List (Str×MV)} {σ:Sg} (e1:σ x=EU (.ins 260 dx)) (e2:σ dx=EU (.ns ns)) (hz:ns.length<50) (eb:nk ns "b" =EU (.k .none)) (elb:σ lb=EU (.lst (ws.map .s))) (ej:nk ns "isjunk" =EU (.k .none)) (ea:nk ns "autojunk" =EU (.k (.bool true))) (ec:nk ns "_SequenceMatcher__chain_b" =none) (hw:ws.length<200):
 CtA C A (.ref 199) [.r x,.r lb] [] σ λm σ'=>m= .k .none∧Chained C.w (σ.put dx (.ns (sq2 ns lb))) dx lb (sq2 ns lb) ws σ':=by
 refine aW G R (a:=199) (c:=198) (x:=aH 6 4) (n:="set_seq2") (q:="SequenceMatcher.set_seq2") (d:= .none) (pm:=(.str "cpy313.difflib" 286)) (an:=none) (t:=530)
  (ps:=(["self","b"]:List Str).zip [.r x,.r lb]) s!"k" s!"k" s!"k" s!"k" [] s!"k" (λv=>(aX rfl s!"k" s!"1" (bk λa0=>bk λa1=>cK s!"k")).a) (ρ:=zL dP [EU (.r x),EU (.r lb)]) s!"k" λQf hQf X hC O R' hin hg hE=>?_
 subst hC
 have N:=kn G
 have hd:=kh
 have i_self:gI dP 0=EU "self" :=rfl
 have i_b:gI dP 1=EU "b" :=rfl
 clear hg hE
 conv=>arg 2;whnf
 refine aa (aA hin s!"2" (aI ⟨trivial,?_⟩))
 have nxd:=aK e1 e2
 have bdx:lb≠dx:=λh=>by clear e1 hQf nxd;subst h;rw[elb] at e2;cases e2
 repeat walk_at "s"
 refine aA hin s!"2" ?_
 refine bJ N s!"2" trivial ?_
 repeat walk_at "s"
 simp only[cE]
 refine dR 206 s!"sg" s!"sg" s!"nk" s!"at" s!"me" s!"k" (bu G s!"k") (ag (bz (Ct.mono (CtA.ct (vG G R' (x:=x) (dx:=dx) (lb:=lb) (ws:=ws) (ns:=sq2 ns lb) s!"sg" (by exact Sg.put_same ..) (by unfold sq2;walk_at "len") (by unfold sq2;walk_at "nk") s!"sg" (by unfold sq2;walk_at "nk") (by unfold sq2;walk_at "nk") hw)) ?_)))
 intro m σ' zr1;refine b8 zr1 λh=>?_;clear zr1
 refine ⟨trivial,?_⟩
 repeat walk_at "s"
 exact ⟨by first|rfl|trivial,h⟩
noncomputable def dc:List String:=["self","a","b"]
theorem j0:dc.Nodup:=s!"1"
set_option maxHeartbeats 4000000 in
theorem oR (G:Gd C) (R:Rm (k+3) A) {la:Addr} {ns:List (Str×MV)} {σ:Sg} (e1:σ x=EU (.ins 260 dx)) (e2:σ dx=EU (.ns ns)) (hz:ns.length<40) (ea0:nk ns "a" =EU (.k .none)) (eb:nk ns "b" =EU (.k .none)) (elb:σ lb=EU (.lst (ws.map .s))) (ej:nk ns "isjunk" =EU (.k .none)) (ea:nk ns "autojunk" =EU (.k (.bool true))) (ec:nk ns "_SequenceMatcher__chain_b" =none) (ec1:nk ns "set_seq1" =none) (ec2:nk ns "set_seq2" =none) (hw:ws.length<200):
 CtA C A (.ref 185) [.r x,.r la,.r lb] [] σ λm σ'=>m= .k .none∧Chained C.w (σ.put dx (.ns (sq2 (sq1 ns la) lb))) dx lb (sq2 (sq1 ns la) lb) ws σ':=by
 refine aW G R (a:=185) (c:=184) (x:=aH 6 2) (n:="set_seqs") (q:="SequenceMatcher.set_seqs") (d:= .none) (pm:=(.str "cpy313.difflib" 286)) (an:=none) (t:=511)
  (ps:=(["self","a","b"]:List Str).zip [.r x,.r la,.r lb]) s!"k" s!"k" s!"k" s!"k" [] s!"k" (λv=>(aX rfl s!"k" s!"1" (bk λa0=>bk λa1=>bk λa2=>cK s!"k")).a) (ρ:=zL dc [EU (.r x),EU (.r la),EU (.r lb)]) s!"k" λQf hQf X hC O R' hin hg hE=>?_
 subst hC
 have N:=kn G
 have hd:=j0
 have i_self:gI dc 0=EU "self" :=rfl
 have i_a:gI dc 1=EU "a" :=rfl
 have i_b:gI dc 2=EU "b" :=rfl
 clear hg hE
 conv=>arg 2;whnf
 refine aa (aA hin s!"2" (aI ⟨trivial,?_⟩))
 have nxd:=aK e1 e2
 have bdx:lb≠dx:=λh=>by clear e1 hQf nxd;subst h;rw[elb] at e2;cases e2
 refine aa (aA hin s!"2" (bJ N s!"2" trivial ?_))
 repeat walk_at "s"
 refine dR 192 s!"sg" s!"sg" s!"nk" s!"at" s!"me" s!"k" (bu G s!"k") (ac (ai O (m:= .r la) s!"lk" (ag (bz (Ct.mono (CtA.ct (qk G (R'.le (m:=k+1) (by exact HZ _)) (x:=x) (dx:=dx) (la:=la) (ns:=ns) e1 e2 ea0 (by exact nTT hz rfl))) ?_)))))
 intro m σ' zr1;refine b8 zr1 λz2=>?_;clear zr1;subst z2
 refine ⟨trivial,?_⟩
 refine ae ?_
 refine aa (aA hin s!"2" (bJ N s!"2" trivial ?_))
 repeat walk_at "s"
 refine dR 199 s!"sg" s!"sg" (by unfold sq1;walk_at "nk") s!"at" s!"me" s!"k" (bu G s!"k") (ac (ai O (m:= .r lb) s!"lk" (ag (bz (Ct.mono (CtA.ct (pz G R' (x:=x) (dx:=dx) (lb:=lb) (ws:=ws) (ns:=sq1 ns la) s!"sg" s!"sg" (by unfold sq1;walk_at "len") (by unfold sq1;walk_at "nk") s!"sg" (by unfold sq1;walk_at "nk") (by unfold sq1;walk_at "nk") (by unfold sq1;walk_at "nk") hw)) ?_)))))
 intro m σ' zr1;refine b8 zr1 λh=>?_;clear zr1
 rw[cE] at h
 refine ⟨trivial,?_⟩
 repeat walk_at "s"
 exact ⟨by first|rfl|trivial,h⟩
theorem ph (G:Gd C) {la:Addr} (v:Value):d4 C (dD (aH 6 1) "__init__" "SequenceMatcher.__init__" (.ref 171) v (.str "cpy313.difflib" 286) none (.ref 177)) [.r x,.k .none,.r la,.r lb] [] ((["self","isjunk","a","b","autojunk"]:List Str).zip [.r x,.k .none,.r la,.r lb,.k (.bool true)]):=by
 refine fX (T:=171) (o:=dT [.none,.str "" 496,.str "" 497,.bool true]) rfl (G.says.obj s!"k" rfl) rfl λvs ks hv hk=>?_
 obtain ⟨a0,a1,a2,a3,rfl⟩:∃a0 a1 a2 a3,vs=[a0,a1,a2,a3]:=by
  rcases vs with _|⟨a0,_|⟨a1,_|⟨a2,_|⟨a3,_|_⟩⟩⟩⟩<;>simp at hv
  exact ⟨a0,a1,a2,a3,rfl⟩
 have e_ks:ks=[]:=FS.mp hk;subst e_ks;refine ⟨_,[("self",a0),("isjunk",a1),("a",a2),("b",a3),("autojunk",.bool true)],s!"2",s!"k",s!"k",λh r q=>?_⟩;obtain ⟨r0,r⟩:=r.c;obtain ⟨r1,r⟩:=r.c;obtain ⟨r2,r⟩:=r.c;obtain ⟨r3,r⟩:=r.c;exact .cons (v:=a0) s!"k" r0 (.cons (v:=a1) s!"k" r1 (.cons (v:=a2) s!"k" r2 (.cons (v:=a3) s!"k" r3 (.cons (v:= .bool true) s!"k" rfl .nil))))
noncomputable def cq:List String:=["self","isjunk","a","b","autojunk"]
theorem lu:cq.Nodup:=s!"1"
set_option maxHeartbeats 4000000 in
theorem rp (G:Gd C) (R:Rm (k+4) A) {la:Addr} {σ:Sg} (e1:σ x=EU (.ins 260 dx)) (e2:σ dx=EU (.ns [])) (elb:σ lb=EU (.lst (ws.map .s))) (hw:ws.length<200):
 CtA C A (.ref 178) [.r x,.k .none,.r la,.r lb] [] σ λm σ'=>m= .k .none∧Chained C.w (σ.put dx (.ns (smN la lb))) dx lb (smN la lb) ws σ':=by
 refine aW G R (a:=178) (c:=177) (x:=aH 6 1) (n:="__init__") (q:="SequenceMatcher.__init__") (d:=(.ref 171)) (pm:=(.str "cpy313.difflib" 286)) (an:=none) (t:=499)
  (ps:=(["self","isjunk","a","b","autojunk"]:List Str).zip [.r x,.k .none,.r la,.r lb,.k (.bool true)]) s!"k" s!"k" s!"k" s!"k" [] s!"k" (λv=>ph G v) (ρ:=zL cq [EU (.r x),EU (.k .none),EU (.r la),EU (.r lb),EU (.k (.bool true))]) s!"k" λQf hQf X hC O R' hin hg hE=>?_
 subst hC
 have N:=kn G
 have hd:=lu
 have i_self:gI cq 0=EU "self" :=rfl
 have i_isjunk:gI cq 1=EU "isjunk" :=rfl
 have i_a:gI cq 2=EU "a" :=rfl
 have i_b:gI cq 3=EU "b" :=rfl
 have i_autojunk:gI cq 4=EU "autojunk" :=rfl
 clear hg hE
 conv=>arg 2;whnf
 refine aa (aA hin s!"2" (aI ⟨trivial,?_⟩))
 have nxd:=aK e1 e2
 have bdx:lb≠dx:=λh=>by clear e1 hQf nxd;subst h;rw[elb] at e2;cases e2
 repeat walk_at "s"
 simp only[cE]
 refine aA hin s!"2" (bJ N s!"2" trivial ?_)
 repeat walk_at "s"
 refine dR 185 s!"sg" s!"sg" s!"nk" s!"at" s!"me" s!"k" (bu G s!"k") (ac (ai O (m:= .r la) s!"lk" (ac (ai O (m:= .r lb) s!"lk" (ag (bz (Ct.mono (CtA.ct (oR G R' (x:=x) (dx:=dx) (la:=la) (lb:=lb) (ws:=ws) (ns:=sm0) s!"sg" (by exact Sg.put_same ..) (by unfold sm0;walk_at "len") (by unfold sm0;walk_at "nk") (by unfold sm0;walk_at "nk") s!"sg" (by unfold sm0;walk_at "nk") (by unfold sm0;walk_at "nk") (by unfold sm0;walk_at "nk") (by unfold sm0;walk_at "nk") (by unfold sm0;walk_at "nk") hw)) ?_)))))))
 intro m σ' zr1;refine b8 zr1 λh=>?_;clear zr1
 rw[cE] at h
 refine ⟨trivial,?_⟩
 repeat walk_at "s"
 exact ⟨by first|rfl|trivial,h⟩
end
section
variable {C:Cx}
structure SM (w:FH) (σ:Sg) (x la lb:Addr) (ws:List Str) (dx d js jp:Addr) (F:Addr->Prop) (ns:List (Str×MV)):Prop where
 i:σ x=EU (.ins 260 dx)
 n:σ dx=EU (.ns ns)
 ns:ns=aM (aM (aM (smN la lb) "b2j" (.r d)) "bjunk" (.r js)) "bpopular" (.r jp)
 ix:Ix w σ d F ws ws.length
 js:σ js=EU fp
theorem zx (P:F0) (dv:Addr->Value):(makesIn (KD P dv) 260&&Il (KD P dv) (.ref 260) "__init__" ==EU (EU (.ref 178))&&MT (KD P dv) (.ref 178)==EU (.type "function")&&eQ (KD P dv) 260)=true:=s!"k"
theorem AG (G:Gd C) (R:Rm (k+5) A) {la:Addr} {σ:Sg} (elb:σ lb=EU (.lst (ws.map .s))) (hw:ws.length<200):
 CtA C A (.ref 260) [.k .none,.r la,.r lb] [] σ λm σ'=>∃x dx d js jp F ns,m= .r x∧SM C.w σ' x la lb ws dx d js jp F ns∧(∀b m,σ b=EU m->σ' b=EU m):=by
 refine xe1 G.says.kd λdv hK=>?_;have M:=zx C.w.params dv;simp only[Fc,beq_iff_eq] at M;refine xa1 M λz1 _=>?_;clear M;refine xa1 z1 λz2 m3=>?_;clear z1;obtain ⟨m1,m2⟩:=z2;refine kl hK R s!"d" m1 m2 m3 λA' R' x dx hx hdx ne=>?_;refine CtA.mono (rp G R' (x:=x) (dx:=dx) (la:=la) (lb:=lb) (ws:=ws) (Sg.put_same ..) (by rw[Sg.put_ne _ _ (E8 ne),Sg.put_same]) ?_ hw) ?_
 ·rw[Sg.put_ne _ _ (aj hx elb),Sg.put_ne _ _ (aj hdx elb)];exact elb
 ·intro m σ' zr1;refine b8 zr1 λh=>?_;clear zr1;refine bx h.ex λd js jp F h1 z1=>?_;refine xa1 z1 λh2 h3=>?_;clear z1;refine (jr rfl x dx ⟨d,js,jp,F,_,rfl,⟨h.keep x _ ne (by rw[Sg.put_ne _ _ ne,Sg.put_same]),h1,rfl,h2,h3⟩,λb m hb=>?_⟩);have b1:=aj hx hb;have b2:=aj hdx hb;exact h.keep b m b2 (by rw[Sg.put_ne _ _ b2,Sg.put_ne _ _ b1,Sg.put_ne _ _ b2];exact hb)
end
section
open Builtin.ObjectAttr
noncomputable def oD (K:Frag) (C p f:Addr):Bool:=(match K.lookup C with
 |some ⟨_,_,.cls cd,sl⟩=>!cd.mro.isEmpty&&sl.toList[4]?==EU (EU .none)&&cd.mro.contains (.ref C)
 |_=>false)&&NA K (.ref C) "__call__" ==EU (EU (.builtin "type.__call__"))&&instIn K (.ref C) (.type "type")==EU true&&Pm K C (.type "type")&&
 Po K p "staticmethod" ==EU [.ref f]
theorem Bp (P:F0) (dv:Addr->Value):oD (KD P dv) 153 154 100=true:=s!"k"
theorem A2 (P:F0) (dv:Addr->Value):oD (KD P dv) 840 337 333=true:=s!"k"
noncomputable def CFound.isGet (g a obj tp:Value):Option CFound->Bool
 |some (.get g' a' obj' tp')=>g'==g&&a'==a&&obj'==obj&&tp'==tp
 |_=>false
theorem kB {g a obj tp:Value} {x:Option CFound} (h:CFound.isGet g a obj tp x=true):x=EU (.get g a obj tp):=by
 unfold CFound.isGet at h;split at h
 ·simp only[Fc,beq_iff_eq] at h;refine xa1 h λz1 z2=>?_;clear h;refine xa1 z1 λz3 z4=>?_;clear z1;obtain ⟨rfl,rfl⟩:=z3;subst z4;subst z2;rfl
 ·cases h
theorem Bo (P:F0) (dv:Addr->Value):CFound.isGet (.builtin "staticmethod.__get__") (.ref 154) .none (.ref 153) (Jl (KD P dv) (.ref 153) (.type "type") "__new__")=true:=s!"k"
theorem zJ (P:F0) (dv:Addr->Value):CFound.isGet (.builtin "staticmethod.__get__") (.ref 337) .none (.ref 840) (Jl (KD P dv) (.ref 840) (.type "type") "__new__")=true:=s!"k"
section
variable {prog:Program} {w:FH} {A:Gk} {K:Frag} {C p f:Addr} {R:LH->Shared->Prop} {s:Shared}
theorem Ad {Q:Value->Shared->Prop} (X:K.In s.heap) (hr:Pm K C (.type "type")=true) (e:Jl K (.ref C) (.type "type") "__new__" =EU (.get (.builtin "staticmethod.__get__") (.ref p) .none (.ref C)))
 (hp:Po K p "staticmethod" =EU [.ref f]) (h:Q (.ref f) {s with toks:=s.toks+1}):E4 (Fa prog w) A (JQ (.ref C) "__new__") Q E s:=by
 refine cls_bind X hr e (wpAny_call (sm_get (s:={s with toks:=s.toks+1}) X hp ?_));exact LT rfl h
theorem qc {rest:List Value} {kw:List (Str×Value)} (X:K.In s.heap) (hn:oD K C p f=true) (e:Jl K (.ref C) (.type "type") "__new__" =EU (.get (.builtin "staticmethod.__get__") (.ref p) .none (.ref C)))
 (h:IZ (Fa prog w) (A.under (.builtin "type.__call__" ⟨.ref C::rest,kw⟩)) (.call (.ref f) ⟨.ref C::rest,kw⟩) (xg λobj s₁=>Ft (Fa prog w) s₁.heap (IU obj (.ref C)) true∧
  E4 (Fa prog w) (A.under (.builtin "type.__call__" ⟨.ref C::rest,kw⟩)) (Lm obj "__init__" rest kw) (λr s₂=>r=EU .none∧R (.ok (.ret obj)) s₂) NoE s₁) {s with toks:=s.toks+1}):
 IZ (Fa prog w) A (.call (.ref C) ⟨rest,kw⟩) R s:=by
 simp only[oD,Fc,beq_iff_eq] at hn;refine xa1 hn λz3 n5=>?_;clear hn;refine xa1 z3 λz4 n4=>?_;clear z3;obtain ⟨⟨n1,n2⟩,n3⟩:=z4;split at n1;rotate_left
 ·cases n1
 rename_i oc od cd sl ho;simp only[Fc,beq_iff_eq,Ga] at n1;refine xa1 n1 λz3 m3=>?_;clear n1;refine xa1 z3 λm1 m2=>?_;clear z3;have hc:clsIn K C=EU cd:=by unfold clsIn;rw[ho]
 have call:Ft (Fa prog w) s.heap (Hf (.ref C) "__call__") (EU (.builtin "type.__call__")):=Qg X n2;have typ:Ft (Fa prog w) s.heap (IU (.ref C) (.type "type")) true:=looks_instIn X n3;have hm:Ft (Fa prog w) s.heap (mroOf (.ref C)) cd.mro:=(looks_clsIn X hc).andThen .now
 have made:Ft (Fa prog w) s.heap (Nb (.ref C)) none:=by
  obtain ⟨c,l,hl⟩:∃c l,cd.mro=c::l:=by cases q:cd.mro with|nil=>rw[q] at m1;cases m1|cons c l=>exact (ie2 c l rfl)
  intro A Q E s k q;unfold Nb;refine EX (hm A _ E s k ?_);rw[hl,G2];refine EX (EX (EX (EX (IN (k _ _ (X _ _ ho)) (E0 ?_)))));dsimp only;rw[←Mx,m2];exact E0 (E0 (E0 q))
 refine Mt ?_;show E4 _ _ (MC (.ref C) _) _ _ _;refine nd_load (X _ _ ho) ?_;show E4 _ _ (MC.viaDunder (.ref C) _) _ _ _;unfold MC.viaDunder;refine EX (call.at ?_);dsimp only;rw[tc_bind];refine EX (E0 (EX (E0 ?_)));refine E0 (a:=Q9 (.call (.builtin "type.__call__") ⟨.ref C::rest,kw⟩)) (Q6 rfl ?_);refine codeAny_call_builtin_at (Code.quiet_builtin _ s!"1") entry_typeCall (K6 tc_kind tc_split typ (tc_args _ _ _) ?_);unfold Builtin.«type.__call__»;clear call typ;obtain ⟨hh,g,dd,tk,os⟩:=s;repeat (first|simp only[m1,FL,if_false]|(with_reducible refine Ad X n4 e n5 ?_)|(with_reducible refine wpAny_call (codeAny_mono h λr s' z=>?_))|lk)
 rcases r with e|(v|_|_|_)<;>first|exact z.elim|skip
 refine xa1 z λz1 z2=>?_;clear z;refine EX (z1.here ?_);simp only[Me,FL,if_false];refine EX (wpAny_holding (FB z2 (λr s₂ ⟨e,q⟩=>?_) λ_ _ x=>x.elim));subst e;exact E0 q
end
end
section
variable {t:Addr} {Q:Value->Shared->Prop}
open Builtin.ObjectAttr
variable {prog:Program} {w:FH} {A:Gk} {s:Shared} {dv:Addr->Value}
theorem Cc (P:F0) (dv:Addr->Value) (S:Hy) (t:Addr):peek (KD P dv) S (Ih "tuple.__new__" ⟨[.ref 153,.ref t],[]⟩)=EU ():=s!"k"
theorem C2 (P:F0) (dv:Addr->Value) (S:Hy):peek (KD P dv) S (isType (.ref 153))=EU true:=s!"k"
theorem jo (P:F0) (dv:Addr->Value) (S:Hy):peek (KD P dv) S (GG (.ref 153) (.type "tuple"))=EU true:=s!"k"
theorem C7 (P:F0) (dv:Addr->Value) (S:Hy):peek (KD P dv) S (OX "tuple.__new__" (.ref 153))=EU ():=s!"k"
theorem xU (P:F0) (dv:Addr->Value) (S:Hy):peek (KD P dv) S (Gp (.ref 153) "__init__")=EU (EU (.builtin "object.__init__")):=s!"k"
theorem CG (P:F0) (dv:Addr->Value) (S:Hy):peek (KD P dv) S (Mj 153)=EU false:=s!"k"
theorem v5:Hb Jf "tuple.__new__" =EU Builtin.«tuple.__new__»:=F3 s!"k"
theorem zi {R:Fin->Shared->Prop} (X:(KD w.params dv).In s.heap) (hh:A.handled=none) (ho:s.heap.get? t=EU o) (hc:o.cls= .type "tuple") (hd:o.data= .seq items n) (hz:items.size≤100)
 (h:∀(h':Heap) (d:Addr),(∀b o,s.heap.get? b=EU o->h'.get? b=EU o)->R (.done (.ret (.ref h'.objs.size))) {s with heap:=h'.push {cls:= .ref 153,dict:=EU d,data:= .seq items}}):
 E4 (Fa prog w) A (Builtin.«tuple.__new__» ⟨[.ref 153,.ref t],[]⟩) R E s:=by
 obtain ⟨hp,g,dd,tk,os⟩:=s;have L1:=Ft.of_peek (M:=Fa prog w) X (C2 w.params dv ⟨prog,w.params⟩);have L2:=Ft.of_peek (M:=Fa prog w) X (jo w.params dv ⟨prog,w.params⟩);have L3:=Ft.of_peek (M:=Fa prog w) X (C7 w.params dv ⟨prog,w.params⟩);have L4:=Ft.of_peek (M:=Fa prog w) X (xU w.params dv ⟨prog,w.params⟩);have L5:=Ft.of_peek (M:=Fa prog w) X (CG w.params dv ⟨prog,w.params⟩);unfold Builtin.«tuple.__new__»;repeat (first|(with_reducible refine wpAny_collect_seq t (.inr rfl) ho hc hd (λh' hk=>?_) (by rw[sizeLine_eq];exact o30 hz))|lk)
 rw[if_neg (by rw[sizeLine_eq];simp;exact o30 hz)]
 have L5':Ft (Fa prog w) ((h'.push {cls:= .type "dict",data:= .dict #[]}).push {cls:= .ref 153,dict:=EU h'.objs.size,data:= .seq items.toList.toArray}) (Mj 153) false:=
  L5.keeps λb o e=>Heap.get?_push_of_some _ (Heap.get?_push_of_some _ (hk _ _ e))
 clear L5;repeat (first|lk)
 simp only[Hg];exact h _ h'.objs.size λb o e=>Heap.get?_push_of_some _ (hk _ _ e)
theorem si (X:(KD w.params dv).In s.heap) (hh:A.handled=none) (ho:s.heap.get? t=EU o) (hc:o.cls= .type "tuple") (hd:o.data= .seq items n) (hz:items.size≤100)
 (h:∀(h':Heap) (d:Addr),(∀b o,s.heap.get? b=EU o->h'.get? b=EU o)->Q (.ref h'.objs.size) {s with heap:=h'.push {cls:= .ref 153,dict:=EU d,data:= .seq items}}):
 E4 (Fa prog w) A (call (.builtin "tuple.__new__") [.ref 153,.ref t]) Q E s:=by
 have L0:=Ft.of_peek (M:=Fa prog w) X (Cc w.params dv ⟨prog,w.params⟩ t);refine wpAny_call (F1 s!"1" v5 (L0.here ?_));exact zi (A:=A.in1) X hh ho hc hd hz λh' d hk=>h h' d hk
theorem Da:(match Jl [] (.type "tuple") (.type "type") "__new__" with|some (.val v)=>v== .builtin "tuple.__new__" |_=>false)=true:=s!"k"
theorem xQ (h:Q (.builtin "tuple.__new__") {s with toks:=s.toks+1}):E4 (Fa prog w) A (JQ (.type "tuple") "__new__") Q E s:=by
 have X:Pp [] s.heap:=λa o e=>by cases e
 have e:Jl [] (.type "tuple") (.type "type") "__new__" =EU (.val (.builtin "tuple.__new__")):=by
  have z:=Da;split at z
  ·rename_i v hv;rw[hv,beq_iff_eq.mp z]
  ·cases z
 refine QM (hook:=none) X (.of_pure s!"k") (.of_pure s!"k") s!"k" (.of_pure s!"k") s!"k" e ?_;exact E0 (LT s!"k" h)
theorem jb {pl:KW Bool} {Q:Value×List Value->Shared->Prop} (hT:GX (.type T)=pure (.type "type")) (h:E4 (Fa prog w) A (JQ (.type T) name) (λv=>Q (v,[])) E s):E4 (Fa prog w) A (HV (.type T) name pl) Q E s:=by
 have sp:Ft (Fa prog w) s.heap (Hf (.type T) "__getattribute__") (EU (.builtin "type.__getattribute__")):=Ft.andThen (a:= .type "type") (.of_pure hT) (.of_pure KF.slot_tga.lookup);unfold HV;refine EX (sp.here ?_);dsimp only;rw[if_pos canon_tga];exact EX (FB h (λ_ _ z=>E0 z) λ_ _ z=>z)
end
section
open Builtin.ObjectAttr
theorem oU:GX (.type "tuple")=pure (.type "type"):=s!"k"
variable {C:Cx}
noncomputable def bv:List String:=["_cls","a","b","size"]
theorem jI:bv.Nodup:=s!"1"
set_option maxHeartbeats 4000000 in
theorem nR (G:Gd C) (R:Rm (k+1) A) {a b c:Int} {σ:Sg}:
 CtA C A (.ref 100) [.k (.ref 153),.i a,.i b,.i c] [] σ λm σ'=>m= .t (.ref 153) [.i a,.i b,.i c]∧σ'=σ:=by
 refine aW G R (a:=100) (c:=99) (x:=aH 4 4) (n:="__new__") (q:="Match.__new__") (d:= .none) (pm:=(.str "cpy313.difflib" 286)) (an:=none) (t:=367)
  (ps:=(["_cls","a","b","size"]:List Str).zip [.k (.ref 153),.i a,.i b,.i c]) s!"k" s!"k" s!"k" s!"k" [("tuple",.type "tuple")] s!"k" (λv=>(aX rfl s!"k" s!"1" (bk λa0=>bk λa1=>bk λa2=>bk λa3=>cK s!"k")).a) (ρ:=zL bv [EU (.k (.ref 153)),EU (.i a),EU (.i b),EU (.i c)]) s!"k" λQf hQf X hC O R' hin hg hE=>?_
 subst hC
 have N:=kn G
 have hd:=jI
 have i_cls:gI bv 0=EU "_cls" :=rfl
 have i_a:gI bv 1=EU "a" :=rfl
 have i_b:gI bv 2=EU "b" :=rfl
 have i_size:gI bv 3=EU "size" :=rfl
 have g_tuple:X.gs.lookup (EW "tuple")=EU (.type "tuple" :Value):=hg▸s!"k"
 clear hg hE
 conv=>arg 2;whnf
 refine aa (aA hin s!"2" (aI ⟨trivial,?_⟩))
 refine aa (be λφ s I=>?_)
 refine JR ?_ s!"2"
 refine ab (c8 O g_tuple (Q:=λm st'=>m= .k (.type "tuple")∧st'=⟨σ,zL bv [EU (.k (.ref 153)),EU (.i a),EU (.i b),EU (.i c)]⟩) ⟨rfl,rfl⟩ φ s I) λv s₁ pp=>?_
 obtain ⟨m,st₁,r,I₁,k₁,e1,e2⟩:=pp
 subst e1 e2
 cases (show v= .type "tuple" from r)
 refine jb (prog:=pgm) (w:=X.C.w) (T:="tuple") oU ?_
 refine xQ (prog:=pgm) (w:=X.C.w) ?_
 have I₂:=I₁.toks (s₁.toks+1)
 refine HD s!"r" (bt s!"t" (ab (cv (st:=⟨σ,zL bv [EU (.k (.ref 153)),EU (.i a),EU (.i b),EU (.i c)]⟩) (Q:=λms st₁=>ms=[.k (.ref 153),.t (.type "tuple") [.i a,.i b,.i c]]∧st₁=⟨σ,zL bv [EU (.k (.ref 153)),EU (.i a),EU (.i b),EU (.i c)]⟩) s!"t" ?_ I₂) λvs s₂ ⟨ms,st₂,r₂,I₃,k₂,e1,e2⟩=>?_))
 ·repeat walk_at "s"
  exact ⟨rfl,rfl⟩
 subst e1 e2
 unfold VRs at r₂
 refine am r₂ λy ys z1 z2=>?_;clear r₂;subst z1;refine xa1 z2 λq1 r₂=>?_;clear z2
 unfold VRs at r₂
 refine am r₂ λz zs z1 z2=>?_;clear r₂;subst z1;refine xa1 z2 λz3 r₂=>?_;clear z2;obtain ⟨t,o,items,n,rfl,ho,himm,hc,hd,ri⟩:=z3
 unfold VRs at r₂
 subst r₂
 cases (show y= .ref 153 from q1)
 refine si (I₃.kin N) O.hh ho hc hd (by rw[ri.size];simp) λh' d hk=>?_
 have I₄:=(I₃.grow hk s₂.toks).push {cls:= .ref 153,dict:=EU d,data:= .seq items}
 refine Post.mk (m:= .t (.ref 153) [.i a,.i b,.i c]) (eU _ _ items 0 rfl (Heap.get?_push_size _ rfl) rfl rfl rfl ((ri.keep (aB hk)).keep (keep_push _ _))) I₄ (k₁.trans (k₂.trans ((aB hk).trans (keep_push _ _)))) ?_
 repeat walk_at "s"
 exact ⟨rfl,rfl⟩
end
section
open Builtin.ObjectAttr
theorem CX (P:F0) (dv:Addr->Value) (S:Hy):peek (KD P dv) S (Nb (.ref 153))=EU none:=s!"k"
theorem Cm (P:F0) (dv:Addr->Value) (S:Hy):peek (KD P dv) S (GG (.ref 153) (.type "object"))=EU true:=s!"k"
theorem C8 (P:F0) (dv:Addr->Value) (S:Hy):peek (KD P dv) S (GG (.ref 153) (.ref 153))=EU true:=s!"k"
theorem v7 (a b c d:Value):HN "object.__init__" ⟨[a,b,c,d],[]⟩:=by unfold HN;kernel_rfl
section
variable {prog:Program} {w:FH} {A:Gk} {s:Shared} {dv:Addr->Value}
theorem vQ {x:Addr} {a b c:Value} {Q:Option Value->Shared->Prop} (X:(KD w.params dv).In s.heap) (ho:s.heap.get? x=EU o) (hc:o.cls= .ref 153) (h:Q (EU .none) s):
 E4 (Fa prog w) A (Lm (.ref x) "__init__" [a,b,c] []) Q NoE s:=by
 have ty:Ft (Fa prog w) s.heap (GX (.ref x)) (.ref 153):=by rw[←hc];exact (Ft.ld ho).andThen .now
 have L1:=Ft.of_peek (M:=Fa prog w) X (xU w.params dv ⟨prog,w.params⟩);have L2:=Ft.of_peek (M:=Fa prog w) X (CX w.params dv ⟨prog,w.params⟩);have L3:=ty.andThen (f:=λt=>GG t (.type "object")) (Ft.of_peek (M:=Fa prog w) X (Cm w.params dv ⟨prog,w.params⟩));refine EX (EX (ty.here (L1.here (wpAny_holding ?_))));rw[oi_bind];refine EX (E0 (EX (wpAny_call ?_)));refine F1 oi_plain entry_oi (@K6 (Fa prog w) _ _ _ "object.__init__" "object" "__init__" (.ref x) [a,b,c] [] _ oi_kind oi_split L3 (v7 (.ref x) a b c) ?_);unfold Builtin.«object.__init__»;clear X ho L3;obtain ⟨hp,g,d,tk,os⟩:=s;repeat (first|lk)
 exact h
end
variable {C:Cx}
theorem uN (G:Gd C) (R:Rm (k+2) A) {a b c:Int} {σ:Sg}:
 CtA C A (.ref 153) [.i a,.i b,.i c] [] σ λm σ'=>m= .t (.ref 153) [.i a,.i b,.i c]∧σ'=σ:=λφ s vs ks I d r r'=>by
 refine xe1 G.says.kd λdv hK=>?_;have KI:(KD C.w.params dv).In s.heap:=hK.keeps I.old;refine qc KI (Bp _ _) (kB (Bo _ _)) ?_;have r2:=r;unfold VRs at r2;refine am r2 λx1 vs1 z1 z2=>?_;clear r2;subst z1;refine xa1 z2 λz3 r2=>?_;clear z2;obtain ⟨t1,rfl⟩:=z3;unfold VRs at r2;refine am r2 λx2 vs2 z1 z2=>?_;clear r2;subst z1;refine xa1 z2 λz3 r2=>?_;clear z2;obtain ⟨t2,rfl⟩:=z3;unfold VRs at r2;refine am r2 λx3 vs3 z1 z2=>?_;clear r2;subst z1;refine xa1 z2 λz3 r2=>?_;clear z2;obtain ⟨t3,rfl⟩:=z3;unfold VRs at r2;subst r2;have e_ks:ks=[]:=by have:=r'.length;simpa using this
 clear r';subst e_ks;refine codeAny_mono (nR G (R.under 153 _ _) (a:=a) (b:=b) (c:=c) (σ:=σ) φ {s with toks:=s.toks+1} (.ref 153::_) [] (I.toks _) d (.cons (ba ..) r) (.nil _)) λres s' z=>?_;rcases res with e|(v|_|_|_)<;>first|exact z.elim|skip
 refine ia z λm σ' rv I' d' k' z1 z2=>?_;clear z;subst z1;clear I d;subst z2;have rv':=rv;refine bx rv λy o items n z1 z2=>?_;clear rv;subst z1;refine xa4 z2 λho hi hc hd ri=>?_;clear z2;have KI':(KD C.w.params dv).In s'.heap:=hK.keeps I'.old;have ty:Ft (Fa pgm C.w) s'.heap (GX (.ref y)) (.ref 153):=by rw[←hc];exact (Ft.ld ho).andThen .now
 refine ⟨ty.andThen (f:=λt=>GG t (.ref 153)) (Ft.of_peek KI' (C8 _ _ ⟨pgm,C.w.params⟩)),vQ KI' ho hc ⟨rfl,?_⟩⟩;exact (hU _ σ' rv' I' d' k' ⟨rfl,rfl⟩)
end
section
variable {b:MV} {u2 u3:Option MV}
noncomputable def hit (A B:List Str) (blo bhi i:Nat):Option Nat:=match A[i]? with
 |some x=>(bC B x).find? λj=>decide (blo≤j∧j<bhi)
 |none=>none
noncomputable def fhp (A B:List Str) (blo bhi alo:Nat):Nat->Option (Nat×Nat)
 |0=>none
 |t+1=>match fhp A B blo bhi alo t with
  |some r=>EU r
  |none=>(hit A B blo bhi (alo+t)).map λj=>(alo+t,j)
noncomputable def bO (A B:List Str) (blo bhi alo t:Nat):Nat×Nat×Nat:=match fhp A B blo bhi alo t with
 |some (i,j)=>(i,j,1)
 |none=>(alo,blo,0)
theorem d7:j∈bC ws x↔ws[j]?=EU x:=by
 unfold bC;simp only[Fp,GB,decide_eq_true_eq];constructor
 ·intro zr1;refine ad zr1 λz1 z2 z3=>?_;clear zr1;obtain ⟨y,k⟩:=z1;obtain ⟨h1,h2⟩:=z2;subst z3;dsimp only at h2;subst h2;have:=List.mem_zipIdx h1;simp at this;refine xa1 this λa b=>?_;clear this;simp[b,a]
 ·intro h;obtain ⟨hl,e⟩:=E5.mp h;refine (af (x,j) ⟨?_,rfl⟩ rfl);rw[←e];exact List.mem_zipIdx_iff_getElem?.mpr (by simp[hl])
structure Rows (A B:List Str):Prop where
 uniq:∀x,x∈A->(bC B x).length≤1
 adj:∀i j:Nat,∀a b:Str,A[i]?=EU a->B[j]?=EU a->A[i+1]?=EU b->B[j+1]?≠EU b
theorem eP {A:List Str} (h:hit A B blo bhi i=EU j):(∃x,A[i]?=EU x∧B[j]?=EU x)∧blo≤j∧j<bhi:=by
 unfold hit at h;split at h
 ·rename_i x hx;have h1:=List.find?_some h;have h2:=LU h;simp only[decide_eq_true_eq] at h1;exact ⟨(af x hx (d7.mp h2)),h1⟩
 ·cases h
theorem eI {A B:List Str} {blo bhi alo:Nat}:∀{t:Nat} {i j:Nat},fhp A B blo bhi alo t=EU (i,j)->hit A B blo bhi i=EU j∧alo≤i∧i<alo+t
 |0,_,_,h=>by cases h
 |t+1,i,j,h=>by
  unfold fhp at h
  cases e:fhp A B blo bhi alo t with
  |some r=>
   rw[e] at h;cases h;refine xa2 (eI e) λa b c=>?_;exact (ia2 a b (by exact AT c))
  |none=>
   rw[e] at h;refine ad (Gc.mp h) λj' hj e2=>?_;clear h;cases e2;exact (ia2 hj (by exact wF) (by exact AF))
theorem ko {A B:List Str} {blo bhi alo:Nat}:∀{t:Nat},fhp A B blo bhi alo t=none->∀i,alo≤i->i<alo+t->hit A B blo bhi i=none
 |0,_,i,h1,h2=>by exact (zI h1 h2).elim
 |t+1,h,i,h1,h2=>by
  unfold fhp at h
  cases e:fhp A B blo bhi alo t with
  |some r=>rw[e] at h;cases h
  |none=>
   rw[e] at h;have h':(hit A B blo bhi (alo+t)).map (λj=>(alo+t,j))=none:=h;by_cases q:i<alo+t
   ·exact ko e i h1 q
   ·have:i=alo+t:=by exact GF (FD h2) (F9.mp q)
    clear h1 h2 q;subst this;simpa using h'
noncomputable def Sw3 (X:Xc) (m:MV) (x y z:Str) (st:St) (Q:Fl->St->Prop):Prop:=∃ms,m= .t (.type "tuple") ms∧ [x,y,z].length=ms.length∧WNs X [x,y,z].reverse ms.reverse st λst₂=>Q .next st₂
theorem jH {st:St} (O:XOk X) {elts k tpos value pos} {z:Str} (hs:Iq [.Tuple elts k tpos] value pos.line X.env=pure false) (hw:Hr [.Tuple elts k tpos] value X.env=pure (EU [x,y,z]))
 (h:WE X value st λm st₁=>Sw3 X m x y z st₁ Q):WS1 X (.Assign [.Tuple elts k tpos] value pos) st Q:=iA O hs hw h
theorem Dh {σ:Sg} {z:Str} {a c:MV} {u1:Option MV} (h1:lk ρ z=EU u1) (h2:lk (stL ρ z c) y=EU u2) (h3:lk (stL (stL ρ z c) y b) x=EU u3) (h:Q .next ⟨σ,stL (stL (stL ρ z c) y b) x a⟩):
 Sw3 X (.t (.type "tuple") [a,b,c]) x y z ⟨σ,ρ⟩ Q:=(aR _ rfl rfl ⟨⟨_,h1⟩,⟨_,h2⟩,⟨_,h3⟩,h⟩)
theorem oC {σ:Sg} {ns:List String} {vs:List (Option MV)} {x y z:String} {a c:MV} {u1:Option MV} (hd:ns.Nodup) (hx:gI ns i=EU x) (hy:gI ns j=EU y) (hz:gI ns k=EU z)
 (g1:gI vs k=EU u1) (g2:gI (sI vs k (EU c)) j=EU u2) (g3:gI (sI (sI vs k (EU c)) j (EU b)) i=EU u3) (h:Q .next ⟨σ,zL ns (sI (sI (sI vs k (EU c)) j (EU b)) i (EU a))⟩):
 Sw3 X (.t (.type "tuple") [a,b,c]) (EW x) (EW y) (EW z) ⟨σ,zL ns vs⟩ Q:=by
 refine Dh (lkI hd hz g1) (u2:=u2) (u3:=u3) ?_ ?_ ?_<;>rw[stI hd hz]
 ·exact lkI hd hy g2
 ·rw[stI hd hy];exact lkI hd hx g3
 ·rw[stI hd hy,stI hd hx];exact h
variable {C:Cx}
theorem SM.at {w:FH} {σ:Sg} {x la:Addr} {d:Addr} {F:Addr->Prop} {ns:List (Str×MV)} (h:SM w σ x la lb ws dx d js jp F ns):
 nk ns "a" =EU (.r la)∧nk ns "b" =EU (.r lb)∧nk ns "b2j" =EU (.r d)∧nk ns "bjunk" =EU (.r js)∧nk ns "matching_blocks" =EU (.k .none)∧nk ns "find_longest_match" =none∧ns.length<20:=by
 rw[h.ns];unfold smN sq2 sq1 sm0;refine (ia6 ?_ ?_ ?_ ?_ ?_ ?_ ?_);all_goals first|walk_at "nk" |(apply mZ;walk_at "len1")
end
theorem eV {rest:List Stmt} {σ:Sg} (h:WB X test ⟨σ,ρ⟩ λb st₁=>b=false∧st₁=⟨σ,ρ⟩) (hr:WS X rest ⟨σ,ρ⟩ Q):WS X (.While test body [] pos::rest) ⟨σ,ρ⟩ Q:=by
 refine aa (dg (λ_ st=>st=⟨σ,ρ⟩) (λJ hJ n st hst=>?_) 0 rfl);subst hst;intro φ s I;refine ab (h φ s I) λb s₁ pp=>?_;obtain ⟨st₁,I₁,k,hb,hs⟩:=pp;subst hb hs;refine ⟨_,I₁,k,?_⟩;show if false=true then _ else _
 rw[if_neg s!"d"];exact ak hr
structure IdxOk (vs:List MV) (k:Int) (m:MV):Prop where
 z:0≤k
 f:k<2^63
 x:vs[k.toNat]?=EU m
theorem xn {b q:Nat} (h:b<q) (h2:q≤B.length) (h6:B.length<200):∃y,B[q-1]?=EU y∧IdxOk (B.map .s) ((q:Int)-1) (.s y):=by
 have hq:q-1<B.length:=E1 (p1' h) h2;refine (af (B[q-1]) (E2 hq) ⟨tp0 h,Iw (Int.sub_lt_self _ s!"d") (iTT (E3 h2 h6) (.refl true)),?_⟩);rw[tp1 h,Fx,E2 hq];rfl
theorem xq {b q z:Nat} (h:q+z<b) (h2:b≤B.length) (h6:B.length<200):∃y,B[q+z]?=EU y∧IdxOk (B.map .s) ((q:Int)+z) (.s y):=by
 have hq:q+z<B.length:=E1 h h2;refine (af (B[q+z]) (E2 hq) ⟨Ff (q+z),iTT (a:=q+z) (Fq hq h6) (.refl true),?_⟩);rw[tpa,Fx,E2 hq];rfl
theorem ltT {a b:Nat} (h:a<b):decide ((a:Int)<b)=true:=decide_eq_true (FO.mpr h)
theorem ltF {a b:Nat} (h:¬a<b):decide ((a:Int)<b)=false:=decide_eq_false λq=>h (FO.mp q)
theorem BM (h:x≠y):(x==y)=false:=beq_eq_false_iff_ne.mpr h
theorem rD (G:Gd X.C) (O:XOk X) (R:Rm (k+2) X.A) (g_Match:X.gs.lookup (EW "Match")=EU (.ref 153:Value)) {la:Addr} {alo ahi blo bhi p q z:Nat} {σ:Sg}
 (ela:σ la=EU (.lst (As.map .s))) (elb:σ lb=EU (.lst (Bs.map .s))) (ejs:σ js=EU fp) (h2:ahi≤As.length) (h4:bhi≤Bs.length) (h5:As.length<200) (h6:Bs.length<200) (hp:p≤ahi) (hq:q≤bhi)
 (l_alo:lk ρ "alo" =EU (EU (.i (alo:Int)))) (l_ahi:lk ρ "ahi" =EU (EU (.i (ahi:Int)))) (l_blo:lk ρ "blo" =EU (EU (.i (blo:Int)))) (l_bhi:lk ρ "bhi" =EU (EU (.i (bhi:Int))))
 (l_a:lk ρ "a" =EU (EU (.r la))) (l_b:lk ρ "b" =EU (EU (.r lb))) (l_is:lk ρ "isbjunk" =EU (EU (.bm "set.__contains__" (.r js))))
 (l_bi:lk ρ "besti" =EU (EU (.i (p:Int)))) (l_bj:lk ρ "bestj" =EU (EU (.i (q:Int)))) (l_bs:lk ρ "bestsize" =EU (EU (.i (z:Int))))
 (cL:alo<p->blo<q->∀x y,As[p-1]?=EU x->Bs[q-1]?=EU y->x≠y) (cR:p+z<ahi->q+z<bhi->∀x y,As[p+z]?=EU x->Bs[q+z]?=EU y->x≠y) {Q:Fl->St->Prop} (hQ:Q (.ret (.t (.ref 153) [.i (p:Int),.i (q:Int),.i (z:Int)])) ⟨σ,ρ⟩):
 WS X ((cu (aH 6 6)).drop 8) ⟨σ,ρ⟩ Q:=by
 conv=>arg 2;whnf
 have N:=kn G
 refine eV ?_ ?_
 ·refine bW (aC s!"r" (ai O l_bi (ai O l_alo (iu (ay ?_)))))
  by_cases a1:alo<p
  rotate_left
  ·exact aD (ltF a1) ⟨rfl,rfl⟩
  refine ift (ltT a1) (bW (aC s!"r" (ai O l_bj (ai O l_blo (iu (ay ?_))))))
  by_cases a2:blo<q
  rotate_left
  ·exact aD (ltF a2) ⟨rfl,rfl⟩
  refine ad (xn a2 (EY hq h4) h6) λy y1 y2=>?_
  refine ad (xn a1 (EY hp h2) h5) λx x1 x2=>?_
  refine ift (ltT a2) (bW (gD (bY s!"r" (fj (st:=⟨σ,ρ⟩) O l_is trivial (ac (aP (ai O l_b (ar (ai O l_bj (aq (eY (aY (st:=⟨σ,ρ⟩) (co (λ_ _=>s!"r") (λ_ _=>s!"r")) elb y2.z y2.f y2.x (ag (fb ejs (ay ?_)))))))))))))))
  refine ift rfl (bW (aC s!"r" (aP (ai O l_a (ar (ai O l_bi (aq (eY (aY (st:=⟨σ,ρ⟩) (co (λ_ _=>s!"r") (λ_ _=>s!"r")) ela x2.z x2.f x2.x (aP (ai O l_b (ar (ai O l_bj (aq (eY (aY (st:=⟨σ,ρ⟩) (co (λ_ _=>s!"r") (λ_ _=>s!"r")) elb y2.z y2.f y2.x (oE (ay ?_))))))))))))))))))
  exact aD (BM (cL a1 a2 x y x1 y1)) ⟨rfl,rfl⟩
 refine eV ?_ ?_
 ·refine bW (aC s!"r" (ar (ai O l_bi (ai O l_bs (c0 (ai O l_ahi (gZ (ay ?_))))))))
  by_cases a1:p+z<ahi
  rotate_left
  ·exact aD (ltF (a:=p+z) a1) ⟨rfl,rfl⟩
  refine ift (ltT (a:=p+z) a1) (bW (aC s!"r" (ar (ai O l_bj (ai O l_bs (c0 (ai O l_bhi (gZ (ay ?_)))))))))
  by_cases a2:q+z<bhi
  rotate_left
  ·exact aD (ltF (a:=q+z) a2) ⟨rfl,rfl⟩
  refine ad (xq a2 h4 h6) λy y1 y2=>?_
  refine ad (xq a1 h2 h5) λx x1 x2=>?_
  refine ift (ltT (a:=q+z) a2) (bW (gD (bY s!"r" (fj (st:=⟨σ,ρ⟩) O l_is trivial (ac (aP (ai O l_b (ar (ai O l_bj (ai O l_bs (c0 (aY (st:=⟨σ,ρ⟩) (co (λ_ _=>s!"r") (λ_ _=>s!"r")) elb y2.z y2.f y2.x (ag (fb ejs (ay ?_)))))))))))))))
  refine ift rfl (bW (aC s!"r" (aP (ai O l_a (ar (ai O l_bi (ai O l_bs (c0 (aY (st:=⟨σ,ρ⟩) (co (λ_ _=>s!"r") (λ_ _=>s!"r")) ela x2.z x2.f x2.x (aP (ai O l_b (ar (ai O l_bj (ai O l_bs (c0 (aY (st:=⟨σ,ρ⟩) (co (λ_ _=>s!"r") (λ_ _=>s!"r")) elb y2.z y2.f y2.x (oE (ay ?_))))))))))))))))))
  exact aD (BM (cR a1 a2 x y x1 y1)) ⟨rfl,rfl⟩
 refine eV ?_ ?_
 ·refine bW (aC s!"r" (ai O l_bi (ai O l_alo (iu (ay ?_)))))
  by_cases a1:alo<p
  rotate_left
  ·exact aD (ltF a1) ⟨rfl,rfl⟩
  refine ift (ltT a1) (bW (aC s!"r" (ai O l_bj (ai O l_blo (iu (ay ?_))))))
  by_cases a2:blo<q
  rotate_left
  ·exact aD (ltF a2) ⟨rfl,rfl⟩
  refine ad (xn a2 (EY hq h4) h6) λy y1 y2=>?_
  refine ift (ltT a2) (bW (bY s!"r" (fj (st:=⟨σ,ρ⟩) O l_is trivial (ac (aP (ai O l_b (ar (ai O l_bj (aq (eY (aY (st:=⟨σ,ρ⟩) (co (λ_ _=>s!"r") (λ_ _=>s!"r")) elb y2.z y2.f y2.x (ag (fb ejs (ay ?_))))))))))))))
  exact aD rfl ⟨rfl,rfl⟩
 refine eV ?_ ?_
 ·refine bW (aC s!"r" (ar (ai O l_bi (ai O l_bs (c0 (ai O l_ahi (gZ (ay ?_))))))))
  by_cases a1:p+z<ahi
  rotate_left
  ·exact aD (ltF (a:=p+z) a1) ⟨rfl,rfl⟩
  refine ift (ltT (a:=p+z) a1) (bW (aC s!"r" (ar (ai O l_bj (ai O l_bs (c0 (ai O l_bhi (gZ (ay ?_)))))))))
  by_cases a2:q+z<bhi
  rotate_left
  ·exact aD (ltF (a:=q+z) a2) ⟨rfl,rfl⟩
  refine ad (xq a2 h4 h6) λy y1 y2=>?_
  refine ift (ltT (a:=q+z) a2) (bW (bY s!"r" (fj (st:=⟨σ,ρ⟩) O l_is trivial (ac (aP (ai O l_b (ar (ai O l_bj (ai O l_bs (c0 (aY (st:=⟨σ,ρ⟩) (co (λ_ _=>s!"r") (λ_ _=>s!"r")) elb y2.z y2.f y2.x (ag (fb ejs (ay ?_))))))))))))))
  exact aD rfl ⟨rfl,rfl⟩
 refine aa (be (f8 O N g_Match trivial trivial s!"k" ?_))
 repeat walk_at "s"
 refine gQ (iI (st:=⟨σ,ρ⟩) (CtA.mono (uN G R) ?_))
 rintro m σ' ⟨rfl,rfl⟩
 exact hQ
section
variable {A:List Str} {x:Addr}
variable {C:Cx}
noncomputable def Row1 (A B:List Str) (alo t:Nat) (l:List (Int×MV)):Prop:=l.length≤1∧∀key m,bw l key=EU m->∃(j:Nat) (w:Str),key=(j:Int)∧0<t∧A[alo+t-1]?=EU w∧B[j]?=EU w
theorem iM (h:hit A B blo bhi (alo+t)=none∨(fhp A B blo bhi alo t).isSome=true):bO A B blo bhi alo (t+1)=bO A B blo bhi alo t:=by
 unfold bO;rw[show fhp A B blo bhi alo (t+1)=match fhp A B blo bhi alo t with|some r=>EU r|none=>(hit A B blo bhi (alo+t)).map λj=>(alo+t,j) from rfl]
 cases e:fhp A B blo bhi alo t with
 |some r=>rfl
 |none=>
  rcases h with h|h
  ·rw[h];rfl
  ·rw[e] at h;cases h
theorem v4 (h:hit A B blo bhi (alo+t)=EU j) (h0:fhp A B blo bhi alo t=none):bO A B blo bhi alo (t+1)=(alo+t,j,1):=by
 unfold bO;rw[show fhp A B blo bhi alo (t+1)=match fhp A B blo bhi alo t with|some r=>EU r|none=>(hit A B blo bhi (alo+t)).map λj=>(alo+t,j) from rfl,h0,h];rfl
theorem m4:(bO A B blo bhi alo t).2.2=if (fhp A B blo bhi alo t).isSome then 1 else 0:=by
 unfold bO;cases fhp A B blo bhi alo t<;>rfl
theorem ti {p:Nat×Nat×Nat} (hr:Rows As Bs) (h1:alo≤ahi) (h2:ahi≤As.length) (h3:blo≤bhi) (h4:bhi≤Bs.length) (hp:p=bO As Bs blo bhi alo (ahi-alo)):
 p.1≤ahi∧p.2.1≤bhi∧(alo<p.1->blo<p.2.1->∀x y,As[p.1-1]?=EU x->Bs[p.2.1-1]?=EU y->x≠y)∧(p.1+p.2.2<ahi->p.2.1+p.2.2<bhi->∀x y,As[p.1+p.2.2]?=EU x->Bs[p.2.1+p.2.2]?=EU y->x≠y):=by
 unfold bO at hp
 cases e:fhp As Bs blo bhi alo (ahi-alo) with
 |some r=>
  obtain ⟨i,j⟩:=r;rw[e] at hp;subst hp;refine xa2 (eI e) λf1 f2 f3=>?_;refine xa2 (eP f1) λz1 w3 w4=>?_;refine ad z1 λw w1 w2=>?_;clear z1;refine (ia3 (by dsimp only;exact Fs (IX h1▸f3)) (by dsimp only;exact vT w4) (λa b x y hx hy hxy=>?_) (λa b x y hx hy hxy=>?_))
  ·dsimp only at a b hx hy;subst hxy;exact hr.adj (i-1) (j-1) x w hx hy (by rw[show i-1+1=i by exact zG a];exact w1) (by rw[show j-1+1=j by exact zG b];exact w2)
  ·dsimp only at a b hx hy;subst hxy;exact hr.adj i j w x w1 w2 hx hy
 |none=>
  rw[e] at hp;subst hp;refine (ia3 h1 h3 (λa=>absurd a (Fz _)) (λa b x y hx hy hxy=>?_));dsimp only[Nat.add_zero] at a b hx hy;subst hxy;have hn:=ko e alo (Fd _) (by exact Em a);unfold hit at hn;rw[hx] at hn;have:=Hx.mp hn blo (d7.mpr hy);simp at this;exact Fz _ (E1 b this)
theorem vS (G:Gd C) (v:Value):d4 C (dD (aH 6 6) "find_longest_match" "SequenceMatcher.find_longest_match" (.ref 207) v (.str "cpy313.difflib" 286) none (.ref 213)) [.r x,.i (alo:Int),.i (ahi:Int),.i (blo:Int),.i (bhi:Int)] [] ((["self","alo","ahi","blo","bhi"]:List Str).zip [.r x,.i (alo:Int),.i (ahi:Int),.i (blo:Int),.i (bhi:Int)]):=by
 refine fX (T:=207) (o:=dT [.int 0 556,.none,.int 0 557,.none]) rfl (G.says.obj s!"k" rfl) rfl λvs ks hv hk=>?_
 obtain ⟨a0,a1,a2,a3,a4,rfl⟩:∃a0 a1 a2 a3 a4,vs=[a0,a1,a2,a3,a4]:=by
  rcases vs with _|⟨a0,_|⟨a1,_|⟨a2,_|⟨a3,_|⟨a4,_|_⟩⟩⟩⟩⟩<;>simp at hv
  exact ⟨a0,a1,a2,a3,a4,rfl⟩
 have e_ks:ks=[]:=FS.mp hk;subst e_ks;refine ⟨_,[("self",a0),("alo",a1),("ahi",a2),("blo",a3),("bhi",a4)],s!"2",s!"k",s!"k",λh r q=>?_⟩;obtain ⟨r0,r⟩:=r.c;obtain ⟨r1,r⟩:=r.c;obtain ⟨r2,r⟩:=r.c;obtain ⟨r3,r⟩:=r.c;obtain ⟨r4,r⟩:=r.c;exact .cons (v:=a0) s!"k" r0 (.cons (v:=a1) s!"k" r1 (.cons (v:=a2) s!"k" r2 (.cons (v:=a3) s!"k" r3 (.cons (v:=a4) s!"k" r4 .nil))))
noncomputable def bS:List String:=["self","alo","ahi","blo","bhi","a","b","b2j","isbjunk","besti","bestj","bestsize","j2len","nothing","i","j2lenget","newj2len","j","k"]
theorem zo:bS.Nodup:=s!"1"
noncomputable abbrev OM:=Option MV
noncomputable def flV (x la lb d js nl:Addr) (alo ahi blo bhi:Nat) (p:Nat×Nat×Nat) (j2:OM) (u:OM×OM×OM×OM×OM):List OM:=
 [EU (.r x),EU (.i alo),EU (.i ahi),EU (.i blo),EU (.i bhi),EU (.r la),EU (.r lb),EU (.r d),EU (.bm "set.__contains__" (.r js)),EU (.i p.1),EU (.i p.2.1),EU (.i p.2.2),j2,EU (.r nl),u.1,u.2.1,u.2.2.1,u.2.2.2.1,u.2.2.2.2]
structure FJ (w:FH) (σ1:Sg) (dj0:Addr) (As Bs:List Str) (alo t:Nat) (dj:Addr) (lj:List (Int×MV)) (σ:Sg):Prop where
 f:∀b m,σ1 b=EU m->b≠dj0->σ b=EU m
 e:σ dj=EU (dO (intKind pgm w) lj)
 r:Row1 As Bs alo t lj
theorem Row1.nil:Row1 As Bs alo t []:=⟨FY _,λ_ _ h=>by cases h⟩
set_option maxHeartbeats 4000000 in
theorem zf (G:Gd C) {A:Gk} (R:Rm (k+3) A) {la d:Addr} {F:Addr->Prop} {ns:List (Str×MV)} {σ:Sg} (S:SM C.w σ x la lb Bs dx d js jp F ns) (ela:σ la=EU (.lst (As.map .s))) (elb:σ lb=EU (.lst (Bs.map .s))) (hr:Rows As Bs) (h1:alo≤ahi) (h2:ahi≤As.length) (h3:blo≤bhi) (h4:bhi≤Bs.length) (h5:As.length<200) (h6:Bs.length<200):
 CtA C A (.ref 214) [.r x,.i (alo:Int),.i (ahi:Int),.i (blo:Int),.i (bhi:Int)] [] σ λm σ'=>m= .t (.ref 153) [.i ((bO As Bs blo bhi alo (ahi-alo)).1:Int),.i ((bO As Bs blo bhi alo (ahi-alo)).2.1:Int),.i ((bO As Bs blo bhi alo (ahi-alo)).2.2:Int)]∧∀b m,σ b=EU m->σ' b=EU m:=by
 refine aW G R (a:=214) (c:=213) (x:=aH 6 6) (n:="find_longest_match") (q:="SequenceMatcher.find_longest_match") (d:=(.ref 207)) (pm:=(.str "cpy313.difflib" 286)) (an:=none) (t:=559)
  (ps:=(["self","alo","ahi","blo","bhi"]:List Str).zip [.r x,.i (alo:Int),.i (ahi:Int),.i (blo:Int),.i (bhi:Int)]) s!"k" s!"k" s!"k" s!"k" [("len",.builtin "len"),("range",.type "range"),("Match",.ref 153)] s!"k" (λv=>vS G v) (ρ:=zL bS [EU (.r x),EU (.i (alo:Int)),EU (.i (ahi:Int)),EU (.i (blo:Int)),EU (.i (bhi:Int)),none,none,none,none,none,none,none,none,none,none,none,none,none,none]) s!"k" λQf hQf X hC O R' hin hg hE=>?_
 subst hC
 have N:=kn G
 have hd:=zo
 have i_self:gI bS 0=EU "self" :=rfl
 have i_alo:gI bS 1=EU "alo" :=rfl
 have i_ahi:gI bS 2=EU "ahi" :=rfl
 have i_blo:gI bS 3=EU "blo" :=rfl
 have i_bhi:gI bS 4=EU "bhi" :=rfl
 have i_a:gI bS 5=EU "a" :=rfl
 have i_b:gI bS 6=EU "b" :=rfl
 have i_b2j:gI bS 7=EU "b2j" :=rfl
 have i_isbjunk:gI bS 8=EU "isbjunk" :=rfl
 have i_besti:gI bS 9=EU "besti" :=rfl
 have i_bestj:gI bS 10=EU "bestj" :=rfl
 have i_bestsize:gI bS 11=EU "bestsize" :=rfl
 have i_j2len:gI bS 12=EU "j2len" :=rfl
 have i_nothing:gI bS 13=EU "nothing" :=rfl
 have i_i:gI bS 14=EU "i" :=rfl
 have i_j2lenget:gI bS 15=EU "j2lenget" :=rfl
 have i_newj2len:gI bS 16=EU "newj2len" :=rfl
 have i_j:gI bS 17=EU "j" :=rfl
 have i_k:gI bS 18=EU "k" :=rfl
 have g_len:X.gs.lookup (EW "len")=EU (.builtin "len" :Value):=hg▸s!"k"
 have g_range:X.gs.lookup (EW "range")=EU (.type "range" :Value):=hg▸s!"k"
 have g_Match:X.gs.lookup (EW "Match")=EU (.ref 153:Value):=hg▸s!"k"
 clear hg
 conv=>arg 2;whnf
 refine xa4 S.at λn_a n_b n_d n_j z1=>?_;refine xa2 z1 λn_m _ n_l=>?_;clear z1
 have e1:=S.i
 have e2:=S.n
 have ejs:=S.js
 refine aa (aA hin s!"2" (aI ⟨trivial,?_⟩))
 repeat walk_at "s"
 refine ut s!"sg" ?_
 repeat walk_at "s"
 refine jH (x:="besti") (y:="bestj") (z:="bestsize") O s!"2" (by refine xe2 hE λ_ _ hE=>?_;rw[hE];kernel_rfl) ?_
 repeat walk_at "s"
 refine oC hd ‹_› ‹_› ‹_› rfl rfl rfl ?_
 repeat walk_at "s"
 refine ke (intKind pgm X.C.w) λdj0 nd0=>?_
 dsimp only
 repeat walk_at "s"
 refine λnl nnl=>?_
 dsimp only at nd0 nnl⊢
 repeat walk_at "s"
 have nd0':σ dj0=none:=nd0
 have hdj0:dj0≠nl:=aj nnl (Sg.put_same ..)
 have f0:∀b m,σ b=EU m->((σ.put dj0 (dO (intKind pgm X.C.w) [])).put nl (.lst [])) b=EU m:=λb m hb=>by
  have q:=aj nd0 hb
  rw[Sg.put_ne _ _ (aj nnl ((Sg.put_ne _ _ q).trans hb)),Sg.put_ne _ _ q];exact hb
 have s_dj:((σ.put dj0 (dO (intKind pgm X.C.w) [])).put nl (.lst [])) dj0=EU (dO (intKind pgm X.C.w) []):=s!"sg"
 have s_nl:((σ.put dj0 (dO (intKind pgm X.C.w) [])).put nl (.lst [])) nl=EU (.lst []):=s!"sg"
 generalize (σ.put dj0 (dO (intKind pgm X.C.w) [])).put nl (.lst [])=σ1 at f0 s_dj s_nl⊢
 clear nnl
 have g_la:=f0 _ _ ela
 have g_lb:=f0 _ _ elb
 have g_js:=f0 _ _ ejs
 have g_x:=f0 _ _ e1
 have g_dx:=f0 _ _ e2
 refine fy S.ix λl q1 q2 q3 q4 q5=>?_
 have g_d:=f0 _ _ q1
 refine fK (mo:=λi=>rgI ((alo:Int)+i) (((ahi-alo:Nat):Int)-i)) (vs:=cY alo (ahi-alo)) (Cond:=λ_=>True)
  (λt=>Az bS (λa:Addr×List (Int×MV)×OM×OM×OM×OM×OM=>flV x la lb d js nl alo ahi blo bhi (bO As Bs blo bhi alo t) (EU (.r a.1)) a.2.2) λa=>FJ X.C.w σ1 dj0 As Bs alo t a.1 a.2.1) (gB O alo (ahi-alo)) (λ_=>s!"2") (λ_ _=>s!"2")
  (bP O g_range trivial (ac (bd O hd ‹_› rfl (ac (bd O hd ‹_› rfl (ag (pN (st:=⟨σ1,_⟩) λrb nb=>⟨.mk (dj0,[],none,none,none,none,none) ⟨λb m hb _=>(Sg.put_ne _ _ (aj nb hb)).trans hb,
   (Sg.put_ne _ _ (aj nb s_dj)).trans s_dj,.nil⟩,iq (iGe (.refl true)) (by exact jTT (E3 (EY h1 h2) h5) s!"d") (iGe (.refl true)) (by exact jTT (E3 h2 h5) s!"d") (ahi-alo) (EC (by exact h1)) (Sg.put_same ..)⟩)))))))
  (λ_ _ _=>trivial) ?_ ?_
 ·rintro J1 hJ1 t ht _ ⟨⟨dj,lj,ui,ujg,unj,uj,uk⟩,h⟩
  rename_i σ2
  obtain ⟨f2,edj,r1,r2⟩:=h
  have ht':t<ahi-alo:=by simpa[cY] using ht
  have hA:alo+t<As.length:=by exact E1 (Nat.add_lt_of_lt_sub' ht') h2
  have ei:(cY (alo:Int) (ahi-alo))[t]= .i ((alo+t:Nat):Int):=by simp only[cY,F8,Kx];congr 1
  rw[ei]
  refine cG O hd ‹_› rfl ?_
  refine aa (ah s!"2" s!"2" trivial (bh s!"2" (bd O hd ‹_› rfl (Ec edj (cG O hd ‹_› rfl ?_)))))
  refine aa (ah s!"2" s!"2" trivial (ke (intKind pgm X.C.w) λdn nn=>?_))
  refine cG O hd ‹_› rfl ?_
  dsimp only at nn f2 edj⊢
  have la_dj:la≠dj0:=λh=>by clear nd0 nd0' hdj0 hJ1 f2;subst h;rw[g_la] at s_dj;cases s_dj
  have d_dj:d≠dj0:=λh=>by
   clear nd0 hdj0 s_dj hJ1 f2 la_dj;subst h
   have:σ d=none:=nd0'
   rw[q1] at this;cases this
  have keep2:∀b m,σ b=EU m->σ2 b=EU m:=λb m hb=>f2 b m (f0 b m hb) (λh=>by clear nd0 hdj0 s_dj hJ1 f2 la_dj d_dj;subst h;rw[nd0'] at hb;cases hb)
  have keep3:∀b m,σ2 b=EU m->(σ2.put dn (dO (intKind pgm X.C.w) [])) b=EU m:=λb m hb=>(Sg.put_ne _ _ (aj nn hb)).trans hb
  have s_nl3:=keep3 _ _ (f2 _ _ s_nl (E8 hdj0))
  have s_la3:=keep3 _ _ (keep2 _ _ ela)
  have s_d3:=keep3 _ _ (keep2 _ _ q1)
  have s_dj3:=keep3 _ _ edj
  have s_dn3:(σ2.put dn (dO (intKind pgm X.C.w) [])) dn=EU (dO (intKind pgm X.C.w) []):=Sg.put_same ..
  have f3:∀b m,σ1 b=EU m->b≠dj0->(σ2.put dn (dO (intKind pgm X.C.w) [])) b=EU m:=λb m hb nb=>keep3 b m (f2 b m hb nb)
  have o1:∀b m,σ1 b=EU m->b≠dj0->b≠dn:=λb m hb nb=>aj nn (f2 b m hb nb)
  have dj_dn:dj≠dn:=aj nn edj
  obtain ⟨w,hw⟩:∃w,w=As[alo+t]:=⟨_,rfl⟩
  have hw?:As[alo+t]?=EU w:=by rw[hw];exact E2 hA
  obtain ⟨lx,hlx,elx⟩:∃lx,(bw l w).getD (.r nl)= .r lx∧(σ2.put dn (dO (intKind pgm X.C.w) [])) lx=EU (.lst (iL (bC Bs w))):=by
   cases hm:bw l w with
   |none=>
    refine (af nl rfl ?_)
    rw[s_nl3,mY λhmem=>?_]
    ·rfl
    ·obtain ⟨a,ha⟩:=q4 w (by rw[Go];exact hmem)
     rw[hm] at ha;cases ha
   |some m=>
    refine ad (q3 w m hm) λax z1 z2=>?_;clear hm;subst z1;refine xa2 z2 λ_ _ hax=>?_;clear z2
    rw[Go] at hax
    exact (af ax rfl (keep3 _ _ (keep2 _ _ hax)))
  have lx_dn:lx≠dn:=λh=>by clear nn keep3 s_nl3 s_la3 s_d3 s_dj3 f3 o1 dj_dn;subst h;rw[s_dn3] at elx;cases elx
  have hpl:(bC Bs w).length≤1:=hr.uniq w (by rw[hw];exact Fy _)
  have hhit:hit As Bs blo bhi (alo+t)=(bC Bs w).find? λj=>decide (blo≤j∧j<bhi):=by unfold hit;rw[hw?]
  generalize hσ3:σ2.put dn (dO (intKind pgm X.C.w) [])=σ3 at keep3 s_nl3 s_la3 s_d3 s_dj3 s_dn3 f3 elx⊢
  let P:St->Prop:=Az bS (λa:OM×List (Int×MV)×OM×OM×OM×OM=>flV x la lb d js nl alo ahi blo bhi (bO As Bs blo bhi alo (t+1)) a.1 (a.2.2.1,a.2.2.2.1,EU (.r dn),a.2.2.2.2.1,a.2.2.2.2.2))
   λa σ=>σ lx=EU (.lst (iL (bC Bs w)))∧FJ X.C.w σ1 dj0 As Bs alo (t+1) dn a.2.1 σ
  refine aa (j9 (Q':=λfl st=>fl= .next∧P st) ?_ ?_)
  rotate_left
  ·intro _ _ zr1;refine xa1 zr1 λz3 z4=>?_;clear zr1;subst z3;obtain ⟨⟨_,lj',_,_,_,_⟩,_,p⟩:=z4
   exact aa (ah s!"2" s!"2" trivial (bd O hd ‹_› rfl (cG O hd ‹_› rfl (ak (hJ1 _ _ (.mk (dn,lj',_,_,_,_,_) p))))))
  generalize hst3:(St.mk σ3 _)=st3
  have P0:hit As Bs blo bhi (alo+t)=none->P st3:=λhn=>by
   subst hst3
   have eb:bO As Bs blo bhi alo (t+1)=bO As Bs blo bhi alo t:=iM (.inl hn)
   show Az _ _ _ _
   rw[eb]
   exact .mk (_,[],_,_,_,_) ⟨elx,f3,s_dn3,.nil⟩
  refine fK (mo:=λi=> .itl lx i) (vs:=iL (bC Bs w)) (Cond:=λst=>st.σ lx=EU (.lst (iL (bC Bs w)))) (λn st=>(n=0∧st=st3)∨(n=1∧P st)) (ci O lx _) (λ_=>s!"2") (λ_ _=>s!"2")
   ?_ (λi st h=>by rcases h with ⟨_,rfl⟩|⟨_,⟨_,h⟩⟩;exact hst3▸elx;exact h.1) ?_ ?_
  ·clear P0;subst hst3
   exact (bp (T:="dict") (id:="dict.get") trivial s!"2" s!"d" s!"2" Ls JK PySem.F.type_dict_get (bd O hd ‹_› rfl ⟨mU s_d3,ac (aP (bd O hd ‹_› rfl (bd O hd ‹_› rfl
    (aY (st:=⟨σ3,_⟩) (co (λ_ _=>s!"r") (λ_ _=>s!"r")) s_la3 (Ff _) (iTT (Fq hA h5) (.refl true)) (m:= .s w) (by rw[FU,Fx,hw?];rfl)
     (ac (bd O hd ‹_› rfl (ag (Cf (st:=⟨σ3,_⟩) G qi s_d3 (by rw[hlx];exact ⟨.inl ⟨rfl,rfl⟩,cB elx⟩)))))))))⟩))
  ·intro J2 hJ2 n hn st hst
   have lw:(iL (bC Bs w)).length=(bC Bs w).length:=by simp[iL]
   have hn0:n=0:=by exact OT.mp (E1 hn (lw▸hpl))
   subst hn0
   rcases hst with ⟨_,rfl⟩|⟨h0,_⟩
   rotate_left
   ·exact absurd (E6 (I4 h0)) s!"d"
   obtain ⟨j,hj⟩:∃j,bC Bs w=[j]:=by
    cases hp:bC Bs w with
    |nil=>rw[lw,hp] at hn;simp at hn
    |cons j r=>
     rw[hp] at hpl
     cases r with
     |nil=>exact ⟨j,rfl⟩
     |cons _ _=>simp at hpl
   have hBj:Bs[j]?=EU w:=d7.mp (by rw[hj];simp)
   have hjl:j<Bs.length:=(E5.mp hBj).1
   have ev:(iL (bC Bs w))[0]= .i (j:Int):=by simp[iL,hj]
   rw[ev]
   clear P0;subst hst3
   refine cG O hd ‹_› rfl ?_
   refine aa (bl (aC s!"r" (bd O hd ‹_› rfl (bd O hd ‹_› rfl (gZ (ay ?_))))))
   have PJ:hit As Bs blo bhi (alo+t)=none->P ⟨σ3,zL bS (flV x la lb d js nl alo ahi blo bhi (bO As Bs blo bhi alo t) (EU (.r dj)) (EU (.i ((alo+t:Nat):Int)),EU (.bm "dict.get" (.r dj)),EU (.r dn),EU (.i (j:Int)),uk))⟩:=λhn=>by
    have eb:bO As Bs blo bhi alo (t+1)=bO As Bs blo bhi alo t:=iM (.inl hn)
    show Az _ _ _ _
    rw[eb]
    exact .mk (_,[],_,_,_,_) ⟨elx,f3,s_dn3,.nil⟩
   by_cases c1:j<blo
   ·refine ift s!"tt" ?_
    repeat walk_at "s"
    exact hJ2 _ _ (.inr ⟨rfl,PJ (by rw[hhit,hj];simp;exact λz_h=>absurd c1 (F9.mpr z_h))⟩)
   refine aD s!"ff" ?_
   repeat walk_at "s"
   by_cases c2:bhi≤j
   ·refine ift s!"tt" ?_
    repeat walk_at "s"
    exact ⟨rfl,PJ (by rw[hhit,hj];simp;exact DD c2)⟩
   refine aD s!"ff" ?_
   repeat walk_at "s"
   have hh:hit As Bs blo bhi (alo+t)=EU j:=by rw[hhit,hj];simp;exact ⟨F9.mp c1,Nat.not_le.mp c2⟩
   have hno:bw lj ((j:Int)-1)=none:=by
    cases hm:bw lj ((j:Int)-1) with
    |none=>rfl
    |some m=>
     refine lr (r2 _ _ hm) λj' w' k1 k2 k3 k4=>?_
     have ej:j=j'+1:=by exact HH.mp (show (_:Int)=((_+1:Nat):Int) from Int.sub_eq_iff_eq_add.mp k1)
     exact absurd (ej▸hBj) (hr.adj (alo+t-1) j' w' w k3 k4 (by rw[show alo+t-1+1=alo+t by exact GV (EY k2 (Hi _ _))];exact hw?))
   refine fj (st:=⟨σ3,_⟩) O (id:="dict.get") (a:=dj) (lkI hd ‹_› rfl) trivial (ac (ar (bd O hd ‹_› rfl (aq (eY (ac (aq (ag (zz G vx s_dj3 ?_)))))))))
   rw[hno]
   refine aq (c0 ?_)
   refine cG O hd ‹_› rfl ?_
   refine eR (λ_ _ _=>rfl) (bd O hd ‹_› rfl (bd O hd ‹_› rfl (Al vx s_dn3 trivial s!"4" ?_)))
   have f5:∀b m,b≠dn->σ3 b=EU m->(σ3.put dn (dO (intKind pgm X.C.w) (cJ [] (j:Int) (.i (0+1))))) b=EU m:=λb m nb hb=>(Sg.put_ne _ _ nb).trans hb
   have s_dn5:(σ3.put dn (dO (intKind pgm X.C.w) (cJ [] (j:Int) (.i (0+1))))) dn=EU (dO (intKind pgm X.C.w) (cJ [] (j:Int) (.i (0+1)))):=Sg.put_same ..
   have r5:Row1 As Bs alo (t+1) (cJ [] (j:Int) (.i (0+1))):=⟨by simp[cJ],λkey m hm=>by
    rw[h9] at hm
    by_cases q:key=(j:Int)
    ·exact (fB j w q (by exact Hi _ _) (by rw[show alo+(t+1)-1=alo+t by exact rfl];exact hw?) hBj)
    ·rw[if_neg q] at hm;simp[bw] at hm⟩
   refine aa (bl (aC s!"r" (bd O hd ‹_› rfl (bd O hd ‹_› rfl (iu (ay ?_))))))
   cases hf:fhp As Bs blo bhi alo t with
   |some rr=>
    have eb:bO As Bs blo bhi alo (t+1)=bO As Bs blo bhi alo t:=iM (.inr (by rw[hf];rfl))
    have b22:(bO As Bs blo bhi alo t).2.2=1:=by rw[m4,hf];rfl
    refine aD (by rw[b22];decide) ?_
    repeat walk_at "s"
    refine hJ2 _ _ (.inr ⟨rfl,?_⟩)
    show Az _ _ _ _
    rw[eb]
    exact .mk (_,_,_,_,_,_) ⟨f5 lx _ lx_dn elx,λb m hb nb=>f5 b m (o1 b m hb nb) (f3 b m hb nb),s_dn5,r5⟩
   |none=>
    have eb:bO As Bs blo bhi alo (t+1)=(alo+t,j,1):=v4 hh hf
    have b22:(bO As Bs blo bhi alo t).2.2=0:=by rw[m4,hf];rfl
    refine ift (by rw[b22];decide) ?_
    repeat walk_at "s"
    refine jH (x:="besti") (y:="bestj") (z:="bestsize") O s!"2" (by refine xe2 hE λ_ _ hE=>?_;rw[hE];kernel_rfl) ?_
    repeat walk_at "s"
    refine oC hd ‹_› ‹_› ‹_› rfl rfl rfl ?_
    repeat walk_at "s"
    refine hJ2 _ _ (.inr ⟨rfl,?_⟩)
    show Az _ _ _ _
    rw[eb,show ((alo+t:Nat):Int)-(0+1)+1=((alo+t:Nat):Int) from NS _ 1,show (j:Int)-(0+1)+1=(j:Int) from NS _ 1]
    exact .mk (_,_,_,_,_,_) ⟨f5 lx _ lx_dn elx,λb m hb nb=>f5 b m (o1 b m hb nb) (f3 b m hb nb),s_dn5,r5⟩
  ·intro st hst
   have lw:(iL (bC Bs w)).length=(bC Bs w).length:=by simp[iL]
   rcases hst with ⟨h0,rfl⟩|⟨h0,h⟩
   ·rw[lw] at h0
    exact ak ⟨rfl,P0 (by rw[hhit,FS.mp h0];rfl)⟩
   ·exact ak ⟨rfl,h⟩
 ·rintro _ ⟨⟨dj,lj,u⟩,h⟩
  rename_i σ2
  have f2:=h.f
  dsimp only at f2⊢
  rw[show (cY (alo:Int) (ahi-alo)).length=ahi-alo by simp[cY]]
  have keep2:∀b m,σ b=EU m->σ2 b=EU m:=λb m hb=>f2 b m (f0 b m hb) (λh=>by clear nd0 hdj0 s_dj f2;subst h;rw[nd0'] at hb;cases hb)
  refine ak (ae ?_)
  generalize hp:bO As Bs blo bhi alo (ahi-alo)=p
  refine xa3 (ti hr h1 h2 h3 h4 hp.symm) λB1 B2 B3 B4=>?_
  exact rD G O R' g_Match (keep2 _ _ ela) (keep2 _ _ elb) (keep2 _ _ ejs) h2 h4 h5 h6 B1 B2 (lkI hd ‹_› rfl) (lkI hd ‹_› rfl) (lkI hd ‹_› rfl) (lkI hd ‹_› rfl) (lkI hd ‹_› rfl) (lkI hd ‹_› rfl) (lkI hd ‹_› rfl) (lkI hd ‹_› rfl) (lkI hd ‹_› rfl) (lkI hd ‹_› rfl) B3 B4 (hQf _ _ ⟨hp▸rfl,keep2⟩)
end
section
noncomputable def Sq (h:Heap) (t:Addr) (items:Array Value):Prop:=∃o n,h.get? t=EU o∧o.data= .seq items n
theorem Sq.extBut {t:Addr} (x:Sq h t items) (e:Heap.ExtBut b h h') (ne:t≠b):Sq h' t items:=by
 refine am x λo n ho hd=>?_;exact (cz o n (e _ _ ne ho) hd)
theorem Sq.push {h:Heap} {t:Addr} {items:Array Value} (x:Sq h t items) (o:Obj):Sq (h.push o) t items:=by
 refine am x λo' n ho hd=>?_;exact (cz o' n (Heap.get?_push_of_some _ ho) hd)
section
variable {t:Addr}
variable {prog:Program} {w:FH} {A:Gk} {E:Value->Shared->Prop} {s:Shared} {dv:Addr->Value}
theorem jh {x:Value} {Q:Option Value->Shared->Prop} (hit:Js s.heap it t i) (ht:Sq s.heap t items) (hx:items[i]?=EU x)
 (hQ:∀h',Js h' it t (i+1)->Heap.SameBut it s.heap h'->Q (EU x) {s with heap:=h'}):E4 (Fa prog w) A (HM (.ref it)) Q E s:=by
 refine aV (id hit) λo ho hc hd=>?_;refine am ht λol nl hol hdl=>?_;clear ht;unfold HM;refine EX (HW (Gn (name:=EW "__next__") hit.typeIs Hz
  (Gv Hz hit.typeIs Ot ?_ (OF _))))
 show E4 _ _ (Mk (.ref it) 0>>=_) _ _ s;refine EX (Hl ho hd (x:= .ref t) rfl ?_);show E4 _ _ (if (GS t==FG)=true then _ else _) _ _ s;rw[if_neg (show¬((GS t==FG)=true) from I6)];show E4 _ _ (Mk (.ref it) 1>>=_) _ _ s;refine EX (Hl ho hd (x:= .int i 0) rfl ?_);show E4 _ _ (Jr (.ref t)>>=_) _ _ s;refine EX (GQ hol hdl ?_);simp only[FU,hx];refine EX (wpAny_setField ho hd s!"4" (E0 (af x rfl (E0 (hQ _ ?_ (Heap.SameBut.update ..))))))
 exact ⟨_,Heap.get?_update_self _ ho (Nc (Jd hd _)),(N2 ..).trans hc,by
  rw[Jd hd];simp[Kh]⟩
theorem jS {Q:Option Value->Shared->Prop} (hh:A.handled=none) (hit:Js s.heap it t i) (ht:Sq s.heap t items) (hx:items[i]?=none)
 (hQ:∀h',Heap.ExtBut it s.heap h'->Q none {s with heap:=h'}):E4 (Fa prog w) A (HM (.ref it)) Q E s:=by
 refine aV (id hit) λo ho hc hd=>?_;refine am ht λol nl hol hdl=>?_;clear ht;unfold HM;refine EX (HW (Gn (name:=EW "__next__") hit.typeIs Hz
  (Gv Hz hit.typeIs Ot ?_ (OF _))))
 show E4 _ _ (Mk (.ref it) 0>>=_) _ _ s;refine EX (Hl ho hd (x:= .ref t) rfl ?_);show E4 _ _ (if (GS t==FG)=true then _ else _) _ _ s;rw[if_neg (show¬((GS t==FG)=true) from I6)];show E4 _ _ (Mk (.ref it) 1>>=_) _ _ s;refine EX (Hl ho hd (x:= .int i 0) rfl ?_);show E4 _ _ (Jr (.ref t)>>=_) _ _ s;refine EX (GQ hol hdl ?_);simp only[FU,hx];refine EX (HL (EX (wpAny_setField ho hd s!"4" ?_)));show E4 _ _ (QN (.type "StopIteration") []>>=_) _ _ _;refine EX ?_;simp only[QN,newTuple];refine EX (GD ?_ (by size_fits));refine EX (m:=KH _ _) (FN (a:=FG) (by first|rfl|(simp only[KH];rfl)) ?_);refine GD ?_ (by size_fits);simp only[raiseNew];refine EX (Ra ?_)
 first|rw[show A.in1.handled=none from hh]|rw[hh]
 refine EX (E0 (wpAny_throw ?_));refine EX (LV (T:="StopIteration") (b:=true) (af _ (Heap.get?_push_size _ rfl) rfl) QO ?_);exact E0 (hQ _ (((Heap.SameBut.update ..).extBut.push _).push _))
theorem rL {it t:Addr} {items:Array Value} (hne:t≠it):∀(n i:Nat) (s:Shared) (Q:List Value->Shared->Prop),Js s.heap it t i->Sq s.heap t items->i+n≤items.size->
 (∀h',Js h' it t (i+n)->Heap.SameBut it s.heap h'->Q ((items.toList.drop i).take n) {s with heap:=h'})->E4 (Fa prog w) A (draw (.ref it) n) Q E s
 |0,i,s,Q,hit,_,_,hQ=>by
  show E4 _ _ (pure []) Q E s;exact E0 (by simpa using hQ s.heap hit (Heap.SameBut.refl ..))
 |n+1,i,s,Q,hit,ht,hle,hQ=>by
  have hlt:i<items.size:=by exact EQ hle
  show E4 _ _ (HM (.ref it)>>=_) Q E s;refine EX (jh hit ht (x:=items[i]) (by simp[hlt]) λh₁ hit₁ hs₁=>?_);refine EX (wpAny_holding (rL hne n (i+1) _ _ hit₁ (ht.extBut hs₁.extBut hne) (by exact Dp hle) λh₂ hit₂ hs₂=>E0 ?_));have hd:items.toList.drop i=items[i]::items.toList.drop (i+1):=by simp[Jg,hlt]
  have:=hQ h₂ (by rw[show i+(n+1)=i+1+n by exact Dl];exact hit₂) (hs₁.trans hs₂);rw[hd,List.take_succ_cons] at this;exact this
theorem xx (P:F0) (dv:Addr->Value) (S:Hy):peek (KD P dv) S (Gp (.ref 153) "__iter__")=EU (EU (.builtin "tuple.__iter__")):=s!"k"
theorem kM {Q:Value->Shared->Prop} (X:(KD w.params dv).In s.heap) (ho:s.heap.get? t=EU o) (hc:o.cls= .ref 153)
 (hQ:Q (.ref s.heap.objs.size) {s with heap:=s.heap.push {cls:= .type "tuple_iterator",data:= .fields #[.ref t,.int 0 0]}}):E4 (Fa prog w) A (Jz (.ref t)) Q E s:=by
 have ty:Ft (Fa prog w) s.heap (GX (.ref t)) (.ref 153):=by rw[←hc];exact (Ft.ld ho).andThen .now
 have L1:=Ft.of_peek (M:=Fa prog w) X (xx w.params dv ⟨prog,w.params⟩);have L2:=ty.andThen (f:=λt=>GG t (.type "tuple")) (Ft.of_peek (M:=Fa prog w) X (jo w.params dv ⟨prog,w.params⟩));have SP:Ft (Fa prog w) s.heap (Hf (.ref t) "__iter__") (EU (.builtin "tuple.__iter__")):=ty.andThen L1
 have hcall:E4 (Fa prog w) A (call (.builtin "tuple.__iter__") [.ref t]) (λit s'=>it= .ref s.heap.objs.size∧s'={s with heap:=s.heap.push {cls:= .type "tuple_iterator",data:= .fields #[.ref t,.int 0 0]}}) E s:=by
  refine wpAny_call (F1 Qj.plain entry_tuple_iter (@K6 (Fa prog w) _ _ _ "tuple.__iter__" "tuple" "__iter__" (.ref t) [] [] _ s!"1" s!"1" L2 (args_tuple_iter _) ?_));show E4 _ _ (do ret (←newFields "tuple_iterator" [.ref t,Kh 0])) _ _ s;exact EX (GD (E0 ⟨rfl,rfl⟩))
 unfold Jz;refine EX (SP.here ?_);show E4 _ _ (Ml _ "__iter__" _>>=_) Q E s;refine EX ?_;simp only[Ml,OG];refine wpAny_holding (EX (EX (SP.here ?_)));simp only[Qj.bind];refine EX (LI (wpAny_ite ?_));have fin:∀(refuse:KW Value) (R:Option Value->Shared->Prop),R (EU (.ref s.heap.objs.size)) {s with heap:=s.heap.push {cls:= .type "tuple_iterator",data:= .fields #[.ref t,.int 0 0]}}->
  E4 (Fa prog w) A (if (LR "tuple.__iter__" ==FG)=true then (refuse>>=λv=>pure (EU v)) else (call (.builtin "tuple.__iter__") [.ref t]>>=λv=>pure (EU v))) R E s:=λrefuse R hr=>by
  simp only[builtin_beq_none,FL,if_false];refine EX (FB hcall (λv s' h'=>?_) λ_ _ h'=>h');refine b8 h' λz2=>?_;clear h';subst z2;exact E0 hr
 have last:∀R:Shared->Prop,R {s with heap:=s.heap.push {cls:= .type "tuple_iterator",data:= .fields #[.ref t,.int 0 0]}}->True:=λ_ _=>trivial;split
 ·refine EX (E0 (E0 (fin _ _ ?_)));exact EX (It (T:="tuple_iterator") (af _ (Heap.get?_push_size _ rfl) rfl) Hz.lookup (E0 hQ))
 ·refine Ie (EX (E0 (E0 (fin _ _ ?_))));exact EX (It (T:="tuple_iterator") (af _ (Heap.get?_push_size _ rfl) rfl) Hz.lookup (E0 hQ))
theorem jL {Q:List Value->Shared->Prop} (X:(KD w.params dv).In s.heap) (hh:A.handled=none) (ho:s.heap.get? t=EU o) (hc:o.cls= .ref 153) (hd:o.data= .seq items n)
 (hQ:∀h',Heap.ExtBut s.heap.objs.size s.heap h'->Q items.toList {s with heap:=h'}):E4 (Fa prog w) A (unpackItems (.ref t) items.size none) Q E s:=by
 have hlt:t≠s.heap.objs.size:=Fh (Heap.lt_size ho);have ty:Ft (Fa prog w) s.heap (GX (.ref t)) (.ref 153):=by rw[←hc];exact (Ft.ld ho).andThen .now
 have L1:=Ft.of_peek (M:=Fa prog w) X (xx w.params dv ⟨prog,w.params⟩);have SP:Ft (Fa prog w) s.heap (Hf (.ref t) "__iter__") (EU (.builtin "tuple.__iter__")):=ty.andThen L1;have ht:Sq s.heap t items:=(cz o n ho hd)
 unfold unpackItems;refine EX ?_;unfold notIterableAtAll;refine EX (SP.here ?_);refine E0 ?_;simp only[FL,if_false];refine EX (wpAny_holding (kM X ho hc ?_));refine EX (wpAny_holding (rL hlt items.size 0 _ _ (aR _ (Heap.get?_push_size _ rfl) rfl rfl) (ht.push _) (by exact DV) λh₁ hit₁ hs₁=>?_))
 have hall:List.take items.size (Mu 0 items.toList)=items.toList:=by
  rw[Kb];exact HC s!"4"
 rw[hall];rw[if_neg s!"4"];have ht₁:Sq h₁ t items:=(ht.push _).extBut hs₁.extBut hlt;refine EX (wpAny_holding (jS hh hit₁ ht₁ s!"4" λh₂ he₂=>?_));simp only[Option.isSome_none,FL,if_false];refine E0 (hQ h₂ λb o hb e=>he₂ b o hb (hs₁.extBut b o hb (Heap.get?_push_of_some _ e)))
end
theorem j6 {st:St} (O:XOk X) (N:Kn X) {ts:List G0} {k pos} {Q:St->Prop} (hs:Starless ts) (hn:ts.length=ms.length) (h:WAs X ts ms st Q):WA X (.Tuple ts k pos) (.t (.ref 153) ms) st Q:=λφ s v I r=>by
 refine bx r λa o items n z1 z2=>?_;clear r;subst z1;refine xa4 z2 λe2 e3 e4 e5 e6=>?_;have ea:=ca X.env hs;have len:=e6.length;have hl:(MN ts X.env).length=items.size:=by rw[ea];simp only[EZ,hn];rw[←len];simp
 rw[assign_Tuple];refine EX (GH ?_);unfold unpack;rw[hl,show (MN ts X.env).findIdx? (·.1)=none by rw[ea];simp[Lz]];refine EX (wpAny_holding (jL (I.kin N) O.hh e2 e4 e5 λh' he=>?_));rw[ea,FR];have k:=mn he;exact ab (pC (φ:=φ) h (I.grow k s.toks) (e6.keep (aB k))) λ_ s₂ p=>p.trans (aB k)
end
section
section
variable {t u:Addr} {b:Int} {ys:List Value} {m:Nat}
variable {prog:Program} {w:FH} {A:Gk} {E:Value->Shared->Prop} {s:Shared} {dv:Addr->Value}
theorem yZ (P:F0) (dv:Addr->Value) (S:Hy):peek (KD P dv) S (Gp (.ref 153) "__lt__")=EU (EU (.builtin "tuple.__lt__")):=s!"k"
theorem nZ {a:Int} {R:Fin->Shared->Prop} (X:(KD w.params dv).In s.heap) (ho:s.heap.get? t=EU o) (ho':s.heap.get? u=EU o') (hc':o'.cls= .ref 153)
 (hd:o.data= .seq ((.int a ta)::xs).toArray n) (hd':o'.data= .seq ((.int b tb)::ys).toArray m) (ne:a≠b) (h:R (.done (.ret (.bool (decide (a<b))))) s):
 E4 (Fa prog w) A (Builtin.«tuple.__lt__» ⟨[.ref t,.ref u],[]⟩) R E s:=by
 obtain ⟨hp,g,dd,tk,os⟩:=s;have L2:=Ft.of_peek (M:=Fa prog w) X (jo w.params dv ⟨prog,w.params⟩)
 wp_walk using GP ho,GP ho'
 rw[hc'];refine L2.at ?_
 wp_walk using GP ho,GP ho'
 rw[hd]
 wp_walk using GP ho,GP ho'
 rw[hd'];refine E0 ?_;refine E0 ?_;refine EX ?_;show E4 _ _ (forIn ((Jx a ta,Jx b tb)::xs.zip ys) _ _) _ _ _;rw[G2];refine EX (EX (LE ?_));have e:(a==b)=false:=by simpa using ne
 simp only[e,Ka,if_true];refine EX (EX (HL (E0 (a:=()) (EX ?_))));show E4 _ _ (Fu .Lt (.int a ta) (.int b tb)) _ _ _;refine NM ?_
 wp_walk
 exact h
theorem nM {a:Int} {Q:Value->Shared->Prop} (X:(KD w.params dv).In s.heap) (ho:s.heap.get? t=EU o) (ho':s.heap.get? u=EU o') (hc:o.cls= .ref 153) (hc':o'.cls= .ref 153)
 (hd:o.data= .seq ((.int a ta)::xs).toArray n) (hd':o'.data= .seq ((.int b tb)::ys).toArray m) (ne:a≠b) (h:Q (.bool (decide (a<b))) s):
 E4 (Fa prog w) A (call (.builtin "tuple.__lt__") [.ref t,.ref u]) Q E s:=by
 have ty:Ft (Fa prog w) s.heap (GX (.ref t)) (.ref 153):=by rw[←hc];exact (Ft.ld ho).andThen .now
 have L2:=ty.andThen (f:=λt=>GG t (.type "tuple")) (Ft.of_peek (M:=Fa prog w) X (jo w.params dv ⟨prog,w.params⟩));refine wpAny_call (F1 G8.plain Jy (@K6 (Fa prog w) _ _ _ "tuple.__lt__" "tuple" "__lt__" (.ref t) [.ref u] [] _ s!"1" s!"1" L2 (Jk _ _) ?_));exact nZ (A:=A.in1) X ho ho' hc' hd hd' ne h
theorem q9 {a:Int} {Q:Bool->Shared->Prop} (X:(KD w.params dv).In s.heap) (hu:A.units<cLine) (ho:s.heap.get? t=EU o) (ho':s.heap.get? u=EU o') (hc:o.cls= .ref 153) (hc':o'.cls= .ref 153)
 (hd:o.data= .seq ((.int a ta)::xs).toArray n) (hd':o'.data= .seq ((.int b tb)::ys).toArray m) (ne:a≠b) (h:Q (decide (a<b)) s):
 E4 (Fa prog w) A (oneLt' true (.ref t) (.ref u)) Q E s:=by
 have ty:Ft (Fa prog w) s.heap (GX (.ref t)) (.ref 153):=by rw[←hc];exact (Ft.ld ho).andThen .now
 have L1:=Ft.of_peek (M:=Fa prog w) X (yZ w.params dv ⟨prog,w.params⟩);have SP:Ft (Fa prog w) s.heap (Hf (.ref t) "__lt__") (EU (.builtin "tuple.__lt__")):=ty.andThen L1;rw[oneLt'_eq];simp only[if_true];refine EX (wpAny_cRoomFor hu ?_);refine EX ?_;simp only[callSpecialIfBound?,OG];refine wpAny_holding (EX (EX (SP.here ?_)));simp only[G8.bind];refine EX (LI (wpAny_ite ?_))
 have fin:E4 (Fa prog w) A (call (.builtin "tuple.__lt__") ([.ref t]++[.ref u])>>=λv=>pure (EU v)) (λr s'=>E4 (Fa prog w) A (match r with
  |some .notImplemented|none=>do rule "list.sort.lt-declined";QP (←Mf .Lt (.ref t) (.ref u))
  |some r=>QP r) Q E s') E s:=
  EX (nM X ho ho' hc hc' hd hd' ne (E0 (Li h)))
 split
 ·exact EX (E0 (E0 fin))
 ·exact Ie (EX (E0 (E0 fin)))
end
end
section
section
variable {vs:List Value}
variable {prog:Program} {w:FH} {A:Gk} {E:Value->Shared->Prop} {s:Shared} {dv:Addr->Value}
theorem sG (v:Value):firstOfTuple' v=(do
 if (←GX v) != .type "tuple" then return none
 return (←I7 v)[0]?):=rfl
theorem sB {M:Model} {β:Type} {f:Value->KW β} {b:β}:∀{vs:List Value} {Q:List β->Shared->Prop},(∀v∈vs,∀Q:β->Shared->Prop,Q b s->E4 M A (f v) Q E s)->Q (vs.map λ_=>b) s->E4 M A (vs.mapM f) Q E s
 | [],Q,_,h=>by rw[List.mapM_nil];exact E0 h
 |v::vs,Q,hf,h=>by
  rw[List.mapM_cons];refine EX (hf v (.head _) _ ?_);exact EX (sB (λu hu=>hf u (.tail _ hu)) (E0 h))
theorem qJ {M:Model} {f:Value->KW β} {b:β} {Q:Array β->Shared->Prop} (hf:∀v∈vs,∀Q:β->Shared->Prop,Q b s->E4 M A (f v) Q E s) (h:Q (vs.map λ_=>b).toArray s):E4 M A (vs.toArray.mapM f) Q E s:=by
 rw[List.mapM_toArray,map_eq_pure_bind];exact EX (sB hf (E0 h))
theorem qU {M:Model} {c:Value} {v₁ v₂:Value} {Q:SortKind->Shared->Prop} (ht:∀v∈v₁::v₂::vs,∀Q:Value->Shared->Prop,Q c s->E4 M A (GX v) Q E s) (hc:(c != .type "tuple")=true) (hcc:(c==c)=true) (h:Q QQ s):
 E4 M A (keyKind' (v₁::v₂::vs).toArray) Q E s:=by
 rw[keyKind'_eq];refine EX (qJ (b:=none) (λv hv Q hq=>?_) ?_)
 ·rw[sG];refine EX (ht v hv _ ?_);rw[hc];exact E0 hq
 rw[if_neg s!"4",if_neg s!"4"];rw[oneTypeOnly'_eq];refine EX (EX (qJ (b:=c) (λv hv Q hq=>ht v hv Q hq) ?_));have h0:(Rb (λ_=>c) (v₁::v₂::vs)).toArray[0]?=EU c:=s!"4"
 rw[h0]
 have hall:((Rb (λ_=>c) (v₁::v₂::vs)).toArray.all λx=>x==c)=true:=by
  simp only[List.all_toArray,List.all_map,Fm];intro _ _;exact hcc
 simp only[hall,if_true];exact E0 (E0 h)
theorem Bx {c:Prop} [Decidable c] {a b:StateT JB KW α} {st:JB} {Q:α->JB->Prop} (hc:¬c) (h:wpS (Fa prog w) A E s b Q st):wpS (Fa prog w) A E s (if c then a else b) Q st:=by rw[if_neg hc];exact h
theorem DY {c:Prop} [Decidable c] {a b:StateT JB KW α} {st:JB} {Q:α->JB->Prop} (hc:c) (h:wpS (Fa prog w) A E s a Q st):wpS (Fa prog w) A E s (if c then a else b) Q st:=by rw[if_pos hc];exact h
theorem yF {a₀:Array Keyed} {st:JB} {Q:Unit->JB->Prop} (hk:kindOf st=QQ) (ha:arrOf st=a₀) (hp:Px st= #[]) (hf:MY st=none) (h2:2≤a₀.size) (h64:a₀.size<64)
 (hlt:∀i,1≤i->i<a₀.size->∃x y,a₀[i]?=EU x∧a₀[i-1]?=EU y∧∀(E:Value->Shared->Prop) (Q:Bool->Shared->Prop),Q false s->E4 (Fa prog w) A (oneLt' true x.1 y.1) Q E s)
 (h:∀st',arrOf st'=a₀->MY st'=none->Q () st'):wpS (Fa prog w) A E s sortRuns' Q st:=by
 have hltAt:∀{i:Nat} {Q:Option Bool->JB->Prop},1≤i->i<a₀.size->Q (EU false) st->wpS (Fa prog w) A E s (ltAt' i (i-1)) Q st:=λ{i} {Q} h1 h3 hq=>by
  refine bM (hlt i h1 h3) λz1 z2 e1 e2 e3=>?_;obtain ⟨x,p⟩:=z1;obtain ⟨y,q⟩:=z2;rw[ltAt'_eq];refine HT (NT ?_);show wpS _ _ _ _ (do let x←elem' (arrOf st) i;let y←elem' (arrOf st) (i-1);lt' x y) Q st;rw[elem'_eq,elem'_eq,ha,e1,e2];refine HT (JC (HT (JC ?_)));rw[lt'_eq];refine HT (NT ?_);rw[hk,keyLt'_oneType];refine HT (wpS_lift (HW (e3 _ _ ?_)));exact ⟨rfl,JC hq⟩
 have hcount:∀{x y:Nat} {Q:Option Nat->JB->Prop},x=0->y=a₀.size->Q (EU a₀.size) st->wpS (Fa prog w) A E s (countRun' x y) Q st:=λ{x y Q} e1 e2 hq=>by
  rw[e1,e2,countRun0_eq];unfold ascLoop;refine HT (QR (NU (Q:=λ(c:Option (Option Nat)×Nat) st'=>st'=st∧c=(none,a₀.size)) (I:=λx c st'=>st'=st∧c=(none,x)) ?_ ?_ ⟨rfl,rfl⟩) ?_)
  ·intro x c st' hx1 hx2 zr1;refine xa1 zr1 λz3 z4=>?_;clear zr1;clear hk ha hp hf hq;subst z3;subst z4;refine HT (hltAt hx1 hx2 ?_);simp only[FL,if_false];exact JC ⟨rfl,rfl⟩
  ·intro c st' zr1;refine xa1 zr1 λz3 z4=>?_;clear zr1;clear hk ha hp hf hltAt hq;subst z3;subst z4;exact ⟨rfl,by rw[show max 1 a₀.size=a₀.size by exact Ou (Fs h2)]⟩
  ·intro c st' zr1;refine xa1 zr1 λz3 z4=>?_;clear zr1;clear hk ha hp hf hltAt;subst z3;subst z4;dsimp only;rw[if_pos s!"4"];exact JC hq
 rw[sortRuns'_eq];refine HT (NT ?_)
 have hmr:minRun' a₀.size a₀.size 0=a₀.size:=by
  obtain ⟨f,hf⟩:∃f,a₀.size=f+1:=⟨a₀.size-1,by exact (GV (Fs h2)).symm⟩
  have:minRun' (f+1) a₀.size 0=a₀.size:=by rw[minRun'_succ,if_pos h64];rfl
  rwa [←hf] at this
 have hmr2:¬a₀.size<minRun' (arrOf st).size (arrOf st).size 0:=by rw[ha,hmr];exact Fz _
 refine HT (QR (NU
  (I:=λx c st'=>(x=0∧c=(none,0)∧st'=st)∨(1≤x∧c=(none,a₀.size)∧st'=K7 st #[(0,a₀.size,0)]))
  (Q:=λc st'=>c=(none,a₀.size)∧st'=K7 st #[(0,a₀.size,0)]) ?step ?fin (.inl (ia2 rfl rfl rfl))) ?post)
 case fin=>
  rintro c st' (⟨hx,_,_⟩|⟨_,hc,hD⟩)
  ·exact (F9.mpr (E6 (ha▸hx)) (E1 (E1 s!"d" h2) (Ov 0 _))).elim
  ·exact ⟨hc,hD⟩
 case step=>
  rintro x c st' _ hx (⟨rfl,rfl,rfl⟩|⟨hx1,rfl,rfl⟩)
  ·refine Bx (by rw[ha];exact o93 h2) ?_;refine HT (hcount rfl (by rw[ha];rfl) ?_);refine Bx hmr2 ?_;refine HT (NT ?_);have hb:(Px st').back?=none:=by rw[hp];rfl
   rw[hb];refine HT (wpS_modify (JC (.inr ⟨s!"d",congrArg (Prod.mk none) (Iu _),?_⟩)));rw[hp];rfl
  ·refine DY (by rw[ha];exact Fd _) ?_;exact JC ⟨rfl,rfl⟩
 case post=>
  intro c st' zr1;refine b8 zr1 λz4=>?_;clear zr1;subst z4;dsimp only;refine HT (QR (NU (I:=λ_ c st''=>st''=K7 st #[(0,a₀.size,0)]∧c=(none,())) (Q:=λc st''=>st''=K7 st #[(0,a₀.size,0)]∧c=(none,())) ?_ (λ_ _ hh=>hh) ⟨rfl,rfl⟩) ?_)
  ·intro x c st'' _ _ zr1;refine b8 zr1 λz4=>?_;clear zr1;subst z4;refine HT (NT ?_);rw[if_pos (show (Px (K7 st #[(0,a₀.size,0)])).size≤1 from Fd 1)];exact JC ⟨rfl,rfl⟩
  ·intro c st'' zr1;refine b8 zr1 λz4=>?_;clear zr1;subst z4;exact JC (h _ ha hf)
theorem xe3 {P:α->β->γ->Prop} (h:∃x,∃y,∃z,P x y z) (k:∀x y z,P x y z->Z):Z:=h.elim λa h=>h.elim λb h=>h.elim λc h=>k a b c h
theorem A5 {l:List α} (h:¬l.toArray.size<2):∃a b r,l=a::b::r:=by
 cases l with
 |nil=>exact absurd (show 0<2 from Nat.zero_lt_two) h
 |cons a l=>cases l with
  |nil=>exact absurd (show 1<2 from Nat.one_lt_two) h
  |cons b r=>exact (ie3 a b r rfl)
theorem oh {c:Value} {a:Addr} {P:Fin->Shared->Prop} (ho:s.heap.get? a=EU (LW "list" vs.toArray n)) (hc:(c != .type "tuple")=true) (hcc:(c==c)=true)
 (ht:∀v∈vs,∀h':Heap,(∀b o,b≠a->s.heap.get? b=EU o->h'.get? b=EU o)->∀Q:Value->Shared->Prop,Q c {s with heap:=h'}->E4 (Fa prog w) A (GX v) Q E {s with heap:=h'}) (h64:vs.length<64)
 (hlt:∀i,1≤i->i<vs.length->∃x y,vs[i]?=EU x∧vs[i-1]?=EU y∧∀h':Heap,(∀b o,b≠a->s.heap.get? b=EU o->h'.get? b=EU o)->∀(E:Value->Shared->Prop) (Q:Bool->Shared->Prop),Q false {s with heap:=h'}->E4 (Fa prog w) A (oneLt' true x y) Q E {s with heap:=h'})
 (h:∀h' n',Heap.ExtBut a s.heap h'->h'.get? a=EU (LW "list" vs.toArray n')->P (.done (.ret .none)) {s with heap:=h'}):
 E4 (Fa prog w) A (Builtin.«list.sort» ⟨[.ref a],[]⟩) P E s:=by
 rw[list_sort_plain];have hal:a<s.heap.objs.size:=Heap.lt_size ho;refine EX (listItems_at ho rfl ?_);refine EX (Rc ho rfl ?_);obtain ⟨e1,ho1⟩:∃e1,(s.heap.update a (F4 λ_=> #[])).get? a=EU (LW "list" #[] e1):=⟨_,Qk ho (λ_=> #[])⟩
 refine EX (seqEpoch_at ho1 rfl ?_);refine EX (QS ?_);refine EX (Q4 ?_);refine wpAny_holding ?_;show E4 (Fa prog w) A _ P E {s with heap:=((s.heap.update a (F4 λ_=> #[])).push (LW "tuple" vs.toArray 0)).push (LW "list" #[] 0)};generalize hH:((s.heap.update a (F4 λ_=> #[])).push (LW "tuple" vs.toArray 0)).push (LW "list" #[] 0)=H
 have ho6:H.get? a=EU (LW "list" #[] e1):=by
  rw[←hH];exact Heap.get?_push_of_some _ (Heap.get?_push_of_some _ ho1)
 have old:∀b o,b≠a->s.heap.get? b=EU o->H.get? b=EU o:=λb o hb e=>by
  rw[←hH];exact Heap.get?_push_of_some _ (Heap.get?_push_of_some _ ((Heap.get?_update_other _ _ (E8 hb)).trans e))
 dsimp only;have hsz:vs.toArray.size=vs.length:=s!"4"
 have fin:∀(st':JB),arrOf st'=vs.toArray.zip vs.toArray->MY st'=none->E4 (Fa prog w) A (do
  let touched:=(←seqEpoch a) !=e1
  KT (.ref a) λ_=>(arrOf st').map (·.2)
  if let EU e:=MY st' then rule "list.sort.comparison-raised";throw e
  if touched then rule "list.sort.modified";raiseError "ValueError" "list modified during sort"
  ret .none) P E {s with heap:=H}:=λst' ea ef=>by
  have eq:(arrOf st').map (·.2)=vs.toArray:=by
   rw[ea];apply Nl;simp[List.map_snd_zip]
  refine EX (seqEpoch_at ho6 rfl ?_);refine EX (Rc ho6 rfl ?_ (hsz2:=by rw[eq,hsz,sizeLine_eq];exact nTL h64 rfl));rw[ef,eq];simp only[bne_self_eq_false,FL,if_false];refine E0 (h _ _ (λb o hb e=>(Heap.get?_update_other _ _ (E8 hb)).trans (old b o hb e)) (Qk ho6 _))
 by_cases h2:vs.toArray.size<2
 ·rw[if_pos h2,if_pos h2];refine EX (E0 ?_);rw[StateT.run_pure];refine EX (E0 ?_);exact fin (JB.mk' general' (vs.toArray.zip vs.toArray) #[] 7 none) rfl rfl
 ·rw[if_neg h2,if_neg h2];refine xe3 (A5 h2) λv₁ v₂ rest e=>?_;clear ho h hH hsz h2;subst e;refine EX (qU (c:=c) (λv hv Q hq=>ht v hv H old Q hq) hc hcc ?_);have zs:((v₁::v₂::rest).toArray.zip (v₁::v₂::rest).toArray).size=(v₁::v₂::rest).length:=s!"4"
  refine EX (FB (yF (s:={s with heap:=H}) (st:=JB.mk' QQ ((v₁::v₂::rest).toArray.zip (v₁::v₂::rest).toArray) #[] 7 none)
   (Q:=λ_ st'=>arrOf st'=(v₁::v₂::rest).toArray.zip (v₁::v₂::rest).toArray∧MY st'=none) rfl rfl rfl rfl (by rw[zs];simp) (by rw[zs];exact h64) (λi h1 h3=>?_) λst' a1 a2=>⟨a1,a2⟩) ?_ λ_ _ e=>e)
  ·rw[zs] at h3;refine bM (hlt i h1 h3) λx y e1 e2 e3=>?_;refine (cZ (x,x) (y,y) ?_ ?_ (λE Q hq=>e3 H old E Q hq))
   ·rw[Ln];exact ⟨by simpa using e1,by simpa using e1⟩
   ·rw[Ln];exact ⟨by simpa using e2,by simpa using e2⟩
  intro zr1 s' zr2;obtain ⟨⟨⟩,st'⟩:=zr1;refine b8 zr2 λz2=>?_;clear zr2;obtain ⟨e1,e2⟩:=z2;exact fin st' e1 e2
end
end
section
theorem m9:Nn.lookup (Kd ['p','a','m'].reverse)=EU Manifest.sig_map:=s!"k"
theorem oy:Ni "map" "__init__" "object.__init__" :=
 .of (owner:="object") (n:="__init__") (by rw[FC,Fg];kernel_rfl) s!"1" s!"1" s!"1"
  (by first|exact .inl s!"1"|exact .inr s!"1") (by rw[FM];kernel_rfl)
theorem iB:Ni "map" "__iter__" "map.__iter__" :=
 .of (owner:="map") (n:="__iter__") (by rw[FC,Fg];kernel_rfl) s!"1" s!"1" s!"1"
  (by first|exact .inl s!"1"|exact .inr s!"1") (by rw[FM];kernel_rfl)
theorem di:Ni "map" "__next__" "map.__next__" :=
 .of (owner:="map") (n:="__next__") (by rw[FC,Fg];kernel_rfl) s!"1" s!"1" s!"1"
  (by first|exact .inl s!"1"|exact .inr s!"1") (by rw[FM];kernel_rfl)
theorem iF (a:Value):HN "map.__next__" ⟨[a],[]⟩:=by
 unfold HN;rw[HX (id:="map.__next__") (n:=['_','_','t','x','e','n','_','_']) (o:=['p','a','m']) s!"k" m9];kernel_rfl
theorem oz (a:Value):HN "map.__iter__" ⟨[a],[]⟩:=by
 unfold HN;rw[HX (id:="map.__iter__") (n:=['_','_','r','e','t','i','_','_']) (o:=['p','a','m']) s!"k" m9];kernel_rfl
theorem gO:Hb Jf "map.__next__" =EU Builtin.«map.__next__»:=F3 s!"k"
theorem mf:Hb Jf "map.__iter__" =EU Builtin.«dict_keyiterator.__iter__»:=QL (id':="dict_keyiterator.__iter__") s!"k" s!"1" s!"1" s!"k"
theorem r9:mroOf (.type "map")=pure [.type "map",.type "object"]:=by rw[mroOf_type];kernel_rfl
theorem mt:Gp (.type "map") "__new__" =pure (EU (.builtin "map.__new__")):=by rw[FC,Fg];kernel_rfl
theorem sX:TypeCalled "map" "map.__new__" "object.__init__" :=
 ⟨s!"1",s!"1",(ie2 _ _ r9),madeBy_type r9 mt s!"1",s!"1",by rw[FM];kernel_rfl,oy⟩
theorem lX (a b:Value):No "map" ⟨[a,b],[]⟩=pure ():=s!"k"
theorem nU (a b:Value):Ih "map.__new__" ⟨[.type "map",a,b],[]⟩=pure ():=s!"k"
theorem iQ (a b c:Value):HN "object.__init__" ⟨[a,b,c],[]⟩:=by unfold HN;kernel_rfl
theorem nX:Hb Jf "map.__new__" =EU Builtin.«map.__new__»:=F3 s!"k"
theorem tr:Gp (.type "map") "__len__" =pure none:=by rw[FC,Fg];kernel_rfl
theorem rG:Gp (.type "map") "__length_hint__" =pure none:=by rw[FC,Fg];kernel_rfl
noncomputable abbrev liO (l:Addr) (i:Nat):Obj:={cls:= .type "list_iterator",data:= .fields #[.ref l,.int i 0]}
noncomputable abbrev fM (t:Addr) (f:Value):Obj:={cls:= .type "map",data:= .fields #[.ref t,f]}
noncomputable abbrev f7 (vs:List Value):Obj:={cls:= .type "tuple",data:= .seq vs.toArray}
section
variable {Q:Value->Shared->Prop} {x:Value} {t m:Addr}
variable {prog:Program} {w:FH}
theorem nV (l:Addr) (f:Value):Og (Builtin.«map.__new__» ⟨[.type "map",f,.ref l],[]⟩)
 (λ_ R s=>(∃items n,s.heap.get? l=EU {cls:= .type "list",dict:=none,data:= .seq items n,slots:= #[]})∧R (.ok (.ret (.ref ((s.heap.push (liO l 0)).push (f7 [.ref s.heap.objs.size])).objs.size))) {s with heap:=((s.heap.push (liO l 0)).push (f7 [.ref s.heap.objs.size])).push (fM (s.heap.push (liO l 0)).objs.size f)}):=
 .of_wp λprog w A R s ⟨⟨items,n,hl⟩,h⟩=>by
  unfold Builtin.«map.__new__» N5 N6 N7;have hsub:GG (.type "map") (.type "map")=pure true:=by rw[FM];kernel_rfl
  obtain ⟨hp,g,d,tk,os⟩:=s;dsimp only at hl;have il:hp.IsList l items:=⟨_,hl,rfl,n,rfl⟩
  have L:=Ft.of_pure (M:=Fa prog w) (h:=hp) hsub;repeat (first|(with_reducible refine wpAny_pyIter_list il ?_)|lk)
  exact ⟨_,rfl,h⟩
theorem sR {s:Shared} (hl:s.heap.get? l=EU {cls:= .type "list",dict:=none,data:= .seq items n,slots:= #[]})
 (h:∀it t m h',(∀b o,s.heap.get? b=EU o->h'.get? b=EU o)->s.heap.objs.size≤it->it≠m->t≠m->it≠t->s.heap.objs.size≤m->h'.get? it=EU (liO l 0)->h'.get? t=EU (f7 [.ref it])->h'.get? m=EU (fM t f)->Q (.ref m) {s with heap:=h'}):
 E4 (Fa prog w) A (call (.type "map") [f,.ref l]) Q E s:=by
 refine callType_new sX s!"d" (lX _ _) (nU _ _) (λobj=>iQ obj _ _) nX (nV l f) ⟨(ie2 items n hl),?_⟩;have z1:(s.heap.push (liO l 0)).objs.size=s.heap.objs.size+1:=Heap.size_push ..;have z2:((s.heap.push (liO l 0)).push (f7 [.ref s.heap.objs.size])).objs.size=s.heap.objs.size+2:=by rw[Heap.size_push,z1]
 have gm:=Heap.get?_push_size ((s.heap.push (liO l 0)).push (f7 [.ref s.heap.objs.size])) (o:=fM (s.heap.push (liO l 0)).objs.size f) rfl;have gt:=Heap.get?_push_of_some (fM (s.heap.push (liO l 0)).objs.size f) (Heap.get?_push_size (s.heap.push (liO l 0)) (o:=f7 [.ref s.heap.objs.size]) rfl);have gi:=Heap.get?_push_of_some (fM (s.heap.push (liO l 0)).objs.size f) (Heap.get?_push_of_some (f7 [.ref s.heap.objs.size]) (Heap.get?_push_size s.heap (o:=liO l 0) rfl));refine ⟨(af _ gm rfl),?_⟩;rw[z2] at gm⊢;rw[z1] at gm gt gi⊢;exact h s.heap.objs.size (s.heap.objs.size+1) (s.heap.objs.size+2) _ (λb o e=>Heap.get?_push_of_some _ (Heap.get?_push_of_some _ (Heap.get?_push_of_some _ e))) (Fd _) (by exact Ef) (by exact D6) (by exact DJ) (by exact Fr _ _) gi gt gm
theorem uZ {M:Model} {s:Shared} (hM:∃prog w,M=Fa prog w) (hl:s.heap.get? l=EU {cls:= .type "list",dict:=none,data:= .seq items n,slots:= #[]})
 (hit:s.heap.IsListIter it l i) (hx:items[i]?=EU x) (hQ:∀h',h'.IsListIter it l (i+1)->Heap.SameBut it s.heap h'->Q x {s with heap:=h'}):E4 M A (Hs (.ref it)) Q E s:=by
 refine xe2 hM λprog w z1=>?_;clear hM;subst z1;refine aV (id hit) λo ho hc hd=>?_;unfold Hs;refine EX (Gn (name:=EW "__next__") hit.typeIs JD
  (Gv JD hit.typeIs OH ?_ (OY _)))
 show E4 _ _ (Mk (.ref it) 0>>=_) _ _ s;refine EX (Hl ho hd (x:= .ref l) rfl ?_);show E4 _ _ (if (GS l==FG)=true then _ else _) _ _ s;rw[if_neg (show¬((GS l==FG)=true) from I6)];show E4 _ _ (Mk (.ref it) 1>>=_) _ _ s;refine EX (Hl ho hd (x:= .int i 0) rfl ?_);show E4 _ _ (Jr (.ref l)>>=_) _ _ s;refine EX (GQ hl rfl ?_);simp only[FU,hx];refine EX (wpAny_setField ho hd s!"4" (E0 (af x rfl (E0 (hQ _ ?_ (Heap.SameBut.update ..))))))
 exact ⟨_,Heap.get?_update_self _ ho (Nc (Jd hd _)),(N2 ..).trans hc,by
  rw[Jd hd];simp[Kh]⟩
theorem ot {M:Model} {s:Shared} (hM:∃prog w,M=Fa prog w) (hh:A.handled=none) (hl:s.heap.get? l=EU {cls:= .type "list",dict:=none,data:= .seq items n,slots:= #[]})
 (hit:s.heap.IsListIter it l i) (hx:items[i]?=none) (hQ:∀h' e oe,Heap.ExtBut it s.heap h'->h'.get? e=EU oe->oe.cls= .type "StopIteration" ->E (.ref e) {s with heap:=h'}):E4 M A (Hs (.ref it)) Q E s:=by
 refine xe2 hM λprog w z1=>?_;clear hM;subst z1;refine aV (id hit) λo ho hc hd=>?_;unfold Hs;refine EX (Gn (name:=EW "__next__") hit.typeIs JD
  (Gv JD hit.typeIs OH ?_ (OY _)))
 show E4 _ _ (Mk (.ref it) 0>>=_) _ _ s;refine EX (Hl ho hd (x:= .ref l) rfl ?_);show E4 _ _ (if (GS l==FG)=true then _ else _) _ _ s;rw[if_neg (show¬((GS l==FG)=true) from I6)];show E4 _ _ (Mk (.ref it) 1>>=_) _ _ s;refine EX (Hl ho hd (x:= .int i 0) rfl ?_);show E4 _ _ (Jr (.ref l)>>=_) _ _ s;refine EX (GQ hl rfl ?_);simp only[FU,hx];refine EX (HL (EX (wpAny_setField ho hd s!"4" ?_)));show E4 _ _ (QN (.type "StopIteration") []>>=_) _ _ _;refine EX ?_;simp only[QN,newTuple];refine EX (GD ?_ (by size_fits));refine EX (m:=KH _ _) (FN (a:=FG) (by first|rfl|(simp only[KH];rfl)) ?_);refine GD ?_ (by size_fits);simp only[raiseNew];refine EX (Ra ?_)
 first|rw[show A.in1.handled=none from hh]|rw[hh]
 refine EX (E0 (wpAny_throw ?_));exact hQ _ _ _ (((Heap.SameBut.update ..).extBut.push _).push _) (Heap.get?_push_size _ rfl) rfl
theorem n7 {s:Shared} {Q:Option Value->Shared->Prop} (hl:s.heap.get? l=EU {cls:= .type "list",dict:=none,data:= .seq items n,slots:= #[]})
 (hi:s.heap.IsListIter it l i) (ht:s.heap.get? t=EU (f7 [.ref it])) (hm:s.heap.get? m=EU (fM t f)) (nm:m≠it) (hx:items[i]?=EU x)
 (h:∀h',h'.IsListIter it l (i+1)->Heap.SameBut it s.heap h'->E4 (Fa prog w) A.in1 (call f [x]) (λv s'=>Q (EU v) s') NoE {s with heap:=h'}):
 E4 (Fa prog w) A (HM (.ref m)) Q E s:=by
 have hT:s.TypeIs (.ref m) "map" :=(af _ hm rfl)
 unfold HM;refine EX (HW (Gn (name:=EW "__next__") hT di (Gv di hT gO ?_ (iF _))));show E4 _ _ (Mk (.ref m) 0>>=_) _ _ s;refine EX (Hl hm rfl (x:= .ref t) rfl ?_);refine EX (GQ ht rfl ?_);refine EX ?_;show E4 _ _ (forIn [GS it].toArray _ _) _ _ s;rw[←Np,G2];refine EX (EX (wpAny_holding (uZ (ie2 prog w rfl) hl hi hx λh' hi' sb=>?_)));refine E0 (E0 ?_);have hm':h'.get? m=EU (fM t f):=(sb.2 m nm).trans hm;refine EX (Hl hm' rfl (x:=f) rfl ?_);refine EX (wpAny_holding (FB (h h' hi' sb) (λv s' q=>?_) λ_ _ z=>z.elim));refine EX (II ?_);exact E0 (af v rfl (E0 q))
theorem pL {s:Shared} {Q:Option Value->Shared->Prop} (hh:A.handled=none) (hl:s.heap.get? l=EU {cls:= .type "list",dict:=none,data:= .seq items n,slots:= #[]})
 (hi:s.heap.IsListIter it l i) (ht:s.heap.get? t=EU (f7 [.ref it])) (hm:s.heap.get? m=EU (fM t f)) (hx:items[i]?=none)
 (h:∀h',Heap.ExtBut it s.heap h'->Q none {s with heap:=h'}):
 E4 (Fa prog w) A (HM (.ref m)) Q E s:=by
 have hT:s.TypeIs (.ref m) "map" :=(af _ hm rfl)
 unfold HM;refine EX (HW (Gn (name:=EW "__next__") hT di (Gv di hT gO ?_ (iF _))));show E4 _ _ (Mk (.ref m) 0>>=_) _ _ s;refine EX (Hl hm rfl (x:= .ref t) rfl ?_);refine EX (GQ ht rfl ?_);refine EX ?_;show E4 _ _ (forIn [GS it].toArray _ _) _ _ s;rw[←Np,G2];refine EX (EX (wpAny_holding (ot (ie2 prog w rfl) hh hl hi hx λh' e oe ex he hc=>?_)));refine EX (LV (T:="StopIteration") (b:=true) (af _ he hc) QO ?_);exact E0 (h h' ex)
theorem j8 {A:Gk} {S I:Addr} {res:Value} {n:Nat} {R:LH->Shared->Prop} (St:Nat->Shared->Prop)
 (item:∀i s,i<n->St i s->E4 (Fa prog w) A.in1 (HM (.ref I)) (λo s'=>∃v acc c,o=EU v∧s'.heap.get? S=EU {cls:= .type "list",dict:=none,data:= .seq acc c,slots:= #[]}∧acc.size≤1000∧
  ∀h' c',h'.get? S=EU {cls:= .type "list",dict:=none,data:= .seq (acc.push v) c',slots:= #[]}->Heap.SameBut S s'.heap h'->St (i+1) {s' with heap:=h'}) NoE s)
 (done:∀s,St n s->E4 (Fa prog w) A.in1 (HM (.ref I)) (λo s'=>o=none∧R (.ok (.ret res)) s') NoE s):∀k i s,i+k=n->St i s->
 IZ (Fa prog w) A (.builtin "list.extend.loop" ⟨[.ref S,.ref I,res],[]⟩) R s
 |0,i,s,hk,hs=>by
  have hin:i=n:=by exact o85 hk
  clear item hk;subst hin;refine Gb N8 ?_;rw[FK Ij _];show E4 _ A.in1 (HM (.ref I)>>=_) _ _ s;refine EX (FB (done s hs) (λo s' ⟨e,q⟩=>?_) λ_ _ z=>z.elim);subst e;exact E0 q
 |k+1,i,s,hk,hs=>by
  refine Gb N8 ?_;rw[FK Ij _];show E4 _ A.in1 (HM (.ref I)>>=_) _ _ s;refine EX (FB (item i s (by exact o86 hk) hs) (λo s' pp=>?_) λ_ _ z=>z.elim);refine iw pp λv acc c e hS hz q=>?_;clear pp;subst e;show E4 _ A.in1 (Jt S (·.push v)>>=_) _ _ _;refine EX ?_;refine GU hS rfl (E0 ⟨Gq Ij _,?_⟩) (by rw[sizeLine_eq];exact o51 hz) (by show (acc.push v).size≤_;rw[Array.size_push,sizeLine_eq];exact FE (EY hz s!"d"));exact j8 St item done k (i+1) _ (by exact o88 hk) (q _ _ (Heap.get?_update_self _ hS rfl) (Heap.SameBut.update ..))
end
end
section
open Builtin.ObjectAttr
theorem qb (P:F0) (dv:Addr->Value) (S:Hy):peek (KD P dv) S (Gp (.ref 153) "__len__")=EU (EU (.builtin "tuple.__len__")):=s!"k"
section
variable {prog:Program} {w:FH} {A:Gk} {E:Value->Shared->Prop} {s:Shared} {dv:Addr->Value}
theorem mX {t:Addr} {Q:Value->Shared->Prop} (X:(KD w.params dv).In s.heap) (ho:s.heap.get? t=EU o) (hc:o.cls= .ref 153) (hd:o.data= .seq items n) (hz:items.size<1000)
 (h:∀t' k,Q (.int items.size t') {s with toks:=k}):E4 (Fa prog w) A (call (.builtin "len") [.ref t]) Q E s:=by
 have ty:Ft (Fa prog w) s.heap (GX (.ref t)) (.ref 153):=by rw[←hc];exact (Ft.ld ho).andThen .now
 have L1:=Ft.of_peek (M:=Fa prog w) X (qb w.params dv ⟨prog,w.params⟩);have L2:=ty.andThen (f:=λt=>GG t (.type "tuple")) (Ft.of_peek (M:=Fa prog w) X (jo w.params dv ⟨prog,w.params⟩));refine call_function_entry kind_len plain_len entry_len (args_len1 _) ?_;unfold Builtin.«len»;refine EX (m:=oneArg "len" _) (E0 ?_);refine EX (m:=Lm (.ref t) (EW "__len__")) ?_;refine EX (EX (ty.here (L1.here (wpAny_holding ?_))));rw[QT.bind];refine EX (E0 (EX (wpAny_call ?_)));refine F1 QT.plain entry_tuple_len (@K6 (Fa prog w) _ _ _ "tuple.__len__" "tuple" "__len__" (.ref t) [] [] _ s!"1" s!"1" L2 (args_tuple_len _) ?_);show E4 _ _ (do retInt (←Ku (.ref t)).size) _ _ s;refine EX ?_;unfold Ku;refine EX (GQ ho hd (E0 ?_));refine EX (KJ (E0 ?_));refine E0 ?_;refine EX (wpAny_holding (E0 ?_));refine EX (II ?_);have e1:¬((items.size:Int)<0):=by exact tB
 have e2:¬((items.size:Int)≥2^63):=by exact BL hz
 simp only[e1,e2,if_false];exact EX (KJ (E0 (af _ rfl (h _ _))))
end
theorem rq (N:Kn X) {st:St} {Q:MV->St->Prop} (hz:ms.length<1000) (hq:Q (.i ms.length) st):WC X (.builtin "len") [.t (.ref 153) ms] st Q:=λφ s us I r=>by
 unfold VRs at r;refine am r λy ys z1 z2=>?_;clear r;subst z1;refine xa1 z2 λz3 r=>?_;clear z2;obtain ⟨t,o,items,n,rfl,ho,himm,hc,hd,ri⟩:=z3;unfold VRs at r;subst r;refine mX (I.kin N) ho hc hd (by rw[ri.size];exact hz) λt' k=>?_;rw[ri.size];exact Post.mk (cH ..) (I.toks _) (.refl _) hq
variable {C:Cx}
noncomputable def cN:List String:=["cls","iterable","result"]
theorem oT:cN.Nodup:=s!"1"
set_option maxHeartbeats 4000000 in
theorem wa (G:Gd C) (R:Rm (k+1) A) {a b c:Int} {σ:Sg}:
 CtA C A (.ref 107) [.k (.ref 153),.t (.type "tuple") [.i a,.i b,.i c]] [] σ λm σ'=>m= .t (.ref 153) [.i a,.i b,.i c]∧σ'=σ:=by
 refine aW G R (a:=107) (c:=106) (x:=aH 4 5) (n:="_make") (q:="Match._make") (d:= .none) (pm:=(.str "cpy313.difflib" 286)) (an:=(EU 110)) (t:=378)
  (ps:=(["cls","iterable"]:List Str).zip [.k (.ref 153),.t (.type "tuple") [.i a,.i b,.i c]]) s!"k" s!"k" s!"k" s!"k" [("tuple",.type "tuple"),("len",.builtin "len")] s!"k" (λv=>(aX rfl s!"k" s!"1" (bk λa0=>bk λa1=>cK s!"k")).a) (ρ:=zL cN [EU (.k (.ref 153)),EU (.t (.type "tuple") [.i a,.i b,.i c]),none]) s!"k" λQf hQf X hC O R' hin hg hE=>?_
 subst hC
 have N:=kn G
 have hd:=oT
 have i_cls:gI cN 0=EU "cls" :=rfl
 have i_iterable:gI cN 1=EU "iterable" :=rfl
 have i_result:gI cN 2=EU "result" :=rfl
 have g_tuple:X.gs.lookup (EW "tuple")=EU (.type "tuple" :Value):=hg▸s!"k"
 have g_len:X.gs.lookup (EW "len")=EU (.builtin "len" :Value):=hg▸s!"k"
 clear hg hE
 conv=>arg 2;whnf
 refine aa (aA hin s!"2" (aI ⟨trivial,?_⟩))
 refine ae ?_
 refine aa (ah s!"r" s!"r" s!"t" ?_)
 refine λφ s I=>?_
 refine JR ?_ s!"2"
 refine ab (c8 O g_tuple (Q:=λm st'=>m= .k (.type "tuple")∧st'=⟨σ,zL cN [EU (.k (.ref 153)),EU (.t (.type "tuple") [.i a,.i b,.i c]),none]⟩) ⟨rfl,rfl⟩ φ s I) λv s₁ pp=>?_
 obtain ⟨m,st₁,r,I₁,k₁,e1,e2⟩:=pp
 subst e1 e2
 cases (show v= .type "tuple" from r)
 refine jb (prog:=pgm) (w:=X.C.w) (T:="tuple") oU ?_
 refine xQ (prog:=pgm) (w:=X.C.w) ?_
 have I₂:=I₁.toks (s₁.toks+1)
 refine HD s!"r" (bt s!"t" (ab (cv (st:=⟨σ,zL cN [EU (.k (.ref 153)),EU (.t (.type "tuple") [.i a,.i b,.i c]),none]⟩) (Q:=λms st₁=>ms=[.k (.ref 153),.t (.type "tuple") [.i a,.i b,.i c]]∧st₁=⟨σ,zL cN [EU (.k (.ref 153)),EU (.t (.type "tuple") [.i a,.i b,.i c]),none]⟩) s!"t" ?_ I₂) λvs s₂ ⟨ms,st₂,r₂,I₃,k₂,e1,e2⟩=>?_))
 ·repeat walk_at "s"
  exact ⟨rfl,rfl⟩
 subst e1 e2
 unfold VRs at r₂
 refine am r₂ λy ys z1 z2=>?_;clear r₂;subst z1;refine xa1 z2 λq1 r₂=>?_;clear z2
 unfold VRs at r₂
 refine am r₂ λz zs z1 z2=>?_;clear r₂;subst z1;refine xa1 z2 λz3 r₂=>?_;clear z2;obtain ⟨t,o,items,n,rfl,ho,himm,hc,hd,ri⟩:=z3
 unfold VRs at r₂
 subst r₂
 cases (show y= .ref 153 from q1)
 refine si (I₃.kin N) O.hh ho hc hd (by rw[ri.size];simp) λh' d hk=>?_
 have I₄:=(I₃.grow hk s₂.toks).push {cls:= .ref 153,dict:=EU d,data:= .seq items}
 refine Post.mk (m:= .t (.ref 153) [.i a,.i b,.i c]) (eU _ _ items 0 rfl (Heap.get?_push_size _ rfl) rfl rfl rfl ((ri.keep (aB hk)).keep (keep_push _ _))) I₄ (k₁.trans (k₂.trans ((aB hk).trans (keep_push _ _)))) ?_
 repeat walk_at "s"
 refine aT O g_len s!"t" ?_
 repeat walk_at "s"
 refine rq N s!"4" ?_
 repeat walk_at "s"
 refine aD s!"2" ?_
 repeat walk_at "s"
 exact ⟨rfl,rfl⟩
end
section
open Builtin.ObjectAttr
section
variable {prog:Program} {w:FH}
theorem nQ {s:Shared} {m t:Addr} {Q:Value->Shared->Prop} (hm:s.heap.get? m=EU (fM t f))
 (h:∀S h' c,S=s.heap.objs.size->(∀b o,s.heap.get? b=EU o->h'.get? b=EU o)->h'.get? S=EU {cls:= .type "list",dict:=none,data:= .seq #[] c,slots:= #[]}->
  IZ (Fa prog w) A.in1 (.builtin "list.extend.loop" ⟨[.ref S,.ref m,.none],[]⟩) (λr s'=>r= .ok (.ret .none)∧Q (.ref S) s') {s with heap:=h'}):
 E4 (Fa prog w) A (call (.type "list") [.ref m]) Q NoE s:=by
 refine MZ (Q₁:=λobj s₁=>obj= .ref s.heap.objs.size∧s₁={s with heap:=s.heap.push {cls:= .type "list",data:= .seq #[]}}) F.called_list (F.typeCall_list_1 _) F.entry_list_init
  (code_list_new _ ⟨rfl,rfl⟩) λobj s₁ h₁=>?_
 refine b8 h₁ λz2=>?_;clear h₁;subst z2;have hS:(s.heap.push {cls:= .type "list",data:= .seq #[]}).get? s.heap.objs.size=EU {cls:= .type "list",data:= .seq #[]}:=Heap.get?_push_size _ rfl;refine (ia2 ⟨_,hS,rfl⟩ (F.args_list_init_2 _ _) ?_);have nm:m≠s.heap.objs.size:=Fh (Heap.lt_size hm);have old0:∀b o,s.heap.get? b=EU o->(s.heap.push {cls:= .type "list",data:= .seq #[]}).get? b=EU o:=λb o e=>Heap.get?_push_of_some _ e;have hm0:=old0 _ _ hm;have lt0:∀b o,s.heap.get? b=EU o->b≠s.heap.objs.size:=λb o e=>Fh (Heap.lt_size e);generalize s.heap.objs.size=S at*;generalize s.heap.push {cls:= .type "list",data:= .seq #[]}=h0 at*;show E4 _ A.in1.in1 (do let old←I7 (.ref S);KT (.ref S) (λ_=> #[]);letGo old.toList.reverse;GY (.ref S) (.ref m) .none) _ _ _;refine EX ?_;unfold I7;refine EX (GQ hS rfl (E0 ?_));show E4 _ A.in1.in1 (Jt S (λ_=> #[])>>=λ_=>letGo (#[]:Array Value).toList.reverse>>=λ_=>GY (.ref S) (.ref m) .none) _ _ _;refine EX (GU hS rfl ?_);have hS₂:=Heap.get?_update_self (F4 (λ_=>(#[]:Array Value))) hS rfl
 have oth:∀b o,b≠S->h0.get? b=EU o->(h0.update S (F4 (λ_=>(#[]:Array Value)))).get? b=EU o:=
  λb o hb e=>(Heap.get?_update_other _ _ (E8 hb)).trans e
 have hm2:=oth _ _ nm hm0;generalize h0.update S (F4 (λ_=>(#[]:Array Value)))=h1 at*;refine EX (II ?_);unfold GY;have hT:∀(s:Shared),s.heap.get? m=EU (fM t f)->s.TypeIs (.ref m) "map" :=λs e=>(af _ e rfl)
 refine EX (G1 (hT _ hm2) ?_);have q1:HP (.ref S) (.ref m)=false:=by simp[HP,E8 nm]
 have q2:(GL "map" ==GL "list")=false:=s!"d"
 have q3:(GL "map" ==GL "tuple")=false:=s!"d"
 simp only[q1,q2,q3,Kt,FL,if_false];refine EX (wpAny_pyIter_slot (hT _ hm2) iB (Gv iB (hT _ hm2) mf (E0 (c7 _ rfl ("map") ⟨_,hT _ hm2,di.lookup,?_⟩)) (oz _)));refine EX (wpAny_holding ?_);unfold IJ;refine EX (It (hT _ hm2) tr ?_);show E4 _ _ (Hf (GS m) (EW "__length_hint__")>>=_) _ _ _;refine EX (It (hT _ hm2) rG ?_);refine E0 ?_
 show E4 _ _ (rule "list.extend.makes-room" >>=λ_=>Ql (.ref S)>>=λ_=>
  again (.builtin "list.extend.loop" ⟨[.ref S,.ref m,.none],[]⟩)) _ _ _
 refine EX (HL ?_);refine EX ?_;show E4 _ _ (Jt S (·.push .none)>>=λ_=>Jt S (·.pop)) _ _ _;refine EX (GU hS₂ rfl ?_);have hS₃:=Heap.get?_update_self (F4 (·.push FG)) hS₂ rfl;refine GU (hz:=by seq_fits) hS₃ rfl ?_;have hS₄:=Heap.get?_update_self (F4 (·.pop)) hS₃ rfl;refine E0 ⟨Gq Ij _,?_⟩;refine codeAny_mono (h S _ _ rfl (λb o e=>?_) hS₄) λr s' z=>?_
 ·have nb:=lt0 b o e;exact (Heap.get?_update_other _ _ (E8 nb)).trans ((Heap.get?_update_other _ _ (E8 nb)).trans (oth b o nb (old0 b o e)))
 ·refine b8 z λq=>?_;clear z;exact ⟨rfl,q⟩
end
noncomputable def bmO (f self:Value):MO:= .any λo=>o=methodObj f self
noncomputable def lv (it:Addr) (f:Value):MO:= .hp λh o=>∃t,o=fM t f∧h.get? t=EU (f7 [.ref it])
section
variable {X:Xc} {st:St} {φ:Sg} {Q:MV->St->Prop}
theorem IF.drop {s:Shared} (I:IF X φ st s) (h:∀a m,σ' a=EU m->st.σ a=EU m):IF X φ ⟨σ',st.ρ⟩ s:=by
 refine ⟨I.inv.sub λb n hb=>?_,?_,λb n hb=>I.dis b n (h b n hb),I.loc⟩
 ·have hb:(if b=X.env.locals then EU (MO.fr st.ρ) else (σ' b).or (φ b))=EU n:=hb;show (if b=X.env.locals then EU (MO.fr st.ρ) else (st.σ b).or (φ b))=EU n;by_cases h1:b=X.env.locals
  ·rw[if_pos h1] at hb⊢;exact hb
  ·rw[if_neg h1] at hb⊢
   cases e:σ' b with
   |some m=>rw[e] at hb;rw[h b m e];exact hb
   |none=>
    rw[e] at hb;have hb:φ b=EU n:=hb
    cases e2:st.σ b with
    |none=>exact hb
    |some m=>rw[I.dis b m e2] at hb;cases hb
 ·show σ' X.env.locals=none
  cases e:σ' X.env.locals with
  |none=>rfl
  |some m=>have z:=h _ _ e;rw[I.no] at z;cases z
theorem IF.leak {s:Shared} {m:MO} (I:IF X φ st s) (e:st.σ it=EU m) (ex:Heap.ExtBut it s.heap h'):IF X φ ⟨st.σ.del it,st.ρ⟩ {s with heap:=h',toks:=t}∧Keep s.heap h':=by
 have itF:it≠X.env.locals:=λh=>by rw[h,I.no] at e;cases e
 have hI:IF X (φ.put it m) ⟨st.σ.del it,st.ρ⟩ s:=by
  have q:Internal.tot (st.σ.del it) (φ.put it m) X.env.locals st.ρ=Internal.tot st.σ φ X.env.locals st.ρ:=by
   funext b;unfold Sg.put Sg.del Internal.tot;by_cases h1:b=it
   ·clear ex;subst h1;simp[itF,e]
   ·simp[h1]
  refine ⟨by show Inv X.C (Internal.tot (st.σ.del it) _ _ _) s;rw[q];exact I.inv,?_,λb n hb=>?_,I.loc⟩
  ·show (if X.env.locals=it then none else st.σ X.env.locals)=none;rw[if_neg (E8 itF)];exact I.no
  ·have hb:(if b=it then none else st.σ b)=EU n:=hb;show (if b=it then EU _ else φ b)=none;by_cases h1:b=it
   ·rw[if_pos h1] at hb;cases hb
   ·rw[if_neg h1] at hb⊢;exact I.dis b n hb
 exact hI.forget (t:=t) itF (by show (st.σ.del it) it=none;exact if_pos rfl) (I.dis it _ e) ex
theorem tX (O:XOk X) (N:Kn X) {p:Pos} {C P:Addr} {f:Value} {rest:List Value} (hf:X.gs.lookup x=EU (.ref C)) (hb:F6 (.Name x p) name X.env (eval (.Name x p) X.env)=eval (.Name x p) X.env)
 (hr:Pm (KD X.C.w.params N.dv) C (.type "type")=true) (e:Jl (KD X.C.w.params N.dv) (.ref C) (.type "type") name=EU (.get (.builtin "classmethod.__get__") (.ref P) .none (.ref C))) (hp:Po (KD X.C.w.params N.dv) P "classmethod" =EU (f::rest))
 (hq:∀q,st.σ q=none->Q (.r q) ⟨st.σ.put q (bmO f (.ref C)),st.ρ⟩):WE X (.Attribute (.Name x p) name pos) st Q:=λφ s I=>by
 rw[OW,hb];refine EX (ab (c8 O hf (Q:=λm st'=>m= .k (.ref C)∧st'=st) ⟨rfl,rfl⟩ φ s I) λv s₁ ⟨m,st₁,r,I₁,k,e1,e2⟩=>EX (GH (EX (wpAny_holding ?_))));clear I;subst e1 e2;cases (show v= .ref C from r);have KI:=I₁.kin N;refine cls_bind (s:=s₁) KI hr e (wpAny_call (cm_get (s:={s₁ with toks:=s₁.toks+1}) KI hp (LT rfl ?_)));refine EX (On (E0 ?_));obtain ⟨n,I₂⟩:=(I₁.toks (s₁.toks+1)).new (m:=bmO f (.ref C)) (o:=methodObj f (.ref C)) (aR _ (Heap.get?_push_size _ rfl) rfl rfl);exact Post.mk (bN ..) I₂ (k.trans (keep_push _ _)) (hq _ n)
theorem CB {q:Addr} (el:st.σ l=EU (.lst vs)) (hq:∀it m,st.σ it=none->st.σ m=none->it≠m->Q (.r m) ⟨(st.σ.put it (.itl l 0)).put m (lv it (.ref q)),st.ρ⟩):WC X (.type "map") [.r q,.r l] st Q:=λφ s us I r=>by
 refine tN r λz e2=>?_;cases (show z= .ref l from e2);refine ad (I.own el) λitems z1 rr=>?_;refine xe1 z1 λn pl=>?_;clear z1;refine sR pl λit t m h' old ge nim ntm nit gem gi gt gm=>?_;have I₁:IF X φ st {s with heap:=h',toks:=s.toks}:=I.grow old s.toks
 have fr:∀b,s.heap.objs.size≤b->Internal.tot st.σ φ X.env.locals st.ρ b=none:=λb hb=>by
  cases e:Internal.tot st.σ φ X.env.locals st.ρ b with
  |none=>rfl
  |some m=>exact absurd (E1 (I.inv.lt e) hb) (Fz _)
 refine xa2 (bA (fr it ge)) λa1 a2 a3=>?_;refine xa2 (bA (fr m gem)) λb1 b2 b3=>?_;have I₂:=I₁.hide a2 a1 (EY I.inv.sz ge) (m:= .itl l 0) (aR _ gi rfl rfl);have I₃:=I₂.hide b2 b1 (EY I.inv.sz gem) (m:=lv it (.ref q)) (fB _ h' gm rfl (.refl _) ⟨t,rfl,gt⟩);rw[d8 _ _ _ nim] at I₃;have I₄:=I₃.show_ a2 a1 (by unfold Sg.put;rw[if_neg nim];exact a3);have I₅:=I₄.show_ (by show (st.σ.put _ _) _=none;unfold Sg.put;rw[if_neg (E8 nim)];exact b2) b1 b3;exact .mk (bN ..) I₅ (aB old) (hq _ _ a2 b2 nim)
theorem qo (φ:Sg):joi (λ_=>none) φ=φ:=by funext a;unfold joi;rfl
theorem uW (O:XOk X) (R:Rm (k+1) X.A) {m q fn:Addr} {self:Value} {ws:List MV} {σ0:Sg} (e1:st.σ m=EU (lv it (.ref q))) (e2:st.σ it=EU (.itl l 0)) (e3:st.σ q=EU (bmO (.ref fn) self)) (e4:st.σ l=EU (.lst vs))
 (hlen:vs.length=ws.length) (hz:vs.length≤900)
 (hct:∀A',Rm k A'->∀i (h1:i<vs.length) (h2:i<ws.length),CtA X.C A' (.ref fn) [.k self,vs[i]] [] (λ_=>none) λm σ'=>m=ws[i]∧σ'=λ_=>none)
 (hsub:∀a m,σ0 a=EU m->a≠it∧st.σ a=EU m) (hq:∀b,st.σ b=none->Q (.r b) ⟨σ0.put b (.lst ws),st.ρ⟩):WC X (.type "list") [.r m] st Q:=λφ s us I r=>by
 refine fN r ?_;refine i8 (I.own e1) λo h₀ ho _ kk t z1 ht0=>?_;subst z1;have ht:s.heap.get? t=EU (f7 [.ref it]):=kk _ _ ht0 rfl;have nmi:m≠it:=λh=>by clear hsub ht0 ht;subst h;rw[e1] at e2;cases e2
 have nqi:q≠it:=λh=>by clear e1 hsub ht0 ht nmi;subst h;rw[e3] at e2;cases e2
 have nli:l≠it:=λh=>by clear e1 hsub ht0 ht nmi nqi;subst h;rw[e4] at e2;cases e2
 refine nQ ho λS h' c eS old hS=>?_;have fr:Internal.tot st.σ φ X.env.locals st.ρ S=none:=by rw[eS];exact I.inv.fresh
 refine xa2 (bA fr) λs1 s2 s3=>?_;have I₁:IF X φ st {s with heap:=h',toks:=s.toks}:=I.grow old s.toks;have I₂:=I₁.hide s2 s1 (by rw[eS];exact I.inv.sz) (m:= .lst []) (af (#[]) ⟨c,hS⟩ (.nil _));refine j8 (A:=X.A.in1) (n:=vs.length) (λi s'=>∃σi,IF X (φ.put S (.lst (ws.take i))) ⟨σi,st.ρ⟩ s'∧Keep s.heap s'.heap∧σi it=EU (.itl l i)∧∀a,a≠it->σi a=st.σ a) ?_ ?_ vs.length 0 _ (by exact o89) (cI st.σ I₂ (aB old) e2 (λ_ _=>rfl))
 ·intro i s' hi zr1;refine gh zr1 λσi Ii ki ei eo=>?_;clear zr1;refine ad (Ii.own (show σi l=EU (.lst vs) by rw[eo l nli];exact e4)) λitems z1 rr=>?_;refine xe1 z1 λn pl=>?_;clear z1;obtain ⟨x,hx,rx⟩:=rr.arr (E2 hi);refine i8 (Ii.own (show σi m=EU (lv it (.ref q)) by rw[eo m nmi];exact e1)) λom hm0 hom _ km t' z1 ht'=>?_;subst z1;refine n7 pl (Ii.own ei) (km _ _ ht' rfl) hom nmi hx λh1 hit1 sb1=>?_;have Ib:=Ii.upd (t:=s'.toks) ei sb1 (m':= .itl l (i+1)) hit1;have kb:=cp Ii ei sb1;refine aV (Ib.own (show (σi.put it (.itl l (i+1))) q=EU (bmO (.ref fn) self) by rw[Sg.put_ne _ _ nqi,eo q nqi];exact e3)) λoq hoq _ z1=>?_;subst z1;have cc:=hct X.A.in1.in1.in1 ⟨R.hh,by have:=R.d;show X.A.depth+4*k+1<_;exact BX this,by have:=R.u;show X.A.units+1+1+1+16*k+16<_;exact g16 (k:=3) this s!"d"⟩ i hi (by exact iU hlen hi)
   (Internal.tot (σi.put it (.itl l (i+1))) (φ.put S (.lst (ws.take i))) X.env.locals st.ρ) {s' with heap:=h1,toks:=s'.toks} [self,x] [] (by rw[qo];exact Ib.inv) (λa m h=>by cases h) (.cons (ba ..) (.cons (rx.keep kb) (.nil _))) (.nil _)
  refine fx (method_call hoq (codeAny_mono cc λr s₂ z=>?_));rcases r with e|(_|_|_|v)<;>first|exact z.elim|skip
  refine ia z λmm σ' rv I' d' k' em eσ=>?_;clear z;clear d';subst em eσ;rw[qo] at I';have Ic:IF X (φ.put S (.lst (ws.take i))) ⟨σi.put it (.itl l (i+1)),st.ρ⟩ s₂:=⟨I',Ib.no,Ib.dis,Ib.loc⟩
  have sS:(σi.put it (.itl l (i+1))) S=none:=by
   cases e:(σi.put it (.itl l (i+1))) S with
   |none=>rfl
   |some m=>have z:=Ic.dis S m e;unfold Sg.put at z;rw[if_pos rfl] at z;cases z
  refine ad ((Ic.inv.rep S (.lst (ws.take i)) (by unfold Internal.tot;rw[if_neg s1];show ((σi.put it (.itl l (i+1))) S).or _=_;rw[sS];exact if_pos rfl)).2) λaccS z1 rS=>?_;refine xe1 z1 λcS hSS=>?_;clear z1;refine (jt v accS cS rfl hSS ⟨by rw[rS.size,H4];exact EY (IT _ _) (EY (Fs hi) (EY hz s!"d")),λh3 c' hS3 sb3=>?_⟩);have kS:Keep s₂.heap h3:=(Ic.move (h':=h3) (m':= .any λ_=>True) (t:=0) s1 sS sb3.extBut (aR _ hS3 rfl trivial)).2
  obtain ⟨Id,_⟩:=Ic.move (h':=h3) (t:=s₂.toks) (m':= .lst (ws.take (i+1))) s1 sS sb3.extBut ⟨_,⟨c',hS3⟩,by
   have hw:i<ws.length:=by exact iU hlen hi
   rw[←Ju hw];exact (rS.keep kS).snoc (rv.keep kS)⟩
  exact (cI _ Id (ki.trans (kb.trans (k'.trans kS))) (Sg.put_same ..) (λa ha=>by rw[Sg.put_ne _ _ ha];exact eo a ha))
 ·intro s' zr1;refine gh zr1 λσi Ii ki ei eo=>?_;clear zr1;refine ad (Ii.own (show σi l=EU (.lst vs) by rw[eo l nli];exact e4)) λitems z1 rr=>?_;refine xe1 z1 λn pl=>?_;clear z1;refine i8 (Ii.own (show σi m=EU (lv it (.ref q)) by rw[eo m nmi];exact e1)) λom hm0 hom _ km t' z1 ht'=>?_;subst z1;refine pL O.hh pl (Ii.own ei) (km _ _ ht' rfl) hom (by rw[←rr.size];simp) λh1 ex=>(ia2 rfl rfl ?_)
  refine xa1 (Ii.leak (t:=s'.toks) ei ex) λIb kb=>?_
  have Ic:=Ib.drop (σ':=σ0) λa m ha=>by
   refine xa1 (hsub a m ha) λh1 h2=>?_;show (if a=it then none else σi a)=EU m;rw[if_neg h1,eo a h1];exact h2
  rw[hlen,Go] at Ic
  have s0:σ0 S=none:=by
   cases e:σ0 S with
   |none=>rfl
   |some m=>have z:=(hsub S m e).2;rw[s2] at z;cases z
  exact Post.mk (bN ..) (Ic.show_ s0 s1 s3) (ki.trans kb) (hq S s2)
end
end
theorem rl {st:St} {t₁ t₂ t₃:G0} {pos} (hw:Hr [t₁,t₂,t₃] value X.env=pure none) (ht:Starless [t₁,t₂,t₃])
 (h:WE X value st λm st₁=>WA X t₁ m st₁ λst₂=>WA X t₂ m st₂ λst₃=>WA X t₃ m st₃ λst₄=>Q .next st₄):WS1 X (.Assign [t₁,t₂,t₃] value pos) st Q:=λφ s I=>by
 refine wpAny_Assign_three (ab (h φ s I) λv s₁ pp=>?_) (by rw[ca X.env ht];rfl) hw;obtain ⟨m,st₁,r,I₁,k,h₁⟩:=pp;refine ab (h₁ φ s₁ v I₁ r) λ_ s₂ pp=>?_;obtain ⟨st₂,I₂,k₂,h₂⟩:=pp;refine ab (h₂ φ s₂ v I₂ (r.keep k₂)) λ_ s₃ pp=>?_;obtain ⟨st₃,I₃,k₃,h₃⟩:=pp;exact ab (h₃ φ s₃ v I₃ ((r.keep k₂).keep k₃)) λ_ s₄ ⟨st₄,I₄,k₄,q⟩=>⟨.next,st₄,rfl,I₄,k.trans (k₂.trans (k₃.trans k₄)),q⟩
noncomputable def Sw2 (X:Xc) (m:MV) (x y:Str) (st:St) (Q:Fl->St->Prop):Prop:=∃ms,m= .t (.type "tuple") ms∧ [x,y].length=ms.length∧WNs X [x,y].reverse ms.reverse st λst₂=>Q .next st₂
theorem ze {st:St} (O:XOk X) {elts k tpos value pos} (hs:Iq [.Tuple elts k tpos] value pos.line X.env=pure false) (hw:Hr [.Tuple elts k tpos] value X.env=pure (EU [x,y]))
 (h:WE X value st λm st₁=>Sw2 X m x y st₁ Q):WS1 X (.Assign [.Tuple elts k tpos] value pos) st Q:=iA O hs hw h
theorem DX {σ:Sg} {a b:MV} {u1 u2:Option MV} (h1:lk ρ y=EU u1) (h2:lk (stL ρ y b) x=EU u2) (h:Q .next ⟨σ,stL (stL ρ y b) x a⟩):
 Sw2 X (.t (.type "tuple") [a,b]) x y ⟨σ,ρ⟩ Q:=(aR _ rfl rfl ⟨⟨_,h1⟩,⟨_,h2⟩,h⟩)
theorem Ck {σ:Sg} {ns:List String} {vs:List (Option MV)} {x y:String} {a b:MV} {u1 u2:Option MV} (hd:ns.Nodup) (hx:gI ns i=EU x) (hy:gI ns j=EU y) (g1:gI vs j=EU u1) (g2:gI (sI vs j (EU b)) i=EU u2)
 (h:Q .next ⟨σ,zL ns (sI (sI vs j (EU b)) i (EU a))⟩):Sw2 X (.t (.type "tuple") [a,b]) (EW x) (EW y) ⟨σ,zL ns vs⟩ Q:=
 DX (lkI hd hy g1) (stI hd hy▸lkI hd hx g2) (by rw[stI hd hy,stI hd hx];exact h)
noncomputable abbrev N3:=Nat×Nat×Nat
noncomputable def tM (p:N3):MV:= .t (.ref 153) [.i (p.1:Int),.i (p.2.1:Int),.i (p.2.2:Int)]
noncomputable def tT (p:N3):MV:= .t (.type "tuple") [.i (p.1:Int),.i (p.2.1:Int),.i (p.2.2:Int)]
theorem pr {σ:Sg} {a:Addr} {m:MO} (h:σ a=EU m):σ.put a m=σ:=by
 funext b;unfold Sg.put;split
 ·rename_i e;rw[e,h]
 ·rfl
theorem VRs.i3 {c:Value} {a b d:Int} (r:VR h (.t c [.i a,.i b,.i d]) v):∃t o ta tb td n,v= .ref t∧h.get? t=EU o∧imm o=true∧o.cls=c∧o.data= .seq [.int a ta,.int b tb,.int d td].toArray n:=by
 refine bx r λt o items n z1 z2=>?_;clear r;subst z1;refine xa4 z2 λho hi hc hd r=>?_;clear z2;unfold VRs at r;refine bM r λx1 r1 e1 z1 r=>?_;refine xe1 z1 λt1 z3=>?_;clear z1;subst z3;unfold VRs at r;refine bM r λx2 r2 e2 z1 r=>?_;refine xe1 z1 λt2 z3=>?_;clear z1;subst z3;unfold VRs at r;refine bM r λx3 r3 e3 z1 r=>?_;refine xe1 z1 λt3 z3=>?_;clear z1;subst z3;unfold VRs at r;subst r;clear r;subst e3;clear r;subst e2;refine (ie3 t o t1 ⟨t2,t3,n,rfl,ho,hi,hc,?_⟩);rw[hd];congr 1;apply Nl;rw[e1]
theorem za (N:Kn X) (hu:X.A.units+3<cLine) {st:St} {Q:MV->St->Prop} {ts:List N3} (e:st.σ l=EU (.lst (ts.map tM))) (hz:ts.length<64) (hs:ts.Pairwise λp q=>p.1<q.1) (hq:Q (.k .none) st):
 WC X (.builtin "list.sort") [.r l] st Q:=λφ s us I r=>by
 refine fN r ?_;refine ad (I.own e) λitems z1 rr=>?_;refine xe1 z1 λn pl=>?_;clear z1;have lz:items.toList.length=ts.length:=by rw[rr.length];simp
 have hT:s.TypeIs (.ref l) "list" :=(af _ pl rfl)
 have getM:∀i (hi:i<ts.length),∃t o ta tb td n,items.toList[i]?=EU (.ref t)∧s.heap.get? t=EU o∧imm o=true∧o.cls= .ref 153∧o.data= .seq [.int (ts[i].1:Int) ta,.int (ts[i].2.1:Int) tb,.int (ts[i].2.2:Int) td].toArray n:=λi hi=>by
  obtain ⟨x,hx,rx⟩:=rr.get (i:=i) (m:=tM ts[i]) (by rw[Fx,E2 hi];rfl);refine xe2 (VRs.i3 rx) λt o z1=>?_;refine bx z1 λta tb td n z3 z4=>?_;clear z1;clear rx;subst z3;obtain ⟨h1,h2,h3,h4⟩:=z4;exact (ie3 t o ta ⟨tb,td,n,hx,h1,h2,h3,h4⟩)
 have ne_l:∀t o,s.heap.get? t=EU o->imm o=true->t≠l:=λt o ho hi h=>by
  clear e r hT;subst h;rw[pl] at ho;cases ho;cases hi
 have KI:=I.kin N;refine Gv slot_list_sort hT entry_list_sort (oh (c:= .ref 153) (vs:=items.toList) (n:=n) (by rw[Hg];exact pl) s!"d" s!"d" (λv hv h' old Q hq=>?_) (by rw[lz];exact hz) (λi h1 h2=>?_) λh' n' ex hl'=>(af _ rfl ?_)) (args_list_sort _)
 ·obtain ⟨i,hi⟩:=List.getElem?_of_mem hv;obtain ⟨t,o,ta,tb,td,n,h1,h2,h3,h4,h5⟩:=getM i (by have:=(E5.mp hi).1;exact iU lz this);rw[h1] at hi;clear hv h5;cases hi;have ho:=old t o (ne_l t o h2 h3) h2;have ty:Ft (Fa pgm X.C.w) h' (GX (.ref t)) (.ref 153):=by rw[←h4];exact (Ft.ld ho).andThen .now
  exact ty.here (s:={s with heap:=h'}) hq
 ·rw[lz] at h2;refine xe2 (getM i h2) λt o z1=>?_;refine bx z1 λta tb td n a1 z3=>?_;clear z1;obtain ⟨a2,a3,a4,a5⟩:=z3;refine xe2 (getM (i-1) (by exact BU h2)) λu o' z1=>?_;refine bx z1 λua ub ud n' b1 z3=>?_;clear z1;obtain ⟨b2,b3,b4,b5⟩:=z3;refine (cZ _ _ a1 b1 (λh' old E Q hq=>?_));have lt:ts[i-1].1<ts[i].1:=FX.mp hs (i-1) i (by exact BU h2) h2 (by exact Nat.sub_lt_of_pos_le (Nat.one_pos) h1);have KI':(KD X.C.w.params N.dv).In h':=λa o ek=>old a o (lK I.inv (I.tot e) (N.k a o ek)) (I.inv.old a o (N.k a o ek));refine q9 (s:={s with heap:=h'}) KI' (by show X.A.units+1<cLine;exact E3 (Fi (by decide:1≤3) _) hu) (old _ _ (ne_l _ _ a2 a3) a2) (old _ _ (ne_l _ _ b2 b3) b2) a4 b4 a5 b5 (by exact EL lt) ?_;rw[decide_eq_false (by exact λz_h=>MJ lt (FO.mp z_h))];exact hq
 ·have z:=hl';rw[Hg] at z
  obtain ⟨I',k'⟩:IF X φ st {s with heap:=h'}∧Keep s.heap h':=by
   have lF:l≠X.env.locals:=λh=>by rw[h,I.no] at e;cases e
   refine xa1 (I.leak (t:=s.toks) e ex) λIb kb=>?_;refine ⟨?_,kb⟩;have w:=Ib.inv.own (a:=l) (m:= .lst (ts.map tM)) (I.inv.rep _ _ (I.tot e)).1 (af items ⟨n',z⟩ (rr.keep kb))
   have q:(Internal.tot (st.σ.del l) φ X.env.locals st.ρ).put l (.lst (ts.map tM))=Internal.tot st.σ φ X.env.locals st.ρ:=by
    funext b;unfold Sg.put Sg.del Internal.tot;by_cases h1:b=l
    ·clear r pl hT ne_l ex hl' z Ib w;subst h1;simp[lF,e]
    ·simp[h1]
   rw[show Internal.tot ({σ:=st.σ.del l,ρ:=st.ρ}:St).σ φ X.env.locals ({σ:=st.σ.del l,ρ:=st.ρ}:St).ρ=Internal.tot (st.σ.del l) φ X.env.locals st.ρ from rfl,q] at w;exact ⟨w,I.no,I.dis,I.loc⟩
  exact Post.mk (ba ..) I' k' hq
noncomputable def s6 (l:Addr) (m:MV) (st:St) (Q:Fl->St->Prop):Prop:=∃vs,st.σ l=EU (.lst vs)∧vs.length≤1000∧Q .next ⟨st.σ.put l (.lst (vs++[m])),st.ρ⟩
theorem i6 {σ:Sg} (h:σ l=EU (.lst vs)) (hz:vs.length≤1000) (hq:Q .next ⟨σ.put l (.lst (vs++[m])),ρ⟩):s6 l m ⟨σ,ρ⟩ Q:=(aR vs h hz hq)
theorem cw (O:XOk X) (hin:GC X.env=false) {p:Pos} {σ:Sg} {vs0:List MV} (hl:lk ρ x=EU (EU (.r l))) (h0:σ l=EU (.lst vs0))
 (hs:J3 (.Call (.Attribute (.Name x p) (EW "append") apos) [e] [] cpos) none pos.line X.env=pure false) (hb:F6 (.Name x p) (EW "append") X.env (eval (.Name x p) X.env)=eval (.Name x p) X.env) (hline:(apos.endLine==cpos.line)=true) (hst:Starless [e])
 (h:WE X e ⟨σ,ρ⟩ λm st₁=>s6 l m st₁ Q):WS1 X (.Expr (.Call (.Attribute (.Name x p) (EW "append") apos) [e] [] cpos) pos) ⟨σ,ρ⟩ Q:=by
 refine aA hin hs (bp (T:="list") (id:="list.append") hst hb s!"4" hline Fw Gw Gx (gM O hl ⟨bK h0,?_⟩));refine λφ s I=>ab (h φ s I) λv s₁ y=>?_;obtain ⟨m,st₁,r,I₁,k,vs,e1,e2,q⟩:=y;refine ⟨m,st₁,r,I₁,k,?_⟩;exact fZ e1 (by rw[sizeLine_eq];exact o51 e2) ⟨trivial,q⟩
noncomputable def Cb (l:Addr) (st:St) (Q:MV->St->Prop):Prop:=∃vs m,st.σ l=EU (.lst (vs++[m]))∧vs.length≤1000∧Q m ⟨st.σ.put l (.lst vs),st.ρ⟩
theorem BG (O:XOk X) {p:Pos} {σ:Sg} {Q:MV->St->Prop} (hl:lk ρ x=EU (EU (.r l)))
 (hb:F6 (.Name x p) (EW "pop") X.env (eval (.Name x p) X.env)=eval (.Name x p) X.env) (hline:(apos.endLine==cpos.line)=true)
 (h:Cb l ⟨σ,ρ⟩ Q):WE X (.Call (.Attribute (.Name x p) (EW "pop") apos) [] [] cpos) ⟨σ,ρ⟩ Q:=by
 refine bM h λvs m e1 e2 q=>?_;refine bp (T:="list") (id:="list.pop") trivial hb s!"d" hline Fw JJ Mi (gM O hl ⟨bK e1,?_⟩);exact xH e1 (by rw[sizeLine_eq];exact vZ e2) q
noncomputable def d6 (A B:List Str):Nat->Nat->List (Nat×Nat)->Prop
 |a,b,[]=>fhp A B b B.length a (A.length-a)=none
 |a,b,p::l=>fhp A B b B.length a (A.length-a)=EU p∧d6 A B (p.1+1) (p.2+1) l
theorem nu {A B:List Str} {blo bhi alo:Nat}:∀{t i j:Nat},fhp A B blo bhi alo t=EU (i,j)->∀i',alo≤i'->i'<i->hit A B blo bhi i'=none
 |0,_,_,h=>by cases h
 |t+1,i,j,h=>by
  unfold fhp at h
  cases e:fhp A B blo bhi alo t with
  |some r=>
   rw[e] at h;cases h;exact nu e
  |none=>
   rw[e] at h;refine ad (Gc.mp h) λj' hj e2=>?_;clear h hj;cases e2;exact λi' h1 h2=>ko e i' h1 h2
theorem eX {A B:List Str} {blo bhi alo:Nat}:∀{t:Nat},(∀i,alo≤i->i<alo+t->hit A B blo bhi i=none)->fhp A B blo bhi alo t=none
 |0,_=>rfl
 |t+1,h=>by
  unfold fhp;rw[eX λi h1 h2=>h i h1 (by exact AT h2),h (alo+t) (by exact wF) (by exact AF)];rfl
theorem vR {A:List Str} {bhi':Nat} (hle:bhi'≤bhi) (h:hit A B blo bhi i=none):hit A B blo bhi' i=none:=by
 unfold hit at h⊢
 cases e:A[i]? with
 |none=>rfl
 |some x=>
  rw[e] at h;have h:(bC B x).find? _=none:=h;refine Hx.mpr λj hj=>?_;have:=Hx.mp h j hj;simp at this⊢;intro h1;have:=this h1;exact EY hle this
theorem uD {A:List Str} (h:fhp A B blo bhi alo t=EU (i,j)):fhp A B blo j alo (i-alo)=none:=by
 refine xa2 (eI h) λh1 h2 h3=>?_;refine xa2 (eP h1) λ_ _ h5=>?_;refine eX λi' a b=>vR (Fs h5) (nu h i' a (by exact IX h2▸b))
theorem gg {A B:List Str}:∀{l:List (Nat×Nat)} {a b:Nat},d6 A B a b l->∀p∈l,a≤p.1∧b≤p.2∧∃x,A[p.1]?=EU x∧B[p.2]?=EU x
 | [],_,_,_,_,hp=>by cases hp
 |q::l,a,b,h,p,hp=>by
  refine xa1 h λh1 h2=>?_;clear h;obtain ⟨i,j⟩:=q;refine xa2 (eI h1) λf1 f2 f3=>?_;refine xa2 (eP f1) λz1 w3 w4=>?_;refine ad z1 λx x1 x2=>?_;clear z1;rcases FF.mp hp with rfl|hp
  ·exact (ia2 f2 w3 ⟨x,x1,x2⟩)
  ·refine xa2 (gg h2 p hp) λy1 y2 y3=>?_;dsimp only at y1 y2;exact (ia2 (by exact AH f2 y1) (by exact AH w3 y2) y3)
theorem qw {A B:List Str}:∀{l:List (Nat×Nat)} {a b:Nat},d6 A B a b l->l.Pairwise λp q=>p.1<q.1
 | [],_,_,_=> .nil
 |q::l,a,b,h=>by
  refine .cons (λp hp=>?_) (qw h.2);have:=(gg h.2 p hp).1;exact this
theorem vc {A:List Str} (hr:Rows A B) {l:List (Nat×Nat)} (h:d6 A B 0 0 l) (ht:t+1<l.length) (e1:l[t].1+1=l[t+1].1) (e2:l[t].2+1=l[t+1].2):False:=by
 refine xa2 (gg h l[t] (Fy _)) λ_ _ z1=>?_;refine ad z1 λx x1 x2=>?_;refine xa2 (gg h l[t+1] (Fy _)) λ_ _ z1=>?_;refine ad z1 λy y1 y2=>?_;rw[←e1] at y1;rw[←e2] at y2;exact hr.adj _ _ x y x1 x2 y1 y2
theorem uC {A:List Str} {a b:Nat} {l:List (Nat×Nat)} (h:d6 A B a b l) (he:A.length≤a∨B.length≤b):l=[]:=by
 cases l with
 |nil=>rfl
 |cons p l=>
  obtain ⟨i,j⟩:=p;refine xa2 (eI h.1) λf1 f2 f3=>?_;refine xa2 (eP f1) λ_ w3 w4=>?_;exact (he.elim (λz_h=>H6 (EY z_h f2) (vV f2 f3)) λz_h=>H6 (EY z_h w3) w4).elim
theorem A3 {A:List Str} (h:fhp A B blo bhi alo (ahi-alo)=EU (i,j)):alo≤i∧i<ahi∧blo≤j∧j<bhi:=by
 refine xa2 (eI h) λf1 f2 f3=>?_;refine xa2 (eP f1) λ_ w3 w4=>?_;exact (ia3 f2 (by exact vV f2 f3) w3 w4)
noncomputable abbrev N4:=Nat×Nat×Nat×Nat
noncomputable def wZ (A B:List Str) (q:N4):Prop:=fhp A B q.2.2.1 q.2.2.2 q.1 (q.2.1-q.1)=none∧q.1≤q.2.1∧q.2.1≤A.length∧q.2.2.1≤q.2.2.2∧q.2.2.2≤B.length
noncomputable def ik (A B:List Str) (l:List (Nat×Nat)) (n:Nat) (qs:List N4) (done:List (Nat×Nat)):Prop:=
 (∃D a b todo,qs=D++[(a,A.length,b,B.length)]∧(∀q∈D,wZ A B q)∧done++todo=l∧d6 A B a b todo∧a≤A.length∧b≤B.length∧D.length≤a∧n=2*(A.length-a)+D.length+1)∨
 ((∀q∈qs,wZ A B q)∧done=l∧qs.length≤A.length∧n=qs.length)
theorem sK {A:List Str} {l:List (Nat×Nat)} {qs:List N4} {done:List (Nat×Nat)} (h:ik A B l n (qs++[(alo,ahi,blo,bhi)]) done):
 alo≤ahi∧ahi≤A.length∧blo≤bhi∧bhi≤B.length∧match fhp A B blo bhi alo (ahi-alo) with
  |none=>∃m,m<n∧ik A B l m qs done
  |some (i,j)=>alo≤i∧i<ahi∧blo≤j∧j<bhi∧∃m,m<n∧ik A B l m (qs++(if alo<i∧blo<j then [(alo,i,blo,j)] else [])++(if i+1<ahi∧j+1<bhi then [(i+1,ahi,j+1,bhi)] else [])) (done++[(i,j)]):=by
 rcases h with ⟨D,a,b,todo,e1,hD,e2,hc,ha,hb,hDl,hn⟩|⟨hD,e2,hl,hn⟩
 ·refine xa1 (List.append_inj' e1 rfl) λz1 e3=>?_;subst z1;simp only[Jp,Ja,and_true] at e3;refine xa1 e3 λz1 z2=>?_;clear e3;subst z1;refine xa1 z2 λz3 z4=>?_;clear z2;subst z3;clear e1;obtain ⟨rfl,rfl⟩:=z4;refine (ia4 ha (Fd _) hb (Fd _) ?_)
  cases todo with
  |nil=>
   rw[show fhp A B blo B.length alo (A.length-alo)=none from hc];exact (af qs.length (by rw[hn];exact IE (Hi _ _)) (.inr ⟨hD,by simpa using e2,EY hDl ha,rfl⟩))
  |cons p todo=>
   obtain ⟨i,j⟩:=p;refine xa1 hc λh1 h2=>?_;clear hc;rw[h1];refine xa3 (A3 h1) λq1 q2 q3 q4=>?_;refine (ia4 q1 q2 q3 q4 ?_)
   have hdl:∀q∈qs++(if alo<i∧blo<j then [(alo,i,blo,j)] else []),wZ A B q:=λq hq=>by
    rcases F2.mp hq with hq|hq
    ·exact hD q hq
    ·split at hq
     ·rw[FW.mp hq];exact (ia4 (uD h1) q1 (by dsimp only;exact vT q2) q3 (by dsimp only;exact vT q4))
     ·cases hq
   have hlen:(qs++(if alo<i∧blo<j then [(alo,i,blo,j)] else [])).length≤qs.length+1∧(qs++(if alo<i∧blo<j then [(alo,i,blo,j)] else [])).length≤i+1:=by
    have hl1:(if alo<i∧blo<j then [(alo,i,blo,j)] else []).length≤1:=by split;exact Fd 1;exact FY 1
    exact ⟨by rw[E7];exact Fi hl1 _,by rw[E7];exact GA (EY hDl q1) hl1⟩
   dsimp only at h2;by_cases hh:i+1<A.length∧j+1<B.length
   ·rw[if_pos hh];refine (af _ ?_ (.inl ⟨_,i+1,j+1,todo,rfl,hdl,by rw[Gh];exact e2,h2,by exact Fs hh.1,by exact Fs hh.2,hlen.2,rfl⟩));rw[hn];exact Dx q1 hh.1 hlen.1
   ·rw[if_neg hh,Hh];have:=uC h2 (by exact (Decidable.not_and_iff_or_not.mp hh).imp F9.mp F9.mp);clear h2;subst this;exact (af _ (by rw[hn];exact DS (E3 q1 q2) hlen.1) (.inr ⟨hdl,e2,by exact EY hlen.2 q2,rfl⟩))
 ·refine xa4 (hD (alo,ahi,blo,bhi) s!"4") λh1 h2 h3 h4 h5=>?_;dsimp only at h1 h2 h3 h4 h5;refine (ia4 h2 h3 h4 h5 ?_);rw[h1];simp only[E7,Hm,Oh] at hl hn;exact (af qs.length (by exact hn▸Fd _) (.inr ⟨λq hq=>hD q (GI _ hq),e2,by exact Fs hl,rfl⟩))
theorem rF {A:List Str} {l:List (Nat×Nat)} (h:d6 A B 0 0 l):ik A B l (2*A.length+1) [(0,A.length,0,B.length)] []:=
 .inl (eU ([]) 0 0 l rfl (λq hq=>by simp at hq) rfl h (FY _) ⟨FY _,FY _,rfl⟩)
theorem vh {A:List Str} {l:List (Nat×Nat)} {done:List (Nat×Nat)} (h:ik A B l n [] done):done=l:=by
 rcases h with ⟨D,a,b,todo,e1,_⟩|⟨_,e,_⟩
 ·simp at e1
 ·exact e
theorem vJ {A:List Str} {l:List (Nat×Nat)} {qs:List N4} {done:List (Nat×Nat)} (h:ik A B l n qs done):qs.length≤A.length+1∧done.length≤l.length:=by
 rcases h with ⟨D,a,b,todo,e1,_,e2,_,h1,_,h3,_⟩|⟨_,e2,h3,_⟩
 ·subst e1;rw[←e2];exact ⟨by rw[E7];exact FE (EY h3 h1),s!"4"⟩
 ·rw[e2];exact ⟨by exact o37 h3,Fd _⟩
section
variable {l na:List (Nat×Nat)} {b:Nat}
open Builtin.ObjectAttr
noncomputable def t1 (p:Nat×Nat):N3:=(p.1,p.2,1)
noncomputable def Nm (ρ:Lo) (ns:List Str):Prop:=∀x∈ns,∃u,lk ρ x=EU u
theorem Nm.st {ns:List Str} (h:Nm ρ ns):Nm (stL ρ x m) ns:=λy hy=>by
 refine xe1 (h y hy) λu hu=>?_;rw[gT];by_cases e:y=x
 ·subst e;rw[if_pos rfl,hu];exact ⟨_,rfl⟩
 ·rw[if_neg e];exact ⟨u,hu⟩
theorem Nm.nil:Nm ρ []:=λx hx=>by simp at hx
theorem Nm.cons {ns:List Str} (h:lk ρ x=EU u) (t:Nm ρ ns):Nm ρ (x::ns):=λy hy=>by
 rcases FF.mp hy with e|hy
 ·rw[e];exact ⟨u,h⟩
 ·exact t y hy
theorem dB {x:Stmt} {rest:List Stmt} {st:St} {Q1:Fl->St->Prop} (h:WS1 X x st Q1) (k:∀fl st',Q1 fl st'->fu X rest Q fl st'):WS X (x::rest) st Q:=aa (j9 h k)
theorem cQ {st:St} (B:Bool) (h:WB X test st λb st₁=>b=B∧st₁=st) (k:if B=true then WS X body st Q else WS X orelse st Q):WS1 X (.If test body orelse pos) st Q:=
 bl λφ s I=>ab (h φ s I) λb s₁ ⟨st₁,I₁,k₁,e1,e2⟩=>by
  clear I h;subst e1 e2;exact ⟨_,I₁,k₁,k⟩
noncomputable def Mg (l:List (Nat×Nat)):Nat->N3->List (Nat×Nat)->Prop
 |0,cur,na=>cur=(0,0,0)∧na=[]
 |t+1,cur,na=>∃p,l[t]?=EU p∧cur=t1 p∧na=l.take t
theorem zn (hr:Rows As Bs) (hc:d6 As Bs 0 0 l) {q:Nat×Nat} (h:Mg l t cur na) (hq:l[t]?=EU q) (e1:cur.1+cur.2.2=q.1) (e2:cur.2.1+cur.2.2=q.2):Mg l (t+1) (cur.1,cur.2.1,cur.2.2+1) na:=by
 cases t with
 |zero=>
  refine xa1 h λz1 z2=>?_;clear h;subst z1;subst z2;exact (aR q hq (by obtain ⟨a,b⟩:=q;dsimp only at e1 e2;clear hq;subst e1 e2;rfl) rfl)
 |succ t=>
  refine aV h λp hp z1 z2=>?_;clear h;subst z1;subst z2;obtain ⟨h1,rfl⟩:=E5.mp hp;obtain ⟨h2,rfl⟩:=E5.mp hq;exact (vc hr hc h2 e1 e2).elim
theorem z8 {q:Nat×Nat} (h:Mg l t cur na) (hq:l[t]?=EU q):(cur.2.2=0->Mg l (t+1) (t1 q) na)∧(cur.2.2≠0->cur.2.2=1∧Mg l (t+1) (t1 q) (na++[(cur.1,cur.2.1)])):=by
 cases t with
 |zero=>
  refine xa1 h λz1 z2=>?_;clear h;subst z1;subst z2;exact ⟨λ_=>(aR q hq rfl rfl),λz=>absurd rfl z⟩
 |succ t=>
  refine aV h λp hp z1 z2=>?_;clear h;subst z1;subst z2;refine ⟨λz=>(by cases z),λ_=>⟨rfl,q,hq,rfl,?_⟩⟩;obtain ⟨h1,e⟩:=E5.mp hp;rw[←Ju h1,e];rfl
theorem zP (h:Mg l l.length cur na):(cur.2.2=0->na=l)∧(cur.2.2≠0->cur.2.2=1∧na++[(cur.1,cur.2.1)]=l):=by
 generalize hn:l.length=n at h
 cases n with
 |zero=>
  refine xa1 h λz1 z2=>?_;clear h;subst z1;subst z2;exact ⟨λ_=>(FS.mp hn).symm,λz=>absurd rfl z⟩
 |succ t=>
  refine aV h λp hp z1 z2=>?_;clear h;subst z1;subst z2;refine ⟨λz=>(by cases z),λ_=>⟨rfl,?_⟩⟩;obtain ⟨h1,e⟩:=E5.mp hp;have:l.take t++[l[t]]=l.take (t+1):=Ju h1;rw[e] at this;rw[show [((t1 p).1,(t1 p).2.1)]=[p] from rfl,this,←hn,Go]
theorem vi (h:Mg l t cur na):na.length≤t:=by
 cases t with
 |zero=>rw[h.2];exact Fd _
 |succ t=>refine aV h λp _ _ z1=>?_;clear h;subst z1;rw[H4];exact GO (IT _ _)
theorem An (P:F0) (dv:Addr->Value):(Pm (KD P dv) 153 (.type "type")&&CFound.isGet (.builtin "classmethod.__get__") (.ref 109) .none (.ref 153) (Jl (KD P dv) (.ref 153) (.type "type") "_make")&&Po (KD P dv) 109 "classmethod" ==EU [.ref 107,.bool false])=true:=s!"k"
noncomputable def aw:List String:=["self","la","lb","queue","matching_blocks","alo","ahi","blo","bhi","i","j","k","x","i1","j1","k1","non_adjacent","i2","j2","k2"]
theorem jq:aw.Nodup:=s!"1"
noncomputable abbrev OM7:=OM×OM×OM×OM×OM×OM×OM
noncomputable abbrev OM8:=OM×OM7
noncomputable def gmV (x lq lm:Addr) (n1 n2:Nat) (v:OM8) (u:OM7):List OM:=
 [EU (.r x),EU (.i n1),EU (.i n2),EU (.r lq),EU (.r lm),v.1,v.2.1,v.2.2.1,v.2.2.2.1,v.2.2.2.2.1,v.2.2.2.2.2.1,v.2.2.2.2.2.2.1,v.2.2.2.2.2.2.2,u.1,u.2.1,u.2.2.1,u.2.2.2.1,u.2.2.2.2.1,u.2.2.2.2.2.1,u.2.2.2.2.2.2]
structure GT (σ:Sg) (l:List (Nat×Nat)) (ln:Addr) (t:Nat) (cur:N3) (na:List (Nat×Nat)) (σ':Sg):Prop where
 m:Mg l t cur na
 n:σ' ln=EU (.lst (na.map λp=>tT (t1 p)))
 k:∀b m,σ b=EU m->σ' b=EU m
theorem GT.put {σ:Sg} {l:List (Nat×Nat)} {ln:Addr} {t t':Nat} {cur cur':N3} {na:List (Nat×Nat)} {σ':Sg} (h:GT σ l ln t cur na σ') (hn:σ ln=none) (h1:cur.2.2=1) (hm:Mg l t' cur' (na++[(cur.1,cur.2.1)])):
 GT σ l ln t' cur' (na++[(cur.1,cur.2.1)]) (σ'.put ln (.lst ((na.map λp=>tT (t1 p))++[.t (.type "tuple") [.i (cur.1:Int),.i (cur.2.1:Int),.i (cur.2.2:Int)]]))):=
 ⟨hm,by rw[h1,Fe];exact Sg.put_same ..,λb m hb=>(Sg.put_ne _ _ (aj hn hb)).trans (h.k b m hb)⟩
theorem eqN {a:Nat} (h:a=b):((a:Int)==(b:Int))=true:=by rw[h];exact beq_self_eq_true _
theorem neN {a:Nat} (h:¬a=b):((a:Int)==(b:Int))=false:=beq_eq_false_iff_ne.mpr λe=>h (HH.mp e)
theorem wi {f:α->β} {l:List α} (h:l.length<n) (hn:IQ n 1001=true):(l.map f).length≤1000:=by rw[EZ];exact FD (E1 h (Fo hn))
structure GE (σ:Sg) (x dx ln:Addr) (ns:List (Str×MV)) (l:List MV) (σ3:Sg):Prop where
 n:σ3 ln=EU (.lst l)
 k:∀b m,σ b=EU m->σ3 b=EU m
theorem qQ (G:Gd X.C) (O:XOk X) (N:Kn X) (R:Rm (k+3) X.A)
 (g_list:X.gs.lookup (EW "list")=EU (.type "list" :Value)) (g_map:X.gs.lookup (EW "map")=EU (.type "map" :Value)) (g_Match:X.gs.lookup (EW "Match")=EU (.ref 153:Value))
 {σ:Sg} {vs:List OM} {ts:List N3} {ln:Addr} (e:σ ln=EU (.lst (ts.map tT))) (hv:gI vs 16=EU (EU (.r ln))) (hl:ts.length<80) {p1 p2 p4 p5 p6 p7 p8:Pos} {s1:F6 (.Name (EW "Match") p4) (EW "_make") X.env (eval (.Name (EW "Match") p4) X.env)=eval (.Name (EW "Match") p4) X.env} {Q:MV->St->Prop}
 (hq:∀br,σ br=none->Q (.r br) ⟨σ.put br (.lst (ts.map tM)),zL aw vs⟩):
 WE X (.Call (.Name (EW "list") p1) [.Call (.Name (EW "map") p2) [.Attribute (.Name (EW "Match") p4) (EW "_make") p5,.Name (EW "non_adjacent") p6] [] p7] [] p8) ⟨σ,zL aw vs⟩ Q:=by
 have M:=An X.C.w.params N.dv;simp only[Fc,beq_iff_eq] at M;refine xa1 M λz1 M3=>?_;clear M;refine xa1 z1 λM1 M2=>?_;clear z1;refine bP O g_list trivial (ac (bP O g_map trivial (ac (tX O N g_Match s1 M1 (kB M2) M3 λbq nbq=>ac (bd (k:=16) O jq rfl hv (ag (CB (st:=⟨_,_⟩) ((Sg.put_ne _ _ (aj nbq e)).trans e) λit mp n1 n2 nim=>?_)))))));dsimp only at nbq n1 n2⊢
 have f1:∀{c:Addr} {m:MO},σ c=EU m->c≠it∧∀o1 o2,(((σ.put bq (bmO (.ref 107) (.ref 153))).put it o1).put mp o2) c=EU m:=λ{c m} hc=>by
  have hc1:=(Sg.put_ne σ (bmO (.ref 107) (.ref 153)) (aj nbq hc)).trans hc;have c_it:=aj n1 hc1;have c_mp:=aj n2 hc1;exact ⟨c_it,λ_ _=>(Sg.put_ne _ _ c_mp).trans ((Sg.put_ne _ _ c_it).trans hc1)⟩
 refine ag (uW (σ0:=σ) (k:=k+1) (vs:=ts.map tT) (ws:=ts.map tM) O (R.le (HZ _)) (Sg.put_same ..) ((Sg.put_ne _ _ nim).trans (Sg.put_same ..)) ((Sg.put_ne _ _ (aj n2 (Sg.put_same ..))).trans ((Sg.put_ne _ _ (aj n1 (Sg.put_same ..))).trans (Sg.put_same ..)))
  ((f1 e).2 _ _) (by rw[EZ,EZ]) (by rw[EZ];exact Fs (E1 hl s!"d")) (λA' R' i h1 h2=>?_) (λc m hc=>⟨(f1 hc).1,(f1 hc).2 _ _⟩) λbr nbr=>hq br ?_)
 ·simp only[F8];exact wa G R'
 ·cases hb:σ br with
  |none=>rfl
  |some m=>have h:=((f1 hb).2 _ _).symm.trans nbr;cases h
theorem q7 (G:Gd X.C) (O:XOk X) (N:Kn X) (hin:GC X.env=false) (R:Rm (k+3) X.A) (hE:∃v L,X.env=JP (dD (aH 6 7) "get_matching_blocks" "SequenceMatcher.get_matching_blocks" .none v (.str (EW "cpy313.difflib") 286) none (.ref 220)) L 221)
 (g_list:X.gs.lookup (EW "list")=EU (.type "list" :Value)) (g_map:X.gs.lookup (EW "map")=EU (.type "map" :Value)) (g_Match:X.gs.lookup (EW "Match")=EU (.ref 153:Value)) {x dx lq lm:Addr} {ns:List (Str×MV)} {As Bs:List Str} {l:List (Nat×Nat)} {σ:Sg} {v:OM8}
 (e1:σ x=EU (.ins 260 dx)) (e2:σ dx=EU (.ns ns)) (n_l:ns.length<20) (hr:Rows As Bs) (hc:d6 As Bs 0 0 l) (hl:l.length<60) (em:σ lm=EU (.lst (l.map λp=>tM (t1 p)))) {Q:Fl->St->Prop}
 (hQ:∀b σ' ρ',σ' b=EU (.lst ((l.map λp=>tM (t1 p))++[tM (As.length,Bs.length,0)]))->(∀c m,c≠dx->σ c=EU m->σ' c=EU m)->Q (.ret (.r b)) ⟨σ',ρ'⟩):
 WS X ((cu (aH 6 7)).drop 6) ⟨σ,zL aw (gmV x lq lm As.length Bs.length v (none,none,none,none,none,none,none))⟩ Q:=by
 conv=>arg 2;whnf
 have hd:=jq
 have i_self:gI aw 0=EU "self" :=rfl
 have i_la:gI aw 1=EU "la" :=rfl
 have i_lb:gI aw 2=EU "lb" :=rfl
 have i_queue:gI aw 3=EU "queue" :=rfl
 have i_matching_blocks:gI aw 4=EU "matching_blocks" :=rfl
 have i_alo:gI aw 5=EU "alo" :=rfl
 have i_ahi:gI aw 6=EU "ahi" :=rfl
 have i_blo:gI aw 7=EU "blo" :=rfl
 have i_bhi:gI aw 8=EU "bhi" :=rfl
 have i_i:gI aw 9=EU "i" :=rfl
 have i_j:gI aw 10=EU "j" :=rfl
 have i_k:gI aw 11=EU "k" :=rfl
 have i_x:gI aw 12=EU "x" :=rfl
 have i_i1:gI aw 13=EU "i1" :=rfl
 have i_j1:gI aw 14=EU "j1" :=rfl
 have i_k1:gI aw 15=EU "k1" :=rfl
 have i_non_adjacent:gI aw 16=EU "non_adjacent" :=rfl
 have i_i2:gI aw 17=EU "i2" :=rfl
 have i_j2:gI aw 18=EU "j2" :=rfl
 have i_k2:gI aw 19=EU "k2" :=rfl
 have nxd:=aK e1 e2
 refine aa (aA hin s!"2" (bp (T:="list") (id:="list.sort") trivial s!"2" s!"d" s!"2" Fw PySem.F.slot_list_sort PySem.F.type_list_sort
  (bd O hd ‹_› rfl ⟨bK em,ag (za N (by have:=R.u;exact E3 (EY (Fr (_+3) (16*_)) (Fr _ 16)) (g16 (k:=3) this s!"d")) (ts:=l.map t1) (by rw[FR];exact em) (by simp;exact nTT hl rfl) (by rw[NV];exact qw hc) ⟨trivial,?_⟩)⟩)))
 repeat walk_at "s"
 refine rl s!"r" s!"t" ?_
 repeat walk_at "s"
 intro ln nn
 dsimp only at nn⊢
 repeat walk_at "s"
 refine jZ (mo:=λi=> .itl lm i) (vs:=l.map λp=>tM (t1 p)) (Cond:=λst=>st.σ lm=EU (.lst (l.map λp=>tM (t1 p))))
  (λt=>Az aw (λu:N3×List (Nat×Nat)×OM×OM×OM=>gmV x lq lm As.length Bs.length v (EU (.i u.1.1),EU (.i u.1.2.1),EU (.i u.1.2.2),EU (.r ln),u.2.2.1,u.2.2.2.1,u.2.2.2.2)) λu=>GT σ l ln t u.1 u.2.1) (ci O lm _)
  (λ_=>s!"2") hX (bd O hd ‹_› rfl ⟨.mk ((0,0,0),[],none,none,none) ⟨⟨rfl,rfl⟩,Sg.put_same ..,λb m hb=>(Sg.put_ne _ _ (aj nn hb)).trans hb⟩,cB ((Sg.put_ne _ _ (aj nn em)).trans em)⟩)
  (λt st h=>by obtain ⟨_,h⟩:=h;exact h.k _ _ em) ?_ ?_
 ·rintro J hJ t ht _ ⟨⟨cur,na,u2,v2,w2⟩,h⟩
  rename_i σ1
  dsimp only at h⊢
  have JM:∀(cur:N3) (na:List (Nat×Nat)) (u v' w:OM) (σ':Sg),GT σ l ln (t+1) cur na σ'->J (t+1) ⟨σ',zL aw (gmV x lq lm As.length Bs.length v (EU (.i cur.1),EU (.i cur.2.1),EU (.i cur.2.2),EU (.r ln),u,v',w))⟩:=λcur na u v' w σ' h=>hJ _ _ (.mk (cur,na,u,v',w) h)
  clear hJ
  have ht':t<l.length:=EZ (λp=>tM (t1 p))▸ht
  have hq:l[t]?=EU l[t]:=E2 ht'
  rw[F8]
  generalize l[t]=q at hq⊢
  replace JM:=λcur na σ'=>JM cur na (EU (.i (t1 q).1)) (EU (.i (t1 q).2.1)) (EU (.i (t1 q).2.2)) σ'
  refine xa1 (z8 h.m hq) λmz mo=>?_
  refine j6 O N trivial rfl (bZ (cG O hd ‹_› rfl (bZ (cG O hd ‹_› rfl (bZ (cG O hd ‹_› rfl (fH ?_)))))))
  by_cases c:cur.1+cur.2.2=q.1∧cur.2.1+cur.2.2=q.2
  ·have hj:=zn hr hc h.m hq c.1 c.2
   refine aa (cQ true ?_ (ifT rfl ?_))
   ·repeat walk_at "s"
    refine ift (eqN (a:=cur.1+cur.2.2) c.1) ?_
    repeat walk_at "s"
    refine ift (eqN (a:=cur.2.1+cur.2.2) c.2) ?_
    repeat walk_at "s"
    exact ⟨rfl,rfl⟩
   repeat walk_at "s"
   refine uT O hd ‹_› rfl (bd O hd ‹_› rfl (xK (.mk _ rfl ?_)))
   repeat walk_at "s"
   exact JM (cur.1,cur.2.1,cur.2.2+1) na _ ⟨hj,h.n,h.k⟩
  ·refine aa (cQ false ?_ (ifF s!"d" ?_))
   ·repeat walk_at "s"
    by_cases c1:cur.1+cur.2.2=q.1
    ·refine ift (eqN (a:=cur.1+cur.2.2) c1) ?_
     repeat walk_at "s"
     exact aD (neN (a:=cur.2.1+cur.2.2) λe=>c ⟨c1,e⟩) ⟨rfl,rfl⟩
    ·exact aD (neN (a:=cur.1+cur.2.2) c1) ⟨rfl,rfl⟩
   by_cases h0:cur.2.2=0
   ·have m0:=mz h0
    refine aa (cQ false ?_ (ifF s!"d" ?_))
    ·repeat walk_at "s"
     exact ⟨by rw[h0];rfl,rfl⟩
    repeat walk_at "s"
    refine jH (x:="i1") (y:="j1") (z:="k1") O s!"2" (by refine xe2 hE λ_ _ hE=>?_;rw[hE];kernel_rfl) ?_
    repeat walk_at "s"
    refine oC hd ‹_› ‹_› ‹_› rfl rfl rfl ?_
    repeat walk_at "s"
    exact JM (t1 q) na _ ⟨m0,h.n,h.k⟩
   ·refine xa1 (mo h0) λk1' m1=>?_
    refine aa (cQ true ?_ (ifT rfl ?_))
    ·repeat walk_at "s"
     exact ⟨by rw[k1'];rfl,rfl⟩
    repeat walk_at "s"
    refine cw O hin (l:=ln) (lkI hd ‹_› rfl) h.n s!"2" s!"2" s!"2" trivial ?_
    repeat walk_at "s"
    refine i6 h.n (wi (E3 (vi h.m) (Fq ht' hl)) rfl) ?_
    repeat walk_at "s"
    refine jH (x:="i1") (y:="j1") (z:="k1") O s!"2" (by refine xe2 hE λ_ _ hE=>?_;rw[hE];kernel_rfl) ?_
    repeat walk_at "s"
    refine oC hd ‹_› ‹_› ‹_› rfl rfl rfl ?_
    repeat walk_at "s"
    exact JM (t1 q) _ _ (h.put nn k1' m1)
 ·rintro _ ⟨⟨cur,na,u2,v2,w2⟩,h⟩
  rename_i σ1
  dsimp only at h⊢
  rw[EZ] at h
  refine xa1 (zP h.m) λez eo=>?_
  refine ak (ae ?_)
  have fin:∀σ2:Sg,σ2 ln=EU (.lst (l.map λp=>tT (t1 p)))->(∀b m,σ b=EU m->σ2 b=EU m)->
   fu X ((cu (aH 6 7)).drop 11) Q .next ⟨σ2,zL aw (gmV x lq lm As.length Bs.length v (EU (.i cur.1),EU (.i cur.2.1),EU (.i cur.2.2),EU (.r ln),u2,v2,w2))⟩:=λσ2 g_n g_k=>by
   clear ez eo h em
   show WS X _ _ _
   conv=>arg 2;whnf
   refine aa ?_
   refine cw O hin (l:=ln) (lkI hd ‹_› rfl) g_n s!"2" s!"2" s!"2" trivial ?_
   repeat walk_at "s"
   refine i6 g_n (wi hl rfl) ?_
   have q_n:(σ2.put ln (.lst ((l.map λp=>tT (t1 p))++[.t (.type "tuple") [.i (As.length:Int),.i (Bs.length:Int),.i 0]]))) ln=EU (.lst ((l.map t1++[(As.length,Bs.length,0)]).map tT)):=by rw[Fe,FR];exact Sg.put_same ..
   have q_k:∀b m,σ b=EU m->(σ2.put ln (.lst ((l.map λp=>tT (t1 p))++[.t (.type "tuple") [.i (As.length:Int),.i (Bs.length:Int),.i 0]]))) b=EU m:=λb m hb=>(Sg.put_ne _ _ (aj nn hb)).trans (g_k b m hb)
   generalize σ2.put ln _=σ3 at q_n q_k⊢
   repeat walk_at "s"
   refine qQ (s1:=s!"2") G O N R g_list g_map g_Match q_n rfl (by rw[E7,EZ];exact E1 (IR hl 1) s!"d") λbr nbr=>?_
   have hm3:∀{c:Addr} {m:MO},σ c=EU m->(σ3.put br (.lst ((l.map t1++[(As.length,Bs.length,0)]).map tM))) c=EU m:=λ{c m} hc=>(Sg.put_ne _ _ (aj nbr (q_k _ _ hc))).trans (q_k _ _ hc)
   have s_x:=hm3 e1
   have s_dx:=hm3 e2
   have b_dx:br≠dx:=E8 (aj nbr (q_k _ _ e2))
   have s_b:(σ3.put br (.lst ((l.map t1++[(As.length,Bs.length,0)]).map tM))) br=EU (.lst ((l.map λp=>tM (t1 p))++[tM (As.length,Bs.length,0)])):=by rw[Fe,FR];exact Sg.put_same ..
   generalize σ3.put br _=σ4 at s_x s_dx s_b hm3⊢
   repeat walk_at "s"
   exact hQ br _ _ ((Sg.put_ne _ _ b_dx).trans s_b) λc m hc hm=>(Sg.put_ne _ _ hc).trans (hm3 hm)
  by_cases h0:cur.2.2=0
  ·refine aa (cQ false ?_ (ifF s!"d" ?_))
   ·repeat walk_at "s"
    exact ⟨by rw[h0];rfl,rfl⟩
   exact ak (fin σ1 (ez h0▸h.n) h.k)
  ·refine xa1 (eo h0) λk1' m1=>?_
   refine aa (cQ true ?_ (ifT rfl ?_))
   ·repeat walk_at "s"
    exact ⟨by rw[k1'];rfl,rfl⟩
   refine aa ?_
   refine cw O hin (l:=ln) (lkI hd ‹_› rfl) h.n s!"2" s!"2" s!"2" trivial ?_
   repeat walk_at "s"
   refine i6 h.n (wi (E3 (vi h.m) hl) rfl) ?_
   refine ae (ak (fin _ ?_ λb m hb=>(Sg.put_ne _ _ (aj nn hb)).trans (h.k b m hb)))
   rw[Sg.put_same,←m1,Fe,k1'];rfl
end
section
variable {x:Addr}
open Builtin.ObjectAttr
theorem SM.keep {w:FH} {σ:Sg} {la:Addr} {d:Addr} {F:Addr->Prop} {ns:List (Str×MV)} (h:SM w σ x la lb ws dx d js jp F ns) (hk:∀b m,σ b=EU m->σ' b=EU m):SM w σ' x la lb ws dx d js jp F ns:=
 ⟨hk _ _ h.i,hk _ _ h.n,h.ns,h.ix.frame (by refine ad h.ix λl e _=>?_;rw[e];exact hk _ _ e) (λa m _ hm=>hk a m hm),hk _ _ h.js⟩
variable {C:Cx}
noncomputable def tq (q:N4):MV:= .t (.type "tuple") [.i (q.1:Int),.i (q.2.1:Int),.i (q.2.2.1:Int),.i (q.2.2.2:Int)]
structure GW (σ:Sg) (As Bs:List Str) (l:List (Nat×Nat)) (lq lm:Addr) (n:Nat) (qs:List N4) (done:List (Nat×Nat)) (σ':Sg):Prop where
 p:ik As Bs l n qs done
 q:σ' lq=EU (.lst (qs.map tq))
 d:σ' lm=EU (.lst (done.map λp=>tM (t1 p)))
 k:∀b m,σ b=EU m->σ' b=EU m
theorem xI {a b:Nat} {p:Prop} [Decidable p] (h:¬a<b):false=decide (a<b∧p):=(decide_eq_false λq=>h q.1).symm
theorem jX (O:XOk X) (hin:GC X.env=false) {σ:Sg} {vs:List OM} {lq:Addr} {qs:List N4} {rest:List Stmt} {p:Pos} {c:Prop} [Decidable c] (r:N4) (gq:σ lq=EU (.lst (qs.map tq))) (hv:gI vs 3=EU (EU (.r lq))) (hz:qs.length≤1000)
 (hs:J3 (.Call (.Attribute (.Name (EW "queue") p) (EW "append") apos) [e] [] cpos) none pos.line X.env=pure false) (hb:F6 (.Name (EW "queue") p) (EW "append") X.env (eval (.Name (EW "queue") p) X.env)=eval (.Name (EW "queue") p) X.env) (hline:(apos.endLine==cpos.line)=true) (hst:Starless [e])
 (ht:WB X test ⟨σ,zL aw vs⟩ λb st=>b=decide c∧st=⟨σ,zL aw vs⟩)
 (he:∀Q1:MV->St->Prop,Q1 (tq r) ⟨σ,zL aw vs⟩->WE X e ⟨σ,zL aw vs⟩ Q1)
 (hq:∀σ',σ' lq=EU (.lst ((qs++if c then [r] else []).map tq))->(∀b m,b≠lq->σ b=EU m->σ' b=EU m)->WS X rest ⟨σ',zL aw vs⟩ Q):
 WS X (.If test [.Expr (.Call (.Attribute (.Name (EW "queue") p) (EW "append") apos) [e] [] cpos) pos] [] pos'::rest) ⟨σ,zL aw vs⟩ Q:=by
 by_cases h:c
 ·refine aa (cQ true (decide_eq_true h▸ht) (ifT rfl (aa (cw O hin (l:=lq) (lkI (k:=3) jq rfl hv) gq hs hb hline hst (he _ (i6 gq (by rw[EZ];exact hz) (ae (ak (ae (hq _ ?_ λb m nb hb=>(Sg.put_ne _ _ nb).trans hb))))))))));rw[Sg.put_same,if_pos h,Fe];rfl
 ·refine aa (cQ false (decide_eq_false h▸ht) (ifF s!"d" (ak (ae (hq _ ?_ λ_ _ _ hb=>hb)))));rw[if_neg h,Hh];exact gq
set_option maxHeartbeats 4000000 in
theorem yM (G:Gd C) (R:Rm (k+4) A) {la d:Addr} {F:Addr->Prop} {ns:List (Str×MV)} {l:List (Nat×Nat)} {σ:Sg} (S:SM C.w σ x la lb Bs dx d js jp F ns) (ela:σ la=EU (.lst (As.map .s))) (elb:σ lb=EU (.lst (Bs.map .s))) (hr:Rows As Bs) (h5:As.length<200) (h6:Bs.length<200) (hc:d6 As Bs 0 0 l) (hl:l.length<60):
 CtA C A (.ref 221) [.r x] [] σ λm σ'=>∃b,m= .r b∧σ' b=EU (.lst ((l.map λp=>tM (t1 p))++[tM (As.length,Bs.length,0)]))∧∀c m,c≠dx->σ c=EU m->σ' c=EU m:=by
 refine aW G R (a:=221) (c:=220) (x:=aH 6 7) (n:="get_matching_blocks") (q:="SequenceMatcher.get_matching_blocks") (d:= .none) (pm:=(.str "cpy313.difflib" 286)) (an:=none) (t:=585)
  (ps:=(["self"]:List Str).zip [.r x]) s!"k" s!"k" s!"k" s!"k" [("len",.builtin "len"),("list",.type "list"),("map",.type "map"),("Match",.ref 153)] s!"k" (λv=>(aX rfl s!"k" s!"1" (bk λa0=>cK s!"k")).a) (ρ:=zL aw [EU (.r x),none,none,none,none,none,none,none,none,none,none,none,none,none,none,none,none,none,none,none]) s!"k" λQf hQf X hC O R' hin hg hE=>?_
 subst hC
 have N:=kn G
 have hd:=jq
 have i_self:gI aw 0=EU "self" :=rfl
 have i_la:gI aw 1=EU "la" :=rfl
 have i_lb:gI aw 2=EU "lb" :=rfl
 have i_queue:gI aw 3=EU "queue" :=rfl
 have i_matching_blocks:gI aw 4=EU "matching_blocks" :=rfl
 have i_alo:gI aw 5=EU "alo" :=rfl
 have i_ahi:gI aw 6=EU "ahi" :=rfl
 have i_blo:gI aw 7=EU "blo" :=rfl
 have i_bhi:gI aw 8=EU "bhi" :=rfl
 have i_i:gI aw 9=EU "i" :=rfl
 have i_j:gI aw 10=EU "j" :=rfl
 have i_k:gI aw 11=EU "k" :=rfl
 have i_x:gI aw 12=EU "x" :=rfl
 have i_i1:gI aw 13=EU "i1" :=rfl
 have i_j1:gI aw 14=EU "j1" :=rfl
 have i_k1:gI aw 15=EU "k1" :=rfl
 have i_non_adjacent:gI aw 16=EU "non_adjacent" :=rfl
 have i_i2:gI aw 17=EU "i2" :=rfl
 have i_j2:gI aw 18=EU "j2" :=rfl
 have i_k2:gI aw 19=EU "k2" :=rfl
 have g_len:X.gs.lookup (EW "len")=EU (.builtin "len" :Value):=hg▸s!"k"
 have g_list:X.gs.lookup (EW "list")=EU (.type "list" :Value):=hg▸s!"k"
 have g_map:X.gs.lookup (EW "map")=EU (.type "map" :Value):=hg▸s!"k"
 have g_Match:X.gs.lookup (EW "Match")=EU (.ref 153:Value):=hg▸s!"k"
 clear hg
 conv=>arg 2;whnf
 refine xa4 S.at λn_a n_b n_d n_j z1=>?_;refine xa2 z1 λn_m n_f n_l=>?_;clear z1
 have e1:=S.i
 have e2:=S.n
 refine aa (aA hin s!"2" (aI ⟨trivial,?_⟩))
 repeat walk_at "s"
 refine ze (x:="la") (y:="lb") O s!"2" (by refine xe2 hE λ_ _ hE=>?_;rw[hE];kernel_rfl) ?_
 repeat walk_at "s"
 refine aT O g_len trivial ?_
 repeat walk_at "s"
 refine dz (st:=⟨_,_⟩) ela (EZ MV.s▸iTT h5 s!"d") ?_
 repeat walk_at "s"
 refine aT O g_len trivial ?_
 repeat walk_at "s"
 refine dz (st:=⟨_,_⟩) elb (EZ MV.s▸iTT h6 s!"d") ?_
 repeat walk_at "s"
 rw[EZ,EZ]
 refine Ck hd ‹_› ‹_› rfl rfl ?_
 repeat walk_at "s"
 intro lq nq
 dsimp only at nq⊢
 repeat walk_at "s"
 intro lm nm
 dsimp only at nm⊢
 repeat walk_at "s"
 have nqm:lq≠lm:=aj nm (Sg.put_same ..)
 have lm_n:σ lm=none:=by
  cases e:σ lm with
  |none=>rfl
  |some m=>rw[Sg.put_ne _ _ (aj nq e),e] at nm;cases nm
 refine dg (λn=>Az aw (λu:List N4×List (Nat×Nat)×OM8=>gmV x lq lm As.length Bs.length u.2.2 (none,none,none,none,none,none,none)) λu=>GW σ As Bs l lq lm n u.1 u.2.1) ?_ (2*As.length+1)
  (.mk (_,[],(none,none,none,none,none,none,none,none)) ⟨rF hc,(Sg.put_ne _ _ nqm).trans (Sg.put_same ..),Sg.put_same ..,λb m hb=>(Sg.put_ne _ _ (aj (m:=m) nm ((Sg.put_ne _ _ (aj nq hb)).trans hb))).trans ((Sg.put_ne _ _ (aj nq hb)).trans hb)⟩)
 clear nm
 rintro J hJ n _ ⟨⟨qs,done,v⟩,h⟩
 rename_i σ1
 dsimp only at h⊢
 refine xa1 (vJ h.p) λpl1 pl2=>?_
 refine bY s!"r" (bd O hd ‹_› rfl (uw (st:=⟨_,_⟩) h.q (by rw[EZ];exact iTT (E3 pl1 (K3 h5)) s!"d") ?_))
 rcases List.eq_nil_or_concat qs with rfl|⟨qs',⟨alo,ahi,blo,bhi⟩,rfl⟩
 ·have ed:=vh h.p
  clear hJ pl2;subst ed
  refine aD s!"2" (ak (ae (q7 G O N hin R' hE g_list g_map g_Match (h.k _ _ e1) (h.k _ _ e2) n_l hr hc hl h.d λb σ' ρ' hb hk=>hQf _ _ (aR b rfl hb (λc m nc hm=>hk c m nc (h.k c m hm))))))
 ·rw[M0] at h
  refine ift s!"4" ?_
  refine xa4 (sK h.p) λa1 a2 a3 a4 a5=>?_
  have f_q:=h.q
  rw[Fe] at f_q
  rw[M0,E7] at pl1
  walk_at "s";walk_at "s"
  refine BG O (lkI hd ‹_› rfl) s!"2" s!"2" (cZ _ _ f_q ?_ ?_)
  ·rw[EZ];exact EY (M4 (EY pl1 (Fs (K3 h5)))) s!"d"
  show WA X _ (.t (.type "tuple") [.i (alo:Int),.i (ahi:Int),.i (blo:Int),.i (bhi:Int)]) _ _
  dsimp only
  repeat walk_at "s"
  have g_k:∀b m,σ b=EU m->(σ1.put lq (.lst (qs'.map tq))) b=EU m:=λb m hb=>(Sg.put_ne _ _ (aj nq hb)).trans (h.k b m hb)
  have g_q:(σ1.put lq (.lst (qs'.map tq))) lq=EU (.lst (qs'.map tq)):=Sg.put_same ..
  have g_m:=(Sg.put_ne σ1 (.lst (qs'.map tq)) (E8 nqm)).trans h.d
  generalize σ1.put lq (.lst (qs'.map tq))=σ2 at g_k g_q g_m⊢
  clear f_q h σ1
  refine bJ N s!"2" trivial ?_
  repeat walk_at "s"
  refine dR 214 (g_k _ _ e1) (g_k _ _ e2) n_f s!"at" s!"me" s!"k" (bu G s!"k") (ac (bd O (m:= .i (alo:Int)) hd ‹_› rfl (ac (bd O (m:= .i (ahi:Int)) hd ‹_› rfl (ac (bd O (m:= .i (blo:Int)) hd ‹_› rfl (ac (bd O (m:= .i (bhi:Int)) hd ‹_› rfl (ag
   (bz (Ct.mono (CtA.ct (zf G R' (S.keep g_k) (g_k _ _ ela) (g_k _ _ elb) hr a1 a2 a3 a4 h5 h6)) ?_)))))))))))
  intro m σ3 zr1;refine b8 zr1 λg3=>?_;clear zr1
  have g3_k:∀b m,σ b=EU m->σ3 b=EU m:=λb m hb=>g3 b m (g_k b m hb)
  have g3_q:=g3 _ _ g_q
  have g3_m:=g3 _ _ g_m
  clear g3 g_k g_q g_m
  have JM:∀{n'} (_:n'<n) (qs:List N4) (done:List (Nat×Nat)) (i j k y:OM) (σ':Sg),GW σ As Bs l lq lm n' qs done σ'->∃m,m<n∧J m ⟨σ',zL aw (gmV x lq lm As.length Bs.length (EU (.i alo),EU (.i ahi),EU (.i blo),EU (.i bhi),i,j,k,y) (none,none,none,none,none,none,none))⟩:=
   λ{n'} hn qs done i j k y σ' h=>(af n' hn (hJ _ _ (.mk (qs,done,(_,_,_,_,i,j,k,y)) h)))
  clear hJ
  cases hf:fhp As Bs blo bhi alo (ahi-alo) with
  |none=>
   rw[hf] at a5
   refine ad a5 λn' hn' hp'=>?_;clear a5
   have hb:bO As Bs blo bhi alo (ahi-alo)=(alo,blo,0):=by unfold bO;rw[hf]
   rw[hb]
   refine j6 O N trivial rfl ?_
   repeat walk_at "s"
   refine aD s!"2" ?_
   repeat walk_at "s"
   exact JM hn' qs' done _ _ _ _ σ3 ⟨hp',g3_q,g3_m,g3_k⟩
  |some p=>
   obtain ⟨i,j⟩:=p
   rw[hf] at a5
   refine xa4 a5 λb1 b2 b3 b4 z1=>?_;clear a5;refine ad z1 λn' hn' hp'=>?_;clear z1
   have hb:bO As Bs blo bhi alo (ahi-alo)=(i,j,1):=by unfold bO;rw[hf]
   rw[hb]
   refine j6 O N trivial rfl ?_
   repeat walk_at "s"
   refine ift s!"2" ?_
   repeat walk_at "s"
   refine cw O hin (l:=lm) (lkI hd ‹_› rfl) g3_m s!"2" s!"2" s!"2" trivial ?_
   repeat walk_at "s"
   refine i6 g3_m (by rw[EZ];exact EY pl2 (Fs (Fq hl s!"d"))) ?_
   have g4_m:(σ3.put lm (.lst ((done.map λp=>tM (t1 p))++[.t (.ref 153) [.i (i:Int),.i (j:Int),.i ((1:Nat):Int)]]))) lm=EU (.lst ((done++[(i,j)]).map λp=>tM (t1 p))):=by rw[Fe];exact Sg.put_same ..
   have g4_k:∀b m,b≠lm->σ3 b=EU m->(σ3.put lm (.lst ((done.map λp=>tM (t1 p))++[.t (.ref 153) [.i (i:Int),.i (j:Int),.i ((1:Nat):Int)]]))) b=EU m:=λb m nb hb=>(Sg.put_ne _ _ nb).trans hb
   generalize σ3.put lm _=σ4 at g4_m g4_k⊢
   have g4_q:=g4_k _ _ nqm g3_q
   replace g4_k:∀b m,σ b=EU m->σ4 b=EU m:=λb m hb=>g4_k b m (λh=>by clear nqm g3_m JM g4_m g4_k;subst h;rw[lm_n] at hb;cases hb) (g3_k b m hb)
   clear g3_k g3_q g3_m hb
   have lz:qs'.length≤201:=EY (M4 pl1) (Fs (E1 h5 s!"d"))
   refine ae (jX (c:=alo<i∧blo<j) O hin (alo,i,blo,j) g4_q rfl (EY lz s!"d") s!"2" s!"2" s!"2" trivial ?_ (λQ1 hQ1=>?_) λσ5 g5_q g5_k=>?_)
   ·repeat walk_at "s"
    by_cases c1:alo<i
    ·refine ift (ltT c1) ?_
     repeat walk_at "s"
     by_cases c2:blo<j
     ·refine ift (ltT c2) ?_
      repeat walk_at "s"
      exact ⟨(decide_eq_true ⟨c1,c2⟩).symm,rfl⟩
     ·exact aD (ltF c2) ⟨(decide_eq_false λh=>c2 h.2).symm,rfl⟩
    ·exact aD (ltF c1) ⟨xI c1,rfl⟩
   ·repeat walk_at "s"
    exact hQ1
   have lz5:(qs'++(if alo<i∧blo<j then [(alo,i,blo,j)] else [])).length≤1000:=by rw[E7];split<;>exact EY (Hj lz _) (Fo rfl)
   refine jX (c:=i+1<ahi∧j+1<bhi) O hin (i+1,ahi,j+1,bhi) g5_q rfl lz5 s!"2" s!"2" s!"2" trivial ?_ (λQ1 hQ1=>?_) λσ6 g6_q g6_k=>?_
   ·repeat walk_at "s"
    by_cases c1:i+1<ahi
    ·refine ift (ltT (a:=i+1) c1) ?_
     repeat walk_at "s"
     by_cases c2:j+1<bhi
     ·refine ift (ltT (a:=j+1) c2) ?_
      repeat walk_at "s"
      exact ⟨(decide_eq_true ⟨c1,c2⟩).symm,rfl⟩
     ·exact aD (ltF (a:=j+1) c2) ⟨(decide_eq_false λh=>c2 h.2).symm,rfl⟩
    ·exact aD (ltF (a:=i+1) c1) ⟨xI c1,rfl⟩
   ·repeat walk_at "s"
    exact hQ1
   have n_q:∀b m,σ b=EU m->b≠lq:=λb m hb=>aj nq hb
   refine ak (ae (ak ?_))
   exact JM hn' _ _ _ _ _ _ σ6 ⟨hp',g6_q,g6_k _ _ (E8 nqm) (g5_k _ _ (E8 nqm) g4_m),λb m hb=>g6_k b m (n_q b m hb) (g5_k b m (n_q b m hb) (g4_k b m hb))⟩
end
section
theorem eW:Nn.lookup (Kd ['e','u','q','e','d','.','s','n','o','i','t','c','e','l','l','o','c'].reverse)=EU Manifest.sig_collections_deque:=s!"k"
theorem qj:Ni "collections.deque" "__init__" "collections.deque.__init__" :=
 .of (owner:="collections.deque") (n:="__init__") (by rw[FC,Fg];kernel_rfl) s!"1" s!"1" s!"1"
  (by first|exact .inl s!"1"|exact .inr s!"1") (by rw[FM];kernel_rfl)
theorem gz:Ni "collections.deque" "__len__" "collections.deque.__len__" :=
 .of (owner:="collections.deque") (n:="__len__") (by rw[FC,Fg];kernel_rfl) s!"1" s!"1" s!"1"
  (by first|exact .inl s!"1"|exact .inr s!"1") (by rw[FM];kernel_rfl)
theorem jP:Ni "collections.deque" "pop" "collections.deque.pop" :=
 .of (owner:="collections.deque") (n:="pop") (by rw[FC,Fg];kernel_rfl) s!"1" s!"1" s!"1"
  (by first|exact .inl s!"1"|exact .inr s!"1") (by rw[FM];kernel_rfl)
theorem gF:Ni "collections.deque" "append" "collections.deque.append" :=
 .of (owner:="collections.deque") (n:="append") (by rw[FC,Fg];kernel_rfl) s!"1" s!"1" s!"1"
  (by first|exact .inl s!"1"|exact .inr s!"1") (by rw[FM];kernel_rfl)
theorem ou:Hb Jf "collections.deque.__init__" =EU Builtin.«collections.deque.__init__»:=F3 s!"k"
theorem qp:Hb Jf "collections.deque.__new__" =EU Builtin.«collections.deque.__new__»:=F3 s!"k"
theorem pE:Hb Jf "collections.deque.__len__" =EU Builtin.«collections.deque.__len__»:=F3 s!"k"
theorem pd:Hb Jf "collections.deque.pop" =EU Builtin.«collections.deque.pop»:=F3 s!"k"
theorem kP:Hb Jf "collections.deque.append" =EU Builtin.«collections.deque.append»:=F3 s!"k"
theorem qV:GX (.builtin "collections.deque.pop")=pure (.type "method_descriptor"):=by show Mm _=_;rw[Jh];kernel_rfl
theorem lY:GX (.builtin "collections.deque.append")=pure (.type "method_descriptor"):=by show Mm _=_;rw[Jh];kernel_rfl
theorem f9:PlainAttrs "collections.deque" :=
 ⟨(af ("collections.deque.__getattribute__") (by rw[FC,Fg];kernel_rfl) s!"1"),by rw[FC,Fg];kernel_rfl⟩
theorem pM (a:Value):HN "collections.deque.__init__" ⟨[a],[]⟩:=by unfold HN;rw[HX (id:="collections.deque.__init__") (n:=['_','_','t','i','n','i','_','_']) (o:=['e','u','q','e','d','.','s','n','o','i','t','c','e','l','l','o','c']) s!"k" eW];kernel_rfl
theorem rE (a:Value):HN "collections.deque.__len__" ⟨[a],[]⟩:=by unfold HN;rw[HX (id:="collections.deque.__len__") (n:=['_','_','n','e','l','_','_']) (o:=['e','u','q','e','d','.','s','n','o','i','t','c','e','l','l','o','c']) s!"k" eW];kernel_rfl
theorem rt (a:Value):HN "collections.deque.pop" ⟨[a],[]⟩:=by unfold HN;rw[HX (id:="collections.deque.pop") (n:=['p','o','p']) (o:=['e','u','q','e','d','.','s','n','o','i','t','c','e','l','l','o','c']) s!"k" eW];kernel_rfl
theorem mc (a b:Value):HN "collections.deque.append" ⟨[a,b],[]⟩:=by unfold HN;rw[HX (id:="collections.deque.append") (n:=['d','n','e','p','p','a']) (o:=['e','u','q','e','d','.','s','n','o','i','t','c','e','l','l','o','c']) s!"k" eW];kernel_rfl
theorem m7:mroOf (.type "collections.deque")=pure [.type "collections.deque",.type "object"]:=by rw[mroOf_type];kernel_rfl
theorem n9:Gp (.type "collections.deque") "__new__" =pure (EU (.builtin "collections.deque.__new__")):=by rw[FC,Fg];kernel_rfl
theorem qK:TypeCalled "collections.deque" "collections.deque.__new__" "collections.deque.__init__" :=
 ⟨s!"1",s!"1",(ie2 _ _ m7),madeBy_type m7 n9 s!"1",s!"1",by rw[FM];kernel_rfl,qj⟩
theorem qS:No "collections.deque" ⟨[],[]⟩=pure ():=s!"k"
theorem sP:Ih "collections.deque.__new__" ⟨[.type "collections.deque"],[]⟩=pure ():=s!"k"
theorem ux:Gp (.type "collections.deque") "__bool__" =pure none:=by rw[FC,Fg];kernel_rfl
noncomputable abbrev cP (n:Int) (vs:List Value):Obj:={cls:= .type "collections.deque",data:= .fields (#[FG,.int n 0]++vs.toArray)}
section
variable {prog:Program} {w:FH}
theorem pF:Og (Builtin.«collections.deque.__new__» ⟨[.type "collections.deque"],[]⟩)
 (λ_ R s=>R (.ok (.ret (.ref s.heap.objs.size))) {s with heap:=s.heap.push (cP 0 [])}):=
 .of_wp λprog w A R s h=>by
  unfold Builtin.«collections.deque.__new__» Py Pz;have hsub:GG (.type "collections.deque") (.type LY)=pure true:=by unfold LY;rw[FM];kernel_rfl
  obtain ⟨hp,g,d,tk,os⟩:=s;have L:=Ft.of_pure (M:=Fa prog w) (h:=hp) hsub;repeat (first|lk)
  exact (af _ rfl h)
theorem nP (a:Addr):Og (Builtin.«collections.deque.__init__» ⟨[.ref a],[]⟩)
 (λ_ R s=>s.heap.get? a=EU (cP 0 [])∧∀h' n,Heap.SameBut a s.heap h'->h'.get? a=EU (cP n [])->R (.ok (.ret .none)) {s with heap:=h'}):=
 .of_wp λprog w A R s ⟨ho,h⟩=>by
  unfold Builtin.«collections.deque.__init__» PA JE;obtain ⟨hp,g,d,tk,os⟩:=s;dsimp only at ho h;have sb:Heap.SameBut a hp (hp.update a (JF (·.setIfInBounds 0 .none))):=Heap.SameBut.update ..;have ho2:(hp.update a (JF (·.setIfInBounds 0 .none))).get? a=EU (cP 0 []):=by rw[Heap.get?_update_self _ ho rfl];rfl
  repeat (first|(with_reducible refine wpAny_setField ho rfl s!"4" ?_)|lk)
  exact (af _ rfl (h _ 0 sb ho2))
theorem pP (a:Addr) (n:Int) (vs:List Value):Og (Builtin.«collections.deque.__len__» ⟨[.ref a],[]⟩)
 (λ_ R s=>s.heap.get? a=EU (cP n vs)∧∀t k,R (.ok (.ret (.int vs.length t))) {s with toks:=k}):=
 .of_wp λprog w A R s ⟨ho,h⟩=>by
  unfold Builtin.«collections.deque.__len__» PB;obtain ⟨hp,g,d,tk,os⟩:=s;dsimp only at ho h;repeat (first|lk)
  refine (af _ rfl ?_);rw[show (#[FG,Jx n 0]++vs.toArray).size-2=vs.length by simp];exact h _ _
theorem pf (a:Addr) (n:Int) (x:Value):Og (Builtin.«collections.deque.pop» ⟨[.ref a],[]⟩)
 (λ_ R s=>s.heap.get? a=EU (cP n [x])∧∀h' n',Heap.SameBut a s.heap h'->h'.get? a=EU (cP n' [])->R (.ok (.ret x)) {s with heap:=h'}):=
 .of_wp λprog w A R s ⟨ho,h⟩=>by
  unfold Builtin.«collections.deque.pop» JE K8;obtain ⟨hp,g,d,tk,os⟩:=s;dsimp only at ho h;repeat (first|(with_reducible refine wpAny_updateFields ho rfl ?_ (by simp[sizeLine_eq]))|lk)
  refine (af _ rfl (h _ (n+1) (Heap.SameBut.update ..) ?_));rw[Heap.get?_update_self _ ho rfl];rfl
theorem lG (a:Addr) (n:Int) (x:Value):Og (Builtin.«collections.deque.append» ⟨[.ref a,x],[]⟩)
 (λ_ R s=>s.heap.get? a=EU (cP n [])∧∀h' n',Heap.SameBut a s.heap h'->h'.get? a=EU (cP n' [x])->R (.ok (.ret .none)) {s with heap:=h'}):=
 .of_wp λprog w A R s ⟨ho,h⟩=>by
  unfold Builtin.«collections.deque.append» PC JE K8 PD;obtain ⟨hp,g,d,tk,os⟩:=s;dsimp only at ho h;repeat (first|(with_reducible refine wpAny_updateFields ho rfl ?_ (by simp[sizeLine_eq]))|lk)
  have ho2:(hp.update a (JF λvs=> #[vs.getD 0 FG,Kh (if true=true then n+1 else n)]++(vs.extract 2).push x)).get? a=EU (cP (n+1) [x]):=by rw[Heap.get?_update_self _ ho rfl];rfl
  have sb:Heap.SameBut a hp (hp.update a (JF λvs=> #[vs.getD 0 FG,Kh (if true=true then n+1 else n)]++(vs.extract 2).push x)):=Heap.SameBut.update ..;dsimp only;generalize hp.update a (JF λvs=> #[vs.getD 0 FG,Kh (if true=true then n+1 else n)]++(vs.extract 2).push x)=h2 at ho2 sb⊢;repeat (first|lk)
  exact (af _ rfl (h _ (n+1) sb ho2))
end
theorem sL {w:FH} {s:Shared} {Q:Value->Shared->Prop} (h:∀h' n,(∀b o,s.heap.get? b=EU o->h'.get? b=EU o)->h'.get? s.heap.objs.size=EU (cP n [])->Q (.ref s.heap.objs.size) {s with heap:=h'}):
 E4 (Fa prog w) A (call (.type "collections.deque") []) Q E s:=by
 refine callType_meets qK qS sP qp ou pF (Q₁:=λobj s₁=>obj= .ref s.heap.objs.size∧s₁={s with heap:=s.heap.push (cP 0 [])}) ⟨rfl,rfl⟩ ?_;intro obj s₁ zr1;refine b8 zr1 λz2=>?_;clear zr1;subst z2;have g:(s.heap.push (cP 0 [])).get? s.heap.objs.size=EU (cP 0 []):=Heap.get?_push_size _ rfl;refine (ia2 ⟨_,g,rfl⟩ (pM _) ⟨_,nP _,g,λh' n sb hg=>⟨rfl,h h' n (λb o e=>?_) hg⟩⟩);rw[sb.2 b (Fh (Heap.lt_size e))];exact Heap.get?_push_of_some _ e
noncomputable def DqV:Option Str->List Value->Prop
 |none,vs=>vs=[]
 |some x,vs=>∃t,vs=[.str x t]
noncomputable def dqO (l:Option Str):MO:= .any λo=>∃n vs,o=cP n vs∧DqV l vs
section
variable {l:Option Str}
variable {X:Xc} {st:St} {Q:MV->St->Prop}
theorem l9 (hq:∀d,st.σ d=none->Q (.r d) ⟨st.σ.put d (dqO none),st.ρ⟩):WC X (.type "collections.deque") [] st Q:=λφ s us I r=>by
 unfold VRs at r;subst r;refine sL λh' n old hg=>?_;have I₁:=I.grow old s.toks;refine xa2 (bA I.inv.fresh) λa1 a2 a3=>?_;have I₂:=(I₁.hide a2 a1 I.inv.sz (m:=dqO none) (ck _ hg rfl n ⟨[],rfl,rfl⟩)).show_ a2 a1 a3;exact .mk (bN ..) I₂ (aB old) (hq _ a2)
theorem lJ {s:Shared} {d:Addr} (I:IF X φ st s) (e:st.σ d=EU (dqO l)):∃n vs,s.heap.get? d=EU (cP n vs)∧DqV l vs:=by
 refine aV (I.own e) λo ho _ z1=>?_;refine am z1 λn vs z2 h=>?_;clear z1;subst z2;exact (cz n vs ho h)
theorem sE {d:Addr} (e:st.σ d=EU (dqO l)):oV X (.r d) st "collections.deque" :=λφ s v I r=>by
 cases (show v= .ref d from r);refine am (lJ I e) λn vs ho _=>?_;exact ⟨(af _ ho rfl),λb hb=>by cases hb;exact (af _ ho rfl)⟩
theorem yr {d:Addr} (e:st.σ d=EU (dqO (EU x))) (hq:Q (.s x) ⟨st.σ.put d (dqO none),st.ρ⟩):WC X (.builtin "collections.deque.pop") [.r d] st Q:=λφ s us I r=>by
 refine fN r ?_;refine am (lJ I e) λn vs ho z1=>?_;refine xe1 z1 λt z3=>?_;clear z1;subst z3;refine IV jP (af _ ho rfl) pd (rt _) (pf d n _) ⟨ho,λh' n' sb hg=>?_⟩;exact Post.mk (ft ..) (I.upd (m':=dqO none) (t:=s.toks) e sb (ck _ hg rfl n' ⟨[],rfl,rfl⟩)) (cp I e sb) hq
theorem sW {d:Addr} (e:st.σ d=EU (dqO none)) (hq:Q (.k .none) ⟨st.σ.put d (dqO (EU x)),st.ρ⟩):WC X (.builtin "collections.deque.append") [.r d,.s x] st Q:=λφ s us I r=>by
 refine B0 r λt=>?_;refine am (lJ I e) λn vs ho h0=>?_;subst h0;refine IV gF (af _ ho rfl) kP (mc _ _) (lG d n _) ⟨ho,λh' n' sb hg=>?_⟩;exact Post.mk (ba ..) (I.upd (m':=dqO (EU x)) (t:=s.toks) e sb (ck _ hg rfl n' ⟨[_],rfl,t,rfl⟩)) (cp I e sb) hq
end
section
variable {prog:Program} {w:FH} {A:Gk} {E:Value->Shared->Prop} {s:Shared}
theorem t9 {d:Addr} {n:Int} {vs:List Value} {Q:Bool->Shared->Prop} (ho:s.heap.get? d=EU (cP n vs)) (hz:vs.length<1000) (h:∀k,Q (!vs.isEmpty) {s with toks:=k}):E4 (Fa prog w) A (NK (.ref d)) Q E s:=by
 have hT:s.TypeIs (.ref d) "collections.deque" :=(af _ ho rfl)
 have key:E4 (Fa prog w) A (runValue (.builtin "len" ⟨[.ref d],[]⟩)) (λr s'=>∃t,r= .int vs.length t∧Q (!vs.isEmpty) s') E s:=by
  refine QW (Gb entry_len ?_);rw[FK plain_len _];unfold Builtin.«len»;refine EX (m:=oneArg "len" _) (E0 ?_);refine EX (m:=Lm (.ref d) (EW "__len__")) (Gn (name:=EW "__len__") hT gz
   (IV gz hT pE (rE _) (pP d n vs) ⟨ho,λt k=>?_⟩))
  refine EX (wpAny_holding (E0 ?_));refine EX (II ?_);have e1:¬((vs.length:Int)<0):=by exact tB
  have e2:¬((vs.length:Int)≥2^63):=by exact BL hz
  simp only[e1,e2,if_false];exact EX (KJ (E0 (af _ rfl (h _))))
 have e:((vs.length:Int) !=0)= !vs.isEmpty:=by clear ho hz h key;cases vs<;>simp;exact λz_h=>H7 _ (HH.mp z_h)
 unfold NK;refine EX (wpAny_callSpecial?_none (name:=EW "__bool__") hT ux ?_);refine EX (It (name:=EW "__len__") hT gz.lookup ?_);exact EX (FB key (λr s' h'=>by refine ad h' λt z1 hq=>?_;clear h';subst z1;exact E0 (e▸hq)) λ_ _ e=>e)
end
theorem wu {st:St} {QB:Bool->St->Prop} {d:Addr} {l:Option Str} (e:st.σ d=EU (dqO l)) (h:QB l.isSome st):WT X (.r d) st QB:=λφ s v I r=>by
 cases (show v= .ref d from r);refine am (lJ I e) λn vs ho hv=>?_
 have z:(!vs.isEmpty)=l.isSome∧vs.length<1000:=by
  cases l with
  |none=>clear ho;cases (show vs=[] from hv);exact ⟨rfl,s!"4"⟩
  |some x=>refine xe1 hv λt z1=>?_;clear hv;clear ho;subst z1;exact ⟨rfl,s!"4"⟩
 refine t9 ho z.2 λk=>?_;rw[z.1];exact ⟨st,I.toks _,.refl _,h⟩
end
section
open Builtin.Str
section
variable {n:Int}
variable {X:Xc} {st:St} {φ:Sg} {Q:MV->St->Prop}
theorem wM (hq:Q (.k (.type "int")) st):WC X (.type "type") [.i n] st Q:=λφ s us I r=>by
 refine wt r λt=>?_;exact call_type_of (Tx:="int") (OZ s n t) s!"d" (Post.mk (ba ..) I (.refl _) hq)
theorem o4 (hq:Q (.k (.type "str")) st):WC X (.type "type") [.s x] st Q:=λφ s us I r=>by
 refine wQ r λt=>?_;exact call_type_of (Tx:="str") rfl s!"d" (Post.mk (ba ..) I (.refl _) hq)
theorem jc {a b:String} (hq:Q (.k (.bool (!(GL a==GL b)))) st):W2 X (Fu .IsNot) (.k (.type a)) (.k (.type b)) st Q:=λφ s v w I e1 e2=>by
 cases (show v= .type a from e1);cases (show w= .type b from e2);exact E0 (a:=Pw (!(GL a==GL b))) (Post.mk (ba ..) I (.refl _) hq)
theorem yG (hq:Q (.i n) st):WC X (.type "int") [.i n] st Q:=λφ s us I r=>by
 refine wt r λt=>?_;exact call_int_int (Post.mk (cH ..) I (.refl _) hq)
theorem te (hq:Q (.k (.bool true)) st):WC X (.builtin "isinstance") [.s x,.k (.type "str")] st Q:=λφ s us I r=>by
 refine CS r λt z e2=>?_;cases (show z= .type "str" from e2);exact call_isinstance (isinstance_true (Tx:="str") s!"k" (by rw[FM];kernel_rfl)) ⟨rfl,Post.mk (ba ..) I (.refl _) hq⟩
noncomputable def fnd (x y:Str) (i j:Int):Int:=match occurrences x y (fromIndex x.length i) (min (fromIndex x.length j) x.length) 1 with|k::_=>(k:Int)| []=> -1
theorem rA (x y:Str) (i j:Int) (t u v v':Nv):Gives (Builtin.«str.find» ⟨[.str x t,.str y u,.int i v,.int j v'],[]⟩) (.int (fnd x y i j)):=by
 show Gives (match occurrences x y (fromIndex x.length i) (min (fromIndex x.length j) x.length) 1 with|k::_=>retInt k| []=>(do rule "str.find.not-found";retInt (-1))) _;unfold fnd
 cases occurrences x y (fromIndex x.length i) (min (fromIndex x.length j) x.length) 1 with
 |nil=>exact .rule (.of_eq rfl)
 |cons k _=>exact .of_eq rfl
theorem y5 {i j:Int} (hq:Q (.i (fnd x y i j)) st):WC X (.builtin "str.find") [.s x,.s y,.i i,.i j] st Q:=λφ s us I r=>by
 refine yi r λt1 t2 t3 t4=>?_;exact IV Mn rfl PySem.F.entry_str_find (PySem.F.args_str_find_4 _ _ _ _) (rA x y i j t1 t2 t3 t4).meets (Post.mk (cH ..) (I.toks _) (.refl _) hq)
theorem bV {lower upper:Option G0} {p:Pos} (ht:∀x t r,IM value (.str x t) r=pure ())
 (h:WE X value st λa st₁=>∃x,a= .s x∧x.length≤sizeLine∧WP X lower st₁ λl st₂=>WP X upper st₂ λu st₃=>Q (.s (cut x l u)) st₃):
 WE X (.Subscript value (.Slice lower upper none p) pos) st Q:=λφ s I=>by
 rw[eval_Subscript];refine EX (ab (h φ s I) λv s₁ pp=>?_);obtain ⟨a,st₁,r,I₁,k₁,x,e,hl,h₁⟩:=pp;subst e;refine xe1 r λt z1=>?_;clear r;subst z1;refine EX (wpAny_holding (wpAny_Slice (ab (jw h₁ I₁) λvl s₂ y=>?_)));obtain ⟨l,st₂,e₂,I₂,k₂,h₂⟩:=y;refine ab (jw h₂ I₂) λvu s₃ pp=>?_;refine lr pp λu st₃ e₃ I₃ k₃ q=>?_;clear pp;subst e₂ e₃;rw[Q7];refine E0 ?_;refine EX (GH ?_);have T:∀s':Shared,s'.TypeIs (.str x t) "str" :=λs'=>O0 _ x t;have fin:E4 X.M X.A (Pd [.ref s₃.heap.objs.size,.str x t] (Pe (.str x t) (.ref s₃.heap.objs.size))) (λr s₄=>E4 X.M X.A (IM value (.str x t) r>>=λ_=>pure r) (Post X φ s Q) NoE s₄) NoE
  {s₃ with heap:=s₃.heap.push {cls:= .type "slice",data:= .fields #[NB l,NB u,.none]}}:=
  wpAny_operating (FB (wpAny_getItem_str_slice (l:=l) (u:=u) (st:=none) ⟨_,Heap.get?_push_size _ rfl,rfl,rfl⟩ rfl (mH (Qx:=λr s₄=>Post X φ s Q r s₄) hl λt' k=>Post.mk (ft ..) ((I₃.push _).toks k) (k₁.trans (k₂.trans (k₃.trans (keep_push _ _)))) q))
   (λr s₄ h₄=>EX (FN (ht x t r) (E0 h₄))) λ_ _ z=>z)
 refine EX ?_;rw[getitemInPython_of_ne (by intro e;cases e)];refine EX (It (T _) F.slot_str_getitem.lookup ?_)
 first
  |exact E0 (EX fin)
  |exact EX (E0 (EX fin))
  |exact EX fin
theorem yL (N:Kn X) {x C p fget:Addr} {ns:List (Str×MV)} {rest:List Value} {σ:Sg} (e1:σ x=EU (.ins C dx)) (e2:σ dx=EU (.ns ns)) (hC:dk (KD X.C.w.params N.dv) C=true)
 (ha:Il (KD X.C.w.params N.dv) (.ref C) name=EU (EU (.ref p))) (hg:NA (KD X.C.w.params N.dv) (.ref p) "__get__" =EU (EU (.builtin "property.__get__"))) (ht:takesIn (KD X.C.w.params N.dv) (.ref p)=EU true)
 (hp:Po (KD X.C.w.params N.dv) p "property" =EU (.ref fget::rest)) (hct:CtA X.C X.A.in1 (.ref fget) [.r x] [] σ λm σ'=>m.out∧Q m ⟨σ',ρ⟩):AtR X (.r x) name ⟨σ,ρ⟩ Q:=
 ⟨⟨_,rfl⟩,λφ s v I r=>by
  cases (show v= .ref x from r);refine bM (jy (I.own e1) (I.own e2)) λes n IA nr D=>?_;have KI:=I.kin N;refine xa4 (gr hC) λc1 c2 c3 c4 c5=>?_;refine ad (QG c5) λcd hcd hhd=>?_;refine get_bind (s:=s) KI IA c1 (findObj_data (by rw[hcd];rfl) ha hg ht) c2 ?_;refine wpAny_call (prop_get (s:={s with toks:=s.toks+1}) KI hp ?_)
  let φ':Sg:=λa=>if a=X.env.locals then EU (.fr ρ) else φ a
  have e1:joi σ φ'=tot σ φ X.env.locals ρ:=by
   funext a;show (σ a).or (if a=X.env.locals then EU (.fr ρ) else φ a)=if a=X.env.locals then EU (.fr ρ) else (σ a).or (φ a)
   by_cases h:a=X.env.locals
   ·rw[if_pos h,if_pos h,h,show σ X.env.locals=none from I.no];rfl
   ·rw[if_neg h,if_neg h]
  have d1:Dis σ φ':=λa m e=>by
   show (if a=X.env.locals then EU (MO.fr ρ) else φ a)=none;rw[if_neg (λh=>by rw[h,show σ X.env.locals=none from I.no] at e;cases e)];exact I.dis a m e
  refine codeAny_mono (hct φ' {s with toks:=s.toks+1} [.ref x] [] (by rw[e1];exact I.inv.toks _) d1 (.cons (bN ..) (.nil _)) (.nil _)) λr s' z=>?_;rcases r with e|(_|_|_|v)<;>first|exact z.elim|skip
  refine ia z λm σ' rv I' d' k' ho hq=>?_;clear z
  have no:σ' X.env.locals=none:=by
   cases hh:σ' X.env.locals with
   |none=>rfl
   |some m=>
    have:=d' _ _ hh;have:(if X.env.locals=X.env.locals then EU (MO.fr ρ) else φ X.env.locals)=none:=this;rw[if_pos rfl] at this;cases this
  have e2:joi σ' φ'=tot σ' φ X.env.locals ρ:=by
   funext a;show (σ' a).or (if a=X.env.locals then EU (.fr ρ) else φ a)=if a=X.env.locals then EU (.fr ρ) else (σ' a).or (φ a)
   by_cases h:a=X.env.locals
   ·rw[if_pos h,if_pos h,h,no];rfl
   ·rw[if_neg h,if_neg h]
  refine LT (rv.out ho) ⟨m,⟨σ',ρ⟩,rv,⟨by show Inv X.C (tot σ' φ X.env.locals ρ) s';rw[←e2];exact I',no,λa m e=>?_,I.loc⟩,k',hq⟩;have:=d' a m e;have this:(if a=X.env.locals then EU (MO.fr ρ) else φ a)=none:=this;by_cases h:a=X.env.locals
  ·rw[if_pos h] at this;cases this
  ·rw[if_neg h] at this;exact this⟩
end
end
section
variable {n:Int} {pos:Nat}
variable {C:Cx}
noncomputable def cW:List String:=["n","what"]
theorem nT:cW.Nodup:=s!"1"
set_option maxHeartbeats 4000000 in
theorem mQ (G:Gd C) (R:Rm (k+1) A) {what:Str} {σ:Sg} (h1:n≤1099511627776) (h2: -1099511627776≤n):
 CtA C A (.ref 306) [.i n,.s what] [] σ λm σ'=>m= .i n∧σ'=σ:=by
 refine aW G R (a:=306) (c:=305) (x:=top 14) (n:="_index") (q:="_index") (d:= .none) (pm:=(.str "io" 713)) (an:=none) (t:=724)
  (ps:=(["n","what"]:List Str).zip [.i n,.s what]) s!"k" s!"k" s!"k" s!"k" [("type",.type "type"),("int",.type "int")] s!"k" (λv=>(aX rfl s!"k" s!"1" (bk λa0=>bk λa1=>cK s!"k")).a) (ρ:=zL cW [EU (.i n),EU (.s what)]) s!"k" λQf hQf X hC O R' hin hg hE=>?_
 subst hC
 have N:=kn G
 have hd:=nT
 have i_n:gI cW 0=EU "n" :=rfl
 have i_what:gI cW 1=EU "what" :=rfl
 have g_type:X.gs.lookup (EW "type")=EU (.type "type" :Value):=hg▸s!"k"
 have g_int:X.gs.lookup (EW "int")=EU (.type "int" :Value):=hg▸s!"k"
 clear hg hE
 conv=>arg 2;whnf
 have l_n:lk (zL cW [EU (.i n),EU (.s what)]) "n" =EU (EU (.i n)):=lkI hd i_n rfl
 have l_what:lk (zL cW [EU (.i n),EU (.s what)]) "what" =EU (EU (.s what)):=lkI hd i_what rfl
 generalize zL cW [EU (.i n),EU (.s what)]=ρ at l_n l_what⊢
 clear hd i_n i_what
 refine aa (cQ false ?_ ?_)
 ·repeat walk_at "s"
  refine bP O g_type trivial ?_
  repeat walk_at "s"
  refine wM ?_
  repeat walk_at "s"
  refine c8 O g_int ?_
  refine jc ?_
  repeat walk_at "s"
  refine aD s!"d" ?_
  exact ⟨rfl,rfl⟩
 rw[if_neg s!"d"]
 repeat walk_at "s"
 refine bP O g_int trivial ?_
 repeat walk_at "s"
 refine yG ?_
 repeat walk_at "s"
 refine aD s!"ff" ?_
 repeat walk_at "s"
 refine aD s!"ff" ?_
 repeat walk_at "s"
 exact ⟨rfl,rfl⟩
theorem uM {st:St} {Q:MV->St->Prop} (hf:x.length<2^62) (hq:Q (.i x.length) st):WC X (.builtin "len") [.s x] st Q:=λφ s us I r=>by
 refine wQ r λt=>?_;exact len_str (by exact z7 hf) (Post.mk (cH ..) (I.toks _) (.refl _) hq)
theorem dN (x:Str) (l u:Option Int):(cut x l u).length≤x.length:=Txt.slice_le x l u
noncomputable def rd1 (buf:Str) (pos:Nat):Str×Nat:=if pos<buf.length then (cut (cut buf (EU (pos:Int)) (EU ((pos:Int)+1))++ " ") none (EU (-1)),pos+1) else ("",pos)
noncomputable def bH (buf:Str) (pos:Nat):List (Str×MV):=[("_StringIO__newline",.s "\n"),("_StringIO__buf",.s buf),("_StringIO__pos",.i (pos:Int))]
theorem rm (b:Str) (p:Nat):nk (bH b p) "_StringIO__newline" =EU (.s "\n"):=s!"k"
theorem mh (b:Str) (p:Nat):nk (bH b p) "_StringIO__buf" =EU (.s b):=s!"k"
theorem rK (b:Str) (p:Nat):nk (bH b p) "_StringIO__pos" =EU (.i (p:Int)):=s!"k"
theorem gW (b:Str) (p q:Nat):aM (bH b p) "_StringIO__pos" (.i (q:Int))=bH b q:=s!"k"
theorem hZ {b:Str} {p:Nat} (h1:x≠ "_StringIO__newline") (h2:x≠ "_StringIO__buf") (h3:x≠ "_StringIO__pos"):nk (bH b p) x=none:=by simp[nk,bH,h1,h2,h3]
noncomputable def cM:List String:=["self"]
theorem jN:cM.Nodup:=s!"1"
set_option maxHeartbeats 4000000 in
theorem iC (G:Gd C) (R:Rm (k+1) A) {σ:Sg} (e1:σ io=EU (.ins 840 dio)) (e2:σ dio=EU (.ns (bH buf pos))):
 CtA C A (.ref 624) [.r io] [] σ λm σ'=>m= .k .none∧σ'=σ:=by
 refine aW G R (a:=624) (c:=623) (x:=aH 20 3) (n:="__check") (q:="StringIO.__check") (d:= .none) (pm:=(.str "io" 713)) (an:=none) (t:=1118)
  (ps:=(["self"]:List Str).zip [.r io]) s!"k" s!"k" s!"k" s!"k" [] s!"k" (λv=>(aX rfl s!"k" s!"1" (bk λa0=>cK s!"k")).a) (ρ:=zL cM [EU (.r io)]) s!"k" λQf hQf X hC O R' hin hg hE=>?_
 subst hC
 have N:=kn G
 have hd:=jN
 have i_self:gI cM 0=EU "self" :=rfl
 clear hg hE
 conv=>arg 2;whnf
 have l_self:lk (zL cM [EU (.r io)]) "self" =EU (EU (.r io)):=lkI hd i_self rfl
 generalize zL cM [EU (.r io)]=ρ at l_self⊢
 clear hd i_self
 have n1:=mh buf pos
 repeat walk_at "s"
 exact ⟨rfl,rfl⟩
theorem vj (G:Gd C) (v:Value):d4 C (dD (aH 20 25) "read" "StringIO.read" (.ref 779) v (.str "io" 713) none (.ref 785)) [.r io,.i n] [] ((["self","size"]:List Str).zip [.r io,.i n]):=by
 refine fX (T:=779) (o:=dT [.int (-1) 1290]) rfl (G.says.obj s!"k" rfl) rfl λvs ks hv hk=>?_
 obtain ⟨a0,a1,rfl⟩:∃a0 a1,vs=[a0,a1]:=by
  rcases vs with _|⟨a0,_|⟨a1,_|_⟩⟩<;>simp at hv
  exact ⟨a0,a1,rfl⟩
 have e_ks:ks=[]:=FS.mp hk;subst e_ks;refine ⟨_,[("self",a0),("size",a1)],s!"2",s!"k",s!"k",λh r q=>?_⟩;obtain ⟨r0,r⟩:=r.c;obtain ⟨r1,r⟩:=r.c;exact .cons (v:=a0) s!"k" r0 (.cons (v:=a1) s!"k" r1 .nil)
noncomputable def bj:List String:=["self","size","start","stop"]
theorem jY:bj.Nodup:=s!"1"
set_option maxHeartbeats 4000000 in
theorem qx (G:Gd C) (R:Rm (k+2) A) {σ:Sg} (e1:σ io=EU (.ins 840 dio)) (e2:σ dio=EU (.ns (bH buf pos))) (hb:buf.length<1000):
 CtA C A (.ref 786) [.r io,.i 1] [] σ λm σ'=>m= .s (rd1 buf pos).1∧σ'=σ.put dio (.ns (bH buf (rd1 buf pos).2)):=by
 refine aW G R (a:=786) (c:=785) (x:=aH 20 25) (n:="read") (q:="StringIO.read") (d:=(.ref 779)) (pm:=(.str "io" 713)) (an:=none) (t:=1292)
  (ps:=(["self","size"]:List Str).zip [.r io,.i 1]) s!"k" s!"k" s!"k" s!"k" [("_index",.ref 306),("len",.builtin "len")] s!"k" (λv=>vj G v) (ρ:=zL bj [EU (.r io),EU (.i 1),none,none]) s!"k" λQf hQf X hC O R' hin hg hE=>?_
 subst hC
 have N:=kn G
 have hd:=jY
 have i_self:gI bj 0=EU "self" :=rfl
 have i_size:gI bj 1=EU "size" :=rfl
 have i_start:gI bj 2=EU "start" :=rfl
 have i_stop:gI bj 3=EU "stop" :=rfl
 have g_index:X.gs.lookup (EW "_index")=EU (.ref 306:Value):=hg▸s!"k"
 have g_len:X.gs.lookup (EW "len")=EU (.builtin "len" :Value):=hg▸s!"k"
 clear hg hE
 conv=>arg 2;whnf
 have l_self:lk (zL bj [EU (.r io),EU (.i 1),none,none]) "self" =EU (EU (.r io)):=lkI hd i_self rfl
 have l_size:lk (zL bj [EU (.r io),EU (.i 1),none,none]) "size" =EU (EU (.i 1)):=lkI hd i_size rfl
 have l_start:lk (zL bj [EU (.r io),EU (.i 1),none,none]) "start" =EU (none):=lkI hd i_start rfl
 have l_stop:lk (zL bj [EU (.r io),EU (.i 1),none,none]) "stop" =EU (none):=lkI hd i_stop rfl
 generalize zL bj [EU (.r io),EU (.i 1),none,none]=ρ at l_self l_size l_start l_stop⊢
 clear hd i_self i_size i_start i_stop
 have n1:=mh buf pos
 have n2:=rK buf pos
 repeat walk_at "s"
 refine am (bu G (a:=306) s!"k") λoi fi hi1 hi2=>?_
 refine bB O g_index hi1 hi2 trivial ?_
 repeat walk_at "s"
 refine bz (Ct.mono (CtA.ct (mQ G R' s!"d" s!"d")) ?_)
 intro m σ' zr1;refine b8 zr1 λz2=>?_;clear zr1;subst z2
 repeat walk_at "s"
 refine aA hin s!"2" (bJ N s!"2" trivial ?_)
 repeat walk_at "s"
 have nxd:=aK e1 e2
 refine dR 624 e1 e2 (hZ s!"ne" s!"ne" s!"ne") s!"at" s!"me" s!"k" (bu G s!"k") (ag (bz (Ct.mono (CtA.ct (iC G R' e1 e2)) ?_)))
 intro m σ' zr1;refine b8 zr1 λz2=>?_;clear zr1;subst z2
 refine ⟨trivial,?_⟩
 repeat walk_at "s"
 refine aT O g_len trivial ?_
 repeat walk_at "s"
 refine uM (st:=⟨_,_⟩) (by exact nTT hb rfl) ?_
 repeat walk_at "s"
 by_cases hp:pos<buf.length
 ·have hr:rd1 buf pos=(cut (cut buf (EU (pos:Int)) (EU ((pos:Int)+1))++ " ") none (EU (-1)),pos+1):=by unfold rd1;rw[if_pos hp]
  have hr1:=congrArg Prod.fst hr
  have hr2:=congrArg Prod.snd hr
  dsimp only at hr1 hr2
  refine aD s!"ff" ?_
  repeat walk_at "s"
  refine ift s!"tt" ?_
  repeat walk_at "s"
  have hz:(bH buf pos).length=3:=rfl
  have hcut:(cut buf (EU (pos:Int)) (EU ((pos:Int)+1))).length≤1000:=by have:=dN buf (EU (pos:Int)) (EU ((pos:Int)+1));exact nTL (E3 this hb) rfl
  have h1:((" " :Str)).length=1:=s!"d"
  have hlen:(cut buf (EU (pos:Int)) (EU ((pos:Int)+1))++(" " :Str)).length=(cut buf (EU (pos:Int)) (EU ((pos:Int)+1))).length+1:=by rw[str_length_append,h1]
  by_cases c:pos+1<buf.length
  ·refine ift s!"tt" ?_
   repeat walk_at "s"
   refine bV (λ_ _ _=>s!"2") ?_
   repeat walk_at "s"
   refine bV (λ_ _ _=>s!"2") ?_
   repeat walk_at "s"
   refine (aR _ rfl (by rw[sizeLine_eq];exact po hb) (fG ?_))
   repeat walk_at "s"
   refine cU (by rw[sizeLine_eq];exact Ba hcut h1) (aR _ rfl (by rw[hlen,sizeLine_eq];exact vZ hcut) (fD (fG ?_)))
   repeat walk_at "s"
   refine ⟨by rw[hr1],?_⟩
   rw[hr2]
   exact congrArg (λz=>σ'.put dio (.ns z)) (gW buf pos (pos+1))
  ·have hl:(buf.length:Int)=(pos:Int)+1:=by exact congrArg Int.ofNat (GF (F9.mp c) hp)
   refine aD s!"ff" ?_
   rw[hl]
   repeat walk_at "s"
   refine bV (λ_ _ _=>s!"2") ?_
   repeat walk_at "s"
   refine bV (λ_ _ _=>s!"2") ?_
   repeat walk_at "s"
   refine (aR _ rfl (by rw[sizeLine_eq];exact po hb) (fG ?_))
   repeat walk_at "s"
   refine cU (by rw[sizeLine_eq];exact Ba hcut h1) (aR _ rfl (by rw[hlen,sizeLine_eq];exact vZ hcut) (fD (fG ?_)))
   repeat walk_at "s"
   refine ⟨by rw[hr1],?_⟩
   rw[hr2]
   exact congrArg (λz=>σ'.put dio (.ns z)) (gW buf pos (pos+1))
 ·have hr:rd1 buf pos=(("" :Str),pos):=by unfold rd1;rw[if_neg hp]
  refine ift s!"tt" ?_
  repeat walk_at "s"
  exact ⟨by rw[hr],by rw[hr];exact (pr e2).symm⟩
end
section
local macro_rules | `(tactic|specialize $s:str)=>wk wB s
section
variable {pos:Nat}
variable {C:Cx}
theorem exS {a:Str} {Q:Str->Prop} (hl:a.length≤sizeLine) (h:Q a):∃x,MV.s a= .s x∧x.length≤sizeLine∧Q x:=(aR a rfl hl h)
noncomputable def rdl (buf:Str) (pos:Nat):Nat:=if pos<buf.length then (if 0≤fnd buf "\n" (pos:Int) (buf.length:Int) then (fnd buf "\n" (pos:Int) (buf.length:Int)).toNat+1 else buf.length) else pos
theorem tu {i j:Int} (h:0≤fnd x y i j):((fnd x y i j).toNat:Int)=fnd x y i j:=by exact NF h
noncomputable def au:List String:=["self","limit","start","stop","cut","newline","i","j","end"]
theorem j7:au.Nodup:=s!"1"
set_option maxHeartbeats 4000000 in
theorem pI (G:Gd C) (R:Rm (k+1) A) {σ:Sg} (e1:σ io=EU (.ins 840 dio)) (e2:σ dio=EU (.ns (bH buf pos))) (hb:buf.length<1000):
 CtA C A (.ref 638) [.r io,.i (-1)] [] σ λm σ'=>(∃x,m= .s x)∧σ'=σ.put dio (.ns (bH buf (rdl buf pos))):=by
 refine aW G R (a:=638) (c:=637) (x:=aH 20 5) (n:="__line") (q:="StringIO.__line") (d:= .none) (pm:=(.str "io" 713)) (an:=none) (t:=1132)
  (ps:=(["self","limit"]:List Str).zip [.r io,.i (-1)]) s!"k" s!"k" s!"k" s!"k" [("len",.builtin "len")] s!"k" (λv=>(aX rfl s!"k" s!"1" (bk λa0=>bk λa1=>cK s!"k")).a) (ρ:=zL au [EU (.r io),EU (.i (-1)),none,none,none,none,none,none,none]) s!"k" λQf hQf X hC O R' hin hg hE=>?_
 subst hC
 have N:=kn G
 have hd:=j7
 have i_self:gI au 0=EU "self" :=rfl
 have i_limit:gI au 1=EU "limit" :=rfl
 have i_start:gI au 2=EU "start" :=rfl
 have i_stop:gI au 3=EU "stop" :=rfl
 have i_cut:gI au 4=EU "cut" :=rfl
 have i_newline:gI au 5=EU "newline" :=rfl
 have i_i:gI au 6=EU "i" :=rfl
 have i_j:gI au 7=EU "j" :=rfl
 have i_end:gI au 8=EU "end" :=rfl
 have g_len:X.gs.lookup (EW "len")=EU (.builtin "len" :Value):=hg▸s!"k"
 clear hg hE
 conv=>arg 2;whnf
 have l_self:lk (zL au [EU (.r io),EU (.i (-1)),none,none,none,none,none,none,none]) "self" =EU (EU (.r io)):=lkI hd i_self rfl
 have l_limit:lk (zL au [EU (.r io),EU (.i (-1)),none,none,none,none,none,none,none]) "limit" =EU (EU (.i (-1))):=lkI hd i_limit rfl
 have l_start:lk (zL au [EU (.r io),EU (.i (-1)),none,none,none,none,none,none,none]) "start" =EU (none):=lkI hd i_start rfl
 have l_stop:lk (zL au [EU (.r io),EU (.i (-1)),none,none,none,none,none,none,none]) "stop" =EU (none):=lkI hd i_stop rfl
 have l_cut:lk (zL au [EU (.r io),EU (.i (-1)),none,none,none,none,none,none,none]) "cut" =EU (none):=lkI hd i_cut rfl
 have l_newline:lk (zL au [EU (.r io),EU (.i (-1)),none,none,none,none,none,none,none]) "newline" =EU (none):=lkI hd i_newline rfl
 have l_i:lk (zL au [EU (.r io),EU (.i (-1)),none,none,none,none,none,none,none]) "i" =EU (none):=lkI hd i_i rfl
 have l_j:lk (zL au [EU (.r io),EU (.i (-1)),none,none,none,none,none,none,none]) "j" =EU (none):=lkI hd i_j rfl
 have l_end:lk (zL au [EU (.r io),EU (.i (-1)),none,none,none,none,none,none,none]) "end" =EU (none):=lkI hd i_end rfl
 generalize zL au [EU (.r io),EU (.i (-1)),none,none,none,none,none,none,none]=ρ at l_self l_limit l_start l_stop l_cut l_newline l_i l_j l_end⊢
 clear hd i_self i_limit i_start i_stop i_cut i_newline i_i i_j i_end
 have n1:=mh buf pos
 have n2:=rK buf pos
 have n3:=rm buf pos
 have nxd:=aK e1 e2
 have hz:(bH buf pos).length=3:=rfl
 have h1:((" " :Str)).length=1:=s!"d"
 have h2:(("\n" :Str)).length=1:=s!"d"
 repeat walk_at "s"
 by_cases hp:pos<buf.length
 ·have hr:rdl buf pos=if 0≤fnd buf "\n" (pos:Int) (buf.length:Int) then (fnd buf "\n" (pos:Int) (buf.length:Int)).toNat+1 else buf.length:=by unfold rdl;rw[if_pos hp]
  refine aD s!"ff" ?_
  repeat walk_at "s"
  refine bp (T:="str") (id:="str.find") trivial s!"2" s!"d" s!"2" JG Mn PySem.F.type_str_find ?_
  repeat walk_at "s"
  refine ⟨ir,?_⟩
  repeat walk_at "s"
  refine y5 (st:=⟨_,_⟩) ?_
  repeat walk_at "s"
  by_cases hi:0≤fnd buf "\n" (pos:Int) (buf.length:Int)
  ·rw[if_pos hi] at hr
   have hn:=tu hi
   refine ift s!"tt" ?_
   repeat walk_at "s"
   rw[show fnd buf (EW "\n") (pos:Int) (buf.length:Int)+(((EW "\n").length:Nat):Int)=(((fnd buf "\n" (pos:Int) (buf.length:Int)).toNat+1:Nat):Int) by rw[h2];exact hn▸rfl]
   repeat walk_at "s"
   refine bV (λ_ _ _=>s!"2") ?_
   repeat walk_at "s"
   refine bV (λ_ _ _=>s!"2") ?_
   repeat walk_at "s"
   refine exS (by rw[sizeLine_eq];exact po hb) ?_
   repeat walk_at "s"
   refine cU (by have:=dN buf (EU (pos:Int)) (EU (((fnd buf "\n" (pos:Int) (buf.length:Int)).toNat+1:Nat):Int));rw[sizeLine_eq];exact sV hb h1 this) (exS (by have:=dN buf (EU (pos:Int)) (EU (((fnd buf "\n" (pos:Int) (buf.length:Int)).toNat+1:Nat):Int));rw[str_length_append,sizeLine_eq];exact sV hb h1 this) ?_)
   repeat walk_at "s"
   refine ⟨⟨_,rfl⟩,?_⟩
   rw[hr]
   exact congrArg (λz=>σ.put dio (.ns z)) (gW buf pos _)
  ·rw[if_neg hi] at hr
   refine aD s!"ff" ?_
   repeat walk_at "s"
   refine bV (λ_ _ _=>s!"2") ?_
   repeat walk_at "s"
   refine bV (λ_ _ _=>s!"2") ?_
   repeat walk_at "s"
   refine exS (by rw[sizeLine_eq];exact po hb) ?_
   repeat walk_at "s"
   refine cU (by have:=dN buf (EU (pos:Int)) (EU (buf.length:Int));rw[sizeLine_eq];exact sV hb h1 this) (exS (by have:=dN buf (EU (pos:Int)) (EU (buf.length:Int));rw[str_length_append,sizeLine_eq];exact sV hb h1 this) ?_)
   repeat walk_at "s"
   refine ⟨⟨_,rfl⟩,?_⟩
   rw[hr]
   exact congrArg (λz=>σ.put dio (.ns z)) (gW buf pos _)
 ·have hr:rdl buf pos=pos:=by unfold rdl;rw[if_neg hp]
  refine ift s!"tt" ?_
  repeat walk_at "s"
  exact ⟨⟨_,rfl⟩,by rw[hr];exact (pr e2).symm⟩
theorem n8 (G:Gd C) (v:Value):d4 C (dD (aH 20 26) "readline" "StringIO.readline" (.ref 787) v (.str "io" 713) none (.ref 793)) [.r io] [] ((["self","size"]:List Str).zip [.r io,.i (-1)]):=by
 refine fX (T:=787) (o:=dT [.int (-1) 1302]) rfl (G.says.obj s!"k" rfl) rfl λvs ks hv hk=>?_
 obtain ⟨a0,rfl⟩:∃a0,vs=[a0]:=by
  rcases vs with _|⟨a0,_|_⟩<;>simp at hv
  exact ⟨a0,rfl⟩
 have e_ks:ks=[]:=FS.mp hk;subst e_ks;refine ⟨_,[("self",a0),("size",.int (-1) 1302)],s!"2",s!"k",s!"k",λh r q=>?_⟩;obtain ⟨r0,r⟩:=r.c;exact .cons (v:=a0) s!"k" r0 (.cons (v:= .int (-1) 1302) s!"k" (cH ..) .nil)
noncomputable def bD:List String:=["self","size"]
theorem iy:bD.Nodup:=s!"1"
set_option maxHeartbeats 4000000 in
theorem ka (G:Gd C) (R:Rm (k+2) A) {σ:Sg} (e1:σ io=EU (.ins 840 dio)) (e2:σ dio=EU (.ns (bH buf pos))) (hb:buf.length<1000):
 CtA C A (.ref 794) [.r io] [] σ λm σ'=>(∃x,m= .s x)∧σ'=σ.put dio (.ns (bH buf (rdl buf pos))):=by
 refine aW G R (a:=794) (c:=793) (x:=aH 20 26) (n:="readline") (q:="StringIO.readline") (d:=(.ref 787)) (pm:=(.str "io" 713)) (an:=none) (t:=1304)
  (ps:=(["self","size"]:List Str).zip [.r io,.i (-1)]) s!"k" s!"k" s!"k" s!"k" [("_index",.ref 306)] s!"k" (λv=>n8 G v) (ρ:=zL bD [EU (.r io),EU (.i (-1))]) s!"k" λQf hQf X hC O R' hin hg hE=>?_
 subst hC
 have N:=kn G
 have hd:=iy
 have i_self:gI bD 0=EU "self" :=rfl
 have i_size:gI bD 1=EU "size" :=rfl
 have g_index:X.gs.lookup (EW "_index")=EU (.ref 306:Value):=hg▸s!"k"
 clear hg hE
 conv=>arg 2;whnf
 have l_self:lk (zL bD [EU (.r io),EU (.i (-1))]) "self" =EU (EU (.r io)):=lkI hd i_self rfl
 have l_size:lk (zL bD [EU (.r io),EU (.i (-1))]) "size" =EU (EU (.i (-1))):=lkI hd i_size rfl
 generalize zL bD [EU (.r io),EU (.i (-1))]=ρ at l_self l_size⊢
 clear hd i_self i_size
 have nxd:=aK e1 e2
 repeat walk_at "s"
 refine am (bu G (a:=306) s!"k") λoi fi hi1 hi2=>?_
 refine bB O g_index hi1 hi2 trivial ?_
 repeat walk_at "s"
 refine bz (Ct.mono (CtA.ct (mQ G R' s!"d" s!"d")) ?_)
 intro m σ' zr1;refine b8 zr1 λz2=>?_;clear zr1;subst z2
 repeat walk_at "s"
 refine aA hin s!"2" (bJ N s!"2" trivial ?_)
 repeat walk_at "s"
 refine dR 624 e1 e2 (hZ s!"ne" s!"ne" s!"ne") s!"at" s!"me" s!"k" (bu G s!"k") (ag (bz (Ct.mono (CtA.ct (iC G R' e1 e2)) ?_)))
 intro m σ' zr1;refine b8 zr1 λz2=>?_;clear zr1;subst z2
 refine ⟨trivial,?_⟩
 repeat walk_at "s"
 refine bJ N s!"2" trivial ?_
 repeat walk_at "s"
 refine dR 638 e1 e2 (hZ s!"ne" s!"ne" s!"ne") s!"at" s!"me" s!"k" (bu G s!"k") ?_
 repeat walk_at "s"
 refine bz (Ct.mono (CtA.ct (pI G R' e1 e2 hb)) ?_)
 intro m σ' zr1;refine xa1 zr1 λz1 z2=>?_;clear zr1;obtain ⟨y,rfl⟩:=z1;subst z2
 repeat walk_at "s"
 exact ⟨⟨_,rfl⟩,rfl⟩
end
section
open Builtin.ObjectAttr
section
variable {Q:Value->Shared->Prop}
variable {prog:Program} {w:FH} {A:Gk} {s:Shared} {dv:Addr->Value}
theorem CA (P:F0) (dv:Addr->Value) (S:Hy):peek (KD P dv) S (Ih "object.__new__" ⟨[.ref 840],[]⟩)=EU ():=s!"k"
theorem CU (P:F0) (dv:Addr->Value) (S:Hy):peek (KD P dv) S (isType (.ref 840))=EU true:=s!"k"
theorem CQ (P:F0) (dv:Addr->Value) (S:Hy):peek (KD P dv) S (OX "object.__new__" (.ref 840))=EU ():=s!"k"
theorem C4 (P:F0) (dv:Addr->Value) (S:Hy):peek (KD P dv) S (Mj 840)=EU false:=s!"k"
theorem Ce (P:F0) (dv:Addr->Value):(match (KD P dv).lookup 840 with|some ⟨_,_,.cls cd,_⟩=>!cd.abstract&&cd.hasDict|_=>false)=true:=s!"k"
noncomputable def ncl (l:Option Obj):Bool:=match l with|some o=>(match o.cls with| .type t=>!(t=="tuple")|_=>true)|none=>false
theorem BS (P:F0) (dv:Addr->Value):ncl ((KD P dv).lookup 593)=true:=s!"k"
theorem pZ (P:F0) (dv:Addr->Value):ncl ((KD P dv).lookup 840)=true:=s!"k"
theorem wz:Hb Jf "object.__new__" =EU Builtin.«object.__new__»:=F3 s!"k"
theorem yk {R:Fin->Shared->Prop} (X:(KD w.params dv).In s.heap)
 (h:R (.done (.ret (.ref (s.heap.objs.size+1)))) {s with heap:=(s.heap.push IG).push (Ki 840 s.heap.objs.size)}):
 E4 (Fa prog w) A (Builtin.«object.__new__» ⟨[.ref 840],[]⟩) R E s:=by
 obtain ⟨hp,g,dd,tk,os⟩:=s;have L1:=Ft.of_peek (M:=Fa prog w) X (CU w.params dv ⟨prog,w.params⟩);have L3:=Ft.of_peek (M:=Fa prog w) X (CQ w.params dv ⟨prog,w.params⟩);have L5:=Ft.of_peek (M:=Fa prog w) X (C4 w.params dv ⟨prog,w.params⟩);have c:=Ce w.params dv;split at c;rotate_left
 ·cases c
 rename_i oc od cd sl hcd;simp only[Fc,Ga] at c;refine xa1 c λc1 c2=>?_;have ho:=X _ _ hcd;unfold Builtin.«object.__new__»;repeat (first|lk)
 rw[c1];simp only[FL,if_false]
 have L5':Ft (Fa prog w) ((hp.push {cls:= .type "dict",data:= .dict #[]}).push {cls:= .ref 840,dict:=EU hp.objs.size,data:= .plain}) (Mj 840) false:=
  L5.keeps λb o e=>Heap.get?_push_of_some _ (Heap.get?_push_of_some _ e)
 repeat (first|lk)
 rw[Heap.size_push];exact h
theorem yw (X:(KD w.params dv).In s.heap)
 (h:Q (.ref (s.heap.objs.size+1)) {s with heap:=(s.heap.push IG).push (Ki 840 s.heap.objs.size)}):E4 (Fa prog w) A (call (.builtin "object.__new__") [.ref 840]) Q E s:=by
 have L0:=Ft.of_peek (M:=Fa prog w) X (CA w.params dv ⟨prog,w.params⟩);refine wpAny_call (F1 s!"1" wz (L0.here ?_));exact yk (A:=A.in1) X h
theorem Co:(match Jl [] (.type "object") (.type "type") "__new__" with|some (.val v)=>v== .builtin "object.__new__" |_=>false)=true:=s!"k"
theorem CV (h:Q (.builtin "object.__new__") {s with toks:=s.toks+1}):E4 (Fa prog w) A (JQ (.type "object") "__new__") Q E s:=by
 have X:Pp [] s.heap:=λa o e=>by cases e
 have e:Jl [] (.type "object") (.type "type") "__new__" =EU (.val (.builtin "object.__new__")):=by
  have z:=Co;split at z
  ·rename_i v hv;rw[hv,beq_iff_eq.mp z]
  ·cases z
 refine QM (hook:=none) X (.of_pure s!"k") (.of_pure s!"k") s!"k" (.of_pure s!"k") s!"k" e ?_;exact E0 (LT s!"k" h)
end
theorem t8:GX (.type "object")=pure (.type "type"):=s!"k"
theorem uc {l:Option Obj} (h:ncl l=true):∃o,l=EU o∧o.cls≠ .type "tuple" :=by
 cases l with
 |none=>exact absurd h s!"d"
 |some o=>exact af o rfl λe=>by unfold ncl at h;dsimp only at h;rw[e] at h;exact absurd h s!"d"
theorem nv (N:Kn X) {st:St} {Q:MV->St->Prop} {a:Addr} (ha:ncl ((KD X.C.w.params N.dv).lookup a)=true) (hb:ncl ((KD X.C.w.params N.dv).lookup b)=true)
 (hq:Q (.k (.bool (!decide (a=b)))) st):W2 X (Fu .IsNot) (.k (.ref a)) (.k (.ref b)) st Q:=λφ s v w I e1 e2=>by
 refine rwl (e1:v= .ref a) ?_;refine rwl (e2:w= .ref b) ?_;by_cases h:a=b
 ·rw[decide_eq_true h] at hq;rw[h];exact wpAny_isNot_ref_self (.mk (ba ..) I (.refl _) hq)
 ·rw[decide_eq_false h] at hq;refine ad (uc ha) λoa h1 h2=>?_;refine ad (uc hb) λob h3 _=>?_;exact wpAny_isNot_ref_other h (I.kin N _ _ h1) (I.kin N _ _ h3) h2 (.mk (ba ..) I (.refl _) hq)
variable {C:Cx}
theorem s4 (G:Gd C) {x:MV} (v:Value):d4 C (dD (aH 16 1) "__new__" "IOBase.__new__" .none v (.str (EW "io") 713) none (.ref 332)) [.k (.ref 840),x] [] ((["cls"]:List Str).zip [.k (.ref 840)]):=λs vs ks old r r' M A E Q hq=>by
 have hv:=r.length;have hk:=r'.length
 obtain ⟨a0,a1,rfl⟩:∃a0 a1,vs=[a0,a1]:=by
  clear r;rcases vs with _|⟨a0,_|⟨a1,_|_⟩⟩<;>simp at hv
  exact (ie2 a0 a1 rfl)
 have e_ks:ks=[]:=FS.mp hk;clear r' hk;subst e_ks
 have e:Ll (dD (aH 16 1) "__new__" "IOBase.__new__" .none v (.str (EW "io") 713) none (.ref 332)) ⟨[a0,a1],[]⟩=(do
  let t←newTuple [a1]
  let d←alloc {cls:= .type "dict",data:= .dict #[]}
  pure [("cls",a0),("args",t),("kwargs",.ref d)]):=s!"k"
 show E4 M A (Ll _ ⟨[a0,a1],[]⟩) Q E s;rw[e];refine EX (QS ?_);refine EX (wpAny_alloc ?_);refine E0 (hq _ _ s.toks (λb o e=>Heap.get?_push_of_some _ (Heap.get?_push_of_some _ e)) ?_ ?_)
 ·have:([((("cls" :Str),a0):Str×Value),("args",.ref s.heap.objs.size),("kwargs",.ref (s.heap.push {cls:= .type "tuple",data:= .seq [a1].toArray}).objs.size)].all λx=>(dD (aH 16 1) "__new__" "IOBase.__new__" .none v (.str (EW "io") 713) none (.ref 332)).scope.names.lookup x.1==EU .local)=true:=s!"k"
  intro x hx;simpa using Fm.mp this x hx
 ·refine xa1 r.c λr0 r=>?_;exact PR.cons (v:=a0) s!"k" (by clear r hv e;cases (show a0= .ref 840 from r0);rfl) .nil
noncomputable def bU:List String:=["cls","args","kwargs"]
theorem on:bU.Nodup:=s!"1"
set_option maxHeartbeats 4000000 in
theorem vm (G:Gd C) (R:Rm (k+1) A) {y:MV} {σ:Sg}:
 CtA C A (.ref 333) [.k (.ref 840),y] [] σ λm σ'=>∃io dio,m= .r io∧σ io=none∧σ dio=none∧io≠dio∧σ'=(σ.put dio (.ns [])).put io (.ins 840 dio):=by
 refine aW G R (a:=333) (c:=332) (x:=aH 16 1) (n:="__new__") (q:="IOBase.__new__") (d:= .none) (pm:=(.str "io" 713)) (an:=none) (t:=768)
  (ps:=(["cls"]:List Str).zip [.k (.ref 840)]) s!"k" s!"k" s!"k" s!"k" [("BytesIO",.ref 593),("StringIO",.ref 840),("object",.type "object")] s!"k" (λv=>s4 G v) (ρ:=zL bU [EU (.k (.ref 840)),none,none]) s!"k" λQf hQf X hC O R' hin hg hE=>?_
 subst hC
 have N:=kn G
 have hd:=on
 have i_cls:gI bU 0=EU "cls" :=rfl
 have i_args:gI bU 1=EU "args" :=rfl
 have i_kwargs:gI bU 2=EU "kwargs" :=rfl
 have g_BytesIO:X.gs.lookup (EW "BytesIO")=EU (.ref 593:Value):=hg▸s!"k"
 have g_StringIO:X.gs.lookup (EW "StringIO")=EU (.ref 840:Value):=hg▸s!"k"
 have g_object:X.gs.lookup (EW "object")=EU (.type "object" :Value):=hg▸s!"k"
 clear hg hE
 conv=>arg 2;whnf
 repeat walk_at "s"
 refine nv N (pZ ..) (BS ..) ?_
 repeat walk_at "s"
 try refine ift (b:=true) rfl ?_
 repeat walk_at "s"
 refine nv N (pZ ..) (pZ ..) ?_
 repeat walk_at "s"
 refine aD s!"d" ?_
 refine ak (ae (aa (be λφ s I=>?_)))
 refine JR ?_ s!"2"
 refine ab (c8 O g_object (Q:=λm st'=>m= .k (.type "object")∧st'=⟨σ,zL bU [EU (.k (.ref 840)),none,none]⟩) ⟨rfl,rfl⟩ φ s I) λv s₁ pp=>?_
 obtain ⟨m,st₁,r,I₁,k₁,e1,e2⟩:=pp
 subst e1 e2
 cases (show v= .type "object" from r)
 refine jb (prog:=pgm) (w:=X.C.w) (T:="object") t8 ?_
 refine CV (prog:=pgm) (w:=X.C.w) ?_
 have I₂:=I₁.toks (s₁.toks+1)
 refine HD s!"r" (bt s!"t" (ab (cv (st:=⟨σ,zL bU [EU (.k (.ref 840)),none,none]⟩) (Q:=λms st₁=>ms=[.k (.ref 840)]∧st₁=⟨σ,zL bU [EU (.k (.ref 840)),none,none]⟩) s!"t" ?_ I₂) λvs s₂ ⟨ms,st₂,r₂,I₃,k₂,e1,e2⟩=>?_))
 ·repeat walk_at "s"
  exact ⟨rfl,rfl⟩
 subst e1 e2
 refine fN r₂ ?_
 refine yw (I₃.kin N) ?_
 have fr:∀b,s₂.heap.objs.size≤b->Internal.tot σ φ X.env.locals (zL bU [EU (.k (.ref 840)),none,none]) b=none:=λb hb=>by
  cases e:Internal.tot σ φ X.env.locals (zL bU [EU (.k (.ref 840)),none,none]) b with
  |none=>rfl
  |some m=>exact absurd (E1 (I₃.inv.lt e) hb) (Fz _)
 refine xa2 (bA (fr s₂.heap.objs.size (Fd _))) λa1 a2 a3=>?_
 refine xa2 (bA (fr (s₂.heap.objs.size+1) (HZ _))) λb1 b2 b3=>?_
 have ne:s₂.heap.objs.size+1≠s₂.heap.objs.size:=IO _
 have old:∀b o,s₂.heap.get? b=EU o->((s₂.heap.push IG).push (Ki 840 s₂.heap.objs.size)).get? b=EU o:=λb o e=>Heap.get?_push_of_some _ (Heap.get?_push_of_some _ e)
 have I₄:=I₃.grow old s₂.toks
 have I₅:=I₄.hide a2 a1 I₃.inv.sz (m:= .ns []) (cz (#[]) 0 (Heap.get?_push_of_some _ (Heap.get?_push_size _ rfl)) rfl)
 have I₆:=I₅.hide b2 b1 (GO I₃.inv.sz) (m:= .ins 840 s₂.heap.objs.size) ⟨by
  have:=Heap.get?_push_size (s₂.heap.push IG) (o:=Ki 840 s₂.heap.objs.size) rfl
  rwa [Heap.size_push] at this,s!"d"⟩
 rw[d8 _ _ _ (E8 ne)] at I₆
 have I₇:=I₆.show_ a2 a1 (by unfold Sg.put;rw[if_neg (E8 ne)];exact a3)
 have I₈:=I₇.show_ (by show (σ.put _ _) _=none;unfold Sg.put;rw[if_neg ne];exact b2) b1 b3
 exact Post.mk (m:= .r (s₂.heap.objs.size+1)) (bN ..) I₈ (k₁.trans (k₂.trans (aB old))) (hQf _ _ (hU _ _ rfl b2 a2 ne rfl))
end
section
open Builtin.ObjectAttr
variable {C:Cx}
noncomputable def bX:List String:=["self","s","newline"]
theorem mF:bX.Nodup:=s!"1"
set_option maxHeartbeats 4000000 in
theorem sM (G:Gd C) (R:Rm (k+1) A) {ns:List (Str×MV)} {σ:Sg} (e1:σ io=EU (.ins 840 dio)) (e2:σ dio=EU (.ns ns)) (n1:nk ns "_StringIO__newline" =EU (.s "\n")):
 CtA C A (.ref 617) [.r io,.s x] [] σ λm σ'=>m= .s x∧σ'=σ:=by
 refine aW G R (a:=617) (c:=616) (x:=aH 20 2) (n:="__translated") (q:="StringIO.__translated") (d:= .none) (pm:=(.str "io" 713)) (an:=none) (t:=1109)
  (ps:=(["self","s"]:List Str).zip [.r io,.s x]) s!"k" s!"k" s!"k" s!"k" [] s!"k" (λv=>(aX rfl s!"k" s!"1" (bk λa0=>bk λa1=>cK s!"k")).a) (ρ:=zL bX [EU (.r io),EU (.s x),none]) s!"k" λQf hQf X hC O R' hin hg hE=>?_
 subst hC
 have N:=kn G
 have hd:=mF
 have i_self:gI bX 0=EU "self" :=rfl
 have i_s:gI bX 1=EU "s" :=rfl
 have i_newline:gI bX 2=EU "newline" :=rfl
 clear hg hE
 conv=>arg 2;whnf
 have l_self:lk (zL bX [EU (.r io),EU (.s x),none]) "self" =EU (EU (.r io)):=lkI hd i_self rfl
 have l_s:lk (zL bX [EU (.r io),EU (.s x),none]) "s" =EU (EU (.s x)):=lkI hd i_s rfl
 have l_newline:lk (zL bX [EU (.r io),EU (.s x),none]) "newline" =EU (none):=lkI hd i_newline rfl
 generalize zL bX [EU (.r io),EU (.s x),none]=ρ at l_self l_s l_newline⊢
 clear hd i_self i_s i_newline
 repeat walk_at "s"
 exact ⟨rfl,rfl⟩
theorem nK (G:Gd C) (v:Value):d4 C (dD (aH 20 1) "__init__" "StringIO.__init__" (.ref 603) v (.str "io" 713) none (.ref 609)) [.r io,.s x] [] ((["self","initial_value","newline"]:List Str).zip [.r io,.s x,.s "\n"]):=by
 refine fX (T:=603) (o:=dT [.str "" 1097,.str "\n" 1098]) rfl (G.says.obj s!"k" rfl) rfl λvs ks hv hk=>?_
 obtain ⟨a0,a1,rfl⟩:∃a0 a1,vs=[a0,a1]:=by
  rcases vs with _|⟨a0,_|⟨a1,_|_⟩⟩<;>simp at hv
  exact ⟨a0,a1,rfl⟩
 have e_ks:ks=[]:=FS.mp hk;subst e_ks;refine ⟨_,[("self",a0),("initial_value",a1),("newline",.str "\n" 1098)],s!"2",s!"k",s!"k",λh r q=>?_⟩;obtain ⟨r0,r⟩:=r.c;obtain ⟨r1,r⟩:=r.c;exact .cons (v:=a0) s!"k" r0 (.cons (v:=a1) s!"k" r1 (.cons (v:= .str "\n" 1098) s!"k" (ft ..) .nil))
noncomputable def bE:List String:=["self","initial_value","newline"]
theorem kg:bE.Nodup:=s!"1"
set_option maxHeartbeats 4000000 in
theorem qD (G:Gd C) (R:Rm (k+2) A) {σ:Sg} (e1:σ io=EU (.ins 840 dio)) (e2:σ dio=EU (.ns [])):
 CtA C A (.ref 610) [.r io,.s x] [] σ λm σ'=>m= .k .none∧σ'=σ.put dio (.ns (bH x 0)):=by
 refine aW G R (a:=610) (c:=609) (x:=aH 20 1) (n:="__init__") (q:="StringIO.__init__") (d:=(.ref 603)) (pm:=(.str "io" 713)) (an:=none) (t:=1100)
  (ps:=(["self","initial_value","newline"]:List Str).zip [.r io,.s x,.s "\n"]) s!"k" s!"k" s!"k" s!"k" [("type",.type "type"),("str",.type "str")] s!"k" (λv=>nK G v) (ρ:=zL bE [EU (.r io),EU (.s x),EU (.s "\n")]) s!"k" λQf hQf X hC O R' hin hg hE=>?_
 subst hC
 have N:=kn G
 have hd:=kg
 have i_self:gI bE 0=EU "self" :=rfl
 have i_initial_value:gI bE 1=EU "initial_value" :=rfl
 have i_newline:gI bE 2=EU "newline" :=rfl
 have g_type:X.gs.lookup (EW "type")=EU (.type "type" :Value):=hg▸s!"k"
 have g_str:X.gs.lookup (EW "str")=EU (.type "str" :Value):=hg▸s!"k"
 clear hg hE
 conv=>arg 2;whnf
 have l_self:lk (zL bE [EU (.r io),EU (.s x),EU (.s "\n")]) "self" =EU (EU (.r io)):=lkI hd i_self rfl
 have l_initial_value:lk (zL bE [EU (.r io),EU (.s x),EU (.s "\n")]) "initial_value" =EU (EU (.s x)):=lkI hd i_initial_value rfl
 have l_newline:lk (zL bE [EU (.r io),EU (.s x),EU (.s "\n")]) "newline" =EU (EU (.s "\n")):=lkI hd i_newline rfl
 generalize zL bE [EU (.r io),EU (.s x),EU (.s "\n")]=ρ at l_self l_initial_value l_newline⊢
 clear hd i_self i_initial_value i_newline
 have nxd:=aK e1 e2
 repeat walk_at "s"
 refine bP O g_type trivial ?_
 repeat walk_at "s"
 refine o4 ?_
 repeat walk_at "s"
 refine jc ?_
 repeat walk_at "s"
 refine aD s!"d" ?_
 repeat walk_at "s"
 refine bP O g_type trivial ?_
 repeat walk_at "s"
 refine o4 ?_
 repeat walk_at "s"
 refine jc ?_
 repeat walk_at "s"
 refine aD s!"d" ?_
 repeat walk_at "s"
 simp only[cE]
 refine bJ N s!"2" trivial ?_
 repeat walk_at "s"
 refine dR 617 s!"sg" (Sg.put_same ..) s!"nk" s!"at" s!"me" s!"k" (bu G s!"k") ?_
 repeat walk_at "s"
 refine bz (Ct.mono (CtA.ct (sM G R' s!"sg" (Sg.put_same ..) s!"nk")) ?_)
 intro m σ' zr1;refine xa1 zr1 λz1 z2=>?_;clear zr1;subst z1;subst z2
 repeat walk_at "s"
 simp only[cE]
 refine ⟨by first|rfl|trivial,?_⟩
 exact congrArg (λz=>σ.put dio (.ns z)) s!"k"
theorem CP (P:F0) (dv:Addr->Value) (S:Hy):peek (KD P dv) S (Gp (.ref 840) "__init__")=EU (EU (.ref 610)):=s!"k"
theorem CH (P:F0) (dv:Addr->Value) (S:Hy):peek (KD P dv) S (GG (.ref 840) (.ref 840))=EU true:=s!"k"
theorem C3 (P:F0) (dv:Addr->Value):MT (KD P dv) (.ref 610)=EU (.type "function"):=s!"k"
theorem qG (G:Gd C) (R:Rm (k+3) A) {σ:Sg}:
 CtA C A (.ref 840) [.s x] [] σ λm σ'=>∃io dio,m= .r io∧σ io=none∧σ dio=none∧io≠dio∧σ'=(σ.put dio (.ns (bH x 0))).put io (.ins 840 dio):=λφ s vs ks I d r r'=>by
 refine xe1 G.says.kd λdv hK=>?_;have KI:(KD C.w.params dv).In s.heap:=hK.keeps I.old;refine qc KI (A2 _ _) (kB (zJ _ _)) ?_;have e_ks:ks=[]:=by have:=r'.length;simpa using this
 clear r';subst e_ks;refine codeAny_mono (vm G (R.under 840 _ _) (y:= .s x) (σ:=σ) φ {s with toks:=s.toks+1} (.ref 840::vs) [] (I.toks _) d (.cons (ba ..) r) (.nil _)) λres s' z=>?_;rcases res with e|(_|_|_|v)<;>first|exact z.elim|skip
 refine fv z λm σ' rv I' d' k' z1=>?_;clear z;refine am z1 λio dio z3 z4=>?_;clear z1;subst z3;obtain ⟨h1,h2,h3,rfl⟩:=z4;cases (show v= .ref io from rv);have KI':(KD C.w.params dv).In s'.heap:=hK.keeps I'.old;have own:joi ((σ.put dio (.ns [])).put io (.ins 840 dio)) φ io=EU (.ins 840 dio):=by show (((σ.put dio (.ns [])).put io (.ins 840 dio)) io).or _=_;rw[Sg.put_same];rfl
 have ho:=(I'.rep io _ own).2.1;have ty:Ft (Fa pgm C.w) s'.heap (GX (.ref io)) (.ref 840):=(Ft.ld ho).andThen .now;refine ⟨ty.andThen (f:=λt=>GG t (.ref 840)) (Ft.of_peek KI' (CH _ _ ⟨pgm,C.w.params⟩)),?_⟩;have L1:=Ft.of_peek (M:=Fa pgm C.w) KI' (CP C.w.params dv ⟨pgm,C.w.params⟩);have L2:=bind_fn (M:=Fa pgm C.w) KI' (.ref io) (C3 C.w.params dv);refine EX (EX (ty.here (L1.here (wpAny_holding ?_))));refine EX (L2.here (EX ?_));refine fx (codeAny_mono (qD G (R.under 840 _ _) (io:=io) (dio:=dio) (x:=x) (Sg.put_same ..) (by rw[Sg.put_ne _ _ (E8 h3),Sg.put_same]) φ s' (.ref io::vs) [] I' d' (.cons (bN ..) (r.keep k')) (.nil _)) λres s₂ z=>?_);rcases res with e|(_|_|_|v)<;>first|exact z.elim|skip
 refine ia z λm σ₂ rv I₂ d₂ k₂ z1 z2=>?_;clear z;subst z1;subst z2;cases (show v= .none from rv);refine E0 ⟨rfl,.r io,_,bN ..,I₂,d₂,k'.trans k₂,io,dio,rfl,h1,h2,h3,?_⟩;rw[d8 _ _ _ h3,cE]
end
section
open Builtin.ObjectAttr
noncomputable def stM:Option Str->MV
 |none=> .k .none
 |some s=> .s s
noncomputable def pcN:Option Addr->List (Str×MV)
 |none=>[]
 |some a=>[("_pushback_chars",.r a)]
noncomputable def shN (io pbk fs:Addr) (W Pc:Str) (pc:Option Addr) (st:MV) (ln:Int) (tok:Str):List (Str×MV):=
 ("instream",.r io)::("infile",.k .none)::("posix",.k (.bool true))::("eof",.k .none)::("commenters",.s "#")::("wordchars",.s W)::("whitespace",.s " \t\r\n")::("whitespace_split",.k (.bool false))::
 ("quotes",.s "'\"")::("escape",.s "\\")::("escapedquotes",.s "\"")::("state",st)::("pushback",.r pbk)::("lineno",.i ln)::("debug",.i 0)::("token",.s tok)::("filestack",.r fs)::("source",.k .none)::("_punctuation_chars",.s Pc)::pcN pc
section
variable {io pbk fs:Addr} {W Pc:Str} {pc:Option Addr} {st m:MV} {ln:Int} {tok:Str}
theorem rj:nk (shN io pbk fs W Pc pc st ln tok) "instream" =EU (.r io):=s!"k"
theorem w0:nk (shN io pbk fs W Pc pc st ln tok) "posix" =EU (.k (.bool true)):=s!"k"
theorem pK:nk (shN io pbk fs W Pc pc st ln tok) "eof" =EU (.k .none):=s!"k"
theorem nY:nk (shN io pbk fs W Pc pc st ln tok) "commenters" =EU (.s "#"):=s!"k"
theorem eE:nk (shN io pbk fs W Pc pc st ln tok) "wordchars" =EU (.s W):=s!"k"
theorem oA:nk (shN io pbk fs W Pc pc st ln tok) "whitespace" =EU (.s " \t\r\n"):=s!"k"
theorem uG:nk (shN io pbk fs W Pc pc st ln tok) "whitespace_split" =EU (.k (.bool false)):=s!"k"
theorem uz:nk (shN io pbk fs W Pc pc st ln tok) "quotes" =EU (.s "'\""):=s!"k"
theorem va:nk (shN io pbk fs W Pc pc st ln tok) "escape" =EU (.s "\\"):=s!"k"
theorem s5:nk (shN io pbk fs W Pc pc st ln tok) "escapedquotes" =EU (.s "\""):=s!"k"
theorem wl:nk (shN io pbk fs W Pc pc st ln tok) "state" =EU st:=s!"k"
theorem qX:nk (shN io pbk fs W Pc pc st ln tok) "pushback" =EU (.r pbk):=s!"k"
theorem uq:nk (shN io pbk fs W Pc pc st ln tok) "lineno" =EU (.i ln):=s!"k"
theorem pX:nk (shN io pbk fs W Pc pc st ln tok) "debug" =EU (.i 0):=s!"k"
theorem wV:nk (shN io pbk fs W Pc pc st ln tok) "token" =EU (.s tok):=s!"k"
theorem pj:nk (shN io pbk fs W Pc pc st ln tok) "filestack" =EU (.r fs):=s!"k"
theorem vK:nk (shN io pbk fs W Pc pc st ln tok) "source" =EU (.k .none):=s!"k"
theorem Bg:nk (shN io pbk fs W Pc pc st ln tok) "_punctuation_chars" =EU (.s Pc):=s!"k"
theorem zM {a:Addr}:nk (shN io pbk fs W Pc (EU a) st ln tok) "_pushback_chars" =EU (.r a):=s!"k"
theorem qa:aM (shN io pbk fs W Pc pc st ln tok) "state" m=shN io pbk fs W Pc pc m ln tok:=by cases pc<;>kernel_rfl
theorem n6 {n:Int}:aM (shN io pbk fs W Pc pc st ln tok) "lineno" (.i n)=shN io pbk fs W Pc pc st n tok:=by cases pc<;>kernel_rfl
theorem qn {t:Str}:aM (shN io pbk fs W Pc pc st ln tok) "token" (.s t)=shN io pbk fs W Pc pc st ln t:=by cases pc<;>kernel_rfl
theorem gJ:(shN io pbk fs W Pc pc st ln tok).length<30:=by cases pc<;>exact Fo s!"k"
end
structure LX (σ:Sg) (sx dsx io dio pbk fs:Addr) (W Pc:Str) (pc:Option Addr) (buf:Str) (st:Option Str) (tok:Str) (pos:Nat) (pb:Option Str):Prop where
 i:σ sx=EU (.ins 975 dsx)
 n:∃ln,σ dsx=EU (.ns (shN io pbk fs W Pc pc (stM st) ln tok))
 ii:σ io=EU (.ins 840 dio)
 ni:σ dio=EU (.ns (bH buf pos))
 p:σ pbk=EU (dqO none)
 f:σ fs=EU (dqO none)
 c:∀a,pc=EU a->σ a=EU (dqO pb)∧a≠pbk∧a≠fs
 cn:pc=none->pb=none
 hp:(Pc.length !=0)=pc.isSome
theorem eu {σ:Sg} {pc:Option Addr} {st:MV} {ln:Int} {pos:Nat} (h1:σ dsx=EU (.ns (shN io pbk fs W Pc pc st ln tok))) (h2:σ dio=EU (.ns (bH buf pos))):dsx≠dio:=λe=>by
 subst e;rw[h1] at h2;have:=congrArg (λm:Option MO=>match m with|some (.ns l)=>l.length|_=>0) h2;clear h1 h2;cases pc<;>simp[shN,pcN,bH] at this
theorem bI {σ:Sg} {a:Addr} {l:List (Str×MV)} {x:Option Str} (h1:σ a=EU (.ns l)) (h2:σ b=EU (dqO x)):a≠b:=λe=>by subst e;rw[h1] at h2;cases h2
theorem mS {σ:Sg} {a c d:Addr} {x:Option Str} (h1:σ a=EU (.ins c d)) (h2:σ b=EU (dqO x)):a≠b:=λe=>by subst e;rw[h1] at h2;cases h2
theorem zl (P:F0) (dv:Addr->Value):(dk (KD P dv) 975&&Il (KD P dv) (.ref 975) "punctuation_chars" ==EU (EU (.ref 907))&&NA (KD P dv) (.ref 907) "__get__" ==EU (EU (.builtin "property.__get__"))&&takesIn (KD P dv) (.ref 907)==EU true&&
 Po (KD P dv) 907 "property" ==EU [.ref 906,.none,.none,.none,.str "punctuation_chars" 1464,.bool false])=true:=s!"k"
variable {C:Cx}
noncomputable def dC:List String:=["self"]
theorem mr:dC.Nodup:=s!"1"
set_option maxHeartbeats 4000000 in
theorem tH (G:Gd C) (R:Rm (k+1) A) {ns:List (Str×MV)} {σ:Sg} (e1:σ sx=EU (.ins 975 dsx)) (e2:σ dsx=EU (.ns ns)) (n1:nk ns "_punctuation_chars" =EU (.s Pc)):
 CtA C A (.ref 906) [.r sx] [] σ λm σ'=>m= .s Pc∧σ'=σ:=by
 refine aW G R (a:=906) (c:=905) (x:=aH 29 2) (n:="punctuation_chars") (q:="shlex.punctuation_chars") (d:= .none) (pm:=(.str "cpy313.shlex" 1428)) (an:=none) (t:=1458)
  (ps:=(["self"]:List Str).zip [.r sx]) s!"k" s!"k" s!"k" s!"k" [] s!"k" (λv=>(aX rfl s!"k" s!"1" (bk λa0=>cK s!"k")).a) (ρ:=zL dC [EU (.r sx)]) s!"k" λQf hQf X hC O R' hin hg hE=>?_
 subst hC
 have N:=kn G
 have hd:=mr
 have i_self:gI dC 0=EU "self" :=rfl
 clear hg hE
 conv=>arg 2;whnf
 have l_self:lk (zL dC [EU (.r sx)]) "self" =EU (EU (.r sx)):=lkI hd i_self rfl
 generalize zL dC [EU (.r sx)]=ρ at l_self⊢
 clear hd i_self
 repeat walk_at "s"
 exact ⟨rfl,rfl⟩
theorem yC (G:Gd X.C) (N:Kn X) (R:Rm (k+2) X.A) {ns:List (Str×MV)} {σ:Sg} {Q:MV->St->Prop} (e1:σ sx=EU (.ins 975 dsx)) (e2:σ dsx=EU (.ns ns)) (n1:nk ns "_punctuation_chars" =EU (.s Pc)) (hq:Q (.s Pc) ⟨σ,ρ⟩):AtR X (.r sx) "punctuation_chars" ⟨σ,ρ⟩ Q:=by
 have c:=zl X.C.w.params N.dv;simp only[Fc,beq_iff_eq] at c;obtain ⟨⟨⟨⟨c1,c2⟩,c3⟩,c4⟩,c5⟩:=c;exact yL N e1 e2 c1 c2 c3 c4 c5 (CtA.mono (tH G R.in1 e1 e2 n1) λm σ' h=>by clear e1 e2;obtain ⟨rfl,rfl⟩:=h;exact ⟨trivial,hq⟩)
end
section
open Builtin.ObjectAttr
structure LS where
 st:Option Str
 tok:Str
 pos:Nat
 pb:Option Str
 q:Bool
 esc:Str
structure LP where
 sx:Addr
 dsx:Addr
 io:Addr
 dio:Addr
 pbk:Addr
 fs:Addr
 W:Str
 Pc:Str
 pc:Option Addr
 buf:Str
 σ0:Sg
 hb:buf.length<1000
structure LJ (L:LP) (u:Option MV) (ls:LS) (st:St):Prop where
 x:LX st.σ L.sx L.dsx L.io L.dio L.pbk L.fs L.W L.Pc L.pc L.buf ls.st ls.tok ls.pos ls.pb
 fr:∀b m,b≠L.dsx->b≠L.dio->(∀a,L.pc=EU a->b≠a)->L.σ0 b=EU m->st.σ b=EU m
 self:lk st.ρ "self" =EU (EU (.r L.sx))
 qu:lk st.ρ "quoted" =EU (EU (.k (.bool ls.q)))
 es:lk st.ρ "escapedstate" =EU (EU (.s ls.esc))
 nc:lk st.ρ "nextchar" =EU u
 re:∃v,lk st.ρ "result" =EU v
variable {L:LP} {u:Option MV} {ls:LS} {σ:Sg} {ρ:Lo} {X:Xc}
theorem LJ.nxd (h:LJ L u ls ⟨σ,ρ⟩):L.sx≠L.dsx:=by obtain ⟨ln,hn⟩:=h.x.n;exact aK h.x.i hn
section
variable {Q:MV->St->Prop}
theorem fA (O:XOk X) (h:LJ L u ls ⟨σ,ρ⟩) {pos} (hq:Q (.r L.sx) ⟨σ,ρ⟩):WE X (.Name "self" pos) ⟨σ,ρ⟩ Q:=ai O h.self hq
theorem rQu (O:XOk X) (h:LJ L u ls ⟨σ,ρ⟩) {pos} (hq:Q (.k (.bool ls.q)) ⟨σ,ρ⟩):WE X (.Name "quoted" pos) ⟨σ,ρ⟩ Q:=ai O h.qu hq
theorem rEs (O:XOk X) (h:LJ L u ls ⟨σ,ρ⟩) {pos} (hq:Q (.s ls.esc) ⟨σ,ρ⟩):WE X (.Name "escapedstate" pos) ⟨σ,ρ⟩ Q:=ai O h.es hq
theorem rNc (O:XOk X) {c:Str} (h:LJ L (EU (.s c)) ls ⟨σ,ρ⟩) {pos} (hq:Q (.s c) ⟨σ,ρ⟩):WE X (.Name "nextchar" pos) ⟨σ,ρ⟩ Q:=ai O h.nc hq
theorem rAt (N:Kn X) (h:LJ L u ls ⟨σ,ρ⟩) (hn:∀ln,nk (shN L.io L.pbk L.fs L.W L.Pc L.pc (stM ls.st) ln ls.tok) name=EU m) (hc:kC.contains name=true) (hm:m.out) (hq:Q m ⟨σ,ρ⟩):AtR X (.r L.sx) name ⟨σ,ρ⟩ Q:=by
 obtain ⟨ln,e⟩:=h.x.n;exact pV N h.x.i e (hn ln) (eK _ _) hc hm hq
theorem AV (N:Kn X) (h:LJ L u ls ⟨σ,ρ⟩) (hq:Q (.k (.bool true)) ⟨σ,ρ⟩):AtR X (.r L.sx) "posix" ⟨σ,ρ⟩ Q:=rAt N h (λ_=>w0) s!"k" rfl hq
theorem C1 (N:Kn X) (h:LJ L u ls ⟨σ,ρ⟩) (hq:Q (.s "#") ⟨σ,ρ⟩):AtR X (.r L.sx) "commenters" ⟨σ,ρ⟩ Q:=rAt N h (λ_=>nY) s!"k" trivial hq
theorem CI (N:Kn X) (h:LJ L u ls ⟨σ,ρ⟩) (hq:Q (.s L.W) ⟨σ,ρ⟩):AtR X (.r L.sx) "wordchars" ⟨σ,ρ⟩ Q:=rAt N h (λ_=>eE) s!"k" trivial hq
theorem rWs (N:Kn X) (h:LJ L u ls ⟨σ,ρ⟩) (hq:Q (.s " \t\r\n") ⟨σ,ρ⟩):AtR X (.r L.sx) "whitespace" ⟨σ,ρ⟩ Q:=rAt N h (λ_=>oA) s!"k" trivial hq
theorem EE (N:Kn X) (h:LJ L u ls ⟨σ,ρ⟩) (hq:Q (.k (.bool false)) ⟨σ,ρ⟩):AtR X (.r L.sx) "whitespace_split" ⟨σ,ρ⟩ Q:=rAt N h (λ_=>uG) s!"k" rfl hq
theorem ED (N:Kn X) (h:LJ L u ls ⟨σ,ρ⟩) (hq:Q (.s "'\"") ⟨σ,ρ⟩):AtR X (.r L.sx) "quotes" ⟨σ,ρ⟩ Q:=rAt N h (λ_=>uz) s!"k" trivial hq
theorem Eu (N:Kn X) (h:LJ L u ls ⟨σ,ρ⟩) (hq:Q (.s "\\") ⟨σ,ρ⟩):AtR X (.r L.sx) "escape" ⟨σ,ρ⟩ Q:=rAt N h (λ_=>va) s!"k" trivial hq
theorem rEq (N:Kn X) (h:LJ L u ls ⟨σ,ρ⟩) (hq:Q (.s "\"") ⟨σ,ρ⟩):AtR X (.r L.sx) "escapedquotes" ⟨σ,ρ⟩ Q:=rAt N h (λ_=>s5) s!"k" trivial hq
theorem vE (N:Kn X) (h:LJ L u ls ⟨σ,ρ⟩) (hm:stM ls.st=m) (hq:Q m ⟨σ,ρ⟩):AtR X (.r L.sx) "state" ⟨σ,ρ⟩ Q:=by
 subst hm;exact rAt N h (λ_=>wl) s!"k" (by cases ls.st<;>first|rfl|exact trivial) hq
theorem t5 (N:Kn X) (h:LJ L u ls ⟨σ,ρ⟩) (hq:Q (.i 0) ⟨σ,ρ⟩):AtR X (.r L.sx) "debug" ⟨σ,ρ⟩ Q:=rAt N h (λ_=>pX) s!"k" trivial hq
theorem Ex (N:Kn X) (h:LJ L u ls ⟨σ,ρ⟩) (hq:Q (.s ls.tok) ⟨σ,ρ⟩):AtR X (.r L.sx) "token" ⟨σ,ρ⟩ Q:=rAt N h (λ_=>wV) s!"k" trivial hq
theorem rIn (N:Kn X) (h:LJ L u ls ⟨σ,ρ⟩) (hq:Q (.r L.io) ⟨σ,ρ⟩):AtR X (.r L.sx) "instream" ⟨σ,ρ⟩ Q:=rAt (m:= .r L.io) N h (λ_=>rj) s!"k" trivial hq
theorem rPc (G:Gd X.C) (N:Kn X) (R:Rm (k+2) X.A) (h:LJ L u ls ⟨σ,ρ⟩) (hq:Q (.s L.Pc) ⟨σ,ρ⟩):AtR X (.r L.sx) "punctuation_chars" ⟨σ,ρ⟩ Q:=by
 obtain ⟨ln,e⟩:=h.x.n;exact yC G N R h.x.i e Bg hq
theorem rLn (N:Kn X) (h:LJ L u ls ⟨σ,ρ⟩) (hq:∀ln,Q (.i ln) ⟨σ,ρ⟩):AtR X (.r L.sx) "lineno" ⟨σ,ρ⟩ Q:=by
 obtain ⟨ln,e⟩:=h.x.n;exact pV N h.x.i e uq (eK _ _) s!"k" trivial (hq ln)
theorem rPb (N:Kn X) {a:Addr} (ha:L.pc=EU a) (h:LJ L u ls ⟨σ,ρ⟩) (hq:Q (.r a) ⟨σ,ρ⟩):AtR X (.r L.sx) "_pushback_chars" ⟨σ,ρ⟩ Q:=rAt (m:= .r a) N h (λ_=>by rw[ha];exact zM) s!"k" trivial hq
end
theorem LJ.put (h:LJ L u ls ⟨σ,ρ⟩) (s:Option Str) (ln:Int) (t:Str):LJ L u ⟨s,t,ls.pos,ls.pb,ls.q,ls.esc⟩ ⟨σ.put L.dsx (.ns (shN L.io L.pbk L.fs L.W L.Pc L.pc (stM s) ln t)),ρ⟩:=by
 obtain ⟨x,fr,a,b,c,d,e⟩:=h;refine xe1 x.n λln0 hn=>?_
 refine ⟨⟨(Sg.put_ne _ _ (aK x.i hn)).trans x.i,⟨ln,Sg.put_same ..⟩,(Sg.put_ne _ _ (aK x.ii hn)).trans x.ii,(Sg.put_ne _ _ (E8 (eu hn x.ni))).trans x.ni,(Sg.put_ne _ _ (E8 (bI hn x.p))).trans x.p,(Sg.put_ne _ _ (E8 (bI hn x.f))).trans x.f,
  λa ha=>⟨(Sg.put_ne _ _ (E8 (bI hn (x.c a ha).1))).trans (x.c a ha).1,(x.c a ha).2⟩,x.cn,x.hp⟩,λb' m h1 h2 h3 hb=>(Sg.put_ne _ _ h1).trans (fr b' m h1 h2 h3 hb),a,b,c,d,e⟩
theorem LJ.putIo (h:LJ L u ls ⟨σ,ρ⟩) (p:Nat):LJ L u ⟨ls.st,ls.tok,p,ls.pb,ls.q,ls.esc⟩ ⟨σ.put L.dio (.ns (bH L.buf p)),ρ⟩:=by
 obtain ⟨x,fr,a,b,c,d,e⟩:=h;refine xe1 x.n λln0 hn=>?_
 refine ⟨⟨(Sg.put_ne _ _ (aK x.i x.ni)).trans x.i,⟨ln0,(Sg.put_ne _ _ (eu hn x.ni)).trans hn⟩,(Sg.put_ne _ _ (aK x.ii x.ni)).trans x.ii,Sg.put_same ..,(Sg.put_ne _ _ (E8 (bI x.ni x.p))).trans x.p,(Sg.put_ne _ _ (E8 (bI x.ni x.f))).trans x.f,
  λa ha=>⟨(Sg.put_ne _ _ (E8 (bI x.ni (x.c a ha).1))).trans (x.c a ha).1,(x.c a ha).2⟩,x.cn,x.hp⟩,λb' m h1 h2 h3 hb=>(Sg.put_ne _ _ h2).trans (fr b' m h1 h2 h3 hb),a,b,c,d,e⟩
theorem LJ.putPb (h:LJ L u ls ⟨σ,ρ⟩) {a:Addr} (ha:L.pc=EU a) (x':Option Str):LJ L u ⟨ls.st,ls.tok,ls.pos,x',ls.q,ls.esc⟩ ⟨σ.put a (dqO x'),ρ⟩:=by
 obtain ⟨x,fr,a1,b,c,d,e⟩:=h;refine xe1 x.n λln0 hn=>?_;refine xa2 (x.c a ha) λc1 c2 c3=>?_
 refine ⟨⟨(Sg.put_ne _ _ (mS x.i c1)).trans x.i,⟨ln0,(Sg.put_ne _ _ (bI hn c1)).trans hn⟩,(Sg.put_ne _ _ (mS x.ii c1)).trans x.ii,(Sg.put_ne _ _ (bI x.ni c1)).trans x.ni,(Sg.put_ne _ _ (E8 c2)).trans x.p,(Sg.put_ne _ _ (E8 c3)).trans x.f,
  λa' ha'=>by rw[ha] at ha';cases ha';exact (ia2 (Sg.put_same ..) c2 c3),(λhn=>by rw[ha] at hn;cases hn),x.hp⟩,λb' m h1 h2 h3 hb=>(Sg.put_ne _ _ (h3 a ha)).trans (fr b' m h1 h2 h3 hb),a1,b,c,d,e⟩
section
variable {t:Str}
variable {QU:St->Prop}
theorem vC (N:Kn X) (h:LJ L u ls ⟨σ,ρ⟩) (s:Option Str) (hm:m=stM s) (hq:∀σ',LJ L u ⟨s,ls.tok,ls.pos,ls.pb,ls.q,ls.esc⟩ ⟨σ',ρ⟩->QU ⟨σ',ρ⟩):dL X N (.r L.sx) "state" m ⟨σ,ρ⟩ QU:=by
 subst hm;refine xe1 h.x.n λln e=>?_;refine pT h.x.i e (eK _ _) s!"k" (Fq gJ s!"d") ?_;rw[qa];exact hq _ (h.put s ln ls.tok)
theorem EP (N:Kn X) (h:LJ L u ls ⟨σ,ρ⟩) (hq:∀σ',LJ L u ⟨ls.st,t,ls.pos,ls.pb,ls.q,ls.esc⟩ ⟨σ',ρ⟩->QU ⟨σ',ρ⟩):dL X N (.r L.sx) "token" (.s t) ⟨σ,ρ⟩ QU:=by
 refine xe1 h.x.n λln e=>?_;refine pT h.x.i e (eK _ _) s!"k" (Fq gJ s!"d") ?_;rw[qn];exact hq _ (h.put ls.st ln t)
theorem wLn (N:Kn X) (h:LJ L u ls ⟨σ,ρ⟩) {n:Int} (hq:∀σ',LJ L u ls ⟨σ',ρ⟩->QU ⟨σ',ρ⟩):dL X N (.r L.sx) "lineno" (.i n) ⟨σ,ρ⟩ QU:=by
 refine xe1 h.x.n λln e=>?_;refine pT h.x.i e (eK _ _) s!"k" (Fq gJ s!"d") ?_;rw[n6];exact hq _ (h.put ls.st n ls.tok)
theorem Dm {N:Kn X} (h:LJ L u ls ⟨σ,ρ⟩) {P:Addr->Addr->Addr->Prop} (hn:kC.contains name=true) (hq:P L.sx 975 L.dsx):lC X N (.r L.sx) name ⟨σ,ρ⟩ P:=By h.x.i (eK _ _) hn hq
theorem wQu (O:XOk X) (h:LJ L u ls ⟨σ,ρ⟩) {pos} {b:Bool} (hq:∀ρ',LJ L u ⟨ls.st,ls.tok,ls.pos,ls.pb,b,ls.esc⟩ ⟨σ,ρ'⟩->QU ⟨σ,ρ'⟩):WA X (.Name "quoted" pos) (.k (.bool b)) ⟨σ,ρ⟩ QU:=by
 refine aL O h.qu (hq _ ?_);obtain ⟨x,fr,a,b,c,d,e,he⟩:=h;exact ⟨x,fr,s!"lk",s!"lk",s!"lk",s!"lk",e,s!"lk"⟩
theorem wEs (O:XOk X) (h:LJ L u ls ⟨σ,ρ⟩) {pos} (hq:∀ρ',LJ L u ⟨ls.st,ls.tok,ls.pos,ls.pb,ls.q,t⟩ ⟨σ,ρ'⟩->QU ⟨σ,ρ'⟩):WA X (.Name "escapedstate" pos) (.s t) ⟨σ,ρ⟩ QU:=by
 refine aL O h.es (hq _ ?_);obtain ⟨x,fr,a,b,c,d,e,he⟩:=h;exact ⟨x,fr,s!"lk",s!"lk",s!"lk",s!"lk",e,s!"lk"⟩
theorem wNc (O:XOk X) (h:LJ L u ls ⟨σ,ρ⟩) {pos} (hq:∀ρ',LJ L (EU m) ls ⟨σ,ρ'⟩->QU ⟨σ,ρ'⟩):WA X (.Name "nextchar" pos) m ⟨σ,ρ⟩ QU:=by
 refine aL O h.nc (hq _ ?_);obtain ⟨x,fr,a,b,c,d,e,he⟩:=h;exact ⟨x,fr,s!"lk",s!"lk",s!"lk",s!"lk",e,s!"lk"⟩
end
theorem ite_both {b:Bool} {A B HA HB:Prop} (H:if b=true then HA else HB) (h1:b=true->HA->A) (h2:b=false->HB->B):if b=true then A else B:=by
 cases b with
 |true=>rw[if_pos rfl] at H⊢;exact h1 rfl H
 |false=>rw[if_neg s!"d"] at H⊢;exact h2 rfl H
theorem zV {b:Bool} {A B:Prop} (h1:A) (h2:B):if b=true then A else B:=by
 cases b with
 |true=>exact ifT rfl h1
 |false=>exact ifF s!"d" h2
theorem CF {st:St} {Q:MV->St->Prop} {a b:Str} (h:Q (.k (.bool (([a,b]:List Str).any (·==x)))) st):W2 X (Fu .In) (.s x) (.t (.type "tuple") [.s a,.s b]) st Q:=CW (xs:=[a,b]) h
noncomputable def b7 (Kg Ks:LS->Prop) (ls:LS):Prop:=if (ls.tok.length !=0)=true then Ks ls else if ls.q=true then Ks ls else Kg ls
noncomputable def tSp (W Pc buf:Str) (Kg Ks:LS->Prop) (c:Str) (ls:LS):Prop:=
 if (!(c.length !=0))=true then Ks ⟨none,ls.tok,ls.pos,ls.pb,ls.q,ls.esc⟩
 else if Fb " \t\r\n" c=true then b7 Kg Ks ls
 else if Fb "#" c=true then Kg ⟨ls.st,ls.tok,rdl buf ls.pos,ls.pb,ls.q,ls.esc⟩
 else if Fb "\\" c=true then Kg ⟨EU c,ls.tok,ls.pos,ls.pb,ls.q,"a"⟩
 else if Fb W c=true then Kg ⟨EU "a",c,ls.pos,ls.pb,ls.q,ls.esc⟩
 else if Fb Pc c=true then Kg ⟨EU "c",c,ls.pos,ls.pb,ls.q,ls.esc⟩
 else if Fb "'\"" c=true then Kg ⟨EU c,ls.tok,ls.pos,ls.pb,ls.q,ls.esc⟩
 else b7 Kg Ks ⟨ls.st,c,ls.pos,ls.pb,ls.q,ls.esc⟩
noncomputable def tQu (Kg:LS->Prop) (c s:Str) (ls:LS):Prop:=
 if (!(c.length !=0))=true then False
 else if (c==s)=true then Kg ⟨EU "a",ls.tok,ls.pos,ls.pb,true,ls.esc⟩
 else if Fb "\\" c=true then
  if Fb "\"" s=true then Kg ⟨EU c,ls.tok,ls.pos,ls.pb,true,s⟩
  else Kg ⟨ls.st,ls.tok++c,ls.pos,ls.pb,true,ls.esc⟩
 else Kg ⟨ls.st,ls.tok++c,ls.pos,ls.pb,true,ls.esc⟩
noncomputable def tEs (Kg:LS->Prop) (c s:Str) (ls:LS):Prop:=
 if (!(c.length !=0))=true then False
 else if Fb "'\"" ls.esc=true then
  if (c !=s)=true then
   if (c !=ls.esc)=true then Kg ⟨EU ls.esc,ls.tok++s++c,ls.pos,ls.pb,ls.q,ls.esc⟩
   else Kg ⟨EU ls.esc,ls.tok++c,ls.pos,ls.pb,ls.q,ls.esc⟩
  else Kg ⟨EU ls.esc,ls.tok++c,ls.pos,ls.pb,ls.q,ls.esc⟩
 else Kg ⟨EU ls.esc,ls.tok++c,ls.pos,ls.pb,ls.q,ls.esc⟩
noncomputable def tWd (W Pc buf:Str) (Kg Ks:LS->Prop) (c s:Str) (ls:LS):Prop:=
 if (!(c.length !=0))=true then Ks ⟨none,ls.tok,ls.pos,ls.pb,ls.q,ls.esc⟩
 else if Fb " \t\r\n" c=true then b7 Kg Ks ⟨EU " ",ls.tok,ls.pos,ls.pb,ls.q,ls.esc⟩
 else if Fb "#" c=true then b7 Kg Ks ⟨EU " ",ls.tok,rdl buf ls.pos,ls.pb,ls.q,ls.esc⟩
 else if (s=="c")=true then
  if Fb Pc c=true then Kg ⟨ls.st,ls.tok++c,ls.pos,ls.pb,ls.q,ls.esc⟩
  else (ls.pb=none∧(Pc.length !=0)=true∧Ks ⟨EU " ",ls.tok,ls.pos,EU c,ls.q,ls.esc⟩)
 else if Fb "'\"" c=true then Kg ⟨EU c,ls.tok,ls.pos,ls.pb,ls.q,ls.esc⟩
 else if Fb "\\" c=true then Kg ⟨EU c,ls.tok,ls.pos,ls.pb,ls.q,"a"⟩
 else if Fb W c=true then Kg ⟨ls.st,ls.tok++c,ls.pos,ls.pb,ls.q,ls.esc⟩
 else if (Pc.length !=0)=true then (ls.pb=none∧(Pc.length !=0)=true∧b7 Kg Ks ⟨EU " ",ls.tok,ls.pos,EU c,ls.q,ls.esc⟩)
 else False
noncomputable def az (W Pc buf:Str) (Kg Ks:LS->Prop) (c:Str) (ls:LS):Prop:=match ls.st with
 |none=>Ks ⟨none,"",ls.pos,ls.pb,ls.q,ls.esc⟩
 |some s=>
  if (s==" ")=true then tSp W Pc buf Kg Ks c ls
  else if Fb "'\"" s=true then tQu Kg c s ls
  else if Fb "\\" s=true then tEs Kg c s ls
  else if (([("a" :Str),"c"]:List Str).any (·==s))=true then tWd W Pc buf Kg Ks c s ls
  else False
noncomputable def okS (ls:LS):Prop:=ls.tok.length≤500∧(∀c,ls.pb=EU c->c.length≤500)∧(∀s,ls.st=EU s->s.length≤500)∧ls.esc.length≤500
noncomputable def oK (W Pc buf:Str) (Kg Ks:LS->Prop) (ls:LS):Prop:=okS ls∧
 if (Pc.length !=0)=true then
  match ls.pb with
  |some c=>az W Pc buf Kg Ks c ⟨ls.st,ls.tok,ls.pos,none,ls.q,ls.esc⟩
  |none=>az W Pc buf Kg Ks (rd1 buf ls.pos).1 ⟨ls.st,ls.tok,(rd1 buf ls.pos).2,ls.pb,ls.q,ls.esc⟩
 else az W Pc buf Kg Ks (rd1 buf ls.pos).1 ⟨ls.st,ls.tok,(rd1 buf ls.pos).2,ls.pb,ls.q,ls.esc⟩
noncomputable def g9 (W Pc buf:Str) (Ks:LS->Prop):Nat->LS->Prop
 |0,_=>False
 |n+1,ls=>oK W Pc buf (g9 W Pc buf Ks n) Ks ls
end
section
open Builtin.ObjectAttr
section
variable {L:LP} {u:Option MV} {σ:Sg} {ρ:Lo} {X:Xc} {s t e c:Str} {st b:Option Str} {p:Nat} {q:Bool} {Q:MV->St->Prop} {QU:St->Prop}
theorem Dk (O:XOk X) (h:LJ L u ⟨st,t,p,b,q,e⟩ ⟨σ,ρ⟩) {pos} (hq:Q (.k (.bool q)) ⟨σ,ρ⟩):WE X (.Name "quoted" pos) ⟨σ,ρ⟩ Q:=rQu O h hq
theorem DP (O:XOk X) (h:LJ L u ⟨st,t,p,b,q,e⟩ ⟨σ,ρ⟩) {pos} (hq:Q (.s e) ⟨σ,ρ⟩):WE X (.Name "escapedstate" pos) ⟨σ,ρ⟩ Q:=rEs O h hq
theorem rSs (N:Kn X) (h:LJ L u ⟨EU s,t,p,b,q,e⟩ ⟨σ,ρ⟩) (hq:Q (.s s) ⟨σ,ρ⟩):AtR X (.r L.sx) "state" ⟨σ,ρ⟩ Q:=vE N h rfl hq
theorem rSn (N:Kn X) (h:LJ L u ⟨none,t,p,b,q,e⟩ ⟨σ,ρ⟩) (hq:Q (.k .none) ⟨σ,ρ⟩):AtR X (.r L.sx) "state" ⟨σ,ρ⟩ Q:=vE N h rfl hq
theorem rTk (N:Kn X) (h:LJ L u ⟨st,t,p,b,q,e⟩ ⟨σ,ρ⟩) (hq:Q (.s t) ⟨σ,ρ⟩):AtR X (.r L.sx) "token" ⟨σ,ρ⟩ Q:=Ex N h hq
theorem wSs (N:Kn X) (h:LJ L u ⟨st,t,p,b,q,e⟩ ⟨σ,ρ⟩) (hq:∀σ',LJ L u ⟨EU c,t,p,b,q,e⟩ ⟨σ',ρ⟩->QU ⟨σ',ρ⟩):dL X N (.r L.sx) "state" (.s c) ⟨σ,ρ⟩ QU:=vC N h (EU c) rfl hq
theorem wSn (N:Kn X) (h:LJ L u ⟨st,t,p,b,q,e⟩ ⟨σ,ρ⟩) (hq:∀σ',LJ L u ⟨none,t,p,b,q,e⟩ ⟨σ',ρ⟩->QU ⟨σ',ρ⟩):dL X N (.r L.sx) "state" (.k .none) ⟨σ,ρ⟩ QU:=vC N h none rfl hq
theorem wTk (N:Kn X) (h:LJ L u ⟨st,t,p,b,q,e⟩ ⟨σ,ρ⟩) (hq:∀σ',LJ L u ⟨st,c,p,b,q,e⟩ ⟨σ',ρ⟩->QU ⟨σ',ρ⟩):dL X N (.r L.sx) "token" (.s c) ⟨σ,ρ⟩ QU:=EP N h hq
theorem EB (O:XOk X) (h:LJ L u ⟨st,t,p,b,q,e⟩ ⟨σ,ρ⟩) {pos} {q':Bool} (hq:∀ρ',LJ L u ⟨st,t,p,b,q',e⟩ ⟨σ,ρ'⟩->QU ⟨σ,ρ'⟩):WA X (.Name "quoted" pos) (.k (.bool q')) ⟨σ,ρ⟩ QU:=wQu O h hq
theorem Ev (O:XOk X) (h:LJ L u ⟨st,t,p,b,q,e⟩ ⟨σ,ρ⟩) {pos} {e':Str} (hq:∀ρ',LJ L u ⟨st,t,p,b,q,e'⟩ ⟨σ,ρ'⟩->QU ⟨σ,ρ'⟩):WA X (.Name "escapedstate" pos) (.s e') ⟨σ,ρ⟩ QU:=wEs O h hq
theorem mIo (G:Gd X.C) (N:Kn X) (h:LJ L u ⟨st,t,p,b,q,e⟩ ⟨σ,ρ⟩) {f:Addr} (h1:name≠ "_StringIO__newline") (h2:name≠ "_StringIO__buf") (h3:name≠ "_StringIO__pos") (hn:Ao.contains (name,f)=true) (hf:∃ob fd,X.C.h0.get? f=EU ob∧ob.data= .func fd)
 (hq:WEs X es ⟨σ,ρ⟩ λms st₂=>WC X (.ref f) (.r L.io::ms) st₂ Q):kL X N (.r L.io) name es ⟨σ,ρ⟩ Q:=
 dR f h.x.ii h.x.ni (hZ h1 h2 h3) (BB _ _) (AM _ _) hn hf hq
theorem CY (G:Gd X.C) (R:Rm (k+2) X.A) (h:LJ L u ⟨st,t,p,b,q,e⟩ ⟨σ,ρ⟩) (hq:∀σ',LJ L u ⟨st,t,(rd1 L.buf p).2,b,q,e⟩ ⟨σ',ρ⟩->Q (.s (rd1 L.buf p).1) ⟨σ',ρ⟩):WC X (.ref 786) [.r L.io,.i 1] ⟨σ,ρ⟩ Q:=by
 refine bz (Ct.mono (CtA.ct (qx G R h.x.ii h.x.ni L.hb)) ?_);rintro m σ' ⟨rfl,rfl⟩;exact hq _ (h.putIo _)
theorem uQ (G:Gd X.C) (R:Rm (k+2) X.A) (h:LJ L u ⟨st,t,p,b,q,e⟩ ⟨σ,ρ⟩) (hq:∀σ' x,LJ L u ⟨st,t,rdl L.buf p,b,q,e⟩ ⟨σ',ρ⟩->Q (.s x) ⟨σ',ρ⟩):WC X (.ref 794) [.r L.io] ⟨σ,ρ⟩ Q:=by
 refine bz (Ct.mono (CtA.ct (ka G R h.x.ii h.x.ni L.hb)) ?_);rintro m σ' ⟨⟨x,rfl⟩,rfl⟩;exact hq _ _ (h.putIo _)
theorem nH (G:Gd X.C) (O:XOk X) (N:Kn X) (hin:GC X.env=false) (R:Rm (k+2) X.A) (h:LJ L u ⟨st,t,p,b,q,e⟩ ⟨σ,ρ⟩) {p1:Pos} {pl:KW Bool}
 (hs:J3 (.Call (.Attribute (.Attribute (.Name "self" p1) "instream" p2) "readline" p3) [] [] p4) none p5.line X.env=pure false)
 (he:eval (.Call (.Attribute (.Attribute (.Name "self" p1) "instream" p2) "readline" p3) [] [] p4) X.env=(do
  let ov←eval (.Attribute (.Name "self" p1) "instream" p2) X.env
  Ke p3.atName
  let (f,first)←IY [ov] (HV ov "readline" pl)
  I0 p4 f first (ID p4 (Hk [] X.env)) []))
 (hb:F6 (.Name "self" p1) "instream" X.env (eval (.Name "self" p1) X.env)=eval (.Name "self" p1) X.env)
 (hq:∀σ',LJ L u ⟨st,t,rdl L.buf p,b,q,e⟩ ⟨σ',ρ⟩->QF .next ⟨σ',ρ⟩):WS1 X (.Expr (.Call (.Attribute (.Attribute (.Name "self" p1) "instream" p2) "readline" p3) [] [] p4) p5) ⟨σ,ρ⟩ QF:=
 aA hin hs (bJ N he trivial (bh hb (fA O h (rIn N h (mIo (f:=794) G N h (bT (LZ false)) (bT (LZ false)) (bT (LZ false)) s!"k" (bu G s!"k")
  (ag (uQ G R h λσ' x h'=>⟨trivial,hq σ' h'⟩)))))))
theorem x7 (O:XOk X) (N:Kn X) (hin:GC X.env=false) (h:LJ L (EU (.s c)) ⟨st,t,p,b,q,e⟩ ⟨σ,ρ⟩) (hb0:b=none) (hp:(L.Pc.length !=0)=true) {p1:Pos}
 (hs:J3 (.Call (.Attribute (.Attribute (.Name "self" p1) "_pushback_chars" p2) "append" p3) [.Name "nextchar" p6] [] p4) none p5.line X.env=pure false)
 (hb2:F6 (.Attribute (.Name "self" p1) "_pushback_chars" p2) "append" X.env (eval (.Attribute (.Name "self" p1) "_pushback_chars" p2) X.env)=eval (.Attribute (.Name "self" p1) "_pushback_chars" p2) X.env)
 (hl:(p3.endLine==p4.line)=true)
 (hb:F6 (.Name "self" p1) "_pushback_chars" X.env (eval (.Name "self" p1) X.env)=eval (.Name "self" p1) X.env)
 (hq:∀σ',LJ L (EU (.s c)) ⟨st,t,p,EU c,q,e⟩ ⟨σ',ρ⟩->QF .next ⟨σ',ρ⟩):WS1 X (.Expr (.Call (.Attribute (.Attribute (.Name "self" p1) "_pushback_chars" p2) "append" p3) [.Name "nextchar" p6] [] p4) p5) ⟨σ,ρ⟩ QF:=by
 subst hb0;have z:=h.x.hp;rw[hp] at z;refine xe1 (Lu.mp z.symm) λa ha=>?_;have e1:=(h.x.c a ha).1;refine aA hin hs (bp (T:="collections.deque") (id:="collections.deque.append") trivial hb2 s!"4" hl f9 gF lY (bh hb (fA O h (rPb N ha h ⟨sE e1,?_⟩))));refine ac (rNc O h (ag (sW (st:=⟨_,_⟩) e1 ⟨trivial,hq _ ?_⟩)));exact h.putPb ha (EU c)
end
noncomputable def T2Q (Kg Ks:LS->Prop) (L:LP):Fl->St->Prop
 | .next,st=>∃ls',Kg ls'∧∃u,LJ L u ls' st
 | .cont,st=>∃ls',Kg ls'∧∃u,LJ L u ls' st
 | .brk,st=>∃ls',Ks ls'∧∃u,LJ L u ls' st
 | .ret _,_=>False
theorem oQ {Kg Ks:LS->Prop} {L:LP} {st:St} (H:Kg ls) (h:LJ L u ls st):T2Q Kg Ks L .next st:=(c7 _ H _ h)
theorem oP {Kg Ks:LS->Prop} {L:LP} {st:St} (H:Kg ls) (h:LJ L u ls st):T2Q Kg Ks L .cont st:=(c7 _ H _ h)
theorem lD {Kg Ks:LS->Prop} {L:LP} {st:St} (H:Ks ls) (h:LJ L u ls st):T2Q Kg Ks L .brk st:=(c7 _ H _ h)
local macro_rules | `(tactic|specialize $s:str)=>wk wC s
noncomputable def ifP:Stmt->List Stmt×List Stmt
 | .If _ b e _=>(b,e)
 | .While _ b e _=>(b,e)
 |_=>([],[])
noncomputable def rtB:List Stmt:=(ifP ((cu (aH 29 7)).getD 2 (.Pass l8))).1
noncomputable def elS (s:Stmt):Stmt:=(ifP s).2.getD 0 (.Pass l8)
noncomputable def ifB (s:Stmt):List Stmt:=(ifP s).1
noncomputable def chS:Stmt:=rtB.getD 3 (.Pass l8)
section
variable {X:Xc} {L:LP} {Kg Ks:LS->Prop} {st:Option Str} {s tok:Str} {pos:Nat} {pb:Option Str} {q:Bool} {esc c:Str} {σ:Sg} {ρ:Lo} {QF:Fl->St->Prop}
theorem pY (O:XOk X) (N:Kn X) (h:LJ L u ls ⟨σ,ρ⟩) {p1:Pos} {n:Int} {rest:List Stmt} (hb:F6 (.Name "self" p1) "debug" X.env (eval (.Name "self" p1) X.env)=eval (.Name "self" p1) X.env) (hn:decide (n≤0)=false)
 (hq:WS X rest ⟨σ,ρ⟩ QF):WS X (.If (.Compare (.Attribute (.Name "self" p1) "debug" p2) [.GtE] [.Constant (.int n) k p4] p3) body [] p5::rest) ⟨σ,ρ⟩ QF:=
 aa (bl (aC rfl (bh hb (fA O h (t5 N h (aq (tC (ay (aD hn (ak (ae hq)))))))))))
theorem pn (O:XOk X) (N:Kn X) (h:LJ L (EU (.s c)) ⟨st,tok,pos,pb,q,esc⟩ ⟨σ,ρ⟩) (z:tok.length+c.length≤sizeLine) {p1:Pos} {rest:List Stmt}
 (hq:∀σ',LJ L (EU (.s c)) ⟨st,tok++c,pos,pb,q,esc⟩ ⟨σ',ρ⟩->WS X rest ⟨σ',ρ⟩ QF):WS X (.AugAssign (.Attribute (.Name "self" p1) "token" p2) .Add (.Name "nextchar" p3) p4::rest) ⟨σ,ρ⟩ QF:=by
 repeat' first
  |walk_at "s"
  |with_reducible refine gE z ?_
 exact hq _ s!"a"
theorem vw (O:XOk X) (N:Kn X) (h:LJ L (EU (.s c)) ⟨st,tok,pos,pb,q,esc⟩ ⟨σ,ρ⟩) (ok1:tok.length≤1001) {p1 p8 p9 p10:Pos} {rest:List Stmt} (H:b7 Kg Ks ⟨st,tok,pos,pb,q,esc⟩) (hB:Ks ⟨st,tok,pos,pb,q,esc⟩->QF .brk ⟨σ,ρ⟩) (hC:Kg ⟨st,tok,pos,pb,q,esc⟩->QF .cont ⟨σ,ρ⟩):
 WS X (.If (.BoolOp .Or [.Attribute (.Name "self" p1) "token" p2,.BoolOp .And [.Attribute (.Name "self" p3) "posix" p4,.Name "quoted" p5] p6] p7) [.Break p8] [.Continue p9] p10::rest) ⟨σ,ρ⟩ QF:=by
 unfold b7 at H;dsimp only at H;repeat' first
  |walk_at "s"
  |walk_at "br"
  |exact hB s!"a"
  |exact hC s!"a"
theorem sZ {a b m:Nat} (ha:a≤n) (hb:b≤m) (h:IQ (n+m) 16777216=true):a+b≤sizeLine:=by rw[sizeLine_eq];exact EY (GA ha hb) (Fo h)
set_option maxHeartbeats 4000000 in
theorem Cy (G:Gd X.C) (O:XOk X) (N:Kn X) (hin:GC X.env=false) (R:Rm (k+2) X.A) (h:LJ L (EU (.s c)) ⟨EU s,tok,pos,pb,q,esc⟩ ⟨σ,ρ⟩) (ok1:tok.length≤1001) (ok2:c.length≤1001)
 (H:tSp L.W L.Pc L.buf Kg Ks c ⟨EU s,tok,pos,pb,q,esc⟩) (hQ:∀fl st,T2Q Kg Ks L fl st->QF fl st):WS X (ifB (elS chS)) ⟨σ,ρ⟩ QF:=by
 conv=>arg 2;whnf
 unfold tSp at H;dsimp only at H;repeat' first
  |((with_reducible refine pY O N s!"a" s!"r" s!"d" ?_))
  |((with_reducible refine vw O N s!"a" s!"A" s!"a" ?_ ?_)<;>intro _)
  |walk_at "s"
  |walk_at "br"
  |with_reducible exact hQ _ _ (oQ s!"a" s!"a")
  |with_reducible exact hQ _ _ (oP s!"a" s!"a")
  |with_reducible exact hQ _ _ (lD s!"a" s!"a")
  |with_reducible refine nH G O N hin R s!"a" s!"r" s!"r" s!"r" λ_ _=>?_
set_option maxHeartbeats 4000000 in
theorem Cn (G:Gd X.C) (O:XOk X) (N:Kn X) (hin:GC X.env=false) (R:Rm (k+2) X.A) (h:LJ L (EU (.s c)) ⟨EU s,tok,pos,pb,q,esc⟩ ⟨σ,ρ⟩) (ok1:tok.length≤1001) (ok2:c.length≤1001) (ok5:L.Pc.length≤500)
 (H:tWd L.W L.Pc L.buf Kg Ks c s ⟨EU s,tok,pos,pb,q,esc⟩) (hQ:∀fl st,T2Q Kg Ks L fl st->QF fl st):WS X (ifB (elS (elS (elS (elS chS))))) ⟨σ,ρ⟩ QF:=by
 conv=>arg 2;whnf
 unfold tWd at H;dsimp only at H;repeat' first
  |((with_reducible refine pY O N s!"a" s!"r" s!"d" ?_))
  |((with_reducible refine vw O N s!"a" s!"A" s!"a" ?_ ?_)<;>intro _)
  |((with_reducible refine pn O N s!"a" (sZ s!"A" s!"A" s!"r") ?_);intro _ _)
  |walk_at "s"
  |walk_at "br"
  |with_reducible exact hQ _ _ (oQ s!"a" s!"a")
  |with_reducible exact hQ _ _ (oP s!"a" s!"a")
  |with_reducible exact hQ _ _ (lD s!"a" s!"a")
  |with_reducible refine nH G O N hin R s!"a" s!"r" s!"r" s!"r" λ_ _=>?_
  |((rename pb=none∧(L.Pc.length !=0)=true∧_=>HA);(refine xa2 HA λhn hp H'=>?_;clear HA);with_reducible refine x7 O N hin s!"a" hn hp s!"r" s!"r" s!"r" s!"r" λ_ _=>?_)
set_option maxHeartbeats 4000000 in
theorem B7 (G:Gd X.C) (O:XOk X) (N:Kn X) (hin:GC X.env=false) (R:Rm (k+2) X.A) (h:LJ L (EU (.s c)) ⟨EU s,tok,pos,pb,q,esc⟩ ⟨σ,ρ⟩) (ok1:tok.length≤1001) (ok2:c.length≤1001)
 (H:tQu Kg c s ⟨EU s,tok,pos,pb,q,esc⟩) (hQ:∀fl st,T2Q Kg Ks L fl st->QF fl st):WS X (ifB (elS (elS chS))) ⟨σ,ρ⟩ QF:=by
 conv=>arg 2;whnf
 unfold tQu at H;dsimp only at H;repeat' first
  |((with_reducible refine pn O N s!"a" (sZ s!"A" s!"A" s!"r") ?_);intro _ _)
  |walk_at "s"
  |walk_at "br"
  |with_reducible exact hQ _ _ (oQ s!"a" s!"a")
  |with_reducible exact hQ _ _ (oP s!"a" s!"a")
  |with_reducible exact hQ _ _ (lD s!"a" s!"a")
set_option maxHeartbeats 4000000 in
theorem Ca (G:Gd X.C) (O:XOk X) (N:Kn X) (hin:GC X.env=false) (R:Rm (k+2) X.A) (h:LJ L (EU (.s c)) ⟨EU s,tok,pos,pb,q,esc⟩ ⟨σ,ρ⟩) (ok1:tok.length≤1001) (ok2:c.length≤1001) (ok3:esc.length≤500) (ok4:s.length≤500)
 (H:tEs Kg c s ⟨EU s,tok,pos,pb,q,esc⟩) (hQ:∀fl st,T2Q Kg Ks L fl st->QF fl st):WS X (ifB (elS (elS (elS chS)))) ⟨σ,ρ⟩ QF:=by
 conv=>arg 2;whnf
 unfold tEs at H;dsimp only at H;repeat' first
  |((with_reducible refine pn O N s!"a" (sZ s!"A" s!"A" s!"r") ?_);intro _ _)
  |walk_at "s"
  |walk_at "br"
  |with_reducible exact hQ _ _ (oQ s!"a" s!"a")
  |with_reducible exact hQ _ _ (oP s!"a" s!"a")
  |with_reducible exact hQ _ _ (lD s!"a" s!"a")
end
theorem ij {fl:Fl} {st:St} (h:Q fl st):fu X [] Q fl st:=by
 cases fl<;>first|exact h|exact ak h
set_option maxHeartbeats 8000000 in
theorem xv (G:Gd X.C) (O:XOk X) (N:Kn X) (hin:GC X.env=false) (R:Rm (k+2) X.A) {L:LP} {Kg Ks:LS->Prop} {st:Option Str} {pos:Nat} {q:Bool} {c:Str} {σ:Sg}
 (h:LJ L (EU (.s c)) ⟨st,tok,pos,pb,q,esc⟩ ⟨σ,ρ⟩) (ok1:tok.length≤500) (ok2:c.length≤1001) (ok3:esc.length≤500) (ok4:∀s,st=EU s->s.length≤500) (ok5:L.Pc.length≤500) (H:az L.W L.Pc L.buf Kg Ks c ⟨st,tok,pos,pb,q,esc⟩):
 WS X (rtB.drop 1) ⟨σ,ρ⟩ (T2Q Kg Ks L):=by
 conv=>arg 2;whnf
 have ok1':tok.length≤1001:=EY ok1 s!"d"
 refine dB (Q1:=λfl st'=>fl= .next∧∃σ',st'=⟨σ',ρ⟩∧LJ L (EU (.s c)) ⟨st,tok,pos,pb,q,esc⟩ ⟨σ',ρ⟩) ?_ ?_
 ·refine bl ?_
  repeat walk_at "s"
  refine zV ?_ ?_
  ·repeat walk_at "s"
   exact (gH rfl _ rfl s!"A")
  ·repeat walk_at "s"
   exact (gH rfl _ rfl h)
 ·intro fl st' zr1;refine b8 zr1 λz2=>?_;clear zr1;obtain ⟨σ',rfl,h'⟩:=z2
  clear h
  refine ae (pY O N h' s!"r" s!"d" ?_)
  cases st with
  |none=>
   have H':Ks ⟨none,"",pos,pb,q,esc⟩:=H
   repeat walk_at "s"
   exact lD H' s!"a"
  |some s=>
   have ok4':=ok4 s rfl
   unfold az at H
   dsimp only at H
   repeat' first
    |((have H1:tSp L.W L.Pc L.buf Kg Ks c ⟨EU s,tok,pos,pb,q,esc⟩:=s!"a");exact Cy G O N hin R h' ok1' ok2 H1 λ_ _ h=>by repeat' first|exact h|refine ij ?_)
    |((have H1:tQu Kg c s ⟨EU s,tok,pos,pb,q,esc⟩:=s!"a");exact B7 G O N hin R h' ok1' ok2 H1 λ_ _ h=>by repeat' first|exact h|refine ij ?_)
    |((have H1:tEs Kg c s ⟨EU s,tok,pos,pb,q,esc⟩:=s!"a");exact Ca G O N hin R h' ok1' ok2 ok3 ok4' H1 λ_ _ h=>by repeat' first|exact h|refine ij ?_)
    |((have H1:tWd L.W L.Pc L.buf Kg Ks c s ⟨EU s,tok,pos,pb,q,esc⟩:=s!"a");exact Cn G O N hin R h' ok1' ok2 ok5 H1 λ_ _ h=>by repeat' first|exact h|refine ij ?_)
    |walk_at "s"
    |walk_at "br"
open Builtin.ObjectAttr
theorem yU {x:List Stmt} {st:St} {Q':Fl->St->Prop} (h:WS X x st Q') (k:∀fl st',Q' fl st'->Q fl st'):WS X x st Q:=λφ s I=>
 ab (h φ s I) λf s' ⟨fl,st',a,b,c,d⟩=>⟨fl,st',a,b,c,k _ _ d⟩
theorem wRe (O:XOk X) {L:LP} {σ:Sg} (h:LJ L u ls ⟨σ,ρ⟩) {pos} (hq:∀ρ',LJ L u ls ⟨σ,ρ'⟩->lk ρ' "result" =EU (EU m)->QU ⟨σ,ρ'⟩):WA X (.Name "result" pos) m ⟨σ,ρ⟩ QU:=by
 obtain ⟨v,hv⟩:=h.re;refine aL O hv (hq _ ?_ (cF hv));obtain ⟨x,fr,a,b,c,d,e,he⟩:=h;exact ⟨x,fr,s!"lk",s!"lk",s!"lk",s!"lk",⟨_,s!"lk"⟩⟩
theorem Bh:(" " :Str).length=1:=s!"d"
theorem Bk:("" :Str).length=0:=s!"d"
theorem sa {L:LP} (p:Nat):(rd1 L.buf p).1.length≤1001:=by
 have hb:=L.hb;generalize L.buf=buf at hb;unfold rd1;by_cases h:p<buf.length
 ·rw[if_pos h];have e1:=dN (cut buf (EU (p:Int)) (EU ((p:Int)+1))++ " ") none (EU (-1));have e2:=dN buf (EU (p:Int)) (EU ((p:Int)+1));rw[str_length_append,Bh] at e1;generalize (cut (cut buf (EU (p:Int)) (EU ((p:Int)+1))++ " ") none (EU (-1)))=x at e1;dsimp only;exact EY e1 (FE (EY e2 (Fs hb)))
 ·rw[if_neg h];dsimp only;rw[Bk];decide
theorem xS (G:Gd X.C) (O:XOk X) (N:Kn X) (R:Rm (k+2) X.A) {L:LP} {σ:Sg} (h:LJ L u ls ⟨σ,ρ⟩) {p1:Pos}
 (hs:Iq [.Name "nextchar" p5] (.Call (.Attribute (.Attribute (.Name "self" p1) "instream" p2) "read" p3) [.Constant (.int 1) 0 p6] [] p4) p7.line X.env=pure false)
 (hw:Hr [.Name "nextchar" p5] (.Call (.Attribute (.Attribute (.Name "self" p1) "instream" p2) "read" p3) [.Constant (.int 1) 0 p6] [] p4) X.env=pure none)
 {pl:KW Bool} (he:eval (.Call (.Attribute (.Attribute (.Name "self" p1) "instream" p2) "read" p3) [.Constant (.int 1) 0 p6] [] p4) X.env=(do
  let ov←eval (.Attribute (.Name "self" p1) "instream" p2) X.env
  Ke p3.atName
  let (f,first)←IY [ov] (HV ov "read" pl)
  I0 p4 f first (ID p4 (Hk [.Constant (.int 1) 0 p6] X.env)) []))
 (hb:F6 (.Name "self" p1) "instream" X.env (eval (.Name "self" p1) X.env)=eval (.Name "self" p1) X.env)
 (hq:∀σ' ρ',LJ L (EU (.s (rd1 L.buf ls.pos).1)) ⟨ls.st,ls.tok,(rd1 L.buf ls.pos).2,ls.pb,ls.q,ls.esc⟩ ⟨σ',ρ'⟩->QF .next ⟨σ',ρ'⟩):
 WS1 X (.Assign [.Name "nextchar" p5] (.Call (.Attribute (.Attribute (.Name "self" p1) "instream" p2) "read" p3) [.Constant (.int 1) 0 p6] [] p4) p7) ⟨σ,ρ⟩ QF:=
 ah hs hw trivial (bJ N he trivial (bh hb (fA O h (rIn N h (mIo (f:=786) G N h (bT (LZ false)) (bT (LZ false)) (bT (LZ false)) s!"k" (bu G s!"k")
  (ac (aq (ag (CY G R h λσ' h'=>wNc O h' λρ' h''=>hq σ' ρ' h'')))))))))
theorem DT (O:XOk X) (N:Kn X) {L:LP} {σ:Sg} {a:Addr} {c:Str} (ha:L.pc=EU a) (hc:ls.pb=EU c) (h:LJ L u ls ⟨σ,ρ⟩) {p1:Pos}
 (hs:Iq [.Name "nextchar" p5] (.Call (.Attribute (.Attribute (.Name "self" p1) "_pushback_chars" p2) "pop" p3) [] [] p4) p7.line X.env=pure false)
 (hw:Hr [.Name "nextchar" p5] (.Call (.Attribute (.Attribute (.Name "self" p1) "_pushback_chars" p2) "pop" p3) [] [] p4) X.env=pure none)
 (hb2:F6 (.Attribute (.Name "self" p1) "_pushback_chars" p2) "pop" X.env (eval (.Attribute (.Name "self" p1) "_pushback_chars" p2) X.env)=eval (.Attribute (.Name "self" p1) "_pushback_chars" p2) X.env)
 (hl:(p3.endLine==p4.line)=true)
 (hb:F6 (.Name "self" p1) "_pushback_chars" X.env (eval (.Name "self" p1) X.env)=eval (.Name "self" p1) X.env)
 (hq:∀σ' ρ',LJ L (EU (.s c)) ⟨ls.st,ls.tok,ls.pos,none,ls.q,ls.esc⟩ ⟨σ',ρ'⟩->QF .next ⟨σ',ρ'⟩):
 WS1 X (.Assign [.Name "nextchar" p5] (.Call (.Attribute (.Attribute (.Name "self" p1) "_pushback_chars" p2) "pop" p3) [] [] p4) p7) ⟨σ,ρ⟩ QF:=by
 have e1:=(h.x.c a ha).1;rw[hc] at e1;refine ah hs hw trivial (bp (T:="collections.deque") (id:="collections.deque.pop") trivial hb2 s!"4" hl f9 jP qV (bh hb (fA O h (rPb N ha h ⟨sE e1,?_⟩))));exact ag (yr (st:=⟨_,_⟩) e1 (wNc O (h.putPb ha none) λρ' h'=>hq _ ρ' h'))
theorem y7 (G:Gd X.C) (O:XOk X) (N:Kn X) (R:Rm (k+2) X.A) {L:LP} {Kg Ks:LS->Prop} {st:Option Str} {pos:Nat} {q:Bool} {σ:Sg}
 (h:LJ L u ⟨st,tok,pos,pb,q,esc⟩ ⟨σ,ρ⟩) (hPl:L.Pc.length≤500) (H:oK L.W L.Pc L.buf Kg Ks ⟨st,tok,pos,pb,q,esc⟩):
 WS1 X (match cu (aH 29 7) with|_::_::Stmt.While _ (b::_) _ _::_=>b|_=> .Pass default) ⟨σ,ρ⟩ λfl st'=>fl= .next∧∃c pos' pb' σ' ρ',st'=⟨σ',ρ'⟩∧LJ L (EU (.s c)) ⟨st,tok,pos',pb',q,esc⟩ ⟨σ',ρ'⟩∧az L.W L.Pc L.buf Kg Ks c ⟨st,tok,pos',pb',q,esc⟩∧c.length≤1001:=by
 conv=>arg 2;whnf
 refine xa1 H λok H=>?_;refine bl (bW (bY s!"r" (bh s!"r" (fA O h (rPc G N R h (oI (E3 hPl s!"d") ?_))))))
 cases hP:(L.Pc.length !=0) with
 |false=>
  rw[if_neg (by rw[hP];decide)] at H;refine aD rfl (aD rfl (aa (xS G O N R h s!"r" s!"r" s!"r" s!"r" λσ' ρ' h'=>ae (ak (jr rfl _ _ ⟨_,_,_,rfl,h',H,sa _⟩)))))
 |true=>
  rw[if_pos hP] at H;have z:=h.x.hp;rw[hP] at z;refine xe1 (Lu.mp z.symm) λa ha=>?_;have e1:=(h.x.c a ha).1;refine ift rfl (bW (bY s!"r" (bh s!"r" (fA O h (rPb N ha h (wu e1 ?_))))))
  cases pb with
  |none=>
   refine aD rfl (aD rfl (aa (xS G O N R h s!"r" s!"r" s!"r" s!"r" λσ' ρ' h'=>ae (ak (jr rfl _ _ ⟨_,_,_,rfl,h',H,sa _⟩)))))
  |some c=>
   refine ift rfl (ie (ift rfl (aa (DT O N ha rfl h s!"r" s!"r" s!"r" s!"r" s!"r" λσ' ρ' h'=>ae (ak (jr rfl _ _ ⟨_,_,_,rfl,h',H,EY (ok.2.1 c rfl) s!"d"⟩))))))
noncomputable def cy (ls:LS):MV:=if (!ls.q)=true then (if (ls.tok=="")=true then .k .none else .s ls.tok) else .s ls.tok
theorem uI {st:Option Str} {t:Str} {p:Nat} {b:Option Str} {e:Str} (h:(t=="")=true):cy ⟨st,t,p,b,false,e⟩= .k .none:=by
 show (if (t=="")=true then MV.k .none else MV.s t)=_;rw[if_pos h]
theorem Aa {st:Option Str} {t:Str} {p:Nat} {b:Option Str} {e:Str} (h:(t=="")=false):cy ⟨st,t,p,b,false,e⟩= .s t:=by
 show (if (t=="")=true then MV.k .none else MV.s t)=_;rw[if_neg (by rw[h];decide)]
variable {C:Cx}
noncomputable def aN:List String:=["self","quoted","escapedstate","nextchar","result"]
theorem jf:aN.Nodup:=s!"1"
set_option maxHeartbeats 4000000 in
theorem mi (G:Gd C) (R:Rm (k+3) A) {L:LP} {Ks:LS->Prop} {st:Option Str} {pos:Nat} {σ:Sg} (hσ:L.σ0=σ) (hx:LX σ L.sx L.dsx L.io L.dio L.pbk L.fs L.W L.Pc L.pc L.buf st tok pos pb) (hP:L.Pc.length≤500) (HR:g9 L.W L.Pc L.buf Ks n ⟨st,tok,pos,pb,false," "⟩):
 CtA C A (.ref 943) [.r L.sx] [] σ λm σ'=>∃ls',Ks ls'∧m=cy ls'∧LX σ' L.sx L.dsx L.io L.dio L.pbk L.fs L.W L.Pc L.pc L.buf ls'.st "" ls'.pos ls'.pb∧∀b m,b≠L.dsx->b≠L.dio->(∀a,L.pc=EU a->b≠a)->σ b=EU m->σ' b=EU m:=by
 refine aW G R (a:=943) (c:=942) (x:=aH 29 7) (n:="read_token") (q:="shlex.read_token") (d:= .none) (pm:=(.str "cpy313.shlex" 1428)) (an:=none) (t:=1505)
  (ps:=(["self"]:List Str).zip [.r L.sx]) s!"k" s!"k" s!"k" s!"k" [] s!"k" (λv=>(aX rfl s!"k" s!"1" (bk λa0=>cK s!"k")).a) (ρ:=zL aN [EU (.r L.sx),none,none,none,none]) s!"k" λQf hQf X hC O R' hin hg hE=>?_
 subst hC
 have N:=kn G
 have hd:=jf
 have i_self:gI aN 0=EU "self" :=rfl
 have i_quoted:gI aN 1=EU "quoted" :=rfl
 have i_escapedstate:gI aN 2=EU "escapedstate" :=rfl
 have i_nextchar:gI aN 3=EU "nextchar" :=rfl
 have i_result:gI aN 4=EU "result" :=rfl
 clear hg hE
 conv=>arg 2;whnf
 have l_self:lk (zL aN [EU (.r L.sx),none,none,none,none]) "self" =EU (EU (.r L.sx)):=lkI hd i_self rfl
 have l_quoted:lk (zL aN [EU (.r L.sx),none,none,none,none]) "quoted" =EU (none):=lkI hd i_quoted rfl
 have l_escapedstate:lk (zL aN [EU (.r L.sx),none,none,none,none]) "escapedstate" =EU (none):=lkI hd i_escapedstate rfl
 have l_nextchar:lk (zL aN [EU (.r L.sx),none,none,none,none]) "nextchar" =EU (none):=lkI hd i_nextchar rfl
 have l_result:lk (zL aN [EU (.r L.sx),none,none,none,none]) "result" =EU (none):=lkI hd i_result rfl
 generalize zL aN [EU (.r L.sx),none,none,none,none]=ρ at l_self l_quoted l_escapedstate l_nextchar l_result⊢
 clear hd i_self i_quoted i_escapedstate i_nextchar i_result
 subst hσ
 walk_at "s";walk_at "s";walk_at "s";walk_at "s";walk_at "s"
 walk_at "s";walk_at "s";walk_at "s";walk_at "s";walk_at "s"
 have h0:LJ L none ⟨st,tok,pos,pb,false," "⟩ ⟨L.σ0,stL (stL ρ "quoted" (.k (.bool false))) "escapedstate" (.s " ")⟩:=
  ⟨hx,λb m _ _ _ hb=>hb,s!"lk",s!"lk",s!"lk",s!"lk",⟨_,s!"lk"⟩⟩
 refine dB (Q1:=λfl st'=>fl= .next∧∃ls',Ks ls'∧∃u,LJ L u ls' st') ?_ ?_
 ·refine dg (λn st=>∃ls,g9 L.W L.Pc L.buf Ks n ls∧∃u,LJ L u ls st) ?_ n (c7 _ HR _ h0)
  intro J hJ n zr1 zr2;obtain ⟨σ,ρ⟩:=zr1;refine ad zr2 λls Hn z1=>?_;clear zr2;obtain ⟨u,h⟩:=z1
  refine bY s!"r" (eL (ay ?_))
  refine ift rfl ?_
  cases n with
  |zero=>exact Hn.elim
  |succ n=>
   obtain ⟨st,tok,pos,pb,q,esc⟩:=ls
   have ok:okS ⟨st,tok,pos,pb,q,esc⟩:=Hn.1
   refine dB (y7 G O N R' h hP Hn) ?_
   intro fl st' zr1;refine b8 zr1 λz2=>?_;clear zr1;obtain ⟨c,pos',pb',σ',ρ',rfl,h',H',hc⟩:=z2
   refine ae ?_
   refine yU (xv G O N hin R' h' ok.1 hc ok.2.2.2 ok.2.2.1 hP H') ?_
   intro fl st'' ht
   cases fl with
   |next=>refine ad ht λls' a b=>?_;clear ht;exact (af n (G9 n) (hJ _ _ ⟨ls',a,b⟩))
   |cont=>refine ad ht λls' a b=>?_;clear ht;exact (af n (G9 n) (hJ _ _ ⟨ls',a,b⟩))
   |brk=>refine ad ht λls' a b=>?_;clear ht;exact (gH rfl ls' a b)
   |ret v=>exact ht.elim
 ·intro fl zr1 zr2;obtain ⟨σ',ρ'⟩:=zr1;refine b8 zr2 λz2=>?_;clear zr2;obtain ⟨⟨st',tok',pos',pb',q',esc'⟩,HK,u,h⟩:=z2
  refine ae ?_
  refine aa (ah s!"r" s!"r" trivial (bh s!"r" (fA O h (rTk N h (wRe O h λρ1 h1 r1=>ae ?_)))))
  clear h
  repeat walk_at "s"
  cases hq:q' with
  |true=>
   refine aD rfl ?_
   subst hq
   repeat walk_at "s"
   exact (cI _ HK rfl (LJ.x s!"a":_) (LJ.fr s!"a"))
  |false=>
   refine ift rfl ?_
   subst hq
   repeat walk_at "s"
   cases ht:(tok'=="") with
   |false=>
    refine aD rfl ?_
    repeat walk_at "s"
    exact (cI _ HK ((Aa ht).symm) (LJ.x s!"a":_) (LJ.fr s!"a"))
   |true=>
    refine ift rfl ?_
    walk_at "s";walk_at "s";walk_at "s";walk_at "s";walk_at "s"
    rename_i h2
    refine wRe O h2 λρ2 h3 r3=>?_
    clear r1 h1 h2
    repeat walk_at "s"
    exact (cI _ HK ((uI ht).symm) (LJ.x s!"a":_) (LJ.fr s!"a"))
end
section
variable {Q:MV->St->Prop} {pos:Nat}
open Builtin.ObjectAttr
theorem x4 {st:St} (h:Q (.k (.bool false)) st):W2 X (Fu .Eq) (.s x) (.k .none) st Q:=λφ s v w I ⟨t,e1⟩ e2=>by
 cases (show w= .none from e2);subst e1;exact Qm (.mk (ba ..) I (.refl _) h)
theorem yz {st:St} (h:Q (.k (.bool true)) st):W2 X (Fu .Eq) (.k .none) (.k .none) st Q:=λφ s v w I e1 e2=>by
 cases (show w= .none from e2);cases (show v= .none from e1);exact Qn (.mk (ba ..) I (.refl _) h)
theorem rSx (N:Kn X) {σ:Sg} {pc:Option Addr} {st:Option Str} (hx:LX σ sx dsx io dio pbk fs W Pc pc buf st tok pos pb) (hn:∀ln,nk (shN io pbk fs W Pc pc (stM st) ln tok) name=EU m) (hc:kC.contains name=true) (hm:m.out) (hq:Q m ⟨σ,ρ⟩):AtR X (.r sx) name ⟨σ,ρ⟩ Q:=by
 obtain ⟨ln,e⟩:=hx.n;exact pV N hx.i e (hn ln) (eK _ _) hc hm hq
theorem ul {pc:Option Addr} {st:MV} {ln:Int}:nk (shN io pbk fs W Pc pc st ln tok) "read_token" =none:=by cases pc<;>kernel_rfl
theorem yq (ls:LS):cy ls= .k .none∨∃t,cy ls= .s t:=by
 unfold cy;split
 ·split
  ·exact .inl rfl
  ·exact .inr ⟨_,rfl⟩
 ·exact .inr ⟨_,rfl⟩
variable {C:Cx}
noncomputable def aE:List String:=["self","tok","raw","spec","newfile","newstream"]
theorem jK:aE.Nodup:=s!"1"
set_option maxHeartbeats 4000000 in
theorem oj (G:Gd C) (R:Rm (k+4) A) {L:LP} {Ks:LS->Prop} {st:Option Str} {σ:Sg} (hσ:L.σ0=σ) (hx:LX σ L.sx L.dsx L.io L.dio L.pbk L.fs L.W L.Pc L.pc L.buf st tok pos pb) (hP:L.Pc.length≤500) (HR:g9 L.W L.Pc L.buf Ks n ⟨st,tok,pos,pb,false," "⟩):
 CtA C A (.ref 936) [.r L.sx] [] σ λm σ'=>∃ls',Ks ls'∧m=cy ls'∧LX σ' L.sx L.dsx L.io L.dio L.pbk L.fs L.W L.Pc L.pc L.buf ls'.st "" ls'.pos ls'.pb∧∀b m,b≠L.dsx->b≠L.dio->(∀a,L.pc=EU a->b≠a)->σ b=EU m->σ' b=EU m:=by
 refine aW G R (a:=936) (c:=935) (x:=aH 29 6) (n:="get_token") (q:="shlex.get_token") (d:= .none) (pm:=(.str "cpy313.shlex" 1428)) (an:=none) (t:=1492)
  (ps:=(["self"]:List Str).zip [.r L.sx]) s!"k" s!"k" s!"k" s!"k" [] s!"k" (λv=>(aX rfl s!"k" s!"1" (bk λa0=>cK s!"k")).a) (ρ:=zL aE [EU (.r L.sx),none,none,none,none,none]) s!"k" λQf hQf X hC O R' hin hg hE=>?_
 subst hC;have N:=kn G;have hd:=jK;have i_self:gI aE 0=EU "self" :=rfl;have i_tok:gI aE 1=EU "tok" :=rfl;have i_raw:gI aE 2=EU "raw" :=rfl;have i_spec:gI aE 3=EU "spec" :=rfl;have i_newfile:gI aE 4=EU "newfile" :=rfl;have i_newstream:gI aE 5=EU "newstream" :=rfl;clear hg hE;conv=>arg 2;whnf
 have l_self:lk (zL aE [EU (.r L.sx),none,none,none,none,none]) "self" =EU (EU (.r L.sx)):=lkI hd i_self rfl;have l_tok:lk (zL aE [EU (.r L.sx),none,none,none,none,none]) "tok" =EU (none):=lkI hd i_tok rfl;have l_raw:lk (zL aE [EU (.r L.sx),none,none,none,none,none]) "raw" =EU (none):=lkI hd i_raw rfl;have l_spec:lk (zL aE [EU (.r L.sx),none,none,none,none,none]) "spec" =EU (none):=lkI hd i_spec rfl;have l_newfile:lk (zL aE [EU (.r L.sx),none,none,none,none,none]) "newfile" =EU (none):=lkI hd i_newfile rfl;have l_newstream:lk (zL aE [EU (.r L.sx),none,none,none,none,none]) "newstream" =EU (none):=lkI hd i_newstream rfl;generalize zL aE [EU (.r L.sx),none,none,none,none,none]=ρ at l_self l_tok l_raw l_spec l_newfile l_newstream⊢;clear hd i_self i_tok i_raw i_spec i_newfile i_newstream;subst hσ;refine aa (aA hin s!"2" (aI ⟨trivial,?_⟩));refine ae (aa (bl (bY s!"r" (bh s!"r" (ai O l_self (rSx N hx (λ_=>qX) s!"k" trivial (wu hx.p ?_)))))));refine aD rfl (ak (ae ?_));refine xe1 hx.n λln hn=>?_;refine aa (ah s!"r" s!"r" trivial (bJ N s!"r" trivial (ai O l_self (dR 943 hx.i hn ul (eK _ _) (wG _ _) s!"k" (bu G s!"k") (ag (bz (Ct.mono (CtA.ct (mi G R' rfl hx hP HR)) ?_)))))));intro m σ' zr1;refine aV zr1 λls' HK z1 z2=>?_;clear zr1;subst z1;obtain ⟨hx',fr⟩:=z2;refine aL O l_raw (ae ?_);have l_raw':=cF (m:=cy ls') l_raw;have l_self':lk (stL ρ "raw" (cy ls')) "self" =EU (EU (.r L.sx)):=s!"lk"
 generalize stL ρ "raw" (cy ls')=ρ1 at l_raw' l_self'⊢;clear l_raw l_self hx hn;refine aa (bl (aC s!"r" (bh s!"r" (ai O l_self' (rSx N hx' (λ_=>vK) s!"k" rfl (fE (eZ (ay ?_))))))));refine aD rfl (ak (ae ?_));rcases yq ls' with hr|⟨t,hr⟩
 ·refine aa (dg (λ_ st=>st=⟨σ',ρ1⟩) ?_ 0 rfl);rintro J hJ n st rfl;refine aC s!"r" (ai O l_raw' (bh s!"r" (ai O l_self' (rSx N hx' (λ_=>pK) s!"k" rfl ?_))));rw[hr];refine yz (ay (ift rfl ?_));refine aa (bl (gD (bY s!"r" (bh s!"r" (ai O l_self' (rSx N hx' (λ_=>pj) s!"k" trivial (wu hx'.f ?_)))))));refine ift rfl (aa (be (bh s!"r" (ai O l_self' (rSx N hx' (λ_=>pK) s!"k" rfl ?_)))));refine cV ?_;exact hQf _ _ (cI ls' HK hr.symm hx' fr)
 ·refine aa (dg (λ_ st=>st=⟨σ',ρ1⟩) ?_ 0 rfl);rintro J hJ n st rfl;refine aC s!"r" (ai O l_raw' (bh s!"r" (ai O l_self' (rSx N hx' (λ_=>pK) s!"k" rfl ?_))));rw[hr] at l_raw'⊢;refine x4 (ay (aD rfl (ak (ae ?_))));refine aa (bl (aC s!"r" (bh s!"r" (ai O l_self' (rSx N hx' (λ_=>pX) s!"k" trivial (aq (tC (ay ?_))))))));refine aD s!"d" (ak (ae ?_));refine aa (be (ai O l_raw' ?_));refine cV ?_;exact hQf _ _ (cI ls' HK hr.symm hx' fr)
end
section
open PySem.Builtin PySem.Builtin.Str
noncomputable def Kp (h h':Heap):Prop:=∀b o,h.get? b=EU o->h'.get? b=EU o
theorem Kp.refl (h:Heap):Kp h h:=λ_ _ e=>e
theorem Kp.trans {a b c:Heap} (x:Kp a b) (y:Kp b c):Kp a c:=λp o e=>y p o (x p o e)
section
variable {prog:Program} {w:FH} {A:Gk} {E:Value->Shared->Prop} {s:Shared} {d:Addr} {f:Int->Option Value}
theorem w_f {M:Model} {s:Shared} {c:Bool} {a b:KW α} {Q:α->Shared->Prop} (hc:c=false) (h:E4 M A b Q E s):E4 M A (if c=true then a else b) Q E s:=by
 subst hc;exact h
theorem w_t {M:Model} {s:Shared} {c:Bool} {a b:KW α} {Q:α->Shared->Prop} (hc:c=true) (h:E4 M A a Q E s):E4 M A (if c=true then a else b) Q E s:=by
 subst hc;exact h
theorem iH:GG (.type "KeyError") (.type "LookupError")=pure true:=by rw[FM];kernel_rfl
theorem qY {c:Nat} {Q:Mapped->Shared->Prop} (hd:(d==Kj)=false) (hh:A.handled=none) (hm:∀t,({s with toks:=t}).heap.MapOf (intKind prog w) d f) (hf:f (c:Int)=none)
 (h:∀h' t,Kp s.heap h'->Q .keep {s with heap:=h',toks:=t}):E4 (Fa prog w) A (tableLookup (.ref d) c) Q E s:=by
 unfold tableLookup;refine EX (HW (EX (KJ ?_)));refine wpAny_getItem_missing_of (knd:=intKind prog w) (JA ..) hd hh (hm (s.toks+1)) hf λh' e x=>?_;dsimp only;refine bM x.there λob t ho hc hdd=>?_;refine EX (LV (T:="KeyError") (af ob ho hc) iH ?_);refine w_t rfl ?_;exact EX (HL (E0 (h _ _ x.keeps)))
theorem rP:∀(l:List Nat) (a:Array Nat),(l.map λc=>(⟨#[c]⟩:FP)).foldl (λacc p=>acc++p.cps) a=a++l.toArray
 | [],a=>s!"4"
 |c::l,a=>by
  rw[FV,JU,rP l];apply Nl;simp
theorem rH (x:FP):(⟨(x.cps.toList.map λc=>(⟨#[c]⟩:FP)).foldl (λacc p=>acc++p.cps) #[]⟩:FP)=x:=by
 rw[rP];simp
theorem mJ {x:FP} {t:Nv} {Q:Fin->Shared->Prop} (hd:(d==Kj)=false) (hh:A.handled=none) (hm:∀h',Kp s.heap h'->h'.MapOf (intKind prog w) d f) (hf:∀c∈x.cps.toList,f (c:Int)=none)
 (hne:(x.length==0)=false) (hfast:(x.cps.all (·<128))=false) (hsz:x.length≤sizeLine)
 (h:∀h' t t',Kp s.heap h'->Q (.done (.ret (.str x t))) {s with heap:=h',toks:=t'}):E4 (Fa prog w) A (Builtin.«str.translate» ⟨[.str x t,.ref d],[]⟩) Q E s:=by
 refine EX (FN (a:=(Value.str x t,x,GS d)) rfl ?_);refine w_f (by simp only[hne,hfast]) ?_
 have szl:∀pre rest:List Nat,x.cps.toList=pre++rest->pre.length≤x.length:=λpre rest e=>by
  show pre.length≤x.cps.size;rw[←H5,e,E7];exact wF
 have ntl:∀n,n≤x.length->tooLong n=false:=λn hn=>decide_eq_false (by exact H6 (EY hn hsz));refine EX (FB (O1 _ (λrest b s'=>∃pre,x.cps.toList=pre++rest∧b=((pre.map λc=>(⟨#[c]⟩:FP)).reverse,pre.length,false,[],false)∧∃h' t,Kp s.heap h'∧s'={s with heap:=h',toks:=t})
  (λb s'=>b=((x.cps.toList.map λc=>(⟨#[c]⟩:FP)).reverse,x.length,false,[],false)∧∃h' t,Kp s.heap h'∧s'={s with heap:=h',toks:=t}) ?_ ?_ _ _ ⟨[],rfl,by rw[hfast];rfl,s.heap,s.toks,Kp.refl _,rfl⟩) ?_ λ_ _ z=>z)
 ·intro c rest b s' zr1;refine aV zr1 λpre e z1 z2=>?_;clear zr1;subst z1;obtain ⟨h',t,k,rfl⟩:=z2;dsimp only;refine w_f (ntl _ (szl _ _ e)) ?_;refine w_f rfl ?_;refine w_f rfl ?_;refine EX (qY (s:={s with heap:=h',toks:=t}) hd hh (λt'=>hm h' k) (hf c (by rw[e];simp)) λh2 t2 k2=>?_);dsimp only;refine E0 (ck (pre++[c]) (by rw[e,Gh];rfl) ?_ h2 ⟨t2,k.trans k2,rfl⟩);simp
 ·intro b s' zr1;refine aV zr1 λpre e z1 z2=>?_;clear zr1;subst z1;obtain ⟨h',t,k,rfl⟩:=z2;rw[Hh] at e;subst e;exact (ju (by rw[H5];rfl) _ _ k rfl)
 ·intro b s' zr1;refine xa1 zr1 λz1 z2=>?_;clear zr1;subst z1;obtain ⟨h',t,k,rfl⟩:=z2;dsimp only;refine w_f (ntl _ (Fd _)) ?_;rw[List.reverse_reverse,rH];exact EX (wpAny_mkStr (E0 (h h' t (t+1) k)) hsz)
end
end
section
open PySem.Builtin PySem.Builtin.Dict
theorem k8:No "dict" ⟨[],[]⟩=pure ():=s!"k"
theorem lS:Ih "dict.__new__" ⟨[.type "dict"],[]⟩=pure ():=s!"k"
section
variable {prog:Program} {w:FH} {A:Gk} {E:Value->Shared->Prop} {s:Shared}
noncomputable abbrev d5:Obj:={cls:= .type "dict",data:= .dict #[]}
theorem ma {Q₁:Value->Shared->Prop} (h:Q₁ (.ref s.heap.objs.size) {s with heap:=s.heap.push d5}):
 IZ (Fa prog w) A (.call (.builtin "dict.__new__") ⟨[.type "dict"],[]⟩) (wants Q₁ E) s:=by
 refine F1 F.kt_plain_dict_new F.kt_entry_dict_new (FN lS ?_);have hsub:=M5;have hmro:=F.kt_mro_dict;obtain ⟨hp,g,d,tk,os⟩:=s;unfold Builtin.«dict.__new__»
 wp_walk
 exact h
theorem tJ {Q:Value->Shared->Prop} (h:Q (.ref s.heap.objs.size) {s with heap:=s.heap.push d5}):E4 (Fa prog w) A (call (.type "dict") []) Q E s:=by
 refine MZ (Q₁:=λobj s₁=>obj= .ref s.heap.objs.size∧s₁={s with heap:=s.heap.push d5}) F.kt_called_dict k8 F.entry_dict_init (ma ⟨rfl,rfl⟩) ?_;intro obj s₁ zr1;refine b8 zr1 λz2=>?_;clear zr1;subst z2;have hnew:(s.heap.push d5).DictOf (strKind prog w) s.heap.objs.size []:=Heap.DictOf.new s.heap;refine (ia2 hnew.typeIs (F.args_dict_init_1 _) ?_);unfold Builtin.«dict.__init__»;refine EX ?_;unfold Qo;refine EX (wpAny_notOrdered_dict hnew.typeIs ?_);show E4 _ _ (pure (s.heap.objs.size,([]:List Value))) _ _ _;refine E0 ?_;show E4 _ _ (Qp s.heap.objs.size []>>=_) _ _ _;exact EX (E0 (E0 ⟨rfl,h⟩))
noncomputable def FkD (x:FP) (n:Nat) (kvs:List (FP×Value)):Prop:=kvs.length≤n∧∀kv∈kvs,kv.2= .none∧∃c∈x.cps.toList,kv.1=⟨#[c]⟩
theorem FkD.put {x:FP} {kvs:List (FP×Value)} (h:FkD x n kvs) {c:Nat} (hc:c∈x.cps.toList):FkD x (n+1) (LM kvs ⟨#[c]⟩ .none):=by
 refine xa1 h λh1 h2=>?_;clear h;unfold LM;split
 ·refine ⟨by rw[EZ];exact o37 h1,λkv hkv=>?_⟩;rw[Fp] at hkv;refine ad hkv λy hy z1=>?_;clear hkv;subst z1;split
  ·exact ⟨rfl,(h2 y hy).2⟩
  ·exact h2 y hy
 ·refine ⟨by rw[E7];simp;exact o84 h1,λkv hkv=>?_⟩;rw[F2] at hkv;rcases hkv with hkv|hkv
  ·exact h2 kv hkv
  ·rw[FW] at hkv;subst hkv;exact (gH rfl c hc rfl)
theorem d0:plainId "dict.fromkeys.loop" =true:=s!"1"
theorem pq:plainId "dict.fromkeys" =true:=s!"1"
theorem iz:Hb Jf "dict.fromkeys.loop" =EU Builtin.«dict.fromkeys.loop»:=F3 s!"k"
theorem xk:Hb Jf "dict.fromkeys" =EU Builtin.«dict.fromkeys»:=F3 s!"k"
theorem sn {x:FP} {I d:Addr} {St:Nat->Heap->Prop} (hx:x.length≤1000) (W:Walks prog w A.in1 I [I] [I] x.cps.size (SignAt x) St) (hdI:d≠I) {R:LH->Shared->Prop} (h0:Heap)
 (hR:∀h' t kvs,h'.DictOf (strKind prog w) d kvs->FkD x x.cps.size kvs->(∀b o,b≠d->b≠I->h0.get? b=EU o->h'.get? b=EU o)->R (.ok (.ret (.ref d))) {s with heap:=h',toks:=t}):
 ∀k i h' t kvs,i+k=x.cps.size->St i h'->h'.DictOf (strKind prog w) d kvs->FkD x i kvs->(∀b o,b≠d->b≠I->h0.get? b=EU o->h'.get? b=EU o)->
 IZ (Fa prog w) A (.builtin "dict.fromkeys.loop" ⟨[.ref d,.ref I,.none],[]⟩) R {s with heap:=h',toks:=t}
 |0,i,h',t,kvs,hk,hst,hd,hf,fr=>by
  have hin:i=x.cps.size:=by exact o85 hk
  clear hk;subst hin;refine Gb iz ?_;rw[FK d0 _];show E4 _ A.in1 (HM (.ref I)>>=_) _ _ _;refine EX (W.done _ _ _ hst λh2 t2 fr2=>?_);exact E0 (hR h2 t2 kvs (by refine gu hd λo es ep ho r=>?_;clear hd;exact (oG o es ep (fr2 d o (by simpa using hdI) ho) r)) hf λb o h1 h2' hb=>fr2 b o (by simpa using h2') (fr b o h1 h2' hb))
 |k+1,i,h',t,kvs,hk,hst,hd,hf,fr=>by
  refine Gb iz ?_;rw[FK d0 _];show E4 _ A.in1 (HM (.ref I)>>=_) _ _ _;refine EX (W.item i _ _ _ (by exact o86 hk) hst λv h2 t2 hv hst2 fr2=>?_);refine am hv λc u hc z1=>?_;clear hv;subst z1;have hd2:h2.DictOf (strKind prog w) d kvs:=by refine gu hd λo es ep ho r=>?_;clear hd;exact (oG o es ep (fr2 d o (by simpa using hdI) ho) r)
  dsimp only;refine EX (G1 hd2.typeIs ?_);refine w_t s!"d" ?_;refine EX (E0 (a:=d) ?_);refine EX (wpAny_holding ?_);refine OI (knd:=strKind prog w) (k:=⟨#[c]⟩) (MX ..) hd2 (λh3 hd3 sb=>?_) (by have:=hf.1;have:x.length=x.cps.size:=rfl;rw[sizeLine_eq];exact EY ‹_› (EY (Fr _ (_+1)) (EY (E6 (hk.trans this.symm)) (EY hx s!"d"))));refine E0 ⟨Gq d0 _,?_⟩
  have hm:c∈x.cps.toList:=by
   rw[MR];exact Array.mem_of_getElem? hc
  refine sn hx W hdI h0 hR k (i+1) h3 _ _ (by exact o88 hk) (W.frame _ _ _ hst2 λb hb o ho=>?_) hd3 (hf.put hm) λb o h1 h2' hb=>?_
  ·rw[sb.2 b (by intro e;clear hR hd fr hd2 hd3 sb;subst e;simp at hb;exact hdI hb)];exact ho
  ·rw[sb.2 b h1];exact fr2 b o (by simpa using h2') (fr b o h1 h2' hb)
theorem zr {x:FP} {t:Nv} (hx:x.length≤1000) (hh:A.handled=none) {R:LH->Shared->Prop}
 (hR:∀h' t kvs,h'.DictOf (strKind prog w) s.heap.objs.size kvs->FkD x x.cps.size kvs->Kp s.heap h'->R (.ok (.ret (.ref s.heap.objs.size))) {s with heap:=h',toks:=t}):
 IZ (Fa prog w) A (.builtin "dict.fromkeys" ⟨[.type "dict",.str x t],[]⟩) R s:=by
 refine Gb xk ?_;rw[FK pq _];unfold Builtin.«dict.fromkeys»;refine EX (FN (a:=true) s!"k" ?_);refine w_f rfl ?_;refine EX (FN (a:=true) M5 ?_);refine w_f rfl ?_;refine w_f rfl ?_;refine EX (HL (EX (E0 ?_)));refine EX (tJ ?_);have hnew:(s.heap.push d5).DictOf (strKind prog w) s.heap.objs.size []:=Heap.DictOf.new s.heap;refine wpAny_holding ?_;refine EX (G1 (O0 _ x t) ?_);refine EX (G1 hnew.typeIs ?_);refine w_f s!"d" ?_;refine EX (G1 hnew.typeIs ?_);refine w_f s!"d" ?_;refine EX (wpAny_pyIter_str λo St W st=>?_);have hI:(s.heap.push d5).objs.size=s.heap.objs.size+1:=Heap.size_push ..;have hdI:s.heap.objs.size≠(s.heap.push d5).objs.size:=by rw[hI];exact Fh (G9 _)
 refine E0 ⟨Gq d0 _,?_⟩;refine sn (d:=s.heap.objs.size) hx (W A.in1 hh) hdI s.heap (λh' t' kvs hd hf fr=>hR h' t' kvs hd hf λb ob hb=>?_) x.cps.size 0 _ _ [] (by exact o89) st (hnew.push o) ⟨Fd _,λ_ h=>nomatch h⟩ λb ob h1 h2 hb=>Heap.get?_push_of_some _ (Heap.get?_push_of_some _ hb);have:=Heap.lt_size hb;exact fr b ob (Fh this) (λe=>absurd (e.trans hI) (Fh (GN this))) hb
end
end
section
open PySem.Builtin PySem.Builtin.Dict
theorem qB:Ni "classmethod_descriptor" "__get__" "classmethod_descriptor.__get__" :=
 .of (owner:="classmethod_descriptor") (n:="__get__") (by rw[FC,Fg];kernel_rfl) s!"1" s!"1" s!"1"
  (by first|exact .inl s!"1"|exact .inr s!"1") (by rw[FM];kernel_rfl)
theorem nO:Hb Jf "classmethod_descriptor.__get__" =EU Builtin.«classmethod_descriptor.__get__»:=F3 s!"k"
theorem ql (a b c:Value):HN "classmethod_descriptor.__get__" ⟨[a,b,c],[]⟩:=by unfold HN;kernel_rfl
theorem yl:GX (.builtin "dict.fromkeys")=pure (.type "classmethod_descriptor"):=by show Mm _=_;rw[Jh];kernel_rfl
noncomputable def ee:Obj:={cls:= .type "builtin_function_or_method",data:= .fields #[.builtin "dict.fromkeys",.type "dict"]}
section
variable {t:Nv}
variable {prog:Program} {w:FH} {M:Model} {A:Gk} {E:Value->Shared->Prop} {s:Shared}
theorem rI {P:Fin->Shared->Prop} (h:P (.done (.ret (.ref s.heap.objs.size))) {s with heap:=s.heap.push ee}):
 E4 M A (Builtin.«classmethod_descriptor.__get__» ⟨[.builtin "dict.fromkeys",.none,.type "dict"],[]⟩) P E s:=by
 unfold Builtin.«classmethod_descriptor.__get__»;refine EX (FN (a:=(.builtin "dict.fromkeys",none,EU (.type "dict"))) (by first|rfl|kernel_rfl) ?_);dsimp only;refine EX (FN (a:= .type "dict") rfl ?_);refine EX (FN (a:=true) s!"k" ?_);refine w_f rfl ?_;refine EX (FN (a:=true) (Eq.trans s!"k" M5) ?_);refine w_f rfl ?_;exact EX (GD (E0 h))
theorem Aw:Jl [] (.type "dict") (.type "type") (FP.ofString "fromkeys")=EU (.get (.builtin "classmethod_descriptor.__get__") (.builtin "dict.fromkeys") .none (.type "dict")):=s!"k"
theorem yN {pl:KW Bool} {Q:Value×List Value->Shared->Prop} (h:Q (.ref s.heap.objs.size,[]) {s with heap:=s.heap.push ee,toks:=s.toks+1}):
 E4 (Fa prog w) A (HV (.type "dict") (FP.ofString "fromkeys") pl) Q E s:=by
 have X:Pp [] s.heap:=λ_ _ e=>nomatch e;have hstub:Ma (.type "dict")=pure none:=by unfold Ma;dsimp only;rw[show Manifest.isStub "dict" =false by decide+kernel];rfl
 have ht:GX (.type "dict")=pure (.type "type"):=by first|rfl|kernel_rfl
 have L0:Ft (Fa prog w) s.heap (GX (.type "dict")) (.type "type"):=Ft.of_pure ht;have hg:Il [] (.type "type") "__getattribute__" =EU (EU (.builtin "type.__getattribute__")):=type_tga;unfold HV Hf;refine EX (EX (L0.here ((looks_findIn X hg).here ?_)));dsimp only;rw[if_pos canon_tga];refine EX (FB (Q:=λv=>Q (v,[])) (E:=E) ?_ (λ_ _ z=>E0 z) λ_ _ z=>z);have LO:Ft (Fa prog w) s.heap (Ma (.type "dict")) none:=Ft.of_pure hstub;refine QM X LO L0 hg (looks_hook X (r:=none) s!"2") (by show subIn [] _ _=_;rfl) Aw ?_;show E4 _ _ (IY [.builtin "dict.fromkeys"] (call (.builtin "classmethod_descriptor.__get__") [.builtin "dict.fromkeys",.none,.type "dict"])>>=λv=>ret v) _ _ _;exact EX (wpAny_holding (Gv qB yl nO (rI (af _ rfl (E0 (E0 h)))) (ql _ _ _)))
theorem ww {x:FP}:Ia "dict.fromkeys" ⟨[.type "dict",.str x t],[]⟩=pure ():=s!"k"
theorem yX {x:FP} {u:Addr} (ho:s.heap.get? u=EU ee) (hx:x.length≤1000) (hh:A.handled=none) {Q:Value->Shared->Prop}
 (h:∀h' t kvs,h'.DictOf (strKind prog w) s.heap.objs.size kvs->FkD x x.cps.size kvs->Kp s.heap h'->Q (.ref s.heap.objs.size) {s with heap:=h',toks:=t}):
 E4 (Fa prog w) A (call (.ref u) [.str x t]) Q E s:=by
 refine wpAny_call (Mt ?_);show E4 _ A.in1 (MC (.ref u) ⟨[.str x t],[]⟩) _ _ s;simp only[MC];refine EX (GP ho ?_);simp only[ee,show (GL "builtin_function_or_method" ==GL "method" ||Value.type "builtin_function_or_method" ==GL "builtin_function_or_method" ||Value.type "builtin_function_or_method" ==GL "method-wrapper")=true by decide,if_true];refine w_t s!"d" ?_;refine EX (FN (a:=()) ww ?_);refine EX (E0 (E0 ?_));exact ⟨Gq pq _,zr hx hh h⟩
end
end
section
open PySem.Builtin PySem.Builtin.Dict PySem.Builtin.Object PySem.Builtin.ObjectAttr
theorem rN:GX (.builtin "str.maketrans")=pure (.type "builtin_function_or_method"):=by show Mm _=_;rw[Jh];kernel_rfl
theorem nG:Gp (.type "str") "maketrans" =pure (EU (.builtin "str.maketrans")):=by rw[FC,Fg];kernel_rfl
theorem wN:Gp (.type "builtin_function_or_method") "__get__" =pure none:=by rw[FC,Fg];kernel_rfl
theorem se:PE (.builtin "str.maketrans")=pure (.builtin "str.maketrans"):=by
 show (if (withoutEnding? "str.maketrans" "#data").isSome=true then typeDatum "str.maketrans" else pure (.builtin "str.maketrans"))=_;rw[if_neg s!"1"]
section
variable {t:Nv}
variable {prog:Program} {w:FH} {M:Model} {A:Gk} {E:Value->Shared->Prop} {s:Shared}
theorem x9 {x:FP} {Q:Found->Shared->Prop} (h:Q (.value (.builtin "str.maketrans")) s):E4 M A (find (.str x t) (.type "str") "maketrans") Q E s:=by
 unfold find;refine EX (FN nG (EX ?_));unfold getOf Hf;refine EX (FN rN (FN wN ?_));refine EX (E0 ?_);dsimp only;unfold ownThenClass;refine EX (E0 ?_);dsimp only;refine EX (E0 ?_);exact EX (HL (EX (FN se (E0 h))))
theorem ro {x name:FP} {Q:Value->Shared->Prop} (hn:PE (.builtin id)=pure (.builtin id)) (hf:∀(A:Gk) (E:Value->Shared->Prop) (s:Shared) (Q:Found->Shared->Prop),Q (.value (.builtin id)) s->E4 (Fa prog w) A (find (.str x t) (.type "str") name) Q E s) (h:Q (.builtin id) {s with toks:=s.toks+1}):E4 (Fa prog w) A (JQ (.str x t) name) Q E s:=by
 have hT:∀t',({s with toks:=t'}:Shared).TypeIs (.str x t) "str" :=λ_=>rfl;refine EX (NN (wpAny_holding (EX (G1 (hT _) (EX (FN Hv.lookup ?_))))));dsimp only;rw[show ND (GL "str")=false from rfl,OE,if_neg s!"d"];refine EX (E0 (EX (HW (wpAny_holding ?_))));unfold Pv;rw[show (false&&ND (LR "object.__getattribute__"))=false from rfl,if_neg s!"d"];unfold QK;rw[Hv.bind];refine EX (E0 ?_);show E4 _ _ (call (.builtin "object.__getattribute__") [.str x t,.str _ s.toks]) _ _ _;refine wpAny_call (F1 Hv.plain F.entry_object_getattribute (Hv.check _ _ _ _ _ _ _ _ (hT _) (F.args_object_getattribute_2 _ _) ?_));unfold Builtin.«object.__getattribute__»;refine EX (E0 (EX (E0 (EX (G1 (hT _) (EX (hf _ _ _ _ ?_)))))));refine E0 ?_;show E4 _ _ (PE (.builtin id)) _ _ _;rw[hn];exact E0 h
theorem tG {x:FP} {Q:Value->Shared->Prop} (h:Q (.builtin "str.maketrans") {s with toks:=s.toks+1}):E4 (Fa prog w) A (JQ (.str x t) "maketrans") Q E s:=
 ro se (λ_ _ _ _ q=>x9 q) h
theorem zc {x:FP} {pl:KW Bool} {Q:Value×List Value->Shared->Prop} (h:Q (.builtin "str.maketrans",[]) {s with toks:=s.toks+1}):E4 (Fa prog w) A (HV (.str x t) "maketrans" pl) Q E s:=by
 have hT:∀t',({s with toks:=t'}:Shared).TypeIs (.str x t) "str" :=λ_=>rfl;unfold HV Hf;refine EX (EX (G1 (hT _) (FN Hv.lookup ?_)));dsimp only;refine w_f s!"1" ?_;refine EX (EX (G1 (hT _) (FN (a:=none) (by rw[FC,Fg];kernel_rfl) ?_)));refine w_f rfl ?_;refine EX (EX (G1 (hT _) (FN nG ?_)));dsimp only;refine EX (FN rN ?_);refine w_t s!"d" ?_;exact EX (tG (E0 h))
end
end
section
open PySem.Builtin PySem.Builtin.Dict
section
variable {prog:Program} {w:FH} {A:Gk} {E:Value->Shared->Prop} {s:Shared}
theorem xh:plainId "str.maketrans" =true:=s!"1"
theorem wp:Hb Jf "str.maketrans" =EU Builtin.«str.maketrans»:=F3 s!"k"
theorem w7 (d:Addr):Ih "str.maketrans" ⟨[.ref d],[]⟩=pure ():=s!"k"
noncomputable def TabD (x:FP) (kvs:List (Int×Value)):Prop:=∀kv∈kvs,∃c∈x.cps.toList,kv.1=(c:Int)
theorem TabD.put {x:FP} {kvs:List (Int×Value)} (h:TabD x kvs) {c:Nat} (hc:c∈x.cps.toList):TabD x (LM kvs (c:Int) v):=by
 unfold LM;split
 ·intro kv hkv;rw[Fp] at hkv;refine ad hkv λy hy z1=>?_;clear hkv;subst z1;split
  ·exact h y hy
  ·exact h y hy
 ·intro kv hkv;rw[F2] at hkv;rcases hkv with hkv|hkv
  ·exact h kv hkv
  ·rw[FW] at hkv;subst hkv;exact (af c hc rfl)
theorem tO {K:Type} [DecidableEq K] (kvs:List (K×Value)) (k:K) (v:Value):(LM kvs k v).length≤kvs.length+1:=by
 unfold LM;split
 ·rw[EZ];exact BP
 ·rw[E7];simp
theorem TabD.miss {x:FP} {kvs:List (Int×Value)} (h:TabD x kvs) {c:Nat} (hc:c∉x.cps.toList):MB kvs (c:Int)=none:=by
 unfold MB;rw[Hx.mpr]
 ·rfl
 ·intro kv hkv e;refine ad (h kv hkv) λc' h1 h2=>?_;have e:kv.1=(c:Int):=by simpa using e
  rw[h2] at e;have:c'=c:=by exact_mod_cast e
  clear e;subst this;exact hc h1
theorem ye {x:FP} {d:Addr} {kvs:List (FP×Value)} (hn:n≤1000) (hd:s.heap.DictOf (strKind prog w) d kvs) (hf:FkD x n kvs) (hs:(d==Kj)=false) {Q:Fin->Shared->Prop}
 (h:∀h' t kvs2,h'.DictOf (intKind prog w) s.heap.objs.size kvs2->TabD x kvs2->Kp s.heap h'->Q (.done (.ret (.ref s.heap.objs.size))) {s with heap:=h',toks:=t}):
 E4 (Fa prog w) A (Builtin.«str.maketrans» ⟨[.ref d],[]⟩) Q E s:=by
 have ty:∀h':Heap,h'.DictOf (strKind prog w) d kvs->∀t,({s with heap:=h',toks:=t}:Shared).TypeIs (.ref d) "dict" :=λh' hd' t=>Heap.DictOf.typeIs (s:={s with heap:=h',toks:=t}) hd';have hd1:(s.heap.push d5).DictOf (strKind prog w) d kvs:=hd.push _;have ht1:(s.heap.push d5).DictOf (intKind prog w) s.heap.objs.size []:=Heap.DictOf.new s.heap;refine EX (E0 (EX (E0 (EX (E0 (EX (E0 (EX ?_))))))));refine GD (EX (wpAny_holding ?_));refine EX (G1 (ty _ hd1 _) (EX (E0 (EX (G1 (ty _ hd1 _) (w_f s!"d" ?_))))));refine iw hd1 λo es ep ho hc hdat z1=>?_;clear hd1;obtain ⟨hk,hp,hno⟩:=z1;refine EX (w_f hs (E0 (EX (wpAny_dictEntries ho hdat ?_))))
 have hT:d≠s.heap.objs.size:=by
  refine gu hd λ_ _ _ hg _=>?_;clear hd;exact Fh (Heap.lt_size hg)
 refine EX (FB (O1 _ (λrest _ s'=>∃kr,Pairs (strKind prog w) rest kr∧(∀kv∈kr,kv∈kvs)∧∃h' t kvs2,h'.DictOf (intKind prog w) s.heap.objs.size kvs2∧TabD x kvs2∧kvs2.length+kr.length≤1000∧
  (∀b o,b≠s.heap.objs.size->(s.heap.push d5).get? b=EU o->h'.get? b=EU o)∧s'={s with heap:=h',toks:=t})
  (λ_ s'=>∃h' t kvs2,h'.DictOf (intKind prog w) s.heap.objs.size kvs2∧TabD x kvs2∧(∀b o,b≠s.heap.objs.size->(s.heap.push d5).get? b=EU o->h'.get? b=EU o)∧s'={s with heap:=h',toks:=t})
  ?_ ?_ _ _ (ck kvs hp (λ_ z=>z) (s.heap.push d5) ⟨s.toks,[],ht1,(λ_ z=>by cases z),(by have:=hf.1;show 0+kvs.length≤1000;exact EY (E6 (Iu _)) (EY this hn)),λ_ _ _ z=>z,rfl⟩)) ?_ λ_ _ z=>z)
 ·intro e rest b s' zr1;refine aV zr1 λkr hp' hin z2=>?_;clear zr1;obtain ⟨h',t,kvs2,hd2,ht2,hl,fr,rfl⟩:=z2
  cases hp' with
  |cons hke hve hrest=>
   rename_i kv kr';refine g4 (hf.2 kv (hin kv (Fn ..))) λhv c z1=>?_;refine xa1 z1 λhcm hkc=>?_;clear z1;refine xe1 (Value.isStrOf_shape hke) λtk hkey=>?_;refine EX (FN (a:=EU (⟨#[c]⟩:FP)) (by rw[hkey,hkc];rfl) ?_);refine EX (KJ ?_);refine EX (OI (knd:=intKind prog w) (k:=(c:Int)) (JA ..) hd2 (λh3 hd3 sb=>?_) (by rw[sizeLine_eq];exact EY (EY (Fr _ _) hl) s!"d"));refine E0 (ck kr' hrest (λz hz=>hin z (Fj _ hz)) h3 ⟨_,_,hd3,ht2.put hcm,?_,λb' o' h1 h2=>?_,rfl⟩)
   ·have:=tO kvs2 (c:Int) e.val;rw[Hm] at hl;exact EY (Hj this _) (by rw[HG,G7 1];exact hl)
   ·rw[sb.2 b' h1];exact fr b' o' h1 h2
 ·intro b s' zr1;refine aV zr1 λkr _ _ z2=>?_;clear zr1;obtain ⟨h',t,kvs2,hd2,ht2,_,fr,rfl⟩:=z2;exact (jt h' t kvs2 hd2 ht2 ⟨fr,rfl⟩)
 ·intro b s' zr1;refine iw zr1 λh' t kvs2 hd2 ht2 fr z2=>?_;clear zr1;subst z2;refine E0 (E0 (h h' t kvs2 hd2 ht2 λb' o' hb=>fr b' o' (Fh (Heap.lt_size hb)) (Heap.get?_push_of_some _ hb)))
theorem yT {x:FP} {d:Addr} {kvs:List (FP×Value)} (hn:n≤1000) (hd:s.heap.DictOf (strKind prog w) d kvs) (hf:FkD x n kvs) (hs:(d==Kj)=false) {Q:Value->Shared->Prop}
 (h:∀h' t kvs2,h'.DictOf (intKind prog w) s.heap.objs.size kvs2->TabD x kvs2->Kp s.heap h'->Q (.ref s.heap.objs.size) {s with heap:=h',toks:=t}):
 E4 (Fa prog w) A (call (.builtin "str.maketrans") [.ref d]) Q E s:=
 wpAny_call (F1 xh wp (FN (w7 d) (ye hn hd hf hs h)))
end
noncomputable def fkO (w:FH) (x:FP):MO:= .any λo=>∃kvs,o.IsDictOf (strKind pgm w) kvs∧FkD x x.cps.size kvs
noncomputable def mq (w:FH) (x:FP):MO:= .any λo=>∃kvs,o.IsDictOf (intKind pgm w) kvs∧TabD x kvs
theorem jW {K:Type} [DecidableEq K] {w:FH} {knd:KeyKind pgm w K} {kvs:List (K×Value)} (h:o.IsDictOf knd kvs):imm o=false:=by
 refine bM h λes ep _ hd _=>?_;exact kq hd
section
variable {o:G0}
variable {X:Xc} {st:St} {Q:MV->St->Prop}
theorem rO {Q':MV->St->Prop} (h:WE X e st Q') (k:∀m st',Q' m st'->Q m st'):WE X e st Q:=λφ s I=>ab (h φ s I) λv s' ⟨m,st',a,b,c,d⟩=>⟨m,st',a,b,c,k _ _ d⟩
theorem qZ (O:XOk X) {pl:KW Bool}
 (he:eval (.Call (.Attribute o "fromkeys" apos) [e] [] pos) X.env=(do
  let ov←eval o X.env
  Ke apos.atName
  let (f,first)←IY [ov] (HV ov "fromkeys" pl)
  I0 pos f first (ID pos (Hk [e] X.env)) [])) (hs:Starless [e])
 (h:WE X o st λa st₁=>a= .k (.type "dict")∧WE X e st₁ λm st₂=>∃x,m= .s x∧x.length≤1000∧∀d,st₂.σ d=none->Q (.r d) ⟨st₂.σ.put d (fkO X.C.w x),st₂.ρ⟩):
 WE X (.Call (.Attribute o "fromkeys" apos) [e] [] pos) st Q:=λφ s I=>by
 refine JR ?_ he;refine ab (h φ s I) λv s₁ pp=>?_;obtain ⟨a,st₁,r,I₁,k,e0,q⟩:=pp;subst e0;cases (show v= .type "dict" from r);refine yN ?_;have I₂:IF X φ st₁ {s₁ with heap:=s₁.heap.push ee,toks:=s₁.toks+1}:=(I₁.push _).toks _;have hb:(s₁.heap.push ee).get? s₁.heap.objs.size=EU ee:=Heap.get?_push_size _ rfl;refine jV (o:=ee) (bL hs) rfl rfl (bt hs (ab (cv (Q:=λms st₂=>∃x,ms=[.s x]∧x.length≤1000∧∀d,st₂.σ d=none->Q (.r d) ⟨st₂.σ.put d (fkO X.C.w x),st₂.ρ⟩) hs
  (ac (rO q λm st₂ ⟨x,e1,e2,e3⟩=>ag (aR x (by rw[e1]) e2 e3))) I₂) λvs s₂ y=>?_))
 obtain ⟨ms,st₂,r₂,I₃,k₂,x,e1,e2,e3⟩:=y;refine ⟨k₂ _ _ hb rfl,?_⟩;subst e1;unfold VRs at r₂;refine am r₂ λy ys z1 z2=>?_;clear r₂;subst z1;refine xa1 z2 λz3 r₂=>?_;clear z2;obtain ⟨t,rfl⟩:=z3;unfold VRs at r₂;subst r₂;refine yX (k₂ _ _ hb rfl) e2 O.hh λh' t' kvs hd hf kp=>?_;have I₄:=I₃.grow kp t';refine xa2 (bA I₃.inv.fresh) λa1 a2 a3=>?_;refine ad (Heap.dictOf_iff.mp hd) λob ho hob=>?_;have I₅:=(I₄.hide a2 a1 I₃.inv.sz (m:=fkO X.C.w x) (iK ob ho (jW hob) kvs hob hf)).show_ a2 a1 a3;exact Post.mk (bN ..) I₅ ((k.trans (keep_push _ _)).trans (k₂.trans (aB kp))) (e3 _ a2)
theorem pW (G:Gd X.C) {pl:KW Bool}
 (he:eval (.Call (.Attribute o "maketrans" apos) [e] [] pos) X.env=(do
  let ov←eval o X.env
  Ke apos.atName
  let (f,first)←IY [ov] (HV ov "maketrans" pl)
  I0 pos f first (ID pos (Hk [e] X.env)) [])) (hs:Starless [e])
 (h:WE X o st λa st₁=>(∃y,a= .s y)∧WE X e st₁ λm st₂=>∃x d,m= .r d∧st₂.σ d=EU (fkO X.C.w x)∧x.length≤1000∧∀d',st₂.σ d'=none->Q (.r d') ⟨st₂.σ.put d' (mq X.C.w x),st₂.ρ⟩):
 WE X (.Call (.Attribute o "maketrans" apos) [e] [] pos) st Q:=λφ s I=>by
 refine JR ?_ he;refine ab (h φ s I) λv s₁ pp=>?_;obtain ⟨a,st₁,r,I₁,k,⟨y,e0⟩,q⟩:=pp;subst e0;refine xe1 r λt0 z1=>?_;clear r;subst z1;refine zc ?_;refine HD (bL hs) (bt hs (ab (cv (Q:=λms st₂=>∃x d,ms=[.r d]∧st₂.σ d=EU (fkO X.C.w x)∧x.length≤1000∧∀d',st₂.σ d'=none->Q (.r d') ⟨st₂.σ.put d' (mq X.C.w x),st₂.ρ⟩) hs
  (ac (rO q λm st₂ ⟨x,d,e1,e2⟩=>ag (cz x d (by rw[e1]) e2))) (I₁.toks _)) λvs s₂ y=>?_))
 obtain ⟨ms,st₂,r₂,I₃,k₂,x,d,e1,e2,e3,e4⟩:=y;subst e1;refine fN r₂ ?_;refine gf (I₃.own e2) λob ho _ kvs hob hf=>?_;refine yT (n:=x.cps.size) e3 (Heap.dictOf_iff.mpr (af ob ho hob)) hf (G.says.sysNe (I₃.ge e2)) λh' t' kvs2 hd2 ht2 kp=>?_;have I₄:=I₃.grow kp t';refine xa2 (bA I₃.inv.fresh) λa1 a2 a3=>?_;refine ad (Heap.dictOf_iff.mp hd2) λob2 ho2 hob2=>?_;have I₅:=(I₄.hide a2 a1 I₃.inv.sz (m:=mq X.C.w x) (iK ob2 ho2 (jW hob2) kvs2 hob2 ht2)).show_ a2 a1 a3;exact Post.mk (bN ..) I₅ (k.trans (k₂.trans (aB kp))) (e4 _ a2)
theorem rh (G:Gd X.C) (O:XOk X) {d:Addr} {x y:FP} (e:st.σ d=EU (mq X.C.w y)) (hne:(x.length==0)=false) (hfast:(x.cps.all (·<128))=false) (hsz:x.length≤sizeLine) (hxy:∀c∈x.cps.toList,c∉y.cps.toList) (hq:Q (.s x) st):
 WC X (.builtin "str.translate") [.s x,.r d] st Q:=λφ s us I r=>by
 refine xC r λt=>?_;refine gf (I.own e) λob ho _ kvs hob ht=>?_;refine Gv NW (O0 ..) F.entry_str_translate (mJ (A:=X.A.in1) (f:=MB kvs) (G.says.sysNe (I.ge e)) O.hh (λh' kp=>(Heap.dictOf_iff.mpr (af ob (kp _ _ ho) hob)).mapOf) (λc hc=>ht.miss (hxy c hc)) hne hfast hsz λh' t1 t2 kp=>(af _ rfl ?_)) (F.args_str_translate_2 _ _);exact Post.mk (ft ..) (I.grow kp t2) (aB kp) hq
end
end
section
variable {Q:MV->St->Prop}
open Builtin.ObjectAttr
structure SI (σ0:Sg) (sx dsx:Addr) (F:List (Addr×MO)) (L:List (Str×MV)) (σ:Sg):Prop where
 i:σ sx=EU (.ins 975 dsx)
 n:σ dsx=EU (.ns L)
 fr:∀b m,b≠dsx->σ0 b=EU m->σ b=EU m
 ow:∀p∈F,p.1≠dsx∧σ p.1=EU p.2
variable {σ0:Sg} {sx dsx:Addr} {F:List (Addr×MO)} {L:List (Str×MV)} {σ:Sg} {ρ:Lo} {X:Xc}
theorem SI.nxd (h:SI σ0 sx dsx F L σ):sx≠dsx:=aK h.i h.n
theorem SI.put (h:SI σ0 sx dsx F L σ) (L':List (Str×MV)):SI σ0 sx dsx F L' (σ.put dsx (.ns L')):=
 ⟨(Sg.put_ne _ _ h.nxd).trans h.i,Sg.put_same ..,λb m hb e=>(Sg.put_ne _ _ hb).trans (h.fr b m hb e),λp hp=>⟨(h.ow p hp).1,(Sg.put_ne _ _ (h.ow p hp).1).trans (h.ow p hp).2⟩⟩
theorem SI.new (h:SI σ0 sx dsx F L σ) {d:Addr} (hd:σ d=none) (m:MO):SI σ0 sx dsx ((d,m)::F) L (σ.put d m):=by
 have ne:∀b m',σ b=EU m'->b≠d:=λb m' e hb=>by subst hb;rw[hd] at e;cases e
 refine ⟨(Sg.put_ne _ _ (ne _ _ h.i)).trans h.i,(Sg.put_ne _ _ (ne _ _ h.n)).trans h.n,λb m' hb e=>(Sg.put_ne _ _ (ne _ _ (h.fr b m' hb e))).trans (h.fr b m' hb e),λp hp=>?_⟩;rcases FF.mp hp with rfl|hp
 ·exact ⟨λe=>ne _ _ h.n e.symm,Sg.put_same ..⟩
 ·exact ⟨(h.ow p hp).1,(Sg.put_ne _ _ (ne _ _ (h.ow p hp).2)).trans (h.ow p hp).2⟩
theorem SI.free (h:SI σ0 sx dsx F L σ) {d:Addr} (hd:σ d=none):σ0 d=none:=by
 cases e:σ0 d with
 |none=>rfl
 |some m=>
  by_cases hb:d=dsx
  ·subst hb;rw[h.n] at hd;cases hd
  ·rw[h.fr d m hb e] at hd;cases hd
theorem SI.ne (h:SI σ0 sx dsx F L σ) {d:Addr} (hd:σ d=none) {p:Addr×MO} (hp:p∈F):d≠p.1:=λe=>by subst e;rw[(h.ow p hp).2] at hd;cases hd
theorem rSI (N:Kn X) (h:SI σ0 sx dsx F L σ) (hn:nk L name=EU m) (hc:kC.contains name=true) (hm:m.out) (hq:Q m ⟨σ,ρ⟩):AtR X (.r sx) name ⟨σ,ρ⟩ Q:=
 pV N h.i h.n hn (eK _ _) hc hm hq
theorem wSI (N:Kn X) (h:SI σ0 sx dsx F L σ) (hc:kC.contains name=true) (hl:L.length<900) (hq:∀σ',SI σ0 sx dsx F (aM L name m) σ'->QU ⟨σ',ρ⟩):dL X N (.r sx) name m ⟨σ,ρ⟩ QU:=
 pT h.i h.n (eK _ _) hc (E1 hl s!"d") (hq _ (h.put _))
theorem gSI (N:Kn X) (h:SI σ0 sx dsx F L σ) {P:Addr->Addr->Addr->Prop} (hn:kC.contains name=true) (hq:P sx 975 dsx):lC X N (.r sx) name ⟨σ,ρ⟩ P:=By h.i (eK _ _) hn hq
theorem vX {st:St} {a b:Bool} (h:Q (.k (.bool (a==b))) st):W2 X (Fu .Is) (.k (.bool a)) (.k (.bool b)) st Q:=λφ s v w I e1 e2=>by
 cases (show v= .bool a from e1);cases (show w= .bool b from e2);exact Qq (.mk (ba ..) I (.refl _) h)
variable {C:Cx}
theorem uu (G:Gd C) {sx:Addr} (v:Value):d4 C (dD (aH 29 1) "__init__" "shlex.__init__" (.ref 892) v (.str "cpy313.shlex" 1428) none (.ref 898)) [.r sx,.s x] [("posix",.k (.bool true)),("punctuation_chars",.k (.bool true))] ((["self","instream","infile","posix","punctuation_chars"]:List Str).zip [.r sx,.s x,.k .none,.k (.bool true),.k (.bool true)]):=by
 refine fX (T:=892) (o:=dT [.none,.none,.bool false,.bool false]) rfl (G.says.obj s!"k" rfl) rfl λvs ks hv hk=>?_
 obtain ⟨a0,a1,rfl⟩:∃a0 a1,vs=[a0,a1]:=by
  rcases vs with _|⟨a0,_|⟨a1,_|_⟩⟩<;>simp at hv
  exact ⟨a0,a1,rfl⟩
 obtain ⟨b0,b1,rfl⟩:∃b0 b1,ks=[b0,b1]:=by
  rcases ks with _|⟨b0,_|⟨b1,_|_⟩⟩<;>simp at hk
  exact ⟨b0,b1,rfl⟩
 refine ⟨_,[("self",a0),("instream",a1),("infile",.none),("posix",b0),("punctuation_chars",b1)],s!"2",s!"k",s!"k",λh r q=>?_⟩;obtain ⟨r0,r⟩:=r.c;obtain ⟨r1,r⟩:=r.c;obtain ⟨q0,q⟩:=VRs.c q;obtain ⟨q1,q⟩:=VRs.c q;exact .cons (v:=a0) s!"k" r0 (.cons (v:=a1) s!"k" r1 (.cons (v:= .none) s!"k" rfl (.cons (v:=b0) s!"k" q0 (.cons (v:=b1) s!"k" q1 .nil))))
theorem uE (G:Gd C) {sx:Addr} (v:Value):d4 C (dD (aH 29 1) "__init__" "shlex.__init__" (.ref 892) v (.str "cpy313.shlex" 1428) none (.ref 898)) [.r sx,.s x] [("posix",.k (.bool true))] ((["self","instream","infile","posix","punctuation_chars"]:List Str).zip [.r sx,.s x,.k .none,.k (.bool true),.k (.bool false)]):=by
 refine fX (T:=892) (o:=dT [.none,.none,.bool false,.bool false]) rfl (G.says.obj s!"k" rfl) rfl λvs ks hv hk=>?_
 obtain ⟨a0,a1,rfl⟩:∃a0 a1,vs=[a0,a1]:=by
  rcases vs with _|⟨a0,_|⟨a1,_|_⟩⟩<;>simp at hv
  exact ⟨a0,a1,rfl⟩
 obtain ⟨b0,rfl⟩:∃b0,ks=[b0]:=by
  rcases ks with _|⟨b0,_|_⟩<;>simp at hk
  exact ⟨b0,rfl⟩
 refine ⟨_,[("self",a0),("instream",a1),("infile",.none),("posix",b0),("punctuation_chars",.bool false)],s!"2",s!"k",s!"k",λh r q=>?_⟩;obtain ⟨r0,r⟩:=r.c;obtain ⟨r1,r⟩:=r.c;obtain ⟨q0,q⟩:=VRs.c q;exact .cons (v:=a0) s!"k" r0 (.cons (v:=a1) s!"k" r1 (.cons (v:= .none) s!"k" rfl (.cons (v:=b0) s!"k" q0 (.cons (v:= .bool false) s!"k" rfl .nil))))
end
section
open Builtin.ObjectAttr
local macro_rules | `(tactic|specialize $s:str)=>wk wD s
noncomputable abbrev shW:Str:=EW "abcdfeghijklmnopqrstuvwxyzABCDEFGHIJKLMNOPQRSTUVWXYZ0123456789_" ++EW "ßàáâãäåæçèéêëìíîïðñòóôõöøùúûüýþÿÀÁÂÃÄÅÆÇÈÉÊËÌÍÎÏÐÑÒÓÔÕÖØÙÚÛÜÝÞ"
noncomputable abbrev eH:Str:=shW++EW "~-./*?="
theorem vY:∀c∈eH.cps.toList,c∉(EW "();<>|&").cps.toList:=s!"1"
noncomputable def shA (io pbk fs:Addr) (W:Str):List (Str×MV):=
 [("instream",.r io),("infile",.k .none),("posix",.k (.bool true)),("eof",.k .none),("commenters",.s "#"),("wordchars",.s W),("whitespace",.s " \t\r\n"),("whitespace_split",.k (.bool false)),
  ("quotes",.s "'\""),("escape",.s "\\"),("escapedquotes",.s "\""),("state",.s " "),("pushback",.r pbk),("lineno",.i 1),("debug",.i 0),("token",.s ""),("filestack",.r fs),("source",.k .none)]
section
variable {X:Xc} {σ0 σ:Sg} {sx dsx:Addr} {ρ:Lo}
set_option maxHeartbeats 4000000 in
theorem vH (G:Gd X.C) (O:XOk X) (N:Kn X) (hin:GC X.env=false) (R:Rm (k+3) X.A) {p:Bool} (h:SI σ0 sx dsx [] [] σ)
 (g_isinstance:X.gs.lookup (EW "isinstance")=EU (.builtin "isinstance")) (g_str:X.gs.lookup (EW "str")=EU (.type "str")) (g_StringIO:X.gs.lookup (EW "StringIO")=EU (.ref 840))
 (g_deque:X.gs.lookup (EW "deque")=EU (.type "collections.deque")) (g_dict:X.gs.lookup (EW "dict")=EU (.type "dict"))
 (l_self:lk ρ "self" =EU (EU (.r sx))) (l_instream:lk ρ "instream" =EU (EU (.s x))) (l_infile:lk ρ "infile" =EU (EU (.k .none))) (l_posix:lk ρ "posix" =EU (EU (.k (.bool true)))) (l_pc:lk ρ "punctuation_chars" =EU (EU (.k (.bool p)))) (l_t:lk ρ "t" =EU none)
 {QF:Fl->St->Prop} (hQ:∀σ' ρ' io dio pbk fs pc,LX σ' sx dsx io dio pbk fs (if p=true then eH else shW) (if p=true then "();<>|&" else "") pc x (EU " ") "" 0 none->σ0 io=none->σ0 dio=none->(∀a,pc=EU a->σ0 a=none)->(∀b m,b≠dsx->σ0 b=EU m->σ' b=EU m)->QF .next ⟨σ',ρ'⟩):WS X (cu (aH 29 1)) ⟨σ,ρ⟩ QF:=by
 conv=>arg 2;whnf
 refine aa (bl (bY s!"r" (aT O g_isinstance trivial (ac (ai O l_instream (ac (c8 O g_str (ag (te (ay (ift rfl ?_)))))))))))
 refine aa (ah s!"r" s!"r" trivial (f8 O N g_StringIO trivial trivial s!"k" (ac (ai O l_instream (ag ?_)))))
 refine gQ (iI (CtA.mono (qG G R) ?_))
 intro m σ1 zr1;refine am zr1 λio dio z1 z2=>?_;clear zr1;subst z1;obtain ⟨f1,f2,f3,rfl⟩:=z2
 have f1':(σ.put dio (.ns (bH x 0))) io=none:=(Sg.put_ne _ _ f3).trans f1
 have u_io:=h.free f1
 have u_dio:=h.free f2
 have h1:=(h.new f2 (.ns (bH x 0))).new f1' (.ins 840 dio)
 refine aL O l_instream (ae ?_)
 have m_self:lk (stL ρ "instream" (.r io)) "self" =EU (EU (.r sx)):=s!"lk"
 have m_instream:lk (stL ρ "instream" (.r io)) "instream" =EU (EU (.r io)):=s!"lk"
 have m_infile:lk (stL ρ "instream" (.r io)) "infile" =EU (EU (.k .none)):=s!"lk"
 have m_posix:lk (stL ρ "instream" (.r io)) "posix" =EU (EU (.k (.bool true))):=s!"lk"
 have m_pc:lk (stL ρ "instream" (.r io)) "punctuation_chars" =EU (EU (.k (.bool p))):=s!"lk"
 have m_t:lk (stL ρ "instream" (.r io)) "t" =EU none:=s!"lk"
 generalize stL ρ "instream" (.r io)=ρ1 at m_self m_instream m_infile m_posix m_pc m_t⊢
 generalize (σ.put dio (.ns (bH x 0))).put io (.ins 840 dio)=σ1 at h1⊢
 clear l_self l_instream l_infile l_posix l_pc l_t f1'
 repeat walk_at "s"
 refine gE (by rw[sizeLine_eq];decide+kernel) ?_
 repeat walk_at "s"
 refine bP O g_deque trivial (ag (l9 (st:=⟨_,_⟩) λpbk n_pbk=>?_))
 have h2:=SI.new s!"A" n_pbk (dqO none)
 clear n_pbk
 repeat walk_at "s"
 refine bP O g_deque trivial (ag (l9 (st:=⟨_,_⟩) λfs n_fs=>?_))
 have h3:=SI.new s!"A" n_fs (dqO none)
 repeat walk_at "s"
 rename_i hS
 have hS2:SI σ0 sx dsx [(fs,dqO none),(pbk,dqO none),(io,.ins 840 dio),(dio,.ns (bH x 0))] (shA io pbk fs shW) _:=Ow (congrArg (λL=>SI σ0 sx dsx _ L _) s!"k") hS
 clear hS h1 h2 h3 n_fs f1 f2
 dsimp only
 cases p with
 |false=>
  refine ift rfl ?_
  refine aa (ah s!"r" s!"r" trivial (aI (aL O m_pc (ae (ak (ae ?_))))))
  have n_self:lk (stL ρ1 "punctuation_chars" (.s "")) "self" =EU (EU (.r sx)):=s!"lk"
  have n_pc:lk (stL ρ1 "punctuation_chars" (.s "")) "punctuation_chars" =EU (EU (.s "")):=s!"lk"
  walk_at "s";walk_at "s";walk_at "s";walk_at "s"
  repeat walk_at "s"
  refine wSI N hS2 s!"k" (by show 18<900;decide) λσa ha=>?_
  repeat walk_at "s"
  refine oI s!"d" (aD s!"d" (ak (ae (ak ?_))))
  have ha2:SI σ0 sx dsx [(fs,dqO none),(pbk,dqO none),(io,.ins 840 dio),(dio,.ns (bH x 0))] (shN io pbk fs shW "" none (.s " ") 1 "") _:=Ow (congrArg (λL=>SI σ0 sx dsx _ L _) s!"k") ha
  refine hQ _ _ io dio pbk fs none ⟨ha2.i,⟨1,ha2.n⟩,(ha2.ow (io,.ins 840 dio) s!"mm").2,(ha2.ow (dio,.ns (bH x 0)) s!"mm").2,(ha2.ow (pbk,dqO none) s!"mm").2,(ha2.ow (fs,dqO none) s!"mm").2,(λa h=>nomatch h),(λ_=>rfl),s!"d"⟩ u_io u_dio (λa h=>nomatch h) ha2.fr
 |true=>
  refine aD rfl ?_
  refine aa (bl (aC s!"r" (ai O m_pc (eL (vX (ay (ift rfl ?_)))))))
  refine aa (ah s!"r" s!"r" trivial (aI (aL O m_pc (ae (ak (ae (ak (ae ?_))))))))
  have n_self:lk (stL ρ1 "punctuation_chars" (.s "();<>|&")) "self" =EU (EU (.r sx)):=s!"lk"
  have n_t:lk (stL ρ1 "punctuation_chars" (.s "();<>|&")) "t" =EU none:=s!"lk"
  have n_pc:lk (stL ρ1 "punctuation_chars" (.s "();<>|&")) "punctuation_chars" =EU (EU (.s "();<>|&")):=s!"lk"
  repeat walk_at "s"
  refine wSI N hS2 s!"k" (by show 18<900;decide) λσa ha=>?_
  repeat walk_at "s"
  refine oI s!"d" (ift s!"d" ?_)
  repeat walk_at "s"
  refine bP O g_deque trivial (ag (l9 (st:=⟨_,_⟩) λpc n_pcs=>?_))
  have ha2:SI σ0 sx dsx [(fs,dqO none),(pbk,dqO none),(io,.ins 840 dio),(dio,.ns (bH x 0))] (shN io pbk fs shW "();<>|&" none (.s " ") 1 "") _:=Ow (congrArg (λL=>SI σ0 sx dsx _ L _) s!"k") ha
  have h4:=ha2.new n_pcs (dqO none)
  have u1:=ha2.free n_pcs
  have u2:=ha2.ne n_pcs (p:=(fs,dqO none)) s!"mm"
  have u3:=ha2.ne n_pcs (p:=(pbk,dqO none)) s!"mm"
  clear n_pcs ha ha2 hS2
  dsimp only at u2 u3⊢
  refine kj N (ai O n_self (wSI N h4 s!"k" (Fq gJ s!"d") λσb hb=>?_))
  have hb2:SI σ0 sx dsx [(pc,dqO none),(fs,dqO none),(pbk,dqO none),(io,.ins 840 dio),(dio,.ns (bH x 0))] (shN io pbk fs shW "();<>|&" (EU pc) (.s " ") 1 "") _:=Ow (congrArg (λL=>SI σ0 sx dsx _ L _) s!"k") hb
  clear hb h4
  refine ae ?_
  walk_at "s"
  refine iD N (ai O n_self (gSI N hb2 s!"k" (rSI N hb2 eE s!"k" trivial (aI (gE (by rw[sizeLine_eq];decide+kernel) (wSI N hb2 s!"k" (Fq gJ s!"d") λσc hc=>?_))))))
  have hc2:SI σ0 sx dsx [(pc,dqO none),(fs,dqO none),(pbk,dqO none),(io,.ins 840 dio),(dio,.ns (bH x 0))] (shN io pbk fs eH "();<>|&" (EU pc) (.s " ") 1 "") _:=Ow (congrArg (λL=>SI σ0 sx dsx _ L _) s!"k") hc
  clear hc hb2
  refine ae ?_
  refine aa (ah s!"r" s!"r" trivial (pW G s!"r" trivial (bh s!"r" (ai O n_self (rSI N hc2 eE s!"k" trivial ⟨⟨_,rfl⟩,qZ O s!"r" trivial (c8 O g_dict ⟨rfl,ai O n_pc (aR _ rfl s!"d" (λfk n_fk=>⟨_,fk,rfl,Sg.put_same ..,s!"d",λtb n_tb=>?_⟩))⟩)⟩)))))
  have h5:=(hc2.new n_fk (fkO X.C.w "();<>|&")).new n_tb (mq X.C.w "();<>|&")
  dsimp only
  refine aL O n_t (ae ?_)
  have o_self:lk (stL (stL ρ1 "punctuation_chars" (.s "();<>|&")) "t" (.r tb)) "self" =EU (EU (.r sx)):=s!"lk"
  have o_t:lk (stL (stL ρ1 "punctuation_chars" (.s "();<>|&")) "t" (.r tb)) "t" =EU (EU (.r tb)):=s!"lk"
  refine aa (ah s!"r" s!"r" trivial (bp (T:="str") (id:="str.translate") trivial s!"r" s!"4" s!"r" O3 NW F.type_str_translate (bh s!"r" (ai O o_self (rSI N h5 eE s!"k" trivial ⟨ir,ac (ai O o_t (ag (rh G O (y:="();<>|&") (Sg.put_same ..) s!"1" s!"1" (by rw[sizeLine_eq];decide+kernel) vY ?_)))⟩)))))
  refine kj N (ai O o_self (wSI N h5 s!"k" (Fq gJ s!"d") λσd hd=>?_))
  have hd2:SI σ0 sx dsx [(tb,mq X.C.w "();<>|&"),(fk,fkO X.C.w "();<>|&"),(pc,dqO none),(fs,dqO none),(pbk,dqO none),(io,.ins 840 dio),(dio,.ns (bH x 0))] (shN io pbk fs eH "();<>|&" (EU pc) (.s " ") 1 "") _:=Ow (congrArg (λL=>SI σ0 sx dsx _ L _) s!"k") hd
  refine ae (ak (ae (ak ?_)))
  refine hQ _ _ io dio pbk fs (EU pc) ⟨hd2.i,⟨1,hd2.n⟩,(hd2.ow (io,.ins 840 dio) s!"mm").2,(hd2.ow (dio,.ns (bH x 0)) s!"mm").2,(hd2.ow (pbk,dqO none) s!"mm").2,(hd2.ow (fs,dqO none) s!"mm").2,(λa h=>by cases h;exact (ia2 ((hd2.ow (pc,dqO none) s!"mm").2) u3 u2)),(λh=>nomatch h),(show ((EW "();<>|&").length !=0)=true by decide)⟩ u_io u_dio (λa h=>by cases h;exact u1) hd2.fr
end
end
section
theorem sN (P:F0) (dv:Addr->Value):(makesIn (KD P dv) 975&&Il (KD P dv) (.ref 975) "__init__" ==EU (EU (.ref 899))&&MT (KD P dv) (.ref 899)==EU (.type "function")&&eQ (KD P dv) 975)=true:=s!"k"
variable {C:Cx}
noncomputable def oM (σ0:Sg) (σ':Sg) (m:MV) (W Pc:Str) (x:Str):Prop:=∃sx dsx io dio pbk fs pc,m= .r sx∧LX σ' sx dsx io dio pbk fs W Pc pc x (EU " ") "" 0 none∧σ0 sx=none∧σ0 dsx=none∧σ0 io=none∧σ0 dio=none∧(∀a,pc=EU a->σ0 a=none)∧∀b m,σ0 b=EU m->σ' b=EU m
noncomputable def aF:List String:=["self","instream","infile","posix","punctuation_chars","t"]
theorem jJ:aF.Nodup:=s!"1"
set_option maxHeartbeats 4000000 in
theorem nW (G:Gd C) (R:Rm (k+4) A) {σ:Sg} (h:SI σ sx dsx [] [] σ):
 CtA C A (.ref 899) [.r sx,.s x] [("posix",.k (.bool true)),("punctuation_chars",.k (.bool true))] σ λm σ'=>m= .k .none∧∃io dio pbk fs pc,LX σ' sx dsx io dio pbk fs eH "();<>|&" pc x (EU " ") "" 0 none∧σ io=none∧σ dio=none∧(∀a,pc=EU a->σ a=none)∧∀b m,b≠dsx->σ b=EU m->σ' b=EU m:=by
 refine aW G R (a:=899) (c:=898) (x:=aH 29 1) (n:="__init__") (q:="shlex.__init__") (d:=(.ref 892)) (pm:=(.str "cpy313.shlex" 1428)) (an:=none) (t:=1446)
  (ps:=(["self","instream","infile","posix","punctuation_chars"]:List Str).zip [.r sx,.s x,.k .none,.k (.bool true),.k (.bool true)]) s!"k" s!"k" s!"k" s!"k" [("isinstance",.builtin "isinstance"),("str",.type "str"),("StringIO",.ref 840),("deque",.type "collections.deque"),("dict",.type "dict")] s!"k" (λv=>uu G v) (ρ:=zL aF [EU (.r sx),EU (.s x),EU (.k .none),EU (.k (.bool true)),EU (.k (.bool true)),none]) s!"k" λQf hQf X hC O R' hin hg hE=>?_
 subst hC;have N:=kn G;have hd:=jJ;have i_self:gI aF 0=EU "self" :=rfl;have i_instream:gI aF 1=EU "instream" :=rfl;have i_infile:gI aF 2=EU "infile" :=rfl;have i_posix:gI aF 3=EU "posix" :=rfl;have i_punctuation_chars:gI aF 4=EU "punctuation_chars" :=rfl;have i_t:gI aF 5=EU "t" :=rfl;have g_isinstance:X.gs.lookup (EW "isinstance")=EU (.builtin "isinstance" :Value):=hg▸s!"k";have g_str:X.gs.lookup (EW "str")=EU (.type "str" :Value):=hg▸s!"k";have g_StringIO:X.gs.lookup (EW "StringIO")=EU (.ref 840:Value):=hg▸s!"k";have g_deque:X.gs.lookup (EW "deque")=EU (.type "collections.deque" :Value):=hg▸s!"k";have g_dict:X.gs.lookup (EW "dict")=EU (.type "dict" :Value):=hg▸s!"k";clear hg hE;conv=>arg 2;whnf
 have l_self:lk (zL aF [EU (.r sx),EU (.s x),EU (.k .none),EU (.k (.bool true)),EU (.k (.bool true)),none]) "self" =EU (EU (.r sx)):=lkI hd i_self rfl;have l_instream:lk (zL aF [EU (.r sx),EU (.s x),EU (.k .none),EU (.k (.bool true)),EU (.k (.bool true)),none]) "instream" =EU (EU (.s x)):=lkI hd i_instream rfl;have l_infile:lk (zL aF [EU (.r sx),EU (.s x),EU (.k .none),EU (.k (.bool true)),EU (.k (.bool true)),none]) "infile" =EU (EU (.k .none)):=lkI hd i_infile rfl;have l_posix:lk (zL aF [EU (.r sx),EU (.s x),EU (.k .none),EU (.k (.bool true)),EU (.k (.bool true)),none]) "posix" =EU (EU (.k (.bool true))):=lkI hd i_posix rfl;have l_punctuation_chars:lk (zL aF [EU (.r sx),EU (.s x),EU (.k .none),EU (.k (.bool true)),EU (.k (.bool true)),none]) "punctuation_chars" =EU (EU (.k (.bool true))):=lkI hd i_punctuation_chars rfl;have l_t:lk (zL aF [EU (.r sx),EU (.s x),EU (.k .none),EU (.k (.bool true)),EU (.k (.bool true)),none]) "t" =EU (none):=lkI hd i_t rfl;generalize zL aF [EU (.r sx),EU (.s x),EU (.k .none),EU (.k (.bool true)),EU (.k (.bool true)),none]=ρ at l_self l_instream l_infile l_posix l_punctuation_chars l_t⊢;clear hd i_self i_instream i_infile i_posix i_punctuation_chars i_t;refine vH G O N hin R' (p:=true) h g_isinstance g_str g_StringIO g_deque g_dict l_self l_instream l_infile l_posix l_punctuation_chars l_t λσ' ρ' io dio pbk fs pc a b c d e=>?_;exact hQf _ _ (jr rfl io dio ⟨pbk,fs,pc,a,b,c,d,e⟩)
noncomputable def aG:List String:=["self","instream","infile","posix","punctuation_chars","t"]
theorem jM:aG.Nodup:=s!"1"
set_option maxHeartbeats 4000000 in
theorem nL (G:Gd C) (R:Rm (k+4) A) {σ:Sg} (h:SI σ sx dsx [] [] σ):
 CtA C A (.ref 899) [.r sx,.s x] [("posix",.k (.bool true))] σ λm σ'=>m= .k .none∧∃io dio pbk fs pc,LX σ' sx dsx io dio pbk fs shW "" pc x (EU " ") "" 0 none∧σ io=none∧σ dio=none∧(∀a,pc=EU a->σ a=none)∧∀b m,b≠dsx->σ b=EU m->σ' b=EU m:=by
 refine aW G R (a:=899) (c:=898) (x:=aH 29 1) (n:="__init__") (q:="shlex.__init__") (d:=(.ref 892)) (pm:=(.str "cpy313.shlex" 1428)) (an:=none) (t:=1446)
  (ps:=(["self","instream","infile","posix","punctuation_chars"]:List Str).zip [.r sx,.s x,.k .none,.k (.bool true),.k (.bool false)]) s!"k" s!"k" s!"k" s!"k" [("isinstance",.builtin "isinstance"),("str",.type "str"),("StringIO",.ref 840),("deque",.type "collections.deque"),("dict",.type "dict")] s!"k" (λv=>uE G v) (ρ:=zL aG [EU (.r sx),EU (.s x),EU (.k .none),EU (.k (.bool true)),EU (.k (.bool false)),none]) s!"k" λQf hQf X hC O R' hin hg hE=>?_
 subst hC;have N:=kn G;have hd:=jM;have i_self:gI aG 0=EU "self" :=rfl;have i_instream:gI aG 1=EU "instream" :=rfl;have i_infile:gI aG 2=EU "infile" :=rfl;have i_posix:gI aG 3=EU "posix" :=rfl;have i_punctuation_chars:gI aG 4=EU "punctuation_chars" :=rfl;have i_t:gI aG 5=EU "t" :=rfl;have g_isinstance:X.gs.lookup (EW "isinstance")=EU (.builtin "isinstance" :Value):=hg▸s!"k";have g_str:X.gs.lookup (EW "str")=EU (.type "str" :Value):=hg▸s!"k";have g_StringIO:X.gs.lookup (EW "StringIO")=EU (.ref 840:Value):=hg▸s!"k";have g_deque:X.gs.lookup (EW "deque")=EU (.type "collections.deque" :Value):=hg▸s!"k";have g_dict:X.gs.lookup (EW "dict")=EU (.type "dict" :Value):=hg▸s!"k";clear hg hE;conv=>arg 2;whnf
 have l_self:lk (zL aG [EU (.r sx),EU (.s x),EU (.k .none),EU (.k (.bool true)),EU (.k (.bool false)),none]) "self" =EU (EU (.r sx)):=lkI hd i_self rfl;have l_instream:lk (zL aG [EU (.r sx),EU (.s x),EU (.k .none),EU (.k (.bool true)),EU (.k (.bool false)),none]) "instream" =EU (EU (.s x)):=lkI hd i_instream rfl;have l_infile:lk (zL aG [EU (.r sx),EU (.s x),EU (.k .none),EU (.k (.bool true)),EU (.k (.bool false)),none]) "infile" =EU (EU (.k .none)):=lkI hd i_infile rfl;have l_posix:lk (zL aG [EU (.r sx),EU (.s x),EU (.k .none),EU (.k (.bool true)),EU (.k (.bool false)),none]) "posix" =EU (EU (.k (.bool true))):=lkI hd i_posix rfl;have l_punctuation_chars:lk (zL aG [EU (.r sx),EU (.s x),EU (.k .none),EU (.k (.bool true)),EU (.k (.bool false)),none]) "punctuation_chars" =EU (EU (.k (.bool false))):=lkI hd i_punctuation_chars rfl;have l_t:lk (zL aG [EU (.r sx),EU (.s x),EU (.k .none),EU (.k (.bool true)),EU (.k (.bool false)),none]) "t" =EU (none):=lkI hd i_t rfl;generalize zL aG [EU (.r sx),EU (.s x),EU (.k .none),EU (.k (.bool true)),EU (.k (.bool false)),none]=ρ at l_self l_instream l_infile l_posix l_punctuation_chars l_t⊢;clear hd i_self i_instream i_infile i_posix i_punctuation_chars i_t;refine vH G O N hin R' (p:=false) h g_isinstance g_str g_StringIO g_deque g_dict l_self l_instream l_infile l_posix l_punctuation_chars l_t λσ' ρ' io dio pbk fs pc a b c d e=>?_;exact hQf _ _ (jr rfl io dio ⟨pbk,fs,pc,a,b,c,d,e⟩)
theorem SI.first {σ:Sg} {x:Addr} (hx:σ x=none) (hdx:σ dx=none) (ne:x≠dx):SI ((σ.put dx (.ns [])).put x (.ins 975 dx)) x dx [] [] ((σ.put dx (.ns [])).put x (.ins 975 dx)):=
 ⟨Sg.put_same ..,by rw[Sg.put_ne _ _ (E8 ne),Sg.put_same],λ_ _ _ h=>h,λ_ h=>by cases h⟩
theorem uK {σ:Sg} {x:Addr} (hx:σ x=none) (hdx:σ dx=none) (ne:x≠dx)
 (h:m= .k .none∧∃io dio pbk fs pc,LX σ' x dx io dio pbk fs W Pc pc y (EU " ") "" 0 none∧((σ.put dx (.ns [])).put x (.ins 975 dx)) io=none∧((σ.put dx (.ns [])).put x (.ins 975 dx)) dio=none∧(∀a,pc=EU a->((σ.put dx (.ns [])).put x (.ins 975 dx)) a=none)∧∀b m,b≠dx->((σ.put dx (.ns [])).put x (.ins 975 dx)) b=EU m->σ' b=EU m):m= .k .none∧oM σ σ' (.r x) W Pc y:=by
 refine b8 h λz2=>?_;clear h;refine xe2 z2 λio dio z3=>?_;clear z2;obtain ⟨pbk,fs,pc,a,b,c,d,e⟩:=z3
 have old:∀b,((σ.put dx (.ns [])).put x (.ins 975 dx)) b=none->σ b=none:=λb hb=>by
  cases hs:σ b with
  |none=>rfl
  |some m=>
   have b1:=aj hx hs;have b2:=aj hdx hs;rw[Sg.put_ne _ _ b1,Sg.put_ne _ _ b2,hs] at hb;cases hb
 refine ⟨rfl,x,dx,io,dio,pbk,fs,pc,rfl,a,hx,hdx,old _ b,old _ c,λp hp=>old _ (d p hp),λp m hp=>?_⟩;have b1:=aj hx hp;have b2:=aj hdx hp;exact e p m b2 (by rw[Sg.put_ne _ _ b1,Sg.put_ne _ _ b2];exact hp)
theorem tz (G:Gd C) (R:Rm (k+5) A) {σ:Sg}:
 CtA C A (.ref 975) [.s x] [("posix",.k (.bool true)),("punctuation_chars",.k (.bool true))] σ λm σ'=>oM σ σ' m eH "();<>|&" x:=by
 refine xe1 G.says.kd λdv hK=>?_;have M:=sN C.w.params dv;simp only[Fc,beq_iff_eq] at M;refine xa1 M λz1 _=>?_;refine xa1 z1 λz2 m3=>?_;obtain ⟨m1,m2⟩:=z2;refine kl hK R s!"d" m1 m2 m3 λA' R' x dx hx hdx ne=>?_;exact CtA.mono (nW G R' (SI.first hx hdx ne)) λm σ' h=>uK hx hdx ne h
theorem tj (G:Gd C) (R:Rm (k+5) A) {σ:Sg}:
 CtA C A (.ref 975) [.s x] [("posix",.k (.bool true))] σ λm σ'=>oM σ σ' m shW "" x:=by
 refine xe1 G.says.kd λdv hK=>?_;have M:=sN C.w.params dv;simp only[Fc,beq_iff_eq] at M;refine xa1 M λz1 _=>?_;refine xa1 z1 λz2 m3=>?_;obtain ⟨m1,m2⟩:=z2;refine kl hK R s!"d" m1 m2 m3 λA' R' x dx hx hdx ne=>?_;exact CtA.mono (nL G R' (SI.first hx hdx ne)) λm σ' h=>uK hx hdx ne h
end
section
open Builtin.ObjectAttr
noncomputable def Reads (W Pc buf:Str):List Str->Option Str->Nat->Option Str->Prop
 | [],st,pos,pb=>∃n,g9 W Pc buf (λls=>cy ls= .k .none) n ⟨st,"",pos,pb,false," "⟩
 |t::ts,st,pos,pb=>∃n,g9 W Pc buf (λls=>cy ls= .s t∧Reads W Pc buf ts ls.st ls.pos ls.pb) n ⟨st,"",pos,pb,false," "⟩
section
variable {σ σ':Sg} {sx dsx io dio pbk fs:Addr} {W Pc:Str} {pc:Option Addr} {buf:Str} {st:Option Str} {tok:Str} {pos:Nat} {pb:Option Str}
theorem LX.keep (h:LX σ sx dsx io dio pbk fs W Pc pc buf st tok pos pb) (k:∀b m,(∀vs,m≠ .lst vs)->σ b=EU m->σ' b=EU m):LX σ' sx dsx io dio pbk fs W Pc pc buf st tok pos pb:=by
 obtain ⟨a,⟨ln,b⟩,c,d,e,f,g,i,j⟩:=h
 exact ⟨k _ _ (λ_ h=>by cases h) a,⟨ln,k _ _ (λ_ h=>by cases h) b⟩,k _ _ (λ_ h=>by cases h) c,k _ _ (λ_ h=>by cases h) d,k _ _ (λ_ h=>by cases h) e,k _ _ (λ_ h=>by cases h) f,
  λx hx=>⟨k _ _ (λ_ h=>by cases h) (g x hx).1,(g x hx).2⟩,i,j⟩
theorem LX.list (h:LX σ sx dsx io dio pbk fs W Pc pc buf st tok pos pb) {l:Addr} {vs:List MV} (hl:σ l=EU (.lst vs)):l≠dsx∧l≠dio∧∀a,pc=EU a->l≠a:=by
 obtain ⟨a,⟨ln,b⟩,c,d,e,f,g,i,j⟩:=h;refine (ia2 (λx=>?_) (λx=>?_) (λa ha x=>?_))
 ·clear a;subst x;rw[b] at hl;cases hl
 ·clear c;subst x;rw[d] at hl;cases hl
 ·subst x;rw[(g _ ha).1] at hl;cases hl
theorem wv (hl:σ l=EU (.lst vs)) (m':MO):∀b m,(∀vs,m≠ .lst vs)->σ b=EU m->(σ.put l m') b=EU m:=λb m hm hb=>by
 rw[Sg.put_ne _ _ (λe=>by subst e;rw[hl] at hb;cases hb;exact hm _ rfl)];exact hb
theorem dm (hl:σ l=none) (m':MO):∀b m,σ b=EU m->(σ.put l m') b=EU m:=λb m hb=>by
 rw[Sg.put_ne _ _ (λe=>by subst e;rw[hl] at hb;cases hb)];exact hb
variable {X:Xc} {ρ:Lo} {Q:MV->St->Prop}
theorem ib (G:Gd X.C) (O:XOk X) (N:Kn X) (R:Rm (k+4) X.A) (hx:LX σ sx dsx io dio pbk fs W Pc pc buf st "" pos pb) (hbuf:buf.length<1000) (hP:Pc.length≤500) {Ks:LS->Prop}
 (HR:g9 W Pc buf Ks n ⟨st,"",pos,pb,false," "⟩) {o:G0} {apos pos':Pos} {pl:KW Bool}
 (he:eval (.Call (.Attribute o "get_token" apos) [] [] pos') X.env=(do
  let ov←eval o X.env
  Ke apos.atName
  let (f,first)←IY [ov] (HV ov "get_token" pl)
  I0 pos' f first (ID pos' (Hk [] X.env)) []))
 (ho:∀Q':MV->St->Prop,Q' (.r sx) ⟨σ,ρ⟩->WE X o ⟨σ,ρ⟩ Q')
 (hq:∀ls' σ',Ks ls'->LX σ' sx dsx io dio pbk fs W Pc pc buf ls'.st "" ls'.pos ls'.pb->(∀b m,b≠dsx->b≠dio->(∀a,pc=EU a->b≠a)->σ b=EU m->σ' b=EU m)->Q (cy ls') ⟨σ',ρ⟩):
 WE X (.Call (.Attribute o "get_token" apos) [] [] pos') ⟨σ,ρ⟩ Q:=by
 refine xe1 hx.n λln hn=>?_;have hno:∀ln,nk (shN io pbk fs W Pc pc (stM st) ln "") "get_token" =none:=λln=>by clear hx hq hn;cases pc<;>kernel_rfl
 refine bJ N he trivial (ho _ (dR 936 hx.i hn (hno ln) (eK _ _) (wG _ _) s!"k" (bu G s!"k") (ag (bz (Ct.mono (CtA.ct (oj G R (L:=⟨sx,dsx,io,dio,pbk,fs,W,Pc,pc,buf,σ,hbuf⟩) rfl hx hP HR)) ?_)))));intro m σ' zr1;refine aV zr1 λls' HK z1 z2=>?_;clear zr1;subst z1;obtain ⟨hx',fr⟩:=z2;exact hq ls' σ' HK hx' fr
end
noncomputable def Nx (W Pc buf:Str):List Str->LS->Prop
 | [],ls=>cy ls= .k .none
 |t::ts,ls=>cy ls= .s t∧Reads W Pc buf ts ls.st ls.pos ls.pb
theorem Reads.run {l:List Str} {st:Option Str} {pos:Nat} (h:Reads W Pc buf l st pos pb):∃n,g9 W Pc buf (Nx W Pc buf l) n ⟨st,"",pos,pb,false," "⟩:=by
 cases l<;>exact h
noncomputable def Cur (σ:Sg) (sx dsx io dio pbk fs:Addr) (W Pc:Str) (pc:Option Addr) (buf:Str) (toks dn:List Str) (m:MV) (n:Nat):Prop:=
 (m= .k .none∧dn=toks)∨∃t ts st pos pb,m= .s t∧toks=dn++t::ts∧n=ts.length+1∧Reads W Pc buf ts st pos pb∧LX σ sx dsx io dio pbk fs W Pc pc buf st "" pos pb
theorem Cur.of {σ:Sg} {pc:Option Addr} {toks dn l:List Str} (h:Nx W Pc buf l ls) (e:toks=dn++l) (hx:LX σ sx dsx io dio pbk fs W Pc pc buf ls.st "" ls.pos ls.pb):Cur σ sx dsx io dio pbk fs W Pc pc buf toks dn (cy ls) l.length:=by
 cases l with
 |nil=>exact .inl ⟨h,by rw[e,Hh]⟩
 |cons t ts=>exact .inr (ie3 t ts _ ⟨_,_,h.1,e,rfl,h.2,hx⟩)
variable {C:Cx}
noncomputable def bg:List String:=["line","lexer","tokens","token"]
theorem kx:bg.Nodup:=s!"1"
set_option maxHeartbeats 4000000 in
theorem iX (G:Gd C) (R:Rm (k+6) A) {toks:List Str} {σ:Sg} (hx:x.length<1000) (ht:toks.length≤900) (H:Reads eH "();<>|&" x toks (EU " ") 0 none):
 CtA C A (.ref 998) [.s x] [] σ λm σ'=>∃l,m= .r l∧σ l=none∧σ' l=EU (.lst (toks.map .s))∧∀b m,σ b=EU m->σ' b=EU m:=by
 refine aW G R (a:=998) (c:=997) (x:=top 33) (n:="_law_read") (q:="_law_read") (d:= .none) (pm:=(.str "law_il0198_01" 1575)) (an:=none) (t:=1596)
  (ps:=(["line"]:List Str).zip [.s x]) s!"k" s!"k" s!"k" s!"k" [("shlex",.ref 975)] s!"k" (λv=>(aX rfl s!"k" s!"1" (bk λa0=>cK s!"k")).a) (ρ:=zL bg [EU (.s x),none,none,none]) s!"k" λQf hQf X hC O R' hin hg hE=>?_
 subst hC;have N:=kn G;have hd:=kx;have i_line:gI bg 0=EU "line" :=rfl;have i_lexer:gI bg 1=EU "lexer" :=rfl;have i_tokens:gI bg 2=EU "tokens" :=rfl;have i_token:gI bg 3=EU "token" :=rfl;have g_shlex:X.gs.lookup (EW "shlex")=EU (.ref 975:Value):=hg▸s!"k";clear hg hE;conv=>arg 2;whnf
 have l_line:lk (zL bg [EU (.s x),none,none,none]) "line" =EU (EU (.s x)):=lkI hd i_line rfl;have l_lexer:lk (zL bg [EU (.s x),none,none,none]) "lexer" =EU (none):=lkI hd i_lexer rfl;have l_tokens:lk (zL bg [EU (.s x),none,none,none]) "tokens" =EU (none):=lkI hd i_tokens rfl;have l_token:lk (zL bg [EU (.s x),none,none,none]) "token" =EU (none):=lkI hd i_token rfl;generalize zL bg [EU (.s x),none,none,none]=ρ at l_line l_lexer l_tokens l_token⊢;clear hd i_line i_lexer i_tokens i_token
 have hc:eQ (KD X.C.w.params N.dv) 975=true:=by
  have M:=sN X.C.w.params N.dv;simp only[Fc] at M;exact M.2
 refine aa (ah s!"r" s!"r" trivial (f8 O N g_shlex trivial s!"3" hc (ac (ai O l_line (ag (kG (eL (kG (eL (gQ ?_))))))))));refine iI (CtA.mono (tz G R') ?_);intro m σ1 zr1;refine xe2 zr1 λsx dsx z1=>?_;clear zr1;obtain ⟨io,dio,pbk,fs,pc,rfl,lx,u1,u2,u3,u4,u5,fr⟩:=z1;dsimp only at u1 u2 u3 u4 u5 fr;refine aL O l_lexer (ae ?_);have h_lexer:lk (stL ρ "lexer" (.r sx)) "lexer" =EU (EU (.r sx)):=s!"lk"
 have h_tokens:lk (stL ρ "lexer" (.r sx)) "tokens" =EU none:=s!"lk"
 have h_token:lk (stL ρ "lexer" (.r sx)) "token" =EU none:=s!"lk"
 generalize stL ρ "lexer" (.r sx)=ρ1 at h_lexer h_tokens h_token⊢;clear l_line l_lexer l_tokens l_token;refine aa (ah s!"r" s!"r" trivial (b9 trivial (ag ⟨FY _,λtl htl=>?_⟩)));dsimp only at htl⊢;refine aL O h_tokens (ae ?_);have j_lexer:lk (stL ρ1 "tokens" (.r tl)) "lexer" =EU (EU (.r sx)):=s!"lk"
 have j_tokens:lk (stL ρ1 "tokens" (.r tl)) "tokens" =EU (EU (.r tl)):=s!"lk"
 have j_token:lk (stL ρ1 "tokens" (.r tl)) "token" =EU none:=s!"lk"
 generalize stL ρ1 "tokens" (.r tl)=ρ2 at j_lexer j_tokens j_token⊢;clear h_lexer h_tokens h_token;have lx2:=lx.keep (λb m _ hb=>dm htl (.lst []) b m hb);have tl2:(σ1.put tl (.lst [])) tl=EU (.lst (([]:List Str).map .s)):=Sg.put_same ..;have fr2:∀b m,σ b=EU m->(σ1.put tl (.lst [])) b=EU m:=λb m hb=>dm htl _ b m (fr b m hb)
 have tl0:σ tl=none:=by
  cases e:σ tl with
  |none=>rfl
  |some m=>rw[fr _ _ e] at htl;cases htl
 generalize σ1.put tl (.lst [])=σ2 at lx2 tl2 fr2⊢;have old:∀b m,σ b=EU m->b≠dsx∧b≠dio∧∀a,pc=EU a->b≠a:=λb m hb=>(ia2 (λe=>(by clear lx lx2;subst e;rw[u2] at hb;cases hb)) (λe=>(by clear lx lx2;subst e;rw[u4] at hb;cases hb)) (λa ha e=>(by subst e;rw[u5 _ ha] at hb;cases hb)))
 refine xe1 H.run λn0 hr=>?_;have hP:(EW "();<>|&").length≤500:=s!"d"
 refine aa (ah s!"r" s!"r" trivial (ib G O N R' lx2 hx hP hr s!"r" (λQ' q=>ai O j_lexer q) λls' σ3 hk lx3 fr3=>?_));refine aL O j_token (ae ?_);have z:=lx2.list tl2;refine dB (Q1:=λfl st'=>fl= .next∧lk st'.ρ "tokens" =EU (EU (.r tl))∧st'.σ tl=EU (.lst (toks.map .s))∧∀b m,σ b=EU m->st'.σ b=EU m) ?_ ?_
 ·refine dg (λn st=>∃σ' ρ' m dn,st=⟨σ',ρ'⟩∧lk ρ' "lexer" =EU (EU (.r sx))∧lk ρ' "tokens" =EU (EU (.r tl))∧lk ρ' "token" =EU (EU m)∧σ' tl=EU (.lst (dn.map .s))∧(∀b m,σ b=EU m->σ' b=EU m)∧dn.length≤toks.length∧Cur σ' sx dsx io dio pbk fs eH "();<>|&" pc x toks dn m n) ?_ toks.length
   (eU σ3 _ (cy ls') ([]) rfl s!"lk" s!"lk" s!"lk" (fr3 _ _ z.1 z.2.1 z.2.2 tl2) ⟨λb m hb=>fr3 b m (old b m hb).1 (old b m hb).2.1 (old b m hb).2.2 (fr2 b m hb),FY _,Cur.of hk rfl lx3⟩)
  intro J hJ n st' zr1;refine bx zr1 λσ' ρ' m dn z1 z2=>?_;clear zr1;subst z1;obtain ⟨i_lexer,i_tokens,i_token,ht',fr',hdn,hc'⟩:=z2;refine aC s!"r" (ai O i_token (fE (eZ (ay ?_))));rcases hc' with ⟨rfl,rfl⟩|⟨t,ts,st,pos,pb,rfl,e,en,hr',lx'⟩
  ·exact aD rfl (ak (ia3 rfl i_tokens ht' fr'))
  ·refine ift rfl ?_;have hlen:dn.length<1000:=by rw[e,E7] at ht;simp at ht;exact E3 (EY (Fr _ (_+1)) ht) s!"d"
   refine aa (cw O hin i_tokens ht' s!"r" s!"r" s!"r" trivial (ai O i_token (i6 ht' (by rw[EZ];exact nTL hlen rfl) (ae ?_))));refine xe1 hr'.run λn1 hr1=>?_;have lx4:=lx'.keep (wv ht' (.lst (dn.map .s++[.s t])));have ht4:(σ'.put tl (.lst (dn.map .s++[.s t]))) tl=EU (.lst (dn.map .s++[.s t])):=Sg.put_same ..
   have fr4:∀b m,σ b=EU m->(σ'.put tl (.lst (dn.map .s++[.s t]))) b=EU m:=λb m hb=>by
    rw[Sg.put_ne _ _ (λe=>by clear htl j_tokens tl2 z hJ i_tokens ht' lx4 ht4;subst e;rw[tl0] at hb;cases hb)];exact fr' b m hb
   generalize σ'.put tl (.lst (dn.map .s++[.s t]))=σ4 at lx4 ht4 fr4⊢;have z4:=lx4.list ht4;refine aa (ah s!"r" s!"r" trivial (ib G O N R' lx4 hx hP hr1 s!"r" (λQ' q=>ai O i_lexer q) λls5 σ5 hk5 lx5 fr5=>?_));refine aL O i_token (ae (ak (af ts.length (by exact en▸Fd _) (hJ _ _ ⟨σ5,_,cy ls5,dn++[t],rfl,s!"lk",s!"lk",s!"lk",?_,λb m hb=>fr5 b m (old b m hb).1 (old b m hb).2.1 (old b m hb).2.2 (fr4 b m hb),?_,Cur.of hk5 (by rw[e,Gh];rfl) lx5⟩))))
   ·rw[Fe];exact fr5 _ _ z4.1 z4.2.1 z4.2.2 ht4
   ·rw[e,E7,E7];simp
 ·intro fl zr1 zr2;obtain ⟨σ',ρ'⟩:=zr1;refine xa1 zr2 λz1 z2=>?_;clear zr2;subst z1;obtain ⟨i_tokens,ht',fr'⟩:=z2;refine ae (aa (be (ai O i_tokens (cV ?_))));exact hQf _ _ (cI tl rfl tl0 ht' fr')
end
section
section
variable {X:Xc} {st:St} {Q:MV->St->Prop}
theorem VRs.append2 {ns:List MV} {xs ys:Array Value} (r:VRs h ms xs.toList) (r':VRs h ns ys.toList):VRs h (ms++ns) (xs++ys).toList:=by
 rw[Array.toList_append];exact r.append r'
theorem wn {ws:List MV} (e:st.σ l=EU (.lst vs)) (e2:st.σ b=EU (.lst ws)) (hv:vs.length≤1000) (hw:ws.length≤1000) (hq:Q (.k .none) ⟨st.σ.put l (.lst (vs++ws)),st.ρ⟩):WC X (.builtin "list.extend") [.r l,.r b] st Q:=λφ s us I r=>by
 refine Ci r ?_;refine ad (I.own e) λitems z3 rr=>?_;refine xe1 z3 λn pl=>?_;clear z3;refine ad (I.own e2) λitems2 z3 rr2=>?_;refine xe1 z3 λn2 pl2=>?_;clear z3;have z1:=rr.size;have z2:=rr2.size;have zs:items.size+items2.size≤2000:=by exact o23 hv hw z1 z2
 refine IV F.slot_list_extend (af _ pl rfl) F.entry_list_extend (F.args_list_extend_2 _ _) (Pq l items n b items2 n2 ?_ (by rw[sizeLine_eq];exact nLL (EY (E6 z1) hv) rfl) (by rw[sizeLine_eq];exact nLL zs rfl)) (ia2 pl pl2 ?_)
 ·intro hh;simp[IS] at hh;exact absurd hh.2 (F9.mpr (EY zs (by rw[sizeLine_eq];decide)))
 ·have sb:Heap.SameBut l s.heap (s.heap.update l (F4 λx=>x++items2)):=Heap.SameBut.update ..;have k:=cp I e sb;exact Post.mk (ba ..) (I.upd (m':= .lst (vs++ws)) (t:=s.toks) e sb (af _ ⟨_,Heap.get?_update_self _ pl rfl⟩ ((rr.keep k).append2 (rr2.keep k)))) k hq
end
noncomputable def flat (mark:Str) (ws:List Str):List Str:=ws.flatMap λw=>[mark,w]
noncomputable def bb (ws:List Str) (mark:Str):List Str:=(flat mark ws).drop 1
theorem kc (mark:Str) (ws:List Str):(flat mark ws).length=2*ws.length:=by
 induction ws with
 |nil=>rfl
 |cons w ws ih=>show (mark::w::flat mark ws).length=_;simp[ih];exact rfl
theorem uh (mark:Str) (ws:List Str) (h:i<ws.length):flat mark (ws.take (i+1))=flat mark (ws.take i)++[mark,ws[i]]:=by
 unfold flat;rw[FT h,List.flatMap_append];rfl
theorem Eg (l:List MV):eG l (EU 1) none=l.drop 1:=by
 unfold eG
 cases l with
 |nil=>rfl
 |cons a l=>
  have:MU (a::l).length 1=1:=by
   unfold MU;simp;exact o27
  simp only[O4];rw[this,HC (by rw[N9];exact Fd _)]
variable {C:Cx}
noncomputable def aU:List String:=["words","mark","tokens","word"]
theorem iJ:aU.Nodup:=s!"1"
set_option maxHeartbeats 4000000 in
theorem dQ (G:Gd C) (R:Rm (k+1) A) {lw:Addr} {mark:Str} {σ:Sg} (e:σ lw=EU (.lst (ws.map .s))) (hw:ws.length≤400):
 CtA C A (.ref 1005) [.r lw,.s mark] [] σ λm σ'=>∃l,m= .r l∧σ l=none∧σ' l=EU (.lst ((bb ws mark).map .s))∧∀b m,σ b=EU m->σ' b=EU m:=by
 refine aW G R (a:=1005) (c:=1004) (x:=top 34) (n:="_law_parted") (q:="_law_parted") (d:= .none) (pm:=(.str "law_il0198_01" 1575)) (an:=none) (t:=1606)
  (ps:=(["words","mark"]:List Str).zip [.r lw,.s mark]) s!"k" s!"k" s!"k" s!"k" [] s!"k" (λv=>(aX rfl s!"k" s!"1" (bk λa0=>bk λa1=>cK s!"k")).a) (ρ:=zL aU [EU (.r lw),EU (.s mark),none,none]) s!"k" λQf hQf X hC O R' hin hg hE=>?_
 subst hC;have N:=kn G;have hd:=iJ;have i_words:gI aU 0=EU "words" :=rfl;have i_mark:gI aU 1=EU "mark" :=rfl;have i_tokens:gI aU 2=EU "tokens" :=rfl;have i_word:gI aU 3=EU "word" :=rfl;clear hg hE;conv=>arg 2;whnf
 have l_words:lk (zL aU [EU (.r lw),EU (.s mark),none,none]) "words" =EU (EU (.r lw)):=lkI hd i_words rfl;have l_mark:lk (zL aU [EU (.r lw),EU (.s mark),none,none]) "mark" =EU (EU (.s mark)):=lkI hd i_mark rfl;have l_tokens:lk (zL aU [EU (.r lw),EU (.s mark),none,none]) "tokens" =EU (none):=lkI hd i_tokens rfl;have l_word:lk (zL aU [EU (.r lw),EU (.s mark),none,none]) "word" =EU (none):=lkI hd i_word rfl;generalize zL aU [EU (.r lw),EU (.s mark),none,none]=ρ at l_words l_mark l_tokens l_word⊢;clear hd i_words i_mark i_tokens i_word;refine aa (ah s!"r" s!"r" trivial (b9 trivial (ag ⟨FY _,λtl htl=>?_⟩)));dsimp only at htl⊢;refine aL O l_tokens (ae ?_);have j_words:lk (stL ρ "tokens" (.r tl)) "words" =EU (EU (.r lw)):=s!"lk"
 have j_mark:lk (stL ρ "tokens" (.r tl)) "mark" =EU (EU (.s mark)):=s!"lk"
 have j_tokens:lk (stL ρ "tokens" (.r tl)) "tokens" =EU (EU (.r tl)):=s!"lk"
 have j_word:lk (stL ρ "tokens" (.r tl)) "word" =EU none:=s!"lk"
 generalize stL ρ "tokens" (.r tl)=ρ1 at j_words j_mark j_tokens j_word⊢;refine dB (Q1:=λfl st'=>fl= .next∧lk st'.ρ "tokens" =EU (EU (.r tl))∧st'.σ tl=EU (.lst ((flat mark ws).map .s))∧∀b m,σ b=EU m->st'.σ b=EU m) ?_ ?_
 ·refine fK (mo:=λi=> .itl lw i) (vs:=ws.map .s) (Cond:=λst=>st.σ lw=EU (.lst (ws.map .s))) (λi st=>∃u,lk st.ρ "mark" =EU (EU (.s mark))∧lk st.ρ "tokens" =EU (EU (.r tl))∧lk st.ρ "word" =EU u∧st.σ tl=EU (.lst ((flat mark (ws.take i)).map .s))∧∀b m,σ b=EU m->st.σ b=EU m)
   (ci O lw _) (λ_=>s!"2") (λ_ _=>s!"2") (ai O j_words ⟨(gk none j_mark j_tokens j_word (Sg.put_same ..) (λb m hb=>dm htl _ b m hb)),cB (dm htl _ _ _ e)⟩) (λi st h=>by refine fy h λu _ _ _ _ h=>?_;exact h _ _ e) ?_ ?_
  ·intro J hJ i hi zr1 zr2;obtain ⟨σ',ρ'⟩:=zr1;refine fy zr2 λu i_mark i_tokens i_word ht fr=>?_;clear zr2;have hi':i<ws.length:=by simpa using hi
   rw[F8];refine aL O i_word ?_;refine aa (aA hin s!"r" (bp (T:="list") (id:="list.extend") trivial s!"r" s!"4" s!"r" Fw PySem.F.slot_list_extend PySem.F.type_list_extend
    (ai O (m:= .r tl) s!"lk" ⟨bK ht,ac (b9 trivial (ac (ai O (m:= .s mark) s!"lk" (ac (ai O (m:= .s ws[i]) s!"lk" (ag ⟨by rw[sizeLine_eq];show 2≤_;decide,λb hb=>ag ?_⟩))))))⟩)))
   dsimp only at hb⊢;have fl:=kc mark (ws.take i);rw[H4] at fl;refine wn (st:=⟨_,_⟩) (dm hb _ _ _ ht) (Sg.put_same ..) (by rw[EZ];exact fl▸EY (FI 2 (EY (Ox _ _) hw)) s!"d") (by show 2≤1000;decide) ⟨trivial,ae (ak (hJ _ _ (gk _ s!"lk" s!"lk" s!"lk" ?_ (λb' m hb'=>?_))))⟩
   ·rw[uh _ _ hi',Fe];exact Sg.put_same ..
   ·have n1:b'≠tl:=λx=>by
     clear j_tokens hJ i_tokens ht;subst x;rw[hb'] at htl;cases htl
    exact (Sg.put_ne _ _ n1).trans (dm hb _ _ _ (fr b' m hb'))
  ·intro zr1 zr2;obtain ⟨σ',ρ'⟩:=zr1;refine fy zr2 λu i_mark i_tokens i_word ht fr=>?_;clear zr2;rw[EZ,Go] at ht;exact ak (ia3 rfl i_tokens ht fr)
 ·intro fl zr1 zr2;obtain ⟨σ',ρ'⟩:=zr1;refine b8 zr2 λz2=>?_;clear zr2;obtain ⟨i_tokens,ht,fr⟩:=z2;refine ae (aa (be (lO (λ_ _=>s!"r") (ai O i_tokens (cz tl _ rfl (aq ⟨1,rfl,ht,by rw[EZ,kc,sizeLine_eq];exact EY (FI 2 hw) s!"d",λb hb=>?_⟩))))));refine cV ?_;dsimp only at hb⊢;refine hQf _ _ (cI b rfl ?_ ?_ (λb' m hb'=>dm hb _ _ _ (fr b' m hb')))
  ·cases x:σ b with
   |none=>rfl
   |some m=>exact absurd ((fr _ _ x).symm.trans hb) (by intro h;cases h)
  ·rw[Eg,←List.map_drop];exact Sg.put_same ..
end
section
noncomputable def siO (x:Str) (i:Nat):MO:= .any λo=>o.cls= .type (Gj x)∧∃t,o.data= .fields #[.str x t,.int i 0]
theorem mI {a:Addr} (r:OR h a (siO x i)):∃t,h.IsStrIter a (Gj x) x t i:=by
 refine gh r λo ho _ hc z1=>?_;obtain ⟨t,hd⟩:=z1;exact ⟨t,o,ho,hc,hd⟩
theorem Br {f:Array Value} (h:o.cls= .type (Gj x)) (hd:o.data= .fields f):imm o=false:=by
 unfold imm;rw[hd,h];show (Gj x=="tuple" ||strIterType x=="builtin_function_or_method")=false;unfold Gj;split<;>decide
theorem oY {a:Addr} {t:Nv} (r:h.IsStrIter a (Gj x) x t i):OR h a (siO x i):=by
 refine aV r λo ho hc hd=>?_;exact (cI o ho (Br hc hd) hc ⟨t,hd⟩)
noncomputable def bR (x:Str):List Str:=x.cps.toList.map λc=>⟨#[c]⟩
section
variable {X:Xc} {st:St} {φ:Sg}
theorem uF (O:XOk X) (x:Str):Steps X (siO x) ((bR x).map .s) λ_=>True where
 item:=λi hi φ st s it Qx I _ ori hq=>by
  obtain ⟨t,hit⟩:=mI ori;have hi':i<x.cps.size:=by simpa[bR] using hi
  have hv:((bR x).map MV.s)[i]= .s ⟨#[x.cps[i]]⟩:=by simp[bR]
  have hx:x.cps[i]?=EU x.cps[i]:=H0 hi';rw[hv] at hq
  cases ha:x.cps.all (·<128) with
  |true=>
   have e:Gj x="str_ascii_iterator" :=by unfold Gj;rw[if_pos ha]
   rw[e] at hit;exact wpAny_pyNext_ascii_item hit hx λh' hit' sb=>hq h' _ _ (oY (t:=t) (by rw[e];exact hit')) sb.extBut λ_=>ft ..
  |false=>
   have e:Gj x="str_iterator" :=by unfold Gj;rw[if_neg (by rw[ha];decide)]
   rw[e] at hit;exact wpAny_pyNext_wide_item hit hx λh' hit' sb=>hq h' _ _ (oY (t:=t) (by rw[e];exact hit')) sb.extBut λ_=>ft ..
 done:=λφ st s it Qx I _ ori hq=>by
  obtain ⟨t,hit⟩:=mI ori;have hn:((bR x).map MV.s).length=x.cps.size:=by simp[bR]
  rw[hn] at hit
  cases ha:x.cps.all (·<128) with
  |true=>
   have e:Gj x="str_ascii_iterator" :=by unfold Gj;rw[if_pos ha]
   rw[e] at hit;exact wpAny_pyNext_ascii_end O.hh hit s!"4" λh' ex=>hq h' s.toks ex
  |false=>
   have e:Gj x="str_iterator" :=by unfold Gj;rw[if_neg (by rw[ha];decide)]
   rw[e] at hit;exact wpAny_pyNext_wide_end O.hh hit s!"4" λh' ex=>hq h' s.toks ex
theorem xe:∀φ s v,IF X φ st s->VR s.heap (.s x) v->∀Qx:Value->Shared->Prop,
 (∀it h' t,(∀b o,s.heap.get? b=EU o->h'.get? b=EU o)->s.heap.objs.size≤it->OR h' it (siO x 0)->Qx (.ref it) {s with heap:=h',toks:=t})->E4 X.M X.A (Jz v) Qx NoE s:=λφ s v I r Qx hq=>by
 obtain ⟨t,rfl⟩:=r;exact wpAny_pyIter_strU (hq _ _ s.toks (λb o e=>Heap.get?_push_of_some _ e) (Fd _) (oY (t:=t) (aR _ (Heap.get?_push_size _ rfl) rfl rfl)))
theorem wy (O:XOk X) (x:Str):i9 X (siO x):=λφ st s it Qx I ori hq=>by
 obtain ⟨t,hit⟩:=mI ori
 cases ha:x.cps.all (·<128) with
 |true=>
  have e:Gj x="str_ascii_iterator" :=by unfold Gj;rw[if_pos ha]
  rw[e] at hit;exact wpAny_pyIter_striter_ascii hit hq
 |false=>
  have e:Gj x="str_iterator" :=by unfold Gj;rw[if_neg (by rw[ha];decide)]
  rw[e] at hit;exact wpAny_pyIter_striter_wide hit hq
end
end
section
section
variable {X:Xc} {st:St} {Q:MV->St->Prop}
theorem qO {h:Heap}:∀{xs:List Str} {vs:List Value},VRs h (xs.map .s) vs->∃l:List (Str×Nv),l.map (·.1)=xs∧vs=strValues l
 | [],vs,r=>by
  have r:VRs h [] vs:=r;unfold VRs at r;subst r;exact (af ([]) rfl rfl)
 |x::xs,vs,r=>by
  have r1:VRs h (.s x::xs.map .s) vs:=r;unfold VRs at r1;refine am r1 λy ys z1 z2=>?_;clear r1;subst z1;refine xa1 z2 λz3 r2=>?_;clear z2;obtain ⟨t,rfl⟩:=z3;refine ad (qO r2) λl e1 z1=>?_;clear r2 r;subst z1;exact (af ((x,t)::l) (by rw[FV,e1]) rfl)
theorem vz {xs:List Str} (e:st.σ l=EU (.lst (xs.map .s))) (hok:JoinOk x xs=true) (hq:Q (.s (Kk x xs)) st):WC X (.builtin "str.join") [.s x,.r l] st Q:=λφ s us I r=>by
 refine xC r λt=>?_;refine ad (I.own e) λitems pl rr=>?_;refine ad (qO rr) λL e1 e2=>?_;refine SC.join (l:=L) (texts:=xs) (by rw[←e2];simpa using pl.isList) e1 hok λt' k=>?_;exact Post.mk (ft ..) (I.toks _) (.refl _) hq
end
end
section
section
variable {X:Xc} {st:St} {Q:MV->St->Prop}
theorem zq (O:XOk X) {w a z:Str} (hl:lk st.ρ x=EU (EU (.s w))) (hyz:(y==z)=false) (hb:w.length+(w.length+1)*z.length≤16777216) (ha:a.length+(Io w y z).length≤sizeLine) {k1 k2 k3 p1 p2 p3 p4 p5 p6 p7}
 (hbase:F6 (.Name x p2) "replace" X.env (eval (.Name x p2) X.env)=eval (.Name x p2) X.env) (hline:(p3.endLine==p6.line)=true) (hq:Q (.s (a++Io w y z)) st):
 WE X (.BinOp (.Constant (.str a) k1 p1) .Add (.Call (.Attribute (.Name x p2) "replace" p3) [.Constant (.str y) k2 p4,.Constant (.str z) k3 p5] [] p6) p7) st Q:=λφ s I=>by
 refine wpAny_BinOp (Jw ?_);have I₁:=I.toks (s.toks+1);refine ad I₁.frame λmm hn hv=>?_;refine ad (hv x (.s w) hl) λv hy z1=>?_;refine xe1 z1 λt z2=>?_;clear z1;subst z2;have hs:Starless [G0.Constant (.str y) k2 p4,.Constant (.str z) k3 p5]:=trivial;refine Pi hbase (by rw[bf X.env hs];simp[ID,HS,kE0]) hline O3 F.slot_str_replace F.type_str_replace (OU (KG O.fn (I₁.loc x _ hl).1 hn hy ?_) (I₁.loc x _ hl).2);refine (ia2 rfl (λb hb=>(by cases hb)) ?_);refine HD (bL hs) (bt hs ?_);refine LA (Jw ?_) ?_
 ·refine LA (Jw (Qd ?_)) ?_
  ·refine SC.replace (t:=t) (H7 _) (H7 _) (Fh (G9 _)) hyz hb λt' k=>?_;refine Lc (λt2 tk=> .mk (ft ..) (I.toks _) (.refl _) hq) ha
  ·rw[bf _ hs.tail];rfl
 ·rw[bf _ hs,bf _ hs.tail];rfl
end
end
section
section
variable {X:Xc} {st:St} {Q:MV->St->Prop}
theorem ao (O:XOk X) {cl:List (Str×Addr)} (hsc:c9 scope=true) (C:Addr):XOk (Xi X scope cl C []):=by
 refine ⟨?_,O.hh,λx v h=>by cases h⟩;unfold c9 at hsc;rw[Fc] at hsc;exact beq_iff_eq.mp hsc.2
theorem pJ (O:XOk X) {f:Str->Str}
 (hclos:H9 scope X.env=pure []) (hsc:c9 scope=true) (h0:lk (loC scope) "sign" =EU none) (sz:x.length≤1000)
 (hs:∀y,F5 iter X.env y=pure y)
 (hit:∀Q':MV->St->Prop,Q' (.s x) st->WE X iter st Q')
 (helt:∀C c st',c∈bR x->lk st'.ρ "sign" =EU (EU (.s c))->∀Q':MV->St->Prop,Q' (.s (f c)) st'->WE (Xi X scope [] C []) elt st' Q')
 (hq:∀D,st.σ D=none->Q (.r D) ⟨st.σ.put D (.lst (((bR x).map f).map .s)),st.ρ⟩):
 WE X (.ListComp elt [⟨.Name "sign" pt,iter,[],0⟩] scope pos) st Q:=by
 refine jn [] [] (mo:=siO x) (vs:=(bR x).map .s) (Cond:=λ_=>True) (λi acc st'=>st'.σ=st.σ∧(∃u,lk st'.ρ "sign" =EU u)∧acc=(((bR x).take i).map f).map .s)
  (λC=>uF (ao O hsc C) x) (λC=>wy (ao O hsc C) x) hs (λC=>dG λ_ _=>rfl) hclos hsc (by rw[EZ,sizeLine_eq];unfold bR;rw[EZ,H5];exact EY sz s!"d") ?_ ?_ (λ_ _ _ _=>trivial) ?_
 ·refine hit _ (ia3 rfl xe ⟨rfl,⟨_,h0⟩,s!"4"⟩ ?_);intro acc st' zr1 D hD;refine xa2 zr1 λe1 _ e3=>?_;clear zr1;rw[EZ,Go] at e3;rw[e1] at hD;rw[e1,e3];exact hq D hD
 ·intro i acc st' zr1;refine pv zr1 λ_ _=>?_;clear zr1;simp;exact o0
 ·intro C i hi acc zr1 zr2;obtain ⟨σ',ρ'⟩:=zr1;refine xa2 zr2 λe1 z1 z2=>?_;clear zr2;obtain ⟨u,hu⟩:=z1;subst z2;have hi':i<(bR x).length:=by simpa using hi
  rw[F8];refine aL (ao O hsc C) hu ?_;unfold bQ;dsimp only;rw[if_pos rfl];refine helt C _ _ (Fy hi') (cF hu) _ (ia2 e1 ⟨_,cF hu⟩ ?_);rw[FT hi',Fe,Fe];rfl
end
end
section
variable {xs:List Str}
theorem uo:(EW "").length=0:=s!"d"
theorem sr:∀(xs:List Str),(∀y∈xs,y.length≤2)->(xs.map (·.length)).sum≤2*xs.length
 | [],_=>Fd _
 |x::xs,h=>by
  have h1:=h x (Fn ..);have h2:=sr xs λy hy=>h y (Fj _ hy);rw[FV,List.sum_cons,Hm];exact EY (GA h1 h2) (E6 (G7 2 (2*_)))
theorem pS (h:∀y∈xs,y.length≤2):(Kk "" xs).length≤2*xs.length:=by
 unfold Kk;rw[size_glued,uo,Nat.mul_zero];exact sr xs h
theorem qv:∀(xs:List Str) (a:Nat),(∀y∈xs,y.length≤2)->xs.foldl (λa (y:Str)=>a+y.length+(EW "").length) a≤a+2*xs.length
 | [],a,_=>Fd _
 |x::xs,a,h=>by
  have h1:=h x (Fn ..);have h2:=qv xs (a+x.length+(EW "").length) λy hy=>h y (Fj _ hy);rw[JU,Hm];rw[uo] at h2⊢;exact DU h1 h2
theorem nJ (h:∀y∈xs,y.length≤2) (hl:xs.length≤1000):JoinOk "" xs=true:=by
 unfold JoinOk;rw[Ga,List.foldl_toArray];have:=qv xs 0 h;have e:=sizeLine_eq;exact decide_eq_false (by exact Eb hl this e)
theorem go (x:Str):(bR x).length=x.length:=by unfold bR;rw[EZ];rfl
theorem fg {c:Str} (h:c∈bR x):c.length=1:=by
 unfold bR at h;rw[Fp] at h;refine ad h λn _ z1=>?_;clear h;subst z1;rfl
noncomputable def bsl (c:Str):Str:=EW "\\" ++c
noncomputable def esq (c:Str):Str:=if Fb "\"\\" c=true then EW "\\" ++c else c
theorem r6:∀y∈(bR x).map bsl,y.length≤2:=λy hy=>by
 rw[Fp] at hy;refine ad hy λc hc z1=>?_;clear hy;subst z1;unfold bsl;rw[str_length_append,fg hc];decide
theorem rU:∀y∈(bR x).map esq,y.length≤2:=λy hy=>by
 rw[Fp] at hy;refine ad hy λc hc z1=>?_;clear hy;subst z1;unfold esq;split
 ·rw[str_length_append,fg hc];decide
 ·rw[fg hc];decide
noncomputable abbrev q1:Str:=EW "'"
noncomputable abbrev q5:Str:=EW "'\"'\"'"
noncomputable def cD (w:Str) (way:Int):Str:=
 if (way==0)=true then cut w none (EU 1)++Kk "" ((bR (cut w (EU 1) none)).map bsl)
 else if (way==1)=true then EW "'" ++Io w q1 q5++EW "'"
 else EW "\"" ++Kk "" ((bR w).map esq)++EW "\""
variable {C:Cx}
noncomputable def bG:List String:=["word","way"]
theorem iG:bG.Nodup:=s!"1"
set_option maxHeartbeats 4000000 in
theorem kQ (G:Gd C) (R:Rm (k+1) A) {w:Str} {way:Int} {σ:Sg} (hw:w.length≤100) (hr:(Io w q1 q5).length≤10000):
 CtA C A (.ref 984) [.s w,.i way] [] σ λm σ'=>m= .s (cD w way)∧∀b m,σ b=EU m->σ' b=EU m:=by
 refine aW G R (a:=984) (c:=983) (x:=top 31) (n:="_law_dressed") (q:="_law_dressed") (d:= .none) (pm:=(.str "law_il0198_01" 1575)) (an:=none) (t:=1578)
  (ps:=(["word","way"]:List Str).zip [.s w,.i way]) s!"k" s!"k" s!"k" s!"k" [] s!"k" (λv=>(aX rfl s!"k" s!"1" (bk λa0=>bk λa1=>cK s!"k")).a) (ρ:=zL bG [EU (.s w),EU (.i way)]) s!"k" λQf hQf X hC O R' hin hg hE=>?_
 subst hC;have N:=kn G;have hd:=iG;have i_word:gI bG 0=EU "word" :=rfl;have i_way:gI bG 1=EU "way" :=rfl;clear hg hE;conv=>arg 2;whnf
 have l_word:lk (zL bG [EU (.s w),EU (.i way)]) "word" =EU (EU (.s w)):=lkI hd i_word rfl;have l_way:lk (zL bG [EU (.s w),EU (.i way)]) "way" =EU (EU (.i way)):=lkI hd i_way rfl;generalize zL bG [EU (.s w),EU (.i way)]=ρ at l_word l_way⊢;clear hd i_word i_way;refine aa (bl (aC s!"r" (ai O l_way (aq (j5 (ay ?_))))))
 cases h0:(way==0) with
 |true=>
  refine ift rfl (aa (be (ar (bV (λ_ _ _=>s!"r") (ai O l_word (aR w rfl (by rw[sizeLine_eq];exact o30 hw) (aq ⟨1,rfl,?_⟩)))))));have c1:=dN w none (EU 1);have c2:=dN w (EU 1) none;have c3:(Kk "" ((bR (cut w (EU 1) none)).map bsl)).length≤2*((bR (cut w (EU 1) none)).map bsl).length:=pS r6;rw[EZ,go] at c3;show WE X _ _ _;refine bp (T:="str") (id:="str.join") trivial s!"r" s!"4" s!"r" JG Mo Mp (aI ⟨ir,ac (pJ O (f:=bsl) (x:=cut w (EU 1) none) s!"r" s!"k" s!"k" (by exact zR hw c2) (λ_=>s!"r")
   (λQ' q=>bV (λ_ _ _=>s!"r") (ai O l_word (aR w rfl (by rw[sizeLine_eq];exact o30 hw) (aq ⟨1,rfl,q⟩)))) (λC c st' hc hl Q' q=>ar (aI (ai (ao O s!"k" C) hl (cU (by rw[fg hc,sizeLine_eq];decide) q)))) λD hD=>ag (vz (l:=D) (Sg.put_same ..) (nJ r6 (by rw[EZ,go];exact zR hw c2)) (cU (by rw[sizeLine_eq];exact EY (GA (EY c1 hw) (EY c3 (FI 2 (EY c2 hw)))) s!"d") (cV ?_))))⟩)
  refine hQf _ _ ⟨?_,λb m hb=>dm hD _ _ _ hb⟩;unfold cD;rw[if_pos h0]
 |false=>
  refine aD rfl (ak (ae ?_));refine aa (bl (aC s!"r" (ai O l_way (aq (j5 (ay ?_))))))
  cases h1:(way==1) with
  |true=>
   refine ift rfl (aa (be (ar (zq O l_word s!"1" (by show w.length+(w.length+1)*5≤_;exact EY (GA hw (Nat.mul_le_mul_right 5 (FE hw))) s!"d") ?_ s!"r" s!"r" (aI (cU ?_ (cV ?_)))))))
   ·rw[sizeLine_eq];have hr':(Io w (EW "'") (EW "'\"'\"'")).length≤10000:=hr;show 1+_≤_;exact D9 hr'
   ·rw[str_length_append,sizeLine_eq];have hr':(Io w (EW "'") (EW "'\"'\"'")).length≤10000:=hr;show 1+_+1≤_;exact EY (FE (Fi hr' 1)) s!"d"
   ·refine hQf _ _ ⟨?_,λb m hb=>hb⟩;unfold cD;rw[if_neg (by rw[h0];decide),if_pos h1]
  |false=>
   refine aD rfl (ak (ae ?_));have c3:(Kk "" ((bR w).map esq)).length≤2*((bR w).map esq).length:=pS rU;rw[EZ,go] at c3;refine aa (be (ar (ar (aI (bp (T:="str") (id:="str.join") trivial s!"r" s!"4" s!"r" JG Mo Mp (aI ⟨ir,ac (pJ O (f:=esq) (x:=w) s!"r" s!"k" s!"k" (by exact AX hw) (λ_=>s!"r")
    (λQ' q=>ai O l_word q) (λC c st' hc hl Q' q=>?_) λD hD=>ag (vz (l:=D) (Sg.put_same ..) (nJ rU (by rw[EZ,go];exact AX hw)) (cU (by rw[sizeLine_eq];show 1+_≤_;exact EY (Fi (EY c3 (FI 2 hw)) 1) s!"d") (aI (cU (by rw[str_length_append,sizeLine_eq];show 1+_+1≤_;exact EY (FE (Fi (EY c3 (FI 2 hw)) 1)) s!"d") (cV ?_))))))⟩))))))
   ·refine xz (aC s!"r" (ai (ao O s!"k" C) hl (aI (s7 (ay ?_)))));unfold esq at q
    cases hx:Fb (EW "\"\\") c with
    |true=>
     rw[if_pos hx] at q;exact ift rfl (ar (aI (ai (ao O s!"k" C) hl (cU (by rw[fg hc,sizeLine_eq];decide) q))))
    |false=>
     rw[if_neg (by rw[hx];decide)] at q;exact aD rfl (ai (ao O s!"k" C) hl q)
   ·refine hQf _ _ ⟨?_,λb m hb=>dm hD _ _ _ hb⟩;unfold cD;rw[if_neg (by rw[h0];decide),if_neg (by rw[h1];decide)]
end
theorem dM (p:P2):¬lt2 p p:=by unfold lt2;exact λz_h=>z_h.elim (Jv _) λz_x=>Jv _ z_x.2
theorem jg {p q r:P2} (h1:¬lt2 q p) (h2:¬lt2 r q):¬lt2 r p:=by unfold lt2 at*;exact λz_h=>have p1:_≤_:=HF.mp λz_x=>h1 (.inl z_x);have p2:_≤_:=HF.mp λz_x=>h2 (.inl z_x);z_h.elim (λz_x=>HF.mpr (Iv p1 p2) z_x) λz_x=>have e1:_=_:=JZ (Iv p2 (Int.le_of_eq z_x.1)) p1;h1 (.inr ⟨e1,Gm (HF.mp λz_z=>h2 (.inr ⟨z_x.1.trans e1.symm,z_z⟩)) z_x.2⟩)
theorem kI {p q:P2} (h:lt2 p q):¬lt2 q p:=by unfold lt2 at*;exact λz_h=>h.elim (λz_x=>z_h.elim (λz_y=>Jv _ (Iw z_x z_y)) λz_y=>MK z_x z_y.1.symm) λz_x=>z_h.elim (λz_y=>MK z_y z_x.1.symm) λz_y=>Jv _ (Iw z_x.2 z_y.2)
theorem mN {p q r:P2} (h1:lt2 p q) (h2:lt2 q r):lt2 p r:=by unfold lt2 at*;exact h1.elim (λz_x=> .inl (h2.elim (Iw z_x) λz_y=>z_y.1▸z_x)) λz_x=>h2.elim (λz_y=> .inl (z_x.1▸z_y)) λz_y=> .inr ⟨z_x.1.trans z_y.1,Iw z_x.2 z_y.2⟩
theorem ku {p q:P2} (h1:¬lt2 q p) (h2:¬lt2 p q):p=q:=by
 obtain ⟨a,b⟩:=p;obtain ⟨c,d⟩:=q;unfold lt2 at*;dsimp only at*;have:a=c:=by exact JZ (HF.mp λz_x=>h1 (.inl z_x)) (HF.mp λz_x=>h2 (.inl z_x))
 subst this;have:b=d:=by exact JZ (HF.mp λz_x=>h1 (.inr ⟨rfl,z_x⟩)) (HF.mp λz_x=>h2 (.inr ⟨rfl,z_x⟩))
 rw[this]
noncomputable def Hp (xs:List P2):Prop:=∀i a b,0<i->xs[(i-1)/2]?=EU a->xs[i]?=EU b->¬lt2 b a
structure Hole (xs:List P2) (pos:Nat) (new:P2):Prop where
 a:∀i a b,0<i->i≠pos->(i-1)/2≠pos->xs[(i-1)/2]?=EU a->xs[i]?=EU b->¬lt2 b a
 b:∀i b,0<i->(i-1)/2=pos->xs[i]?=EU b->¬lt2 b new
 c:∀i a b,0<i->0<pos->(i-1)/2=pos->xs[(pos-1)/2]?=EU a->xs[i]?=EU b->¬lt2 b a
theorem cr {xs:List P2} {v:P2} (h:i≠j):(xs.set j v)[i]?=xs[i]?:=by rw[Nd (E8 h)]
theorem fh {xs:List P2} {v:P2} (h:j<xs.length):(xs.set j v)[j]?=EU v:=by rw[MD h]
theorem ji {xs:List P2} {pos:Nat} {new:P2} (hp:pos<xs.length) (H:Hole xs pos new) (h:∀a,0<pos->xs[(pos-1)/2]?=EU a->¬lt2 new a):Hp (xs.set pos new):=by
 intro i a b hi ha hb;by_cases h1:i=pos
 ·clear H;subst h1;rw[cr (by exact BC hi)] at ha;rw[fh hp] at hb;cases hb;exact h a hi ha
 ·rw[cr h1] at hb;by_cases h2:(i-1)/2=pos
  ·rw[h2,fh hp] at ha;cases ha;exact H.b i b hi h2 hb
  ·rw[cr h2] at ha;exact H.a i a b hi h1 h2 ha hb
theorem sT (new:P2):∀(f pos:Nat) (xs:List P2),pos≤f->pos<xs.length->Hole xs pos new->Hp (sd new f pos xs)∧(sd new f pos xs).Perm (xs.set pos new)
 |0,pos,xs,hf,hp,H=>by
  have:pos=0:=by exact o34 hf
  clear hf;subst this;exact ⟨ji hp H λa h=>absurd h (by exact wL),.refl _⟩
 |f+1,pos,xs,hf,hp,H=>by
  unfold sd;split
  ·rename_i h0;clear hf;subst h0;exact ⟨ji hp H λa h=>absurd h (by exact wL),.refl _⟩
  ·rename_i h0;have hq:(pos-1)/2<xs.length:=by exact xc hp
   have hx:xs[(pos-1)/2]?=EU xs[(pos-1)/2]:=E2 hq;dsimp only;rw[hx];dsimp only[KU];generalize hpar:xs[(pos-1)/2]=par at hx⊢;split
   ·rename_i hlt;have IH:=sT new f ((pos-1)/2) (xs.set pos par) (by exact EI hf) (by rw[FA];exact hq) ?_
    ·refine ⟨IH.1,IH.2.trans ?_⟩;have z:=NY (as:=xs.set pos new) (i:=pos) (j:=(pos-1)/2) (by simpa using hp) (by simpa using hq);rw[Nq (by exact DM h0),JX,KM,hpar] at z;exact z
    ·refine ⟨λi a b hi h1 h2 ha hb=>?_,λi b hi h2 hb=>?_,λi a b hi h3 h2 ha hb=>?_⟩
     ·have h4:i≠pos:=λe=>by clear hf hp H h0 hq hpar hx h1 ha hb;subst e;exact h2 rfl
      rw[cr h4] at hb;by_cases h5:(i-1)/2=pos
      ·rw[h5,fh hp] at ha;cases ha;exact H.c i _ b hi (by exact Eh h2 h5) h5 hx hb
      ·rw[cr h5] at ha;exact H.a i a b hi h4 h5 ha hb
     ·by_cases h4:i=pos
      ·clear hf H h0 hq hpar hx h2;subst h4;rw[fh hp] at hb;cases hb;exact kI hlt
      ·rw[cr h4] at hb;exact jg (kI hlt) (H.a i _ b hi h4 (by exact En h0 h2) (by rw[h2];exact hx) hb)
     ·rw[cr (by exact A6 h3)] at ha;have q1:=H.a ((pos-1)/2) a par h3 (by exact Dq h3) (by exact A6 h3) ha hx;by_cases h4:i=pos
      ·clear hf H h0 hq hpar hx h3 h2 ha;subst h4;rw[fh hp] at hb;cases hb;exact q1
      ·rw[cr h4] at hb;exact jg q1 (H.a i _ b hi h4 (by exact Ed h3 h2) (by rw[h2];exact hx) hb)
   ·rename_i hlt;exact ⟨ji hp H λa _ ha=>by rw[hx] at ha;cases ha;exact hlt,.refl _⟩
theorem zp {xs:List P2} (p:P2) (h:Hp xs):Hp (sd p xs.length xs.length (xs++[p]))∧(sd p xs.length xs.length (xs++[p])).Perm (xs++[p]):=by
 have:=sT p xs.length xs.length (xs++[p]) (Fd _) s!"4" ⟨λi a b hi h1 h2 ha hb=>?_,λi b hi h2 hb=>?_,λi a b hi h3 h2 ha hb=>?_⟩
 ·refine ⟨this.1,this.2.trans ?_⟩;rw[List.set_append_right _ _ (Fd _)];simp
 ·have hb':=E5.mp hb;have:i<xs.length:=by have:=hb'.1;simp at this;exact Gf (FD this) h1
  rw[Gs this] at hb;rw[Gs (by exact xc this)] at ha;exact h i a b hi ha hb
 ·have:=(E5.mp hb).1;simp at this;exact (zB hi h2 this).elim
 ·have:=(E5.mp hb).1;simp at this;exact (zB hi h2 this).elim
structure HoleL (ys:List P2) (pos:Nat):Prop where
 a:∀i a b,0<i->i≠pos->(i-1)/2≠pos->ys[(i-1)/2]?=EU a->ys[i]?=EU b->¬lt2 b a
 c:∀i a b,0<i->0<pos->(i-1)/2=pos->ys[(pos-1)/2]?=EU a->ys[i]?=EU b->¬lt2 b a
theorem t7 (x:P2):∀(f pos:Nat) (ys:List P2),ys.length≤f+pos->pos<ys.length->HoleL ys pos->
 let r:=suL f pos ys
 HoleL r.2 r.1∧r.1<r.2.length∧r.2.length≤2*r.1+1∧(r.2.set r.1 x).Perm (ys.set pos x)
 |0,pos,ys,hf,hp,H=>by exact (DN hf hp).elim
 |f+1,pos,ys,hf,hp,H=>by
  unfold suL;split
  ·rename_i h1;dsimp only;generalize hc:(if 2*pos+1+1<ys.length∧¬lt2 ((ys[2*pos+1]?).getD (0,0)) ((ys[2*pos+1+1]?).getD (0,0)) then 2*pos+1+1 else 2*pos+1)=c
   have hcl:c<ys.length∧(c=2*pos+1∨c=2*pos+2):=by
    subst hc;split
    ·rename_i hh;exact ⟨hh.1,.inr rfl⟩
    ·exact ⟨h1,.inl rfl⟩
   refine xa1 hcl λhcl hcc=>?_;have hx:ys[c]?=EU ys[c]:=E2 hcl
   have bO:∀i b,0<i->(i-1)/2=pos->ys[i]?=EU b->¬lt2 b ys[c]:=by
    intro i b hi h2 hb;have hil:=(E5.mp hb).1;by_cases e:i=c
    ·subst e;rw[hx] at hb;cases hb;exact dM _
    ·have e1:ys[2*pos+1]?=EU ys[2*pos+1]:=E2 h1;rw[e1] at hc;dsimp only[KU] at hc;by_cases h3:2*pos+1+1<ys.length
     ·have e2:ys[2*pos+1+1]?=EU ys[2*pos+1+1]:=E2 h3;rw[e2] at hc;dsimp only[KU] at hc;by_cases h4:lt2 ys[2*pos+1] ys[2*pos+1+1]
      ·rw[if_neg (λhh=>hh.2 h4)] at hc;subst hc;have:i=2*pos+1+1:=by exact (hq hi h2).resolve_left e
       subst this;rw[e2] at hb;cases hb;exact kI h4
      ·rw[if_pos ⟨h3,h4⟩] at hc;subst hc;have:i=2*pos+1:=by exact (hq hi h2).resolve_right e
       subst this;rw[e1] at hb;cases hb;exact h4
     ·rw[if_neg (λhh=>h3 hh.1)] at hc;exact ((hq hi h2).elim (λz_h=>e (z_h.trans hc)) λz_h=>h3 (z_h▸hil)).elim
   rw[hx];dsimp only[KU];have IH:=t7 x f c (ys.set pos ys[c]) (by rw[FA];exact EY hf (by rw[HG,G7 1];exact Fi (hcc.elim (λz_h=>z_h▸FE (HE _ s!"d")) λz_h=>z_h▸GO (FE (HE _ s!"d"))) _)) (by rw[FA];exact hcl) ?_
   ·refine (ia3 IH.1 IH.2.1 IH.2.2.1 (IH.2.2.2.trans ?_));have z:=NY (as:=ys.set pos x) (i:=pos) (j:=c) (by simpa using hp) (by simpa using hcl);rw[Nq (by exact λz_e=>hcc.elim (λz_h=>Fh (IE (HE _ s!"d")) (z_e.trans z_h)) λz_h=>Fh (GN (IE (HE _ s!"d"))) (z_e.trans z_h)),JX,KM] at z;exact z
   ·refine ⟨λi a b hi h5 h2 ha hb=>?_,λi a b hi h3 h2 ha hb=>?_⟩
    ·by_cases h6:i=pos
     ·subst h6;rw[fh hp] at hb;cases hb;rw[cr (by exact BC hi)] at ha;exact H.c c a _ (by exact hcc.elim (λz_h=>z_h▸Iz _) λz_h=>z_h▸Iz _) hi (by exact zA hcc) ha hx
     ·rw[cr h6] at hb;by_cases h7:(i-1)/2=pos
      ·rw[h7,fh hp] at ha;cases ha;exact bO i b hi h7 hb
      ·rw[cr h7] at ha;exact H.a i a b hi h6 h7 ha hb
    ·have e:(c-1)/2=pos:=by exact zA hcc
     rw[e,fh hp] at ha;cases ha;rw[cr (by exact AY h3 h2 e)] at hb;exact H.a i _ b hi (by exact AY h3 h2 e) (by exact λz_h=>Iy (e▸hlt h3) (h2.symm.trans z_h)) (by rw[h2];exact hx) hb
  ·rename_i h1;exact (ia3 H hp (by show ys.length≤2*pos+1;exact K2 h1) (.refl _))
theorem CC {x:P2} (h0:0<ys.length) (h:∀i a b,0<i->(i-1)/2≠0->ys[(i-1)/2]?=EU a->ys[i]?=EU b->¬lt2 b a):Hp (su x ys)∧(su x ys).Perm (ys.set 0 x):=by
 have z:=t7 x ys.length 0 ys (Fd _) h0 ⟨λi a b hi _ h2 ha hb=>h i a b hi h2 ha hb,λi a b _ h3=>absurd h3 (by exact wL)⟩;dsimp only at z;refine xa3 z λz1 z2 z3 z4=>?_;unfold su;have w:=sT x (suL ys.length 0 ys).1 (suL ys.length 0 ys).1 ((suL ys.length 0 ys).2.set (suL ys.length 0 ys).1 x) (Fd _) (by rw[FA];exact z2)
  ⟨λi a b hi h1 h2 ha hb=>by rw[cr h2] at ha;rw[cr h1] at hb;exact z1.a i a b hi h1 h2 ha hb,λi b hi h2 hb=>by
   have:=(E5.mp hb).1
   rw[FA] at this;exact (zv z3 hi h2 this).elim,λi a b hi h3 h2 ha hb=>by
   have:=(E5.mp hb).1;rw[FA] at this;exact (zv z3 hi h2 this).elim⟩
 refine ⟨w.1,w.2.trans ?_⟩;rw[KM];exact z4
theorem zb {xs:List P2} (h:Hp xs) {r:P2} (hr:xs[0]?=EU r):∀(i:Nat) (b:P2),xs[i]?=EU b->¬lt2 b r:=by
 intro i
 induction i using OJ with
 |_ i ih=>
  intro b hb;by_cases h0:i=0
  ·clear ih;subst h0;rw[hr] at hb;cases hb;exact dM _
  ·have hl:=(E5.mp hb).1;have e:xs[(i-1)/2]?=EU (xs[(i-1)/2]'(by exact xc hl)):=E2 _;exact jg (ih ((i-1)/2) (by exact zU h0) _ e) (h i _ b (by exact Hd h0) e hb)
theorem AE {x:P2} (h:Hp (ys++[x])):(∀b∈ys++[x],¬lt2 b (du ys x).1)∧Hp (du ys x).2∧(ys++[x]).Perm ((du ys x).1::(du ys x).2):=by
 cases ys with
 |nil=>
  refine (ia2 (λb hb=>?_) (λi a b _ ha=>?_) (.refl _))
  ·simp at hb;clear h;subst hb;exact dM _
  ·simp[du] at ha
 |cons y ys=>
  refine ⟨λb hb=>?_,?_⟩
  ·obtain ⟨i,hi,e⟩:=Gg hb;exact zb h (r:=y) rfl i b (by rw[←e];exact E2 hi)
  ·have z:=CC (x:=x) (ys:=(y::ys).set 0 x) s!"4" λi a b hi h2 ha hb=>by
    rw[cr h2] at ha;rw[cr (by exact Iy hi)] at hb;have l1:=(E5.mp ha).1;have l2:=(E5.mp hb).1;exact h i a b hi (by rw[Gs l1];exact ha) (by rw[Gs l2];exact hb)
   refine ⟨z.1,?_⟩;show ((y::ys)++[x]).Perm (y::su x ((y::ys).set 0 x));refine Nr y ?_;refine .trans ?_ z.2.symm;rw[KM];show (ys++[x]).Perm (x::ys);exact List.perm_append_comm
noncomputable abbrev PN:=Int×Nat
noncomputable def ip (p:PN):P2:=(p.1,(p.2:Int))
theorem uU {p q:PN} (h:ip p=ip q):p=q:=by
 obtain ⟨a,b⟩:=p;obtain ⟨c,d⟩:=q;unfold ip at h;simp at h;obtain ⟨rfl,h⟩:=h;have:b=d:=by exact o1 h
 rw[this]
noncomputable def Bf (l:List Nat) (k e:Nat):Prop:=l.idxOf k<l.idxOf e
structure OrdOk (n:Nat) (told ord:List Nat):Prop where
 nd:ord.Nodup
 mem:∀k,k∈ord↔k<n
 len:told.length=n
 pos:∀k,k<n->1≤told.getD k 0
 up:∀k e,k<n->e<k->Bf ord k e->told.getD e 0<told.getD k 0
 ex:∀k,k<n->told.getD k 0=1∨∃e,e<k∧Bf ord k e∧told.getD k 0=told.getD e 0+1
noncomputable def mxL (l:List Nat):Nat:=l.foldl max 0
theorem iV:∀(l:List Nat) (a:Nat),a≤l.foldl max a∧∀x∈l,x≤l.foldl max a
 | [],a=>⟨Fd _,λx h=>by cases h⟩
 |y::l,a=>by
  have ih:=iV l (max a y);refine ⟨EY (Nat.le_max_left ..) ih.1,λx hx=>?_⟩;rcases FF.mp hx with rfl|hx
  ·exact EY (Ov ..) ih.1
  ·exact ih.2 x hx
theorem iE:∀(l:List Nat) (a:Nat),l.foldl max a=a∨l.foldl max a∈l
 | [],a=> .inl rfl
 |y::l,a=>by
  rcases iE l (max a y) with h|h
  ·rw[JU,h];rcases KP a y with h1|h1
   ·rw[Ou h1];exact .inr (Fn ..)
   ·rw[Nat.max_eq_left h1];exact .inl rfl
  ·exact .inr (Fj _ h)
theorem i7 {l:List Nat} {x:Nat} (h:x∈l):x≤mxL l:=(iV l 0).2 x h
theorem gG {l:List Nat} (h:mxL l≠0):mxL l∈l:=(iE l 0).resolve_left h
theorem iR (p:PN):∀(l:List PN),l.Pairwise (λa b=>lt2 (ip a) (ip b))->(∀q∈l,q≠p)->∃L R,l=L++R∧(∀q∈L,lt2 (ip q) (ip p))∧(∀q∈R,lt2 (ip p) (ip q))
 | [],_,_=>(cZ ([]) ([]) rfl s!"4" s!"4")
 |a::l,h,hn=>by
  by_cases hap:lt2 (ip a) (ip p)
  ·refine bM (iR p l h.of_cons λq hq=>hn q (Fj _ hq)) λL R e h1 h2=>?_;refine (cZ (a::L) R (by rw[e];rfl) (λq hq=>?_) h2);rcases FF.mp hq with rfl|hq
   ·exact hap
   ·exact h1 q hq
  ·have hpa:lt2 (ip p) (ip a):=by
    by_cases h3:lt2 (ip p) (ip a)
    ·exact h3
    ·exact absurd (uU (ku h3 hap)) (hn a (Fn ..))
   refine (cZ ([]) (a::l) rfl s!"4" (λq hq=>?_));rcases FF.mp hq with rfl|hq
   ·exact hpa
   ·exact mN hpa (Ge h hq)
theorem mD {A B:List Nat} {a:Nat} (ha:a≠n):(A++n::B).idxOf a=if a∈A then A.idxOf a else A.length+(B.idxOf a+1):=by
 rw[Jm];split
 ·rfl
 ·rw[G4,beq_false_of_ne (E8 ha),G7];rfl
theorem uL {A B:List Nat} {a b:Nat} (ha:a≠n) (hb:b≠n):Bf (A++n::B) a b↔Bf (A++B) a b:=by
 unfold Bf;rw[mD ha,mD hb,Jm,Jm];by_cases h1:a∈A<;>by_cases h2:b∈A<;>simp only[h1,h2,if_true,if_false]
 ·have:=Gi h1;exact ⟨λ_=>E1 this (Hi ..),λ_=>E1 this (Fr ..)⟩
 ·have:=Gi h2;exact ⟨λz_h=>absurd (Fq z_h this) (F9.mpr (Fr ..)),λz_h=>absurd (Fq z_h this) (F9.mpr (Hi ..))⟩
 ·exact o5
theorem uS {A B:List Nat} {e:Nat} (hn:n∉A) (he:e≠n) (nd:(A++B).Nodup) (hm:e∈A++B):Bf (A++n::B) n e↔e∈B:=by
 unfold Bf;rw[mD he,Jm,if_neg hn,HY];by_cases h1:e∈A
 ·rw[if_pos h1];have:=Gi h1;constructor
  ·intro;exact (o6 this ‹_›).elim
  ·intro h2;exact absurd rfl ((List.nodup_append.mp nd).2.2 e h1 e h2)
 ·rw[if_neg h1];constructor
  ·intro;exact (F2.mp hm).resolve_left h1
  ·intro;exact o7
structure S1 where
 told:List Nat
 heap:List P2
 ins:List PN
 gone:List Nat
structure J1 (n:Nat) (S:S1):Prop where
 hp:Hp S.heap
 pm:S.heap.Perm (S.ins.map ip)
 srt:∃srt:List PN,srt.Pairwise (λa b=>lt2 (ip a) (ip b))∧srt.Perm S.ins∧OrdOk n S.told (S.gone++srt.map (·.2))
noncomputable def newTold (S:S1) (r:Int):Nat:=1+mxL ((S.heap.filter λp=>decide (r<p.1)).map λp=>S.told.getD p.2.toNat 0)
theorem J1.push {S:S1} (J:J1 n S) (r:Int):J1 (n+1) ⟨S.told++[newTold S r],sd (r,(n:Int)) S.heap.length S.heap.length (S.heap++[(r,(n:Int))]),S.ins++[(r,n)],S.gone⟩:=by
 obtain ⟨hp,pm,srt,so,sp,O⟩:=J;have z:=zp (r,(n:Int)) hp;refine ⟨z.1,z.2.trans ?_,?_⟩
 ·rw[Fe];exact pm.append_right _
 have hmem:∀q∈srt,q.2<n:=λq hq=>(O.mem q.2).mp (Gz _ (Fp.mpr (af q hq rfl)));refine bM (iR (r,n) srt so λq hq h=>by have:=hmem q hq;rw[h] at this;exact Fz _ this) λL R e hL hR=>?_;subst e
 have hnA:n∉S.gone++L.map (·.2):=λh=>by
  have:=(O.mem n).mp (by rw[Fe,←Gh];exact GI _ h);exact Fz _ this
 have eo:S.gone++(L++R).map (·.2)=(S.gone++L.map (·.2))++R.map (·.2):=by rw[Fe,Gh]
 have eo':S.gone++(L++(r,n)::R).map (·.2)=(S.gone++L.map (·.2))++n::R.map (·.2):=by rw[Fe,Gh];rfl
 rw[eo] at O;refine (aR (L++(r,n)::R) ?_ ?_ ?_)
 ·refine xa2 (GJ.mp so) λa b c=>?_;refine GJ.mpr (ia2 a (Ky.mpr ⟨hR,b⟩) (λp hp q hq=>?_));rcases FF.mp hq with rfl|hq
  ·exact hL p hp
  ·exact c p hp q hq
 ·exact (KZ.trans (Nr _ sp)).trans (I8 _ _).symm
 ·rw[eo'];dsimp only;generalize hA:S.gone++L.map (·.2)=A at hnA O;have hnB:n∉R.map (·.2):=λh=>Fz _ ((O.mem n).mp (Gz _ h))
  have gl:∀k,k<n->(S.told++[newTold S r]).getD k 0=S.told.getD k 0:=λk hk=>by
   rw[FQ,FQ,Gs (by rw[O.len];exact hk)]
  have gn:(S.told++[newTold S r]).getD n 0=newTold S r:=by
   rw[FQ,Hc (by rw[O.len];exact Fd _),O.len];simp
  have hv:∀e,e∈R.map (·.2)↔∃p∈S.heap,r<p.1∧p.2.toNat=e:=λe=>by
   constructor
   ·intro h;refine ad (Fp.mp h) λq hq z1=>?_;clear h;subst z1;have h3:=hR q hq;have h4:=hmem q (Gz _ hq);refine (aR (ip q) (pm.mem_iff.mpr (Fp.mpr ⟨q,sp.mem_iff.mp (Gz _ hq),rfl⟩)) ?_ (by unfold ip;simp));unfold lt2 ip at h3;unfold ip;dsimp only at h3⊢;exact o8 h3 h4
   ·intro zr1;refine aV zr1 λp h1 h2 z2=>?_;clear zr1;subst z2;refine ad (Fp.mp (pm.mem_iff.mp h1)) λq h3 z1=>?_;clear h1;subst z1;have h5:=sp.mem_iff.mpr h3;rcases F2.mp h5 with h5|h5
    ·have h6:=hL q h5;unfold lt2 ip at h6;unfold ip at h2;dsimp only at h6 h2;exact (o9 h2 h6).elim
    ·exact Fp.mpr (af q h5 (by unfold ip;simp))
  refine ⟨?_,λk=>?_,by rw[E7,O.len];rfl,λk hk=>?_,λk e hk he hb=>?_,λk hk=>?_⟩
  ·exact KZ.nodup_iff.mpr (G3.mpr ⟨λh=>(F2.mp h).elim hnA hnB,O.nd⟩)
  ·have:=O.mem k;rw[F2] at this⊢;rw[FF];by_cases hk:k=n
   ·clear z hL hR hmem eo' hnA O hnB gl gn this;subst hk;simp
   ·simp only[hk,false_or];rw[this];exact o10 hk
  ·by_cases h:k=n
   ·clear z hL hR hmem eo' hnA O hnB gl hk;subst h;rw[gn];unfold newTold;exact o11
   ·rw[gl k (by exact o12 hk h)];exact O.pos k (by exact o12 hk h)
  ·by_cases h:k=n
   ·clear z hL hR hmem eo' hnB hk;subst h;rw[gn,gl e he];have:=(uS hnA (by exact o13 he) O.nd ((O.mem e).mpr he)).mp hb;refine aV ((hv e).mp this) λp p1 p2 p3=>?_;have:S.told.getD e 0≤mxL ((S.heap.filter λp=>decide (r<p.1)).map λp=>S.told.getD p.2.toNat 0):=i7 (Fp.mpr (af p (GB.mpr ⟨p1,decide_eq_true p2⟩) (by rw[p3])));unfold newTold;exact o14 this
   ·rw[gl k (by exact o12 hk h),gl e (by exact o15 hk he)];exact O.up k e (by exact o12 hk h) he ((uL (by exact o16 h) (by exact o17 hk he)).mp hb)
  ·by_cases h:k=n
   ·clear z hL hR hmem eo' hnB hk;subst h;rw[gn];by_cases h0:mxL ((S.heap.filter λp=>decide (r<p.1)).map λp=>S.told.getD p.2.toNat 0)=0
    ·left;unfold newTold;exact o18 h0
    ·right;refine ad (Fp.mp (gG h0)) λp p1 p2=>?_;refine xa1 (GB.mp p1) λp1 p3=>?_;have hB:=(hv p.2.toNat).mpr (aR p p1 (of_decide_eq_true p3) rfl);have hlt:p.2.toNat<k:=(O.mem _).mp (Gz _ hB);refine (aR p.2.toNat hlt ((uS hnA (by exact o19 hlt) O.nd (Gz _ hB)).mpr hB) ?_);rw[gl _ hlt,p2];unfold newTold;exact o20
   ·rw[gl k (by exact o12 hk h)];rcases O.ex k (by exact o12 hk h) with h1|⟨e,he,hb,h2⟩
    ·exact .inl h1
    ·exact .inr (aR e he ((uL (by exact o16 h) (by exact o17 hk he)).mpr hb) (by rw[gl e (by exact o15 hk he)];exact h2))
theorem J1.pop {S:S1} (J:J1 n S) {p:PN} (hp:p∈S.ins) (hm:∀b∈S.ins,¬lt2 (ip b) (ip p)) {x:P2} (e:S.heap=ys++[x]):
 (du ys x).1=ip p∧J1 n ⟨S.told,(du ys x).2,S.ins.erase p,S.gone++[p.2]⟩:=by
 obtain ⟨hH,pm,srt,so,sp,O⟩:=J;rw[e] at hH pm;refine xa2 (AE hH) λz1 z2 z3=>?_
 have e1:(du ys x).1=ip p:=by
  have h1:(du ys x).1∈S.ins.map ip:=pm.mem_iff.mp (z3.mem_iff.mpr (Fn ..));refine ad (Fp.mp h1) λq q1 q2=>?_;refine ku ?_ ?_
  ·exact z1 _ (pm.mem_iff.mpr (Fp.mpr (af p hp rfl)))
  ·rw[←q2];exact hm q q1
 refine ⟨e1,z2,?_,?_⟩
 ·rw[e1] at z3;have h2:(S.ins.map ip).Perm (ip p::(S.ins.erase p).map ip):=(Nf hp).map ip;exact (OL _).mp ((z3.symm.trans pm).trans h2)
 ·cases srt with
  |nil=>exact absurd (sp.mem_iff.mpr hp) s!"4"
  |cons q srt=>
   have:q=p:=by
    rcases FF.mp (sp.mem_iff.mpr hp) with h|h
    ·exact h.symm
    ·exact absurd (Ge so h) (hm q (sp.mem_iff.mp (Fn ..)))
   clear hm e1;subst this;refine (aR srt so.of_cons ((OL _).mp (sp.trans (Nf hp))) ?_);dsimp only;rw[Gh];exact O
theorem J1.start:J1 0 ⟨[],[],[],[]⟩:=⟨λi a b _ h=>by simp at h,.refl _,[],.nil,.refl _,⟨.nil,λk=>s!"4",rfl,λk h=>by exact o21 h,λk e h=>by exact (o22 h).elim,λk h=>by exact (o22 h).elim⟩⟩
theorem J1.done {S:S1} (J:J1 n S) (e:S.ins=[]):OrdOk n S.told S.gone∧S.heap=[]:=by
 obtain ⟨hH,pm,srt,so,sp,O⟩:=J;rw[e] at pm sp;have:=sp.eq_nil;clear so sp;subst this;rw[List.map_nil,Hh] at O;exact ⟨O,pm.eq_nil⟩
section
theorem ng (m:Str):∀(ws:List Str) (i:Nat),(flat m ws)[2*i]?=if i<ws.length then EU m else none
 | [],i=>by simp[flat]
 |w::ws,0=>rfl
 |w::ws,i+1=>by
  show (m::w::flat m ws)[2*(i+1)]?=_;rw[show 2*(i+1)=2*i+1+1 by exact rfl,Im,Im,ng m ws i];simp
theorem qd (m:Str):∀(ws:List Str) (i:Nat),(flat m ws)[2*i+1]?=ws[i]?
 | [],i=>by simp[flat]
 |w::ws,0=>rfl
 |w::ws,i+1=>by
  show (m::w::flat m ws)[2*(i+1)+1]?=_;rw[show 2*(i+1)+1=2*i+1+1+1 by exact rfl,Im,Im,qd m ws i];simp
theorem gA (m:Str) (ws:List Str) (i:Nat):(bb ws m)[2*i]?=ws[i]?:=by
 unfold bb;rw[I9,G7,qd]
theorem sU (m:Str) (ws:List Str) (i:Nat):(bb ws m)[2*i+1]?=if i+1<ws.length then EU m else none:=by
 unfold bb;rw[I9,show 1+(2*i+1)=2*(i+1) by exact Ez,ng]
theorem eD (m:Str) (ws:List Str):(bb ws m).length=2*ws.length-1:=by
 unfold bb;rw[N9,kc]
theorem cA {m:Str} (h:(bb ws m)[i]?=EU x):(∃j,i=2*j∧ws[j]?=EU x)∨(∃j,i=2*j+1∧x=m∧j+1<ws.length):=by
 rcases (show (∃j,i=2*j)∨∃j,i=2*j+1 by by_cases e:i % 2=0;exact .inl ⟨i/2,by exact (Nat.mul_div_cancel' (Nat.dvd_of_mod_eq_zero e)).symm⟩;exact .inr ⟨i/2,by exact Dj e⟩) with ⟨j,rfl⟩|⟨j,rfl⟩
 ·exact .inl (af j rfl ((gA ..).symm.trans h))
 ·rw[sU] at h;split at h
  ·cases h;exact .inr (aR j rfl rfl s!"A")
  ·cases h
theorem xu (h:∀i j:Nat,B[i]?=EU x->B[j]?=EU x->i=j):(bC B x).length≤1:=by
 have nd:(bC B x).Nodup:=by
  unfold bC;have s:((B.zipIdx.filter λp=>p.1=x).map (·.2)).Sublist (B.zipIdx.map (·.2)):=Qr _ List.filter_sublist;refine Rd s ?_;rw[List.zipIdx_map_snd];exact List.nodup_range'
 cases e:bC B x with
 |nil=>simp
 |cons a l=>
  cases l with
  |nil=>simp
  |cons b l=>
   rw[e] at nd;have h1:=h a b (d7.mp (by rw[e];simp)) (d7.mp (by rw[e];simp));clear e;subst h1;simp at nd
theorem Aq {A:List Str} (hA:A[i]?=EU x) (hB:B[j]?=EU x) (hu:∀i j:Nat,B[i]?=EU x->B[j]?=EU x->i=j) (h1:blo≤j) (h2:j<bhi):hit A B blo bhi i=EU j:=by
 unfold hit;rw[hA];dsimp only
 cases e:(bC B x).find? λj=>decide (blo≤j∧j<bhi) with
 |none=>
  have:=Hx.mp e j (d7.mpr hB);simp at this;exact (H6 (this h1) h2).elim
 |some k=>rw[hu k j (d7.mp (LU e)) hB]
theorem ve {A:List Str} (h:∀j x,A[i]?=EU x->B[j]?=EU x->blo≤j->False):hit A B blo bhi i=none:=by
 cases e:hit A B blo bhi i with
 |none=>rfl
 |some j=>
  refine xa2 (eP e) λz1 h3 _=>?_;refine ad z1 λx h1 h2=>?_;exact (h j x h1 h2 h3).elim
theorem uJ {A B:List Str} {blo bhi alo i j:Nat} (h:hit A B blo bhi i=EU j):∀{t:Nat},alo≤i->i<alo+t->(∀i',alo≤i'->i'<i->hit A B blo bhi i'=none)->fhp A B blo bhi alo t=EU (i,j)
 |0,h1,h2,_=>by exact (zI h1 h2).elim
 |t+1,h1,h2,h3=>by
  unfold fhp;by_cases e:i=alo+t
  ·clear h1 h2;subst e;rw[eX λi' a b=>h3 i' a b,h];rfl
  ·rw[uJ h h1 (by exact Gf (FD h2) e) h3]
structure Wd (n:Nat) (W:Nat->Str) (m1 m2:Str):Prop where
 inj:∀a b,a<n->b<n->W a=W b->a=b
 n1:∀a,a<n->W a≠m1
 n2:∀a,a<n->W a≠m2
 ne:m1≠m2
section
variable {l:List Nat} {b:Nat}
variable {n:Nat} {told gone:List Nat} {W:Nat->Str} {m1 m2:Str} (O:OrdOk n told gone) (w:Wd n W m1 m2)
noncomputable def bc (told:List Nat) (n t:Nat):List Nat:=(F7 n).filter λk=>decide (t≤told.getD k 0)
noncomputable def bi (told gone:List Nat) (t:Nat):List Nat:=gone.filter λk=>decide (t≤told.getD k 0)
theorem gL:k∈bc told n t↔k<n∧t≤told.getD k 0:=by unfold bc;simp
include O in
theorem fJ:k∈bi told gone t↔k<n∧t≤told.getD k 0:=by unfold bi;rw[GB,O.mem];simp
include O in
theorem pG:(bi told gone t).Nodup:=O.nd.filter _
theorem mG (h:k∈l):l[l.idxOf k]?=EU k:=by
 have:=Gi h;rw[E2 this];simp
theorem gP (nd:l.Nodup) (h:l[i]?=EU k):l.idxOf k=i:=by
 obtain ⟨hl,e⟩:=E5.mp h;have h2:=Gi (show k∈l from e▸Fy _);have h3:l[l.idxOf k]=k:=s!"4"
 have pw:=FX.mp nd;rcases Oa (l.idxOf k) i with h|h|h
 ·exact absurd (h3.trans e.symm) (pw _ _ h2 hl h)
 ·exact h
 ·exact absurd (e.trans h3.symm) (pw _ _ hl h2 h)
theorem nE {p:Nat->Bool}:∀{l:List Nat},l.Nodup->∀{a b:Nat},a∈l->b∈l->p a=true->p b=true->(Bf (l.filter p) a b↔Bf l a b)
 | [],_,a,b,ha,_,_,_=>by cases ha
 |x::l,nd,a,b,ha,hb,pa,pb=>by
  obtain ⟨nx,nd⟩:=G3.mp nd;by_cases hab:a=b
  ·clear hb pb;subst hab;unfold Bf;simp
  by_cases h1:x=a
  ·clear ha;subst h1;have:b∈l:=(FF.mp hb).resolve_left (E8 hab);rw[GK pa];unfold Bf;rw[HY,HY,G4,G4,beq_false_of_ne hab];simp
  ·by_cases h2:x=b
   ·clear hb hab;subst h2;rw[GK pb];unfold Bf;rw[HY,HY];simp
   ·have ha':a∈l:=(FF.mp ha).resolve_left (E8 h1);have hb':b∈l:=(FF.mp hb).resolve_left (E8 h2);have ih:=nE nd ha' hb' pa pb;unfold Bf at ih⊢;by_cases hx:p x=true
    ·rw[GK hx,G4,G4,G4,G4,beq_false_of_ne h1,beq_false_of_ne h2];simpa using ih
    ·rw[Ho hx,G4 (xs:=l),G4 (xs:=l),beq_false_of_ne h1,beq_false_of_ne h2];simpa using ih
include O in
theorem tZ {a:Nat} (ha:a∈bi told gone t) (hb:b∈bi told gone t):Bf (bi told gone t) a b↔Bf gone a b:=by
 have h1:=GB.mp ha;have h2:=GB.mp hb;exact nE O.nd h1.1 h2.1 h1.2 h2.2
noncomputable def fQ (told:List Nat) (W:Nat->Str) (m1:Str) (n t:Nat):List Str:=bb ((bc told n t).map W) m1
noncomputable def ey (told gone:List Nat) (W:Nat->Str) (m2:Str) (t:Nat):List Str:=bb ((bi told gone t).map W) m2
theorem i5 {W:Nat->Str} (h:(l.map W)[i]?=EU x):∃k,l[i]?=EU k∧k∈l∧W k=x:=by
 rw[Fx] at h;refine ad (Gc.mp h) λk h1 h2=>?_;exact (aR k h1 (GZ h1) h2)
include O w in
theorem iN (hx:x≠m2) (hi:(ey told gone W m2 t)[i]?=EU x) (hj:(ey told gone W m2 t)[j]?=EU x):i=j:=by
 rcases cA hi with ⟨i',rfl,h1⟩|⟨i',_,h,_⟩
 ·rcases cA hj with ⟨j',rfl,h2⟩|⟨j',_,h,_⟩
  ·refine aV (i5 h1) λk a1 a2 a3=>?_;refine aV (i5 h2) λk' b1 b2 b3=>?_;have:=w.inj k k' ((fJ O).mp a2).1 ((fJ O).mp b2).1 (a3.trans b3.symm);clear b2 b3;subst this;rw[←gP (pG O) a1,←gP (pG O) b1]
  ·exact absurd h hx
 ·exact absurd h hx
include w in
theorem qg (h:(fQ told W m1 n t)[i]?=EU x):x≠m2:=by
 rcases cA h with ⟨j,_,h⟩|⟨j,_,rfl,_⟩
 ·refine aV (i5 h) λk h1 h2 z1=>?_;clear h;subst z1;exact w.n2 k (gL.mp h2).1
 ·exact w.ne
include O w in
theorem y9 (t:Nat):Rows (fQ told W m1 n t) (ey told gone W m2 t) where
 uniq:=λx hx=>by
  refine xe1 (Gg hx) λi z1=>?_;obtain ⟨hi,e⟩:=z1;have:=qg w (E5.mpr ⟨hi,e⟩);exact xu λi j h1 h2=>iN O w this h1 h2
 adj:=λi j a b h1 h2 h3 h4=>by
  rcases cA h2 with ⟨j',rfl,h⟩|⟨_,_,h,_⟩
  ·rcases cA h1 with ⟨i',rfl,h'⟩|⟨_,_,h',_⟩
   ·rcases cA h3 with ⟨_,e,_⟩|⟨_,_,e3,_⟩
    ·exact wO e
    ·rcases cA h4 with ⟨_,e,_⟩|⟨_,_,e4,_⟩
     ·exact wO e
     ·exact w.ne (e3.symm.trans e4)
   ·clear h1 h3;subst h';refine aV (i5 h) λk _ k2 k3=>?_;exact w.n1 k ((fJ O).mp k2).1 k3
  ·exact qg w h1 h
noncomputable def ce (told gone:List Nat) (n t:Nat) (l:List Nat):List (Nat×Nat):=(l.filter λk=>decide (told.getD k 0=t)).map λk=>(2*(bc told n t).idxOf k,2*(bi told gone t).idxOf k)
include O w in
theorem sk:hit (fQ told W m1 n t) (ey told gone W m2 t) b (ey told gone W m2 t).length (2*i+1)=none:=by
 refine ve λj x h1 h2 _=>?_;rcases cA h1 with ⟨_,e,_⟩|⟨_,_,rfl,_⟩
 ·exact wO e
 ·rcases cA h2 with ⟨_,_,h⟩|⟨_,_,h,_⟩
  ·refine aV (i5 h) λk _ k2 k3=>?_;exact w.n1 k ((fJ O).mp k2).1 k3
  ·exact w.ne h
include O in
theorem jC:k∈bc told n t↔k∈bi told gone t:=by rw[gL,fJ O]
include O w in
theorem ig (t:Nat) (ht1:1≤t):∀(suf pre:List Nat) (a b:Nat),bc told n t=pre++suf->a≤2*pre.length->(∀i',a≤i'->i'<2*pre.length->hit (fQ told W m1 n t) (ey told gone W m2 t) b (ey told gone W m2 t).length i'=none)->
 (∀k∈pre,2*(bi told gone t).idxOf k<b)->(b=0∨∃k∈pre,told.getD k 0=t∧b=2*(bi told gone t).idxOf k+1)->d6 (fQ told W m1 n t) (ey told gone W m2 t) a b (ce told gone n t suf)
 | [],pre,a,b,e,ha,hno,_,_=>by
  show fhp _ _ _ _ _ _=none;refine eX λi h1 h2=>hno i h1 ?_;rw[Hh] at e;have:(fQ told W m1 n t).length=2*pre.length-1:=by unfold fQ;rw[eD,EZ,e]
  exact E1 (vV h1 h2) (EY (E6 this) (KB _ _))
 |k::suf,pre,a,b,e,ha,hno,hpre,hb=>by
  have hk:k∈bc told n t:=by rw[e];simp
  have hk':=(jC O).mp hk;have hkn:=(gL.mp hk)
  have hsort:(bc told n t).Pairwise (·<·):=Jq.filter _ ME
  have hlt:∀x∈pre,x<k:=λx hx=>by
   rw[e] at hsort;exact (GJ.mp hsort).2.2 x hx k (Fn ..)
  have hin:∀x,x<k->x∈bc told n t->x∈pre:=λx hx hc=>by
   rw[e] at hc hsort;rcases F2.mp hc with h|h
   ·exact h
   ·rcases FF.mp h with rfl|h
    ·exact (EH hx).elim
    ·have:=Ge (GJ.mp hsort).2.1 h;exact (Fz _ (Fq hx this)).elim
  have eA:(fQ told W m1 n t)[2*pre.length]?=EU (W k):=by
   unfold fQ;rw[gA,Fx,e,Hc (Fd _)];simp
  have eB:(ey told gone W m2 t)[2*(bi told gone t).idxOf k]?=EU (W k):=by
   unfold ey;rw[gA,Fx,mG hk'];rfl
  have lA:=(E5.mp eA).1;have lB:=(E5.mp eB).1;have idx_pre:(bc told n t).idxOf k=pre.length:=gP (hsort.imp λh=>Fh h) (by rw[e,Hc (Fd _)];simp);by_cases ht:told.getD k 0=t
  ·have hbk:b≤2*(bi told gone t).idxOf k:=by
    rcases hb with rfl|⟨k0,h0,h1,rfl⟩
    ·exact FY _
    ·have k0c:k0∈bc told n t:=by rw[e];exact GI _ h0
     have k0l:=(jC O).mp k0c
     have hne:(bi told gone t).idxOf k0≠(bi told gone t).idxOf k:=λh=>by
      have z:=mG k0l;rw[h,mG hk'] at z;clear h1 hno hpre k0c k0l h;cases z;exact Fz _ (hlt _ h0)
     by_cases hh:Bf (bi told gone t) k k0
     ·have:=O.up k k0 hkn.1 (hlt _ h0) ((tZ O hk' k0l).mp hh);exact absurd this (F9.mpr (E6 (ht.trans h1.symm)))
     ·unfold Bf at hh;exact (Nat.mul_lt_mul_left s!"d").mpr (Gf (F9.mp hh) hne)
   have hit0:=Aq (blo:=b) (bhi:=(ey told gone W m2 t).length) eA eB (λi j h1 h2=>iN O w (w.n2 k hkn.1) h1 h2) hbk lB
   have ed:ce told gone n t (k::suf)=(2*pre.length,2*(bi told gone t).idxOf k)::ce told gone n t suf:=by
    unfold ce;rw[GK (by simpa using ht),FV,idx_pre]
   rw[ed];refine ⟨uJ hit0 ha (by exact E1 lA (Nat.sub_le_iff_le_add'.mp (Fd _))) hno,?_⟩;refine ig t ht1 suf (pre++[k]) (2*pre.length+1) (2*(bi told gone t).idxOf k+1) (by rw[e,Gh];rfl) (by simp;exact HZ _) (λi' h1 h2=>?_) (λx hx=>?_) (.inr (aR k s!"4" ht rfl))
   ·rw[E7,M6] at h2;have:i'=2*pre.length+1:=by exact GF (FD h2) h1
    clear h1 h2;subst this;exact sk O w
   ·rcases F2.mp hx with hx|hx
    ·have:=hpre x hx;exact GN (E1 this hbk)
    ·rw[FW.mp hx];exact Fd _
  ·have hit0:hit (fQ told W m1 n t) (ey told gone W m2 t) b (ey told gone W m2 t).length (2*pre.length)=none∧2*(bi told gone t).idxOf k<b:=by
    have:2*(bi told gone t).idxOf k<b:=by
     rcases O.ex k hkn.1 with h1|⟨e0,h1,h2,h3⟩
     ·have:=hkn.2;exact absurd (GF (by rw[h1];exact ht1) hkn.2) ht
     ·have e0c:e0∈bc told n t:=gL.mpr ⟨by exact Fq h1 hkn.1,by have:=hkn.2;exact FD (E1 (Gf hkn.2 (E8 ht)) (E6 h3))⟩;have e0l:=(jC O).mp e0c;have h4:=(tZ O hk' e0l).mpr h2;have h5:=hpre e0 (hin e0 h1 e0c);unfold Bf at h4;exact E3 (FI 2 (Fs h4)) h5
    refine ⟨ve λj x h1 h2 h3=>?_,this⟩;rw[eA] at h1;cases h1;have:=iN O w (w.n2 k hkn.1) h2 eB;exact Fz _ (E1 (E3 (E6 this) ‹_›) h3)
   have ed:ce told gone n t (k::suf)=ce told gone n t suf:=by
    unfold ce;rw[Ho (by simpa using ht)]
   rw[ed];refine ig t ht1 suf (pre++[k]) a b (by rw[e,Gh];rfl) (by simp;exact EY ha (FI 2 (HZ _))) (λi' h1 h2=>?_) (λx hx=>?_) ?_
   ·rw[E7,M6] at h2;by_cases h3:i'<2*pre.length
    ·exact hno i' h1 h3
    ·by_cases h4:i'=2*pre.length
     ·clear h1 h2 h3;subst h4;exact hit0.1
     ·have:i'=2*pre.length+1:=by exact GF (FD h2) (Gf (F9.mp h3) (E8 h4))
      clear h1 h2 h3 h4;subst this;exact sk O w
   ·rcases F2.mp hx with hx|hx
    ·exact hpre x hx
    ·rw[FW.mp hx];exact hit0.2
   ·rcases hb with h|⟨k0,h0,h1,h2⟩
    ·exact .inl h
    ·exact .inr (aR k0 (GI _ h0) h1 h2)
include O w in
theorem qT (ht:1≤t):d6 (fQ told W m1 n t) (ey told gone W m2 t) 0 0 (ce told gone n t (bc told n t)):=
 ig O w t ht (bc told n t) [] 0 0 rfl (FY _) (λi' h1 h2=>by simp at h2) (λk h=>by simp at h) (.inl rfl)
noncomputable def eC (told:List Nat) (n t:Nat):List Nat:=(F7 n).filter λk=>decide (told.getD k 0=t)
theorem lW:k∈eC told n t↔k<n∧told.getD k 0=t:=by unfold eC;simp
theorem rM (t:Nat):(bc told n t).filter (λk=>decide (told.getD k 0=t))=eC told n t:=by
 unfold bc eC;rw[Kz];refine KN λk _=>?_;rw[Ig];simp only[Fc,decide_eq_true_eq];exact ⟨And.left,λz_h=>⟨z_h,E6 z_h.symm⟩⟩
theorem wI (t:Nat):(bc told n t).filter (λk=>decide (told.getD k 0≠t))=bc told n (t+1):=by
 unfold bc;rw[Kz];refine KN λk _=>?_;rw[Ig];simp only[Fc,decide_eq_true_eq];exact zS
theorem wJ (t:Nat):(bi told gone t).filter (λk=>decide (told.getD k 0≠t))=bi told gone (t+1):=by
 unfold bi;rw[Kz];refine KN λk _=>?_;rw[Ig];simp only[Fc,decide_eq_true_eq];exact zS
include O in
theorem yP:bc told n 1=F7 n:=by
 unfold bc;refine Kq.mpr λk hk=>decide_eq_true (O.pos k (by simpa using hk))
include O in
theorem yI:bi told gone 1=gone:=by
 unfold bi;exact Kq.mpr λk hk=>decide_eq_true (O.pos k ((O.mem k).mp hk))
theorem mP:∀{a b:List Nat},a.Pairwise (·<·)->b.Pairwise (·<·)->(∀k,k∈a↔k∈b)->a=b
 | [],[],_,_,_=>rfl
 | [],x::b,_,_,h=>absurd ((h x).mpr s!"4") s!"4"
 |x::a,[],_,_,h=>absurd ((h x).mp s!"4") s!"4"
 |x::a,y::b,ha,hb,h=>by
  have h1:x=y:=by
   rcases FF.mp ((h x).mp s!"4") with e|e
   ·exact e
   ·rcases FF.mp ((h y).mpr s!"4") with e2|e2
    ·exact e2.symm
    ·have:=Ge hb e;have:=Ge ha e2;exact Er ‹_› this
  subst h1;rw[mP ha.of_cons hb.of_cons λk=>?_];have:=h k;constructor
  ·intro hk;rcases FF.mp (this.mp (Fj _ hk)) with e|e
   ·clear hb h this;subst e;exact absurd (Ge ha hk) (Fz _)
   ·exact e
  ·intro hk;rcases FF.mp (this.mpr (Fj _ hk)) with e|e
   ·clear ha h this;subst e;exact absurd (Ge hb hk) (Fz _)
   ·exact e
include O in
theorem w8 (t:Nat):gone.filter (λk=>decide (told.getD k 0=t))=eC told n t:=by
 refine mP ?_ (Jq.filter _ ME) λk=>by rw[lW,GB,O.mem];simp
 have pw:gone.Pairwise λa b=>told.getD a 0=told.getD b 0->a<b:=by
  refine FX.mpr λi j hi hj hij e=>?_;have b1:gone.idxOf gone[i]=i:=gP O.nd (E2 hi);have b2:gone.idxOf gone[j]=j:=gP O.nd (E2 hj);by_cases h:gone[i]<gone[j]
  ·exact h
  ·have h0:gone[j]≠gone[i]:=λe=>by rw[e,b1] at b2;exact Fz _ (E1 hij (E6 (I4 b2)))
   have:=O.up gone[i] gone[j] ((O.mem _).mp (Fy _)) (by exact Gf (F9.mp h) h0) (by unfold Bf;exact E1 (E3 (E6 b1) hij) (E6 (I4 b2)));exact Dy e this
 refine List.pairwise_filter.mpr (pw.imp λh p q=>?_);exact h ((of_decide_eq_true p).trans (of_decide_eq_true q).symm)
end
end
section
theorem pH (x:Str) (l u:Option Int):cut x l u=StrLaws.sliceText x l u:=rfl
theorem eO (x:Str) (c:Nat):Fb x ⟨#[c]⟩=decide (c∈x.cps.toList):=StrLaws.found_one x c
theorem zE {c:Nat} {l:List Nat} (h:x.cps.toList.drop i=c::l):cut x (EU (i:Int)) (EU ((i:Int)+1))=⟨#[c]⟩:=by
 have hl:i<x.cps.toList.length:=by
  rcases PF i x.cps.toList.length with h1|h1
  ·exact h1
  ·rw[MF h1] at h;cases h
 rw[pH,StrLaws.sliceText_plain (ia2 (by exact dX) (by exact D7) (by exact FO.mpr hl))];have e:((i:Int)).toNat=i:=by exact o33
 have e2:(((i:Int)+1)-(i:Int)).toNat=1:=by exact DK
 rw[e,e2,h];rfl
theorem BW (c:Nat):cut ((⟨#[c]⟩:Str)++EW " ") none (EU (-1))=⟨#[c]⟩:=by
 have e:(⟨#[c]⟩:Str)++EW " " =⟨#[c,32]⟩:=by
  show (⟨#[c]++(EW " ").cps⟩:Str)=_;rw[show (EW " ").cps= #[32] by decide+kernel];rfl
 rw[e,pH,StrLaws.sliceText_to_neg s!"d" (by show-((2:Nat):Int)≤-1;decide)];rfl
theorem fS {pos x:Nat} {l:List Nat} (h:buf.cps.toList.drop pos=x::l):rd1 buf pos=(⟨#[x]⟩,pos+1)∧buf.cps.toList.drop (pos+1)=l∧pos+1≤buf.length:=by
 have hl:pos<buf.cps.toList.length:=by
  rcases PF pos buf.cps.toList.length with h1|h1
  ·exact h1
  ·rw[MF h1] at h;cases h
 have hl':pos<buf.length:=by simpa[KK] using hl
 refine (ia2 ?_ ?_ hl')
 ·unfold rd1;rw[if_pos hl',zE h,BW]
 ·rw[←ON,h];rfl
theorem x8 {pos:Nat} (h:buf.cps.toList.drop pos=[]):rd1 buf pos=(EW "",pos):=by
 have hl:buf.cps.toList.length≤pos:=List.drop_eq_nil_iff.mp h;unfold rd1;rw[if_neg (by simp[KK] at hl⊢;exact o84 hl)]
noncomputable def cf (Pc buf:Str) (pos:Nat) (pb:Option Str) (l:List Nat):Prop:=match pb with
 |none=>buf.cps.toList.drop pos=l
 |some c=>(Pc.length !=0)=true∧∃x l',c=⟨#[x]⟩∧l=x::l'∧buf.cps.toList.drop pos=l'
noncomputable def gC (W Pc buf:Str) (Ks:LS->Prop) (ls:LS):Prop:=∃n,g9 W Pc buf Ks n ls
section
variable {W Pc buf:Str} {Ks:LS->Prop} {st:Option Str} {tok:Str} {pos:Nat} {pb:Option Str} {q:Bool} {esc:Str} {x:Nat} {l:List Nat}
theorem yt (ok:okS ⟨st,tok,pos,pb,q,esc⟩) (h:cf Pc buf pos pb (x::l)) {Kg:LS->Prop}
 (k:∀pos',cf Pc buf pos' none l->az W Pc buf Kg Ks ⟨#[x]⟩ ⟨st,tok,pos',none,q,esc⟩):oK W Pc buf Kg Ks ⟨st,tok,pos,pb,q,esc⟩:=by
 refine ⟨ok,?_⟩
 cases pb with
 |none=>
  refine xa2 (fS h) λe h2 _=>?_;dsimp only;rw[e,ite_self];exact k _ h2
 |some c=>
  refine jD h λhP y l' z1 z2=>?_;clear h;subst z1;refine xa1 z2 λe h2=>?_;clear z2;clear ok;cases e;rw[if_pos hP];exact k _ h2
theorem vP (ok:okS ⟨st,tok,pos,none,q,esc⟩) (h:cf Pc buf pos none []) {Kg:LS->Prop}
 (k:az W Pc buf Kg Ks "" ⟨st,tok,pos,none,q,esc⟩):oK W Pc buf Kg Ks ⟨st,tok,pos,none,q,esc⟩:=by
 refine ⟨ok,?_⟩;dsimp only;rw[x8 h,ite_self];exact k
theorem goE {st':Option Str} {tok':Str} {q':Bool} {esc':Str} (ok:okS ⟨st,tok,pos,pb,q,esc⟩) (h:cf Pc buf pos pb (x::l))
 (t:∀(Kg:LS->Prop) pos',az W Pc buf Kg Ks ⟨#[x]⟩ ⟨st,tok,pos',none,q,esc⟩=Kg ⟨st',tok',pos',none,q',esc'⟩)
 (k:∀pos',cf Pc buf pos' none l->gC W Pc buf Ks ⟨st',tok',pos',none,q',esc'⟩):gC W Pc buf Ks ⟨st,tok,pos,pb,q,esc⟩:=by
 have hx:∃pos',cf Pc buf pos' none l:=by
  cases pb with
  |none=>exact ⟨_,(fS h).2.1⟩
  |some c=>refine jD h λ_ y l' _ z1=>?_;clear h;obtain ⟨e,h2⟩:=z1;cases e;exact ⟨_,h2⟩
 cases pb with
 |none=>
  refine xa2 (fS h) λe h2 _=>?_;refine xe1 (k _ h2) λn hn=>?_;refine ⟨n+1,ok,?_⟩;dsimp only;rw[e,ite_self,t];exact hn
 |some c=>
  refine jD h λhP y l' z1 z2=>?_;clear h;subst z1;refine xa1 z2 λe h2=>?_;clear z2;cases e;refine xe1 (k _ h2) λn hn=>?_;refine ⟨n+1,ok,?_⟩;rw[if_pos hP];dsimp only;rw[t];exact hn
theorem CT (ok:okS ⟨st,tok,pos,pb,q,esc⟩) (h:cf Pc buf pos pb (x::l))
 (k:∀pos',cf Pc buf pos' none l->az W Pc buf (λ_=>False) Ks ⟨#[x]⟩ ⟨st,tok,pos',none,q,esc⟩):gC W Pc buf Ks ⟨st,tok,pos,pb,q,esc⟩:=
 ⟨1,yt ok h k⟩
theorem vO (ok:okS ⟨st,tok,pos,none,q,esc⟩) (h:cf Pc buf pos none [])
 (k:az W Pc buf (λ_=>False) Ks "" ⟨st,tok,pos,none,q,esc⟩):gC W Pc buf Ks ⟨st,tok,pos,none,q,esc⟩:=⟨1,vP ok h k⟩
end
theorem zC {pos y:Nat} {l:List Nat} (h:buf.cps.toList.drop pos=y::10::l) (hy:y≠10):rdl buf pos=pos+2:=by
 have e0:buf.cps.toList[pos]?=EU y:=by
  have:(buf.cps.toList.drop pos)[0]?=EU y:=by rw[h];rfl
  rwa [I9] at this
 have e1:buf.cps.toList[pos+1]?=EU 10:=by
  have:(buf.cps.toList.drop pos)[1]?=EU 10:=by rw[h];rfl
  rwa [I9] at this
 have l1:pos+1<buf.length:=by
  have:=(E5.mp e1).1;simpa[KK] using this
 have hnl:EW "\n" =⟨#[10]⟩:=s!"1"
 have occ:QX buf ⟨#[10]⟩ pos buf.length 1=[pos+1]:=by
  rw[StrLaws.occ_eq]
  have r:K9 pos (buf.length+1-pos)=pos::(pos+1)::K9 (pos+2) (buf.length+1-pos-2):=by
   rw[show buf.length+1-pos=(buf.length+1-pos-2)+1+1 by exact (GV (m:=2) (Nat.le_sub_of_add_le (EY (E6 (G7 2 _)) (GO l1)))).symm,Ob,Ob];congr 3
  rw[r,G2];unfold He
  rw[if_neg (λhh=>by
   have:=(Ng buf 10 pos).mp ⟨hh.1.2,hh.2⟩;rw[e0] at this;clear h e0;cases this;exact hy rfl)]
  show (forIn ((pos+1)::K9 (pos+2) (buf.length+1-pos-2)) ((#[]:Array Nat),pos) (He buf ⟨#[10]⟩ buf.length 1)).run.fst.toList=[pos+1];rw[G2];have z:=(Ng buf 10 (pos+1)).mpr e1
  have st:He buf ⟨#[10]⟩ buf.length 1 (pos+1) ((#[]:Array Nat),pos)=pure (H3 (#[pos+1],pos+2)):=by
   unfold He;rw[if_pos ⟨⟨⟨by show 0<1;decide,by show pos≤pos+1;exact BP⟩,z.1⟩,z.2⟩];rfl
  rw[st];show (forIn (K9 (pos+2) (buf.length+1-pos-2)) (#[pos+1],pos+2) (He buf ⟨#[10]⟩ buf.length 1)).run.fst.toList=[pos+1]
  have stay:∀(ks:List Nat) (f:Nat),(forIn ks (#[pos+1],f) (He buf ⟨#[10]⟩ buf.length 1)).run.fst= #[pos+1]:=by
   intro ks
   induction ks with
   |nil=>intro f;rfl
   |cons a ks ih=>
    intro f;rw[G2]
    have:He buf ⟨#[10]⟩ buf.length 1 a (#[pos+1],f)=pure (H3 (#[pos+1],f)):=by
     unfold He;rw[if_neg (λhh=>absurd hh.1.1.1 (by show¬(1<1);decide))]
    rw[this];exact ih f
  rw[stay]
 have f:fnd buf "\n" (pos:Int) (buf.length:Int)=((pos+1:Nat):Int):=by
  unfold fnd;rw[hnl];have a1:fromIndex buf.length (pos:Int)=pos:=by unfold fromIndex;rw[if_neg (by exact tB)];exact rfl
  have a2:min (fromIndex buf.length (buf.length:Int)) buf.length=buf.length:=by unfold fromIndex;rw[if_neg (by exact tB)];exact Dw
  rw[a1,a2,occ]
 unfold rdl;rw[if_pos (by exact Fs l1),f,if_pos (by exact Ff _)];exact rfl
end
section
structure Cl (W Pc:Str) (x:Nat) (ws ha bs w p qu:Bool):Prop where
 ws:Fb (EW " \t\r\n") ⟨#[x]⟩=ws
 ha:Fb (EW "#") ⟨#[x]⟩=ha
 bs:Fb (EW "\\") ⟨#[x]⟩=bs
 w:Fb W ⟨#[x]⟩=w
 p:Fb Pc ⟨#[x]⟩=p
 qu:Fb (EW "'\"") ⟨#[x]⟩=qu
theorem bn (x:Nat):((⟨#[x]⟩:Str).length !=0)=true:=rfl
theorem rV:((EW "").length !=0)=false:=s!"1"
theorem gN:(EW " " ==EW " ")=true:=s!"1"
theorem ja:(EW "a" ==EW " ")=false:=s!"1"
theorem pB:(EW "c" ==EW " ")=false:=s!"1"
theorem jF:Fb (EW "'\"") (EW "a")=false:=s!"1"
theorem tx:Fb (EW "'\"") (EW "c")=false:=s!"1"
theorem kK:Fb (EW "\\") (EW "a")=false:=s!"1"
theorem tA:Fb (EW "\\") (EW "c")=false:=s!"1"
theorem lE:(EW "a" ==EW "c")=false:=s!"1"
theorem tg:(EW "c" ==EW "c")=true:=s!"1"
theorem rZ:((⟨#[39]⟩:Str)==EW " ")=false:=s!"1"
theorem mL:((⟨#[34]⟩:Str)==EW " ")=false:=s!"1"
theorem mK:((⟨#[92]⟩:Str)==EW " ")=false:=s!"1"
theorem un:Fb (EW "'\"") ⟨#[39]⟩=true:=s!"1"
theorem iP:Fb (EW "'\"") ⟨#[34]⟩=true:=s!"1"
theorem qq:Fb (EW "'\"") ⟨#[92]⟩=false:=s!"1"
theorem kR:Fb (EW "\\") ⟨#[92]⟩=true:=s!"1"
theorem AO:Fb (EW "\"") ⟨#[39]⟩=false:=s!"1"
theorem Bq:Fb (EW "\"") ⟨#[34]⟩=true:=s!"1"
section
variable {W Pc buf:Str} {Kg Ks:LS->Prop} {tok:Str} {pos:Nat} {q:Bool} {esc:Str} {x:Nat} {b1 b2 b3 b4 b5 b6:Bool}
theorem vM (h:Cl W Pc x false false false true b5 b6):az W Pc buf Kg Ks ⟨#[x]⟩ ⟨EU (EW " "),tok,pos,none,q,esc⟩=Kg ⟨EU (EW "a"),⟨#[x]⟩,pos,none,q,esc⟩:=by
 simp[az,tSp,tQu,tEs,tWd,b7,gN,bn,h.ws,h.ha,h.bs,h.w]
theorem sy (h:Cl W Pc x false false false false false true):az W Pc buf Kg Ks ⟨#[x]⟩ ⟨EU (EW " "),tok,pos,none,q,esc⟩=Kg ⟨EU ⟨#[x]⟩,tok,pos,none,q,esc⟩:=by
 simp[az,tSp,tQu,tEs,tWd,b7,gN,bn,h.ws,h.ha,h.bs,h.w,h.p,h.qu]
theorem rQ (h:Fb (EW " \t\r\n") ⟨#[x]⟩=true):az W Pc buf Kg Ks ⟨#[x]⟩ ⟨EU (EW " "),EW "",pos,none,false,esc⟩=Kg ⟨EU (EW " "),EW "",pos,none,false,esc⟩:=by
 simp[az,tSp,tQu,tEs,tWd,b7,gN,bn,h,rV]
theorem zK (h:Cl W Pc x false true b3 b4 b5 b6):az W Pc buf Kg Ks ⟨#[x]⟩ ⟨EU (EW " "),tok,pos,none,q,esc⟩=Kg ⟨EU (EW " "),tok,rdl buf pos,none,q,esc⟩:=by
 simp[az,tSp,tQu,tEs,tWd,b7,gN,bn,h.ws,h.ha]
theorem mM (h:Cl W Pc x false false false false true b6):az W Pc buf Kg Ks ⟨#[x]⟩ ⟨EU (EW " "),tok,pos,none,q,esc⟩=Kg ⟨EU (EW "c"),⟨#[x]⟩,pos,none,q,esc⟩:=by
 simp[az,tSp,tQu,tEs,tWd,b7,gN,bn,h.ws,h.ha,h.bs,h.w,h.p]
theorem gp:az W Pc buf Kg Ks ⟨#[39]⟩ ⟨EU ⟨#[39]⟩,tok,pos,none,q,esc⟩=Kg ⟨EU (EW "a"),tok,pos,none,true,esc⟩:=by
 simp[az,tSp,tQu,tEs,tWd,b7,rZ,un,bn]
theorem gj:az W Pc buf Kg Ks ⟨#[34]⟩ ⟨EU ⟨#[34]⟩,tok,pos,none,q,esc⟩=Kg ⟨EU (EW "a"),tok,pos,none,true,esc⟩:=by
 simp[az,tSp,tQu,tEs,tWd,b7,mL,iP,bn]
theorem vy (hx:x≠39):az W Pc buf Kg Ks ⟨#[x]⟩ ⟨EU ⟨#[39]⟩,tok,pos,none,q,esc⟩=Kg ⟨EU ⟨#[39]⟩,tok++⟨#[x]⟩,pos,none,true,esc⟩:=by
 have e:((⟨#[x]⟩:Str)==⟨#[39]⟩)=false:=by rw[beq_eq_false_iff_ne];intro h;exact hx (by simpa using h)
 cases hb:Fb (EW "\\") ⟨#[x]⟩<;>simp[az,tSp,tQu,tEs,tWd,b7,rZ,un,bn,e,hb,AO]
theorem qr (hx:x≠34) (hb:Fb (EW "\\") ⟨#[x]⟩=false):az W Pc buf Kg Ks ⟨#[x]⟩ ⟨EU ⟨#[34]⟩,tok,pos,none,q,esc⟩=Kg ⟨EU ⟨#[34]⟩,tok++⟨#[x]⟩,pos,none,true,esc⟩:=by
 have e:((⟨#[x]⟩:Str)==⟨#[34]⟩)=false:=by rw[beq_eq_false_iff_ne];intro h;exact hx (by simpa using h)
 simp[az,tSp,tQu,tEs,tWd,b7,mL,iP,bn,e,hb]
theorem yo:az W Pc buf Kg Ks ⟨#[92]⟩ ⟨EU ⟨#[34]⟩,tok,pos,none,q,esc⟩=Kg ⟨EU ⟨#[92]⟩,tok,pos,none,true,⟨#[34]⟩⟩:=by
 have e:((⟨#[92]⟩:Str)==⟨#[34]⟩)=false:=s!"d"
 simp[az,tSp,tQu,tEs,tWd,b7,mL,iP,bn,e,kR,Bq]
theorem Ae (hx:x=34∨x=92):az W Pc buf Kg Ks ⟨#[x]⟩ ⟨EU ⟨#[92]⟩,tok,pos,none,q,⟨#[34]⟩⟩=Kg ⟨EU ⟨#[34]⟩,tok++⟨#[x]⟩,pos,none,q,⟨#[34]⟩⟩:=by
 rcases hx with rfl|rfl
 ·have e:((⟨#[34]⟩:Str) !=⟨#[92]⟩)=true:=s!"d"
  have e2:((⟨#[34]⟩:Str) !=⟨#[34]⟩)=false:=s!"d"
  simp[az,tSp,tQu,tEs,tWd,b7,mK,qq,kR,iP,bn,e,e2]
 ·have e:((⟨#[92]⟩:Str) !=⟨#[92]⟩)=false:=s!"d"
  simp[az,tSp,tQu,tEs,tWd,b7,mK,qq,kR,iP,bn,e]
theorem Ak:az W Pc buf Kg Ks ⟨#[x]⟩ ⟨EU ⟨#[92]⟩,tok,pos,none,q,EW "a"⟩=Kg ⟨EU (EW "a"),tok++⟨#[x]⟩,pos,none,q,EW "a"⟩:=by
 simp[az,tSp,tQu,tEs,tWd,b7,mK,qq,kR,jF,bn]
theorem zY (h:Cl W Pc x false false false b4 b5 true):az W Pc buf Kg Ks ⟨#[x]⟩ ⟨EU (EW "a"),tok,pos,none,q,esc⟩=Kg ⟨EU ⟨#[x]⟩,tok,pos,none,q,esc⟩:=by
 simp[az,tSp,tQu,tEs,tWd,b7,ja,jF,kK,lE,bn,h.ws,h.ha,h.qu]
theorem D0 (h:Cl W Pc x false false true b4 b5 false):az W Pc buf Kg Ks ⟨#[x]⟩ ⟨EU (EW "a"),tok,pos,none,q,esc⟩=Kg ⟨EU ⟨#[x]⟩,tok,pos,none,q,EW "a"⟩:=by
 simp[az,tSp,tQu,tEs,tWd,b7,ja,jF,kK,lE,bn,h.ws,h.ha,h.qu,h.bs]
theorem oF (ht:(tok.length !=0)=true) (h:Fb (EW " \t\r\n") ⟨#[x]⟩=true):az W Pc buf Kg Ks ⟨#[x]⟩ ⟨EU (EW "a"),tok,pos,none,q,esc⟩=Ks ⟨EU (EW " "),tok,pos,none,q,esc⟩:=by
 have ht':¬tok.length=0:=by simpa using ht
 simp[az,tSp,tQu,tEs,tWd,b7,ja,jF,kK,lE,bn,h,ht']
theorem AK (ht:(tok.length !=0)=true) (hP:(Pc.length !=0)=true) (h:Cl W Pc x false false false false b5 false):az W Pc buf Kg Ks ⟨#[x]⟩ ⟨EU (EW "a"),tok,pos,none,q,esc⟩=Ks ⟨EU (EW " "),tok,pos,EU ⟨#[x]⟩,q,esc⟩:=by
 have ht':¬tok.length=0:=by simpa using ht
 have hP':¬Pc.length=0:=by simpa using hP
 simp[az,tSp,tQu,tEs,tWd,b7,ja,jF,kK,lE,bn,h.ws,h.ha,h.bs,h.w,h.qu,ht',hP']
theorem Cu (ht:(tok.length !=0)=true) (h:Fb (EW " \t\r\n") ⟨#[x]⟩=true):az W Pc buf Kg Ks ⟨#[x]⟩ ⟨EU (EW "c"),tok,pos,none,q,esc⟩=Ks ⟨EU (EW " "),tok,pos,none,q,esc⟩:=by
 have ht':¬tok.length=0:=by simpa using ht
 simp[az,tSp,tQu,tEs,tWd,b7,pB,tx,tA,tg,bn,h,ht']
theorem zm (ht:(tok.length !=0)=true) (h:Cl W Pc x false true b3 b4 b5 b6):az W Pc buf Kg Ks ⟨#[x]⟩ ⟨EU (EW "c"),tok,pos,none,q,esc⟩=Ks ⟨EU (EW " "),tok,rdl buf pos,none,q,esc⟩:=by
 have ht':¬tok.length=0:=by simpa using ht
 simp[az,tSp,tQu,tEs,tWd,b7,pB,tx,tA,tg,bn,h.ws,h.ha,ht']
theorem Ew (hP:(Pc.length !=0)=true) (h:Cl W Pc x false false b3 b4 false b6):az W Pc buf Kg Ks ⟨#[x]⟩ ⟨EU (EW "c"),tok,pos,none,q,esc⟩=Ks ⟨EU (EW " "),tok,pos,EU ⟨#[x]⟩,q,esc⟩:=by
 have hP':¬Pc.length=0:=by simpa using hP
 simp[az,tSp,tQu,tEs,tWd,b7,pB,tx,tA,tg,bn,h.ws,h.ha,h.p,hP']
theorem uR:az W Pc buf Kg Ks (EW "") ⟨EU (EW "a"),tok,pos,none,q,esc⟩=Ks ⟨none,tok,pos,none,q,esc⟩:=by
 simp[az,tSp,tQu,tEs,tWd,b7,ja,jF,kK,lE,rV]
theorem A9 {c:Str}:az W Pc buf Kg Ks c ⟨none,tok,pos,none,q,esc⟩=Ks ⟨none,EW "",pos,none,q,esc⟩:=rfl
end
structure Lx (W Pc:Str):Prop where
 le:∀k,k<10->Cl W Pc (97+k) false false false true false false
 q1:Cl W Pc 39 false false false false false true
 q2:Cl W Pc 34 false false false false false true
noncomputable def inW (W:Str) (x:Nat):Bool:=decide (x∈W.cps.toList)
theorem C9 {W Pc:Str} {x:Nat} {ws ha bs w p qu:Bool} (h: [inW (EW " \t\r\n") x,inW (EW "#") x,inW (EW "\\") x,inW W x,inW Pc x,inW (EW "'\"") x]=[ws,ha,bs,w,p,qu]):Cl W Pc x ws ha bs w p qu:=by
 simp only[Jp,and_true] at h;refine xa4 h λh1 h2 h3 h4 z1=>?_;obtain ⟨h5,h6⟩:=z1;exact ⟨(eO _ _).trans h1,(eO _ _).trans h2,(eO _ _).trans h3,(eO _ _).trans h4,(eO _ _).trans h5,(eO _ _).trans h6⟩
noncomputable def clB (W Pc:Str) (x:Nat) (l:List Bool):Bool:=[inW (EW " \t\r\n") x,inW (EW "#") x,inW (EW "\\") x,inW W x,inW Pc x,inW (EW "'\"") x]==l
theorem qI {x:Nat} {ws ha bs w p qu:Bool} (h:clB W Pc x [ws,ha,bs,w,p,qu]=true):Cl W Pc x ws ha bs w p qu:=C9 (beq_iff_eq.mp h)
noncomputable abbrev Pc2:Str:=EW "();<>|&"
theorem xE (h:((F7 10).all (λk=>clB W Pc (97+k) [false,false,false,true,false,false])&&clB W Pc 39 [false,false,false,false,false,true]&&clB W Pc 34 [false,false,false,false,false,true])=true):Lx W Pc:=by
 rw[Fc,Fc,Fm] at h;obtain ⟨⟨h1,h2⟩,h3⟩:=h;exact ⟨λk hk=>qI (h1 k (by simpa using hk)),qI h2,qI h3⟩
theorem lx2:Lx eH Pc2:=xE s!"k"
theorem lx1:Lx shW (EW ""):=xE s!"k"
theorem BZ:Cl eH Pc2 59 false false false false true false:=qI s!"k"
theorem z0:Cl eH Pc2 124 false false false false true false:=qI s!"k"
theorem h8:Fb (EW " \t\r\n") ⟨#[32]⟩=true:=s!"1"
theorem Cl.hash:∃b4 b5,Cl W Pc 35 false true false b4 b5 false:=(ie2 _ _ ⟨s!"1",s!"1",s!"1",rfl,rfl,s!"1"⟩)
theorem Cl.bsl:∃b4 b5,Cl W Pc 92 false false true b4 b5 false:=(ie2 _ _ ⟨s!"1",s!"1",s!"1",rfl,rfl,s!"1"⟩)
end
section
noncomputable def dp:List (List Nat):=[[],[32],[39],[34],[92],[35],[59],[124],[10]]
noncomputable def wd (k:Nat) (s:List Nat):Str:=⟨((97+k)::s).toArray⟩
noncomputable def dh (k:Nat) (s:List Nat) (way:Nat):List Nat:=match way with
 |0=>(97+k)::(match s with| []=>[]|c::_=>[92,c])
 |1=>39::(97+k)::((match s with| []=>[]|c::_=>if c=39 then [39,34,39,34,39] else [c])++[39])
 |_=>34::(97+k)::((match s with| []=>[]|c::_=>if c=34∨c=92 then [92,c] else [c])++[34])
section
variable {W Pc buf:Str} {Ks:LS->Prop} {pos:Nat} {pb:Option Str} {q:Bool} {esc tok:Str} {l:List Nat}
theorem aQ {s:Str} (h:cf Pc buf pos pb l) (h1:tok.length≤500) (h2:s.length≤500) (h3:esc.length≤500):okS ⟨EU s,tok,pos,pb,q,esc⟩:=by
 refine (ia3 h1 (λc hc=>?_) (λc hc=>by cases hc;exact h2) h3);have hc:pb=EU c:=hc;subst hc;refine jD h λ_ x l' z1 _=>?_;clear h;clear hc;subst z1;show 1≤500;decide
theorem uA (x:Nat):EW "" ++(⟨#[x]⟩:Str)=⟨#[x]⟩:=by
 show (⟨(EW "").cps++ #[x]⟩:Str)=_;rw[show (EW "").cps= #[] by decide+kernel];rfl
theorem lsp:(EW " ").length≤500:=s!"1"
theorem la:(EW "a").length≤500:=s!"1"
theorem lc:(EW "c").length≤500:=s!"1"
theorem lem:(EW "").length≤500:=s!"1"
theorem l1 (x:Nat):(⟨#[x]⟩:Str).length≤500:=by show 1≤500;decide
theorem l2 (x y:Nat):(⟨#[x,y]⟩:Str).length≤500:=by show 2≤500;decide
theorem wc (L:Lx W Pc) (hk:k<10) {s:List Nat} (hs:s∈dp) {way:Nat} (hw:way<3) (h:cf Pc buf pos pb (dh k s way++l))
 (K:∀pos' q' (esc':Str),cf Pc buf pos' none l->esc'.length≤500->gC W Pc buf Ks ⟨EU (EW "a"),wd k s,pos',none,q',esc'⟩):
 gC W Pc buf Ks ⟨EU (EW " "),EW "",pos,pb,false,EW " "⟩:=by
 have cle:=L.le k hk;refine xe2 (Cl.bsl (W:=W) (Pc:=Pc)) λb4 b5 cb=>?_
 match way,hw with
 |0,_=>
  unfold dh at h;refine goE (aQ h lem lsp lsp) h (λKg p=>vM cle) λp1 h=>?_
  match s,hs with
  | [],_=>exact K _ _ _ h lsp
  | [c],hs=>
   refine goE (aQ h (l1 _) la lsp) h (λKg p=>D0 cb) λp2 h=>?_;refine goE (aQ h (l1 _) (l1 _) la) h (λKg p=>Ak) λp3 h=>?_;exact K _ _ _ h la
  |_::_::_,hs=>simp[dp] at hs
 |1,_=>
  unfold dh at h;refine goE (aQ h lem lsp lsp) h (λKg p=>sy L.q1) λp1 h=>?_;refine goE (aQ h lem (l1 _) lsp) h (λKg p=>vy (by exact Ek)) λp2 h=>?_;rw[uA]
  match s,hs with
  | [],_=>
   refine goE (aQ h (l1 _) (l1 _) lsp) h (λKg p=>gp) λp3 h=>?_;exact K _ _ _ h lsp
  | [c],hs=>
   dsimp only at h;by_cases hc:c=39
   ·clear hs;subst hc;rw[if_pos rfl] at h;refine goE (aQ h (l1 _) (l1 _) lsp) h (λKg p=>gp) λp3 h=>?_;refine goE (aQ h (l1 _) la lsp) h (λKg p=>zY L.q2) λp4 h=>?_;refine goE (aQ h (l1 _) (l1 _) lsp) h (λKg p=>qr s!"d" (L.q1).bs) λp5 h=>?_;refine goE (aQ h (l2 _ _) (l1 _) lsp) h (λKg p=>gj) λp6 h=>?_;refine goE (aQ h (l2 _ _) la lsp) h (λKg p=>zY L.q1) λp7 h=>?_;refine goE (aQ h (l2 _ _) (l1 _) lsp) h (λKg p=>gp) λp8 h=>?_;exact K _ _ _ h lsp
   ·rw[if_neg hc] at h;refine goE (aQ h (l1 _) (l1 _) lsp) h (λKg p=>vy hc) λp3 h=>?_;refine goE (aQ h (l2 _ _) (l1 _) lsp) h (λKg p=>gp) λp4 h=>?_;exact K _ _ _ h lsp
  |_::_::_,hs=>simp[dp] at hs
 |2,_=>
  unfold dh at h;refine goE (aQ h lem lsp lsp) h (λKg p=>sy L.q2) λp1 h=>?_;refine goE (aQ h lem (l1 _) lsp) h (λKg p=>qr (by exact DA) cle.bs) λp2 h=>?_;rw[uA]
  match s,hs with
  | [],_=>
   refine goE (aQ h (l1 _) (l1 _) lsp) h (λKg p=>gj) λp3 h=>?_;exact K _ _ _ h lsp
  | [c],hs=>
   dsimp only at h;by_cases hc:c=34∨c=92
   ·rw[if_pos hc] at h;refine goE (aQ h (l1 _) (l1 _) lsp) h (λKg p=>yo) λp3 h=>?_;refine goE (aQ h (l1 _) (l1 _) (l1 _)) h (λKg p=>Ae hc) λp4 h=>?_;refine goE (aQ h (l2 _ _) (l1 _) (l1 _)) h (λKg p=>gj) λp5 h=>?_;exact K _ _ _ h (l1 _)
   ·rw[if_neg hc] at h
    have hb:Fb (EW "\\") ⟨#[c]⟩=false:=by
     rw[eO];have e:(EW "\\").cps.toList=[92]:=s!"1"
     rw[e];simp;exact λe=>hc (.inr e)
    refine goE (aQ h (l1 _) (l1 _) lsp) h (λKg p=>qr (λe=>hc (.inl e)) hb) λp3 h=>?_;refine goE (aQ h (l2 _ _) (l1 _) lsp) h (λKg p=>gj) λp4 h=>?_;exact K _ _ _ h lsp
  |_::_::_,hs=>simp[dp] at hs
end
structure T4 where
 k:Nat
 s:List Nat
 way:Nat
 gap:Nat
structure T4.Ok (t:T4):Prop where
 k:t.k<10
 s:t.s∈dp
 way:t.way<3
 gap:t.gap<3
noncomputable def T4.w (t:T4):Str:=wd t.k t.s
noncomputable def T4.d (t:T4):List Nat:=dh t.k t.s t.way
noncomputable def fo (mk:Nat):Nat->List Nat
 |0=>[mk]
 |1=>[32,mk,32]
 |_=>[mk,35,39,10]
noncomputable def cj (mk:Nat):List T4->List Nat
 | []=>[]
 |t::ts=>fo mk t.gap++(t.d++cj mk ts)
theorem iT (t:T4):(t.w==EW "")=false:=by
 rw[beq_eq_false_iff_ne];intro h;have:t.w.cps.size=(EW "").cps.size:=by rw[h]
 rw[show (EW "").cps.size=0 by decide+kernel] at this;simp[T4.w,wd] at this
theorem jE (t:T4):(t.w.length !=0)=true:=by simp[T4.w,wd,KK]
theorem fe {t:T4} (h:t.Ok):t.w.length≤500:=by
 have:=h.s;simp only[dp,FF,List.not_mem_nil,or_false] at this;rcases this with e|e|e|e|e|e|e|e|e<;>(unfold T4.w wd;rw[e];show _≤500;exact Fo rfl)
theorem de {st:Option Str} {pos:Nat} {q:Bool} (h:(tok==EW "")=false):cy ⟨st,tok,pos,pb,q,esc⟩= .s tok:=by
 have h':¬tok=EW "" :=by simpa using h
 cases q<;>simp[cy,h']
section
variable {pos:Nat} {l:List Nat}
variable {W Pc buf:Str}
theorem mV (h:cf Pc buf pos none []):Reads W Pc buf [] none pos none:=
 vO (ia3 lem (λc hc=>by cases hc) (λc hc=>by cases hc) lsp) h (by rw[A9];exact uI s!"1")
theorem fz {t:T4} (L:Lx W Pc) (ht:t.Ok) {toks:List Str} (h:cf Pc buf pos pb (t.d++l))
 (K:∀pos' q' (esc':Str),cf Pc buf pos' none l->esc'.length≤500->gC W Pc buf (λls=>cy ls= .s t.w∧Reads W Pc buf toks ls.st ls.pos ls.pb) ⟨EU (EW "a"),t.w,pos',none,q',esc'⟩):
 Reads W Pc buf (t.w::toks) (EU (EW " ")) pos pb:=wc L ht.k ht.s ht.way h K
theorem ss {y:Nat} (h:cf Pc buf pos none (y::10::l)) (hy:y≠10):cf Pc buf (rdl buf pos) none l:=by
 rw[zC h hy];show Mu (pos+2) _=l;rw[←ON,show Mu pos buf.cps.toList=y::10::l from h];rfl
noncomputable def jx (m:Str):List T4->List Str
 | []=>[]
 |t::ts=>m::t.w::jx m ts
theorem yJ (t:T4) (h:t.Ok):∃x l,t.d=x::l∧(x=97+t.k∨x=39∨x=34):=by
 obtain ⟨k,s,way,gap⟩:=t;have:=h.way;dsimp only at this;unfold T4.d dh
 match way,this with
 |0,_=>exact (cz _ _ rfl (.inl rfl))
 |1,_=>exact (cz _ _ rfl (.inr (.inl rfl)))
 |2,_=>exact (cz _ _ rfl (.inr (.inr rfl)))
theorem goM (P:LS->Prop) {Ks:LS->Prop} {st:Option Str} {q:Bool} {x:Nat} {ls':Nat->LS} (ok:okS ⟨st,tok,pos,pb,q,esc⟩) (h:cf Pc buf pos pb (x::l))
 (t:∀pos',az W Pc buf (λ_=>False) Ks ⟨#[x]⟩ ⟨st,tok,pos',none,q,esc⟩=Ks (ls' pos')) (k:∀pos',cf Pc buf pos' none l->Ks (ls' pos')):gC W Pc buf Ks ⟨st,tok,pos,pb,q,esc⟩:=
 CT ok h λpos' h'=>by rw[t];exact k pos' h'
theorem lg {mk:Nat} (L:Lx W Pc) (hP:(Pc.length !=0)=true) (cm:Cl W Pc mk false false false false true false):
 ∀(ts:List T4),(∀t∈ts,t.Ok)->∀(t0:T4),t0.Ok->∀(pos:Nat) (q:Bool) (esc:Str),cf Pc buf pos none (cj mk ts)->esc.length≤500->
  gC W Pc buf (λls=>cy ls= .s t0.w∧Reads W Pc buf (jx ⟨#[mk]⟩ ts) ls.st ls.pos ls.pb) ⟨EU (EW "a"),t0.w,pos,none,q,esc⟩
 | [],_,t0,ok0,pos,q,esc,h,he=>by
  refine vO (aQ h (fe ok0) la he) h ?_;rw[uR];exact ⟨de (iT t0),mV h⟩
 |t::ts,ok,t0,ok0,pos,q,esc,h,he=>by
  have okt:=ok t (Fn ..);have next:=λ(p:Nat) (pb:Option Str) (h:cf Pc buf p pb (t.d++cj mk ts))=>fz (toks:=jx ⟨#[mk]⟩ ts) L okt h λp' q' e' h' he'=>lg L hP cm ts (λx hx=>ok x (Fj _ hx)) t okt p' q' e' h' he';refine xe2 (Cl.hash (W:=W) (Pc:=Pc)) λb4 b5 ch=>?_
  have mne:((⟨#[mk]⟩:Str)==EW "")=false:=by
   rw[beq_eq_false_iff_ne];intro h;have:(⟨#[mk]⟩:Str).cps.size=(EW "").cps.size:=by rw[h]
   rw[show (EW "").cps.size=0 by decide+kernel] at this;simp at this
  have hg:=okt.gap;unfold cj at h;have g3:t.gap=0∨t.gap=1∨t.gap=2:=by exact w5 hg
  rcases g3 with g|g|g
  ·rw[g] at h;unfold fo at h;refine goM (λ_=>True) (aQ h (fe ok0) la he) h (λp=>AK (jE t0) hP cm) λp1 h1=>⟨de (iT t0),?_⟩
   have h2:cf Pc buf p1 (EU ⟨#[mk]⟩) (mk::(t.d++cj mk ts)):=(ju hP _ _ rfl ⟨rfl,h1⟩)
   refine goE (aQ h2 lem lsp lsp) h2 (λKg p=>mM cm) λp2 h2=>?_;refine am (yJ t okt) λx l e hx=>?_;have h3:=h2;rw[e] at h3
   have cx:∃b4 b6,Cl W Pc x false false false b4 false b6:=by
    clear e h3;rcases hx with rfl|rfl|rfl
    ·exact (ie2 _ _ (L.le _ okt.k))
    ·exact (ie2 _ _ L.q1)
    ·exact (ie2 _ _ L.q2)
   refine xe2 cx λc4 c6 cx=>?_;refine goM (λ_=>True) (aQ h3 (l1 _) lc lsp) h3 (λp=>Ew hP cx) λp3 h4=>⟨de mne,?_⟩
   refine next p3 (EU ⟨#[x]⟩) ?_;exact (ju hP x (l++cj mk ts) rfl ⟨by rw[e];rfl,h4⟩)
  ·rw[g] at h;unfold fo at h;refine goM (λ_=>True) (aQ h (fe ok0) la he) h (λp=>oF (jE t0) h8) λp1 h1=>⟨de (iT t0),?_⟩
   refine goE (aQ h1 lem lsp lsp) h1 (λKg p=>mM cm) λp2 h2=>?_;refine goM (λ_=>True) (aQ h2 (l1 _) lc lsp) h2 (λp=>Cu (bn _) h8) λp3 h4=>⟨de mne,?_⟩
   exact next p3 none h4
  ·rw[g] at h;unfold fo at h;refine goM (λ_=>True) (aQ h (fe ok0) la he) h (λp=>AK (jE t0) hP cm) λp1 h1=>⟨de (iT t0),?_⟩
   have h2:cf Pc buf p1 (EU ⟨#[mk]⟩) (mk::(35::39::10::(t.d++cj mk ts))):=(ju hP _ _ rfl ⟨rfl,h1⟩)
   refine goE (aQ h2 lem lsp lsp) h2 (λKg p=>mM cm) λp2 h2=>?_;refine goM (λ_=>True) (aQ h2 (l1 _) lc lsp) h2 (λp=>zm (bn _) ch) λp3 h4=>⟨de mne,?_⟩
   exact next _ none (ss h4 s!"d")
theorem lL (L:Lx W Pc):
 ∀(ts:List T4),(∀t∈ts,t.Ok)->∀(t0:T4),t0.Ok->∀(pos:Nat) (q:Bool) (esc:Str),cf Pc buf pos none (cj 32 ts)->esc.length≤500->
  gC W Pc buf (λls=>cy ls= .s t0.w∧Reads W Pc buf (ts.map T4.w) ls.st ls.pos ls.pb) ⟨EU (EW "a"),t0.w,pos,none,q,esc⟩
 | [],_,t0,ok0,pos,q,esc,h,he=>by
  refine vO (aQ h (fe ok0) la he) h ?_;rw[uR];exact ⟨de (iT t0),mV h⟩
 |t::ts,ok,t0,ok0,pos,q,esc,h,he=>by
  have okt:=ok t (Fn ..);have next:=λ(p:Nat) (pb:Option Str) (h:cf Pc buf p pb (t.d++cj 32 ts))=>fz (toks:=ts.map T4.w) L okt h λp' q' e' h' he'=>lL L ts (λx hx=>ok x (Fj _ hx)) t okt p' q' e' h' he';refine xe2 (Cl.hash (W:=W) (Pc:=Pc)) λb4 b5 ch=>?_;have hg:=okt.gap;unfold cj at h;have g3:t.gap=0∨t.gap=1∨t.gap=2:=by exact w5 hg
  rcases g3 with g|g|g
  ·rw[g] at h;unfold fo at h;exact goM (λ_=>True) (aQ h (fe ok0) la he) h (λp=>oF (jE t0) h8) λp1 h1=>⟨de (iT t0),next p1 none h1⟩
  ·rw[g] at h;unfold fo at h;refine goM (λ_=>True) (aQ h (fe ok0) la he) h (λp=>oF (jE t0) h8) λp1 h1=>⟨de (iT t0),?_⟩
   refine goE (aQ h1 lem lsp lsp) h1 (λKg p=>rQ h8) λp2 h2=>?_;refine goE (aQ h2 lem lsp lsp) h2 (λKg p=>rQ h8) λp3 h3=>?_;exact next p3 none h3
  ·rw[g] at h;unfold fo at h;refine goM (λ_=>True) (aQ h (fe ok0) la he) h (λp=>oF (jE t0) h8) λp1 h1=>⟨de (iT t0),?_⟩
   refine xe1 (next (rdl buf (p1+1)) none (ss (show cf Pc buf (p1+1) none (39::10::(t.d++cj 32 ts)) from (fS h1).2.1) s!"d")) λn hn=>?_;refine ⟨n+1,aQ h1 lem lsp lsp,?_⟩;dsimp only;rw[(fS h1).1,ite_self];dsimp only;rw[zK ch];exact hn
end
structure Th where
 w:Str
 way:Int
 gap:Nat
noncomputable def thM (t:Th):MV:= .t (.type "tuple") [.s t.w,.i t.way,.i (t.gap:Int)]
noncomputable def dW (mark:Str):Nat->Str
 |0=>mark
 |1=>EW " " ++mark++EW " "
 |_=>mark++EW "#'\n"
noncomputable def bF (mark:Str):List Th->Str->Str
 | [],acc=>acc
 |t::ts,acc=>bF mark ts ((if (acc !=EW "")=true then acc++dW mark t.gap else acc)++cD t.w t.way)
noncomputable def T4.th (t:T4):Th:=⟨t.w,(t.way:Int),t.gap⟩
theorem qR:((F7 10).all λk=>dp.all λs=>(F7 3).all λway=>(cD (wd k s) (way:Int)).cps.toList==dh k s way&&decide ((Io (wd k s) q1 q5).length≤10000)&&decide ((wd k s).length≤100))=true:=s!"k"
theorem g6 {t:T4} (h:t.Ok):(cD t.w (t.way:Int)).cps.toList=t.d∧(Io t.w q1 q5).length≤10000∧t.w.length≤100:=by
 have z:=Fm.mp (Fm.mp (Fm.mp qR t.k (by simpa using h.k)) t.s h.s) t.way (by simpa using h.way);simp only[Fc,beq_iff_eq,decide_eq_true_eq] at z;exact (ia2 z.1.1 z.1.2 z.2)
end
theorem fF (a b:Str):(a++b).cps.toList=a.cps.toList++b.cps.toList:=by
 show (a.cps++b.cps).toList=_;simp
theorem mw (a:Str):a.length=a.cps.toList.length:=by simp[KK]
theorem rT (mk:Nat) {g:Nat} (hg:g<3):(dW ⟨#[mk]⟩ g).cps.toList=fo mk g:=by
 match g,hg with
 |0,_=>rfl
 |1,_=>
  show (EW " " ++(⟨#[mk]⟩:Str)++EW " ").cps.toList=_;rw[fF,fF,show (EW " ").cps.toList=[32] by decide+kernel];rfl
 |2,_=>
  show ((⟨#[mk]⟩:Str)++EW "#'\n").cps.toList=_;rw[fF,show (EW "#'\n").cps.toList=[35,39,10] by decide+kernel];rfl
theorem dl (k:Nat) (s:List Nat) (way:Nat):(dh k s way).length=(dh 0 s way).length:=by
 unfold dh;split<;>rfl
theorem Aj:∀s∈dp,∀way,way<3->1≤(dh 0 s way).length∧(dh 0 s way).length≤10:=s!"1"
theorem oL {t:T4} (h:t.Ok):1≤t.d.length∧t.d.length≤10:=by
 have:=Aj _ h.s _ h.way;rwa [←dl t.k] at this
theorem qt (mk g:Nat):(fo mk g).length≤4:=by
 unfold fo;split<;>simp
theorem pk {mk:Nat}:∀{ts:List T4},(∀t∈ts,t.Ok)->(cj mk ts).length≤14*ts.length
 | [],_=>by simp[cj]
 |t::ts,h=>by
  have:=pk (mk:=mk) λx hx=>h x (Fj t hx);have h1:=(oL (h t (Fn ..))).2;have h2:=qt mk t.gap;unfold cj;rw[E7,E7,Hm];exact EY (GA h2 (GA h1 this)) (E6 ((HG 4 10 (14*_)).symm.trans (G7 14 (14*_))))
theorem B9 (h:1≤x.cps.toList.length):(x !=EW "")=true:=by
 rw[bne_iff_ne];intro e;rw[e,show (EW "").cps.toList.length=0 by decide+kernel] at h;exact JV _ h
theorem m5 (mk:Nat):∀(ts:List T4) (acc:Str),(∀t∈ts,t.Ok)->1≤acc.cps.toList.length->(bF ⟨#[mk]⟩ (ts.map T4.th) acc).cps.toList=acc.cps.toList++cj mk ts
 | [],acc,_,_=>by simp[bF,cj]
 |t::ts,acc,h,ha=>by
  have ht:=h t (Fn ..);have e1:=(g6 ht).1;rw[FV];unfold bF
  have e:((if (acc !=EW "")=true then acc++dW ⟨#[mk]⟩ t.th.gap else acc)++cD t.th.w t.th.way).cps.toList=acc.cps.toList++(fo mk t.gap++t.d):=by
   rw[if_pos (B9 ha),fF,fF];show _++(dW ⟨#[mk]⟩ t.gap).cps.toList++(cD t.w (t.way:Int)).cps.toList=_;rw[e1,rT mk ht.gap,Gh]
  rw[m5 mk ts _ (λx hx=>h x (Fj _ hx)) (by rw[e,E7];exact EY ha (Fr _ _)),e];show _=acc.cps.toList++(fo mk t.gap++(t.d++cj mk ts));simp[Gh]
theorem kE (mk:Nat) {t:T4} (h:∀x∈t::ts,x.Ok):(bF ⟨#[mk]⟩ ((t::ts).map T4.th) (EW "")).cps.toList=t.d++cj mk ts:=by
 have ht:=h t (Fn ..);have e1:=(g6 ht).1;rw[FV];unfold bF;have e0:¬((EW "" !=EW "")=true):=s!"1"
 have e:((if (EW "" !=EW "")=true then EW "" ++dW ⟨#[mk]⟩ t.th.gap else EW "")++cD t.th.w t.th.way).cps.toList=t.d:=by
  rw[if_neg e0,fF,show (EW "").cps.toList=[] by decide+kernel];exact e1
 rw[m5 mk ts _ (λx hx=>h x (Fj _ hx)) (by rw[e];exact (oL ht).1),e]
theorem hV (mk:Nat) (h:∀x∈ts,x.Ok):(bF ⟨#[mk]⟩ (ts.map T4.th) (EW "")).length≤14*ts.length:=by
 cases ts with
 |nil=>show (EW "").length≤0;decide+kernel
 |cons t ts=>
  have h1:=(oL (h t (Fn ..))).2;have h2:=pk (mk:=mk) λx hx=>h x (Fj t hx);rw[mw,kE mk h,E7,Hm];exact EY (GA h1 h2) (EY (E6 (G7 10 (14*_))) (Fi (by decide:10≤14) (14*_)))
theorem nB (m:Str):∀(ts:List T4),flat m (ts.map T4.w)=jx m ts
 | []=>rfl
 |t::ts=>by
  show m::t.w::flat m (ts.map T4.w)=m::t.w::jx m ts;rw[nB m ts]
theorem xy {l:List Nat} (h:buf.cps.toList=l):cf Pc buf 0 none l:=by
 show Mu 0 _=l;rw[Kb];exact h
theorem lH {mk:Nat} (hm:mk=59∨mk=124) {t:T4} (h:∀x∈t::ts,x.Ok):
 Reads eH Pc2 (bF ⟨#[mk]⟩ ((t::ts).map T4.th) (EW "")) (bb ((t::ts).map T4.w) ⟨#[mk]⟩) (EU (EW " ")) 0 none:=by
 have cm:Cl eH Pc2 mk false false false false true false:=by rcases hm with rfl|rfl;exact BZ;exact z0
 have hP:(Pc2.length !=0)=true:=s!"1"
 have e:bb ((t::ts).map T4.w) ⟨#[mk]⟩=t.w::jx ⟨#[mk]⟩ ts:=by
  unfold bb;rw[nB];rfl
 rw[e];have ht:=h t (Fn ..);refine fz (W:=eH) (Pc:=Pc2) lx2 ht (l:=cj mk ts) (xy (kE mk h)) λp q' e' h' he=>?_;exact lg lx2 hP cm ts (λx hx=>h x (Fj _ hx)) t ht p q' e' h' he
theorem rd {t:T4} (h:∀x∈t::ts,x.Ok):
 Reads shW (EW "") (bF ⟨#[32]⟩ ((t::ts).map T4.th) (EW "")) ((t::ts).map T4.w) (EU (EW " ")) 0 none:=by
 have ht:=h t (Fn ..);refine fz (W:=shW) (Pc:=EW "") lx1 ht (l:=cj 32 ts) (xy (kE 32 h)) λp q' e' h' he=>?_;exact lL lx1 ts (λx hx=>h x (Fj _ hx)) t ht p q' e' h' he
theorem Bc {k':Nat} {s s':List Nat} (h:wd k s=wd k' s'):k=k':=by
 have:(wd k s).cps.toList=(wd k' s').cps.toList:=by rw[h]
 simp[wd] at this;exact this.1
theorem sh {mk:Nat} {s:List Nat} (hk:k<10) (hm:mk=59∨mk=124):wd k s≠⟨#[mk]⟩:=by
 intro h;have:(wd k s).cps.toList=(⟨#[mk]⟩:Str).cps.toList:=by rw[h]
 simp[wd] at this;exact pwm hk hm this.1
noncomputable def aS (ts:List T4) (k:Nat):Str:=((ts[k]?).map T4.w).getD (EW "")
theorem mW {t:T4} (h:ts[k]?=EU t):aS ts k=t.w:=by unfold aS;rw[h];rfl
structure Ths (ts:List T4):Prop where
 ok:∀t∈ts,t.Ok
 k:∀(i:Nat) (t:T4),ts[i]?=EU t->t.k=i
theorem Ths.wd {ts:List T4} (h:Ths ts) (hn:ts.length≤10):Wd ts.length (aS ts) ⟨#[59]⟩ ⟨#[124]⟩:=by
 have e:∀a,a<ts.length->∃s,aS ts a=Internal.wd a s:=λa ha=>by
  have h1:ts[a]?=EU ts[a]:=E2 ha;refine ⟨ts[a].s,?_⟩;rw[mW h1];unfold T4.w;rw[h.k a _ h1]
 refine ⟨λa b ha hb hab=>?_,λa ha hh=>?_,λa ha hh=>?_,s!"d"⟩
 ·obtain ⟨s,e1⟩:=e a ha;obtain ⟨s',e2⟩:=e b hb;rw[e1,e2] at hab;exact Bc hab
 ·obtain ⟨s,e1⟩:=e a ha;rw[e1] at hh;exact sh (by exact wH hn ha) (.inl rfl) hh
 ·obtain ⟨s,e1⟩:=e a ha;rw[e1] at hh;exact sh (by exact wH hn ha) (.inr rfl) hh
theorem kZ:EW ";" =⟨#[59]⟩:=s!"1"
theorem gS:EW "|" =⟨#[124]⟩:=s!"1"
theorem pO:EW " " =⟨#[32]⟩:=s!"1"
section
theorem oZ {st:St} {Q:MV->St->Prop} {k:Int} (hp:∀o i,Of slice false o i=Pd [o,i] (Pe o i)) (hlo: -(2^63)≤k) (hfit:k<2^63) (hj:Ny k vs.length=EU j) (hx:vs[j]?=EU m) (hq:Q m st):
 W2 X (KY value slice) (.t (.type "tuple") vs) (.i k) st Q:=λφ s v w I r e=>
 PySem.W.kba_turn (value':= .Name "_" ⟨0,0,0,0⟩) (λ_=>rfl) (xO (value:= .Name "_" ⟨0,0,0,0⟩) (slice:=slice) ⟨hp,λ_ _=>rfl⟩ hlo hfit hj hx hq φ s v w I r e)
theorem jU (mark:Str) (t:Th):∀(ts:List Th) (acc:Str),bF mark (ts++[t]) acc=(if (bF mark ts acc !=EW "")=true then bF mark ts acc++dW mark t.gap else bF mark ts acc)++cD t.w t.way
 | [],acc=>rfl
 |x::ts,acc=>jU mark t ts _
theorem yp (mk:Nat) {g:Nat} (hg:g<3):(dW ⟨#[mk]⟩ g).length≤4:=by
 rw[mw,rT mk hg];exact qt mk g
variable {C:Cx}
noncomputable def aO:List String:=["things","mark","line","word","way","gap"]
theorem kF:aO.Nodup:=s!"1"
set_option maxHeartbeats 4000000 in
theorem fY (G : Gd C) (R : Rm (k + 2) A) {lt : Addr} {mk : Nat} {mark : Str} {σ : Sg} (hm : mark = ⟨#[mk]⟩) (ok : ∀ t ∈ ts, t.Ok) (hl : ts.length ≤ 20) (e : σ lt = EU (.lst (ts.map λt => thM t.th))) :
    CtA C A (.ref 991) [.r lt, .s mark] [] σ λm σ' => m = .s (bF mark (ts.map T4.th) (EW "")) ∧ ∀ b m, σ b = EU m -> σ' b = EU m := by
  refine aW G R (a := 991) (c := 990) (x := top 32) (n := "_law_line") (q := "_law_line") (d := .none) (pm := (.str "law_il0198_01" 1575)) (an := none) (t := 1584)
    (ps := (["things", "mark"] : List Str).zip [.r lt, .s mark]) s!"k" s!"k" s!"k" s!"k" [("_law_dressed", .ref 984)] s!"k" (λv => (aX rfl s!"k" s!"1" (bk λa0 => bk λa1 => cK s!"k")).a) (ρ := zL aO [EU (.r lt), EU (.s mark), none, none, none, none]) s!"k" λQf hQf X hC O R' hin hg hE => ?_
  subst hC
  have N := kn G
  have hd := kF
  have i_things : gI aO 0 = EU "things" := rfl
  have i_mark : gI aO 1 = EU "mark" := rfl
  have i_line : gI aO 2 = EU "line" := rfl
  have i_word : gI aO 3 = EU "word" := rfl
  have i_way : gI aO 4 = EU "way" := rfl
  have i_gap : gI aO 5 = EU "gap" := rfl
  have g_law_dressed : X.gs.lookup (EW "_law_dressed") = EU (.ref 984 : Value) := hg ▸ s!"k"
  clear hg hE
  conv => arg 2; whnf
  have l_things : lk (zL aO [EU (.r lt), EU (.s mark), none, none, none, none]) "things" = EU (EU (.r lt)) := lkI hd i_things rfl
  have l_mark : lk (zL aO [EU (.r lt), EU (.s mark), none, none, none, none]) "mark" = EU (EU (.s mark)) := lkI hd i_mark rfl
  have l_line : lk (zL aO [EU (.r lt), EU (.s mark), none, none, none, none]) "line" = EU (none) := lkI hd i_line rfl
  have l_word : lk (zL aO [EU (.r lt), EU (.s mark), none, none, none, none]) "word" = EU (none) := lkI hd i_word rfl
  have l_way : lk (zL aO [EU (.r lt), EU (.s mark), none, none, none, none]) "way" = EU (none) := lkI hd i_way rfl
  have l_gap : lk (zL aO [EU (.r lt), EU (.s mark), none, none, none, none]) "gap" = EU (none) := lkI hd i_gap rfl
  generalize zL aO [EU (.r lt), EU (.s mark), none, none, none, none] = ρ at l_things l_mark l_line l_word l_way l_gap ⊢
  clear hd i_things i_mark i_line i_word i_way i_gap
  have sz := sizeLine_eq
  refine am (bu G (a := 984) s!"k") λob fd hi1 hi2 => ?_
  refine aa (ah s!"r" s!"r" trivial (aI (aL O l_line (ae ?_))))
  have j_things : lk (stL ρ "line" (.s (EW ""))) "things" = EU (EU (.r lt)) := by walk_at "lk"
  have j_mark : lk (stL ρ "line" (.s (EW ""))) "mark" = EU (EU (.s mark)) := by walk_at "lk"
  have j_line : lk (stL ρ "line" (.s (EW ""))) "line" = EU (EU (.s (EW ""))) := by walk_at "lk"
  have j_nm : Nm (stL ρ "line" (.s (EW ""))) ["word", "way", "gap"] := .st (.cons l_word (.cons l_way (.cons l_gap .nil)))
  generalize stL ρ "line" (.s (EW "")) = ρ1 at j_things j_mark j_line j_nm ⊢
  refine dB (Q1 := λfl st' => fl = .next ∧ lk st'.ρ "line" = EU (EU (.s (bF mark (ts.map T4.th) (EW "")))) ∧ ∀ b m, σ b = EU m -> st'.σ b = EU m) ?_ ?_
  · refine jZ (mo := λi => .itl lt i) (vs := ts.map λt => thM t.th) (Cond := λst => st.σ lt = EU (.lst (ts.map λt => thM t.th))) (λi st => lk st.ρ "mark" = EU (EU (.s mark)) ∧ lk st.ρ "line" = EU (EU (.s (bF mark ((ts.take i).map T4.th) (EW "")))) ∧ Nm st.ρ ["word", "way", "gap"] ∧ ∀ b m, σ b = EU m -> st.σ b = EU m)
      (ci O lt _) (λ_ => by rfl) hX (ai O j_things ⟨(ia3 j_mark j_line j_nm (λ_ _ h => h)), cB e⟩) (λi st h => h.2.2.2 _ _ e) ?_ ?_
    · intro J hJ i hi zr1 zr2; obtain ⟨σ', ρ'⟩ := zr1; refine xa3 zr2 λi_mark i_line i_nm fr => ?_; clear zr2
      dsimp only at i_mark i_line i_nm fr
      have hi' : i < ts.length := by simpa using hi
      have okt := ok ts[i] (Fy _)
      have htk : ts.take (i + 1) = ts.take i ++ [ts[i]] := FT hi'
      have ll : (bF mark ((ts.take i).map T4.th) (EW "")).length ≤ 14 * 20 := by
        rw [hm]
        have := hV mk (ts := ts.take i) λx hx => ok x (List.mem_of_mem_take hx)
        have := H8 i ts
        exact EY ‹_› (FI 14 (EY this (EY (Fs hi') hl)))
      have eN : bF mark ((ts.take (i + 1)).map T4.th) (EW "") = (if (bF mark ((ts.take i).map T4.th) (EW "") != EW "") = true then bF mark ((ts.take i).map T4.th) (EW "") ++ dW mark ts[i].gap else bF mark ((ts.take i).map T4.th) (EW "")) ++ cD ts[i].w (ts[i].way : Int) := by
        rw [htk, Fe]; exact jU mark ts[i].th _ _
      rw [F8]
      generalize bF mark ((ts.take i).map T4.th) (EW "") = acc at i_line ll eN
      generalize ts[i] = t at okt eN ⊢
      refine xe1 (i_nm "word" s!"1") λu_w y_w => ?_
      refine xe1 (i_nm "way" s!"1") λu_y y_y => ?_
      refine xe1 (i_nm "gap" s!"1") λu_g y_g => ?_
      refine jk O s!"t" s!"r" (bZ (aL O y_w (bZ (aL O s!"lk" (bZ (aL O s!"lk" (fH ?_)))))))
      have z_mark : lk (stL (stL (stL ρ' "word" (.s t.w)) "way" (.i t.way)) "gap" (.i t.gap)) "mark" = EU (EU (.s mark)) := by walk_at "lk"
      have z_line : lk (stL (stL (stL ρ' "word" (.s t.w)) "way" (.i t.way)) "gap" (.i t.gap)) "line" = EU (EU (.s acc)) := by walk_at "lk"
      have z_word : lk (stL (stL (stL ρ' "word" (.s t.w)) "way" (.i t.way)) "gap" (.i t.gap)) "word" = EU (EU (.s t.w)) := by walk_at "lk"
      have z_way : lk (stL (stL (stL ρ' "word" (.s t.w)) "way" (.i t.way)) "gap" (.i t.gap)) "way" = EU (EU (.i t.way)) := by walk_at "lk"
      have z_gap : lk (stL (stL (stL ρ' "word" (.s t.w)) "way" (.i t.way)) "gap" (.i t.gap)) "gap" = EU (EU (.i t.gap)) := by walk_at "lk"
      have z_nm : Nm (stL (stL (stL ρ' "word" (.s t.w)) "way" (.i t.way)) "gap" (.i t.gap)) ["word", "way", "gap"] := .cons z_word (.cons z_way (.cons z_gap .nil))
      show WS X _ ⟨σ', stL (stL (stL ρ' "word" (.s t.w)) "way" (.i t.way)) "gap" (.i t.gap)⟩ _
      generalize stL (stL (stL ρ' "word" (.s t.w)) "way" (.i t.way)) "gap" (.i t.gap) = ρ2 at z_mark z_line z_word z_way z_gap z_nm ⊢
      have dl := g6 okt
      have dd := (oL okt).2
      have dl' : (cD t.w (t.way : Int)).length ≤ 10 := by rw [mw, dl.1]; exact dd
      have sl : (dW mark t.gap).length ≤ 4 := by rw [hm]; exact yp mk okt.gap
      have ml : mark.length = 1 := by rw [hm]; rfl
      refine dB (Q1 := λfl st' => fl = .next ∧ st'.σ = σ' ∧ lk st'.ρ "mark" = EU (EU (.s mark)) ∧ lk st'.ρ "line" = EU (EU (.s (if (acc != EW "") = true then acc ++ dW mark t.gap else acc))) ∧ lk st'.ρ "word" = EU (EU (.s t.w)) ∧ lk st'.ρ "way" = EU (EU (.i t.way)) ∧ Nm st'.ρ ["word", "way", "gap"]) ?_ ?_
      · refine bl (aC s!"r" (ai O z_line (aI (sJ (ay ?_)))))
        cases h0 : (acc != EW "") with
        | false => exact aD rfl (ak (ia6 rfl rfl z_mark (by rw [if_neg s!"d"]; exact z_line) z_word z_way z_nm))
        | true =>
          refine ift rfl (aa (fP O z_line (aP (cX s!"t" (ac (ai O z_mark (ac (ar (ar (aI (ai O z_mark (cU ?_ ?_))))))))))))
          case' refine_2 => refine aI (cU ?_ (ac (ar (ai O z_mark (aI (cU ?_ (ag ⟨?_, ?_⟩)))))))
          case' refine_2.refine_4 => refine ai O z_gap (oZ (k := (t.gap : Int)) (j := t.gap) (m := .s (dW mark t.gap)) (λ_ _ => by with_unfolding_all rfl) (by exact Bn) (by have := okt.gap; exact jTT this s!"d") ?_ ?_ (gE ?_ (af _ z_line (ae (ak ⟨rfl, rfl, by walk_at "lk", by rw [if_pos rfl]; walk_at "lk", by walk_at "lk", by walk_at "lk", .st z_nm⟩)))))
          all_goals first
            | (rw [ml, sz]; decide +kernel; done)
            | (rw [str_length_append, ml, sz]; decide +kernel; done)
            | (rw [sz]; show 3 ≤ _; decide)
            | (have := okt.gap
               generalize t.gap = g at this ⊢
               have : g = 0 ∨ g = 1 ∨ g = 2 := by exact w5 this
               rcases this with rfl | rfl | rfl <;> rfl)
            | (rw [sz]; exact EY (GA ll sl) (Fo rfl))
      · intro fl zr1 zr2; obtain ⟨σ2, ρ3⟩ := zr1; refine b8 zr2 λz2 => ?_; clear zr2; obtain ⟨rfl, v_mark, v_line, v_word, v_way, v_nm⟩ := z2
        dsimp only at v_mark v_line v_word v_way v_nm fr
        have al : (if (acc != EW "") = true then acc ++ dW mark t.gap else acc).length ≤ 284 := by
          split
          · rw [str_length_append]; exact EY (GA ll sl) (Fo rfl)
          · exact EY ll s!"d"
        generalize (if (acc != EW "") = true then acc ++ dW mark t.gap else acc) = acc1 at v_line al eN ⊢
        refine ae (aa (fP O v_line (bB O g_law_dressed hi1 hi2 trivial (ac (ai O v_word (ac (ai O v_way (ag (bz (Ct.mono (CtA.ct (kQ G R' dl.2.2 dl.2.1)) ?_))))))))))
        intro m σ3 zr1; refine b8 zr1 λfr3 => ?_; clear zr1
        refine gE (by rw [sz]; exact EY (GA al dl') (Fo rfl)) (af _ v_line (ae (ak (hJ _ _ ⟨by walk_at "lk", by rw [eN]; walk_at "lk", .st v_nm, λb m hb => fr3 b m (fr b m hb)⟩))))
    · intro zr1 zr2; obtain ⟨σ', ρ'⟩ := zr1; refine xa3 zr2 λi_mark i_line i_nm fr => ?_; clear zr2
      rw [EZ, Go] at i_line
      exact ak (ia2 rfl i_line fr)
  · intro fl zr1 zr2; obtain ⟨σ', ρ'⟩ := zr1; refine b8 zr2 λz2 => ?_; clear zr2; obtain ⟨i_line, fr⟩ := z2
    exact ae (aa (be (ai O i_line (cV (hQf _ _ ⟨rfl, fr⟩)))))
end
section
open PyProof.V PySem.Spec
noncomputable def gc {α:Type} (f:α->MV) (g:α->Fv):Prop:=∀(a:α) (h:Heap) (v:Value),VR h (f a) v->∃as,J4 h v (JH (g a)) as
theorem qE {α:Type} {f:α->MV} {g:α->Fv} (D:gc f g) {h:Heap}:∀{xs:List α} {vs:List Value},VRs h (xs.map f) vs->∃as,QY h vs (PySem.W.kqdPs (xs.map g)) as
 | [],vs,r=>by
  have r:VRs h [] vs:=r;unfold VRs at r;subst r;exact ⟨_,QY.nil⟩
 |a::xs,vs,r=>by
  have r:VRs h (f a::xs.map f) vs:=r;unfold VRs at r;refine am r λy ys z1 z2=>?_;clear r;clear r;subst z1;refine xa1 z2 λr1 r2=>?_;refine xe1 (D a h y r1) λas q=>?_;refine xe1 (qE D r2) λbs p=>?_;exact ⟨_,QY.cons q p⟩
theorem to:gc MV.s Fv.str:=λa h v ⟨t,e⟩=>by subst e;exact ⟨_,J4.str a t⟩
theorem tP:gc (λn:Int=>MV.i n) Fv.int:=λa h v ⟨t,e⟩=>by subst e;exact ⟨_,J4.int a t⟩
theorem Cv:gc (λ_:Unit=>MV.k .none) (λ_=>Fv.none):=λa h v e=>by
 have e:v= .none:=e;subst e;exact ⟨_,J4.none⟩
theorem xM {f:α->MV} {g:α->Fv} (D:gc f g) {k:β->List α}:gc (λb=>MV.t (.type "tuple") ((k b).map f)) (λb=>Fv.tuple ((k b).map g)):=λb h v z=>by
 refine bx z λa o items n e1 z=>?_;refine xa4 z λe2 e3 e4 e5 r=>?_;subst e1;refine xe1 (qE D r) λas q=>?_;exact ⟨as,reads_tuple_at e2 e4 e5 q⟩
theorem vn:gc tp (λp:P2=>Fv.tuple [.int p.1,.int p.2]):=xM (k:=λp:P2=>[p.1,p.2]) tP
theorem BN:gc tT (λp:N3=>Fv.tuple [.int p.1,.int p.2.1,.int p.2.2]):=xM (k:=λp:N3=>[(p.1:Int),(p.2.1:Int),(p.2.2:Int)]) tP
section
variable {X:Xc} {st:St} {Q:MV->St->Prop}
open Classical in
theorem qe {d e:Fv} (hd:Gy 9 d=true) (he:Gy 9 e=true):PyData.eqv (JH d) (JH e)=decide (d=e):=by
 have q:=PySem.W.kqd_eqv 9 d e 9 hd he;by_cases hq:d=e
 ·rw[decide_eq_true hq];exact q.mpr hq
 ·rw[decide_eq_false hq];exact Bool.eq_false_iff.mpr λx=>hq (q.mp x)
theorem shp {d:Fv} (hd:Gy 9 d=true):O5 (JH d)=true:=by
 have l:=PySem.W.kqd_lay 9 d hd;unfold O5;rw[l.1,Bool.true_and];exact decide_eq_true (EY l.2 s!"d")
theorem okL {g:α->Fv} {xs:List α} (h:∀a∈xs,Gy 8 (g a)=true):Gy 9 (.list (xs.map g))=true:=by
 show (xs.map g).all (Gy 8)=true;rw[Fm];intro d hd;refine ad (Fp.mp hd) λa ha z1=>?_;clear hd;subst z1;exact h a ha
theorem mA {α β:Type} {g:α->β} (hg:∀a b,g a=g b->a=b):∀{xs ys:List α},xs.map g=ys.map g->xs=ys
 | [],[],_=>rfl
 | [],_::_,h=>by cases h
 |_::_,[],h=>by cases h
 |a::xs,b::ys,h=>by
  rw[FV,FV,Jp] at h;rw[hg _ _ h.1,mA hg h.2]
theorem rdL {f:α->MV} {g:α->Fv} (D:gc f g) {s:Shared} (I:IF X φ st s) {xs:List α} (e:st.σ l=EU (.lst (xs.map f))):∃as,J4 s.heap (.ref l) (JH (.list (xs.map g))) as:=by
 refine ad (I.own e) λitems z1 r=>?_;refine xe1 z1 λn pl=>?_;clear z1;refine xe1 (qE D r) λas q=>?_;exact ⟨_,reads_list_at pl rfl rfl q⟩
open Classical in
theorem xX {f:α->MV} {g:α->Fv} (D:gc f g) (hg:∀a b,g a=g b->a=b) {la:Addr} {xs ys:List α} (ea:st.σ la=EU (.lst (xs.map f))) (eb:st.σ lb=EU (.lst (ys.map f)))
 (ha:∀a∈xs,Gy 8 (g a)=true) (hb:∀a∈ys,Gy 8 (g a)=true) (hu:X.A.units+64<cLine) (hq:Q (.k (.bool (decide (xs=ys)))) st):W2 X (Fu .Eq) (.r la) (.r lb) st Q:=λφ s v w I e1 e2=>by
 cases (show v= .ref la from e1);cases (show w= .ref lb from e2);refine xe1 (rdL D I ea) λas ra=>?_;refine xe1 (rdL D I eb) λbs rb=>?_;refine Qs ra rb (shp (okL ha)) (shp (okL hb)) hu ?_;rw[qe (okL ha) (okL hb)]
 have:decide (Fv.list (xs.map g)=Fv.list (ys.map g))=decide (xs=ys):=by
  rw[decide_eq_decide,Fv.list.injEq];exact ⟨mA hg,λh=>by rw[h]⟩
 rw[this];exact .mk (ba ..) I (.refl _) hq
open Classical in
theorem oO {f:α->MV} {g:α->Fv} (D:gc f g) (hg:∀a b,g a=g b->a=b) {la:Addr} {xs ys:List α} (ea:st.σ la=EU (.lst (xs.map f))) (eb:st.σ lb=EU (.lst (ys.map f)))
 (ha:∀a∈xs,Gy 8 (g a)=true) (hb:∀a∈ys,Gy 8 (g a)=true) (hu:X.A.units+64<cLine) (hq:Q (.k (.bool (!decide (xs=ys)))) st):W2 X (Fu .NotEq) (.r la) (.r lb) st Q:=λφ s v w I e1 e2=>by
 cases (show v= .ref la from e1);cases (show w= .ref lb from e2);refine xe1 (rdL D I ea) λas ra=>?_;refine xe1 (rdL D I eb) λbs rb=>?_;refine La ra rb (shp (okL ha)) (shp (okL hb)) hu ?_;rw[qe (okL ha) (okL hb)]
 have:decide (Fv.list (xs.map g)=Fv.list (ys.map g))=decide (xs=ys):=by
  rw[decide_eq_decide,Fv.list.injEq];exact ⟨mA hg,λh=>by rw[h]⟩
 rw[this];exact .mk (ba ..) I (.refl _) hq
open Classical in
theorem wY {p q:P2} (hu:X.A.units+64<cLine) (hq:Q (.k (.bool (!decide (p=q)))) st):W2 X (Fu .NotEq) (tp p) (tp q) st Q:=λφ s v w I e1 e2=>by
 refine xe1 (vn p _ _ e1) λas ra=>?_;refine xe1 (vn q _ _ e2) λbs rb=>?_;refine La ra rb (shp rfl) (shp rfl) hu ?_;rw[qe rfl rfl]
 have:decide (Fv.tuple [.int p.1,.int p.2]=Fv.tuple [.int q.1,.int q.2])=decide (p=q):=by
  rw[decide_eq_decide];clear e1 ra;obtain ⟨a,b⟩:=p;clear e2 rb hq;obtain ⟨c,d⟩:=q;simp
 rw[this];exact .mk (ba ..) I (.refl _) hq
theorem BI {ws:List MV} (e:st.σ l=EU (.lst vs)) (e2:st.σ b=EU (.lst ws)) (hz:vs.length+ws.length≤1000) (hq:∀a,st.σ a=none->Q (.r a) ⟨st.σ.put a (.lst (vs++ws)),st.ρ⟩):W2 X (Ha .Add) (.r l) (.r b) st Q:=λφ s v w I e1 e3=>by
 cases (show v= .ref l from e1);cases (show w= .ref b from e3);refine ad (I.own e) λitems z3 rr=>?_;refine xe1 z3 λn pl=>?_;clear z3;refine ad (I.own e2) λitems2 z3 rr2=>?_;refine xe1 z3 λn2 pl2=>?_;clear z3;have z1:=rr.size;have z2:=rr2.size;refine P.add_list pl pl2 ?_ (by rw[sizeLine_eq];exact o31 hz z1 z2);have r:=(rr.append2 rr2).keep (Internal.keep_push s.heap {cls:= .type "list",data:= .seq (items++items2)});obtain ⟨n1,I'⟩:=I.new (o:={cls:= .type "list",data:= .seq (items++items2)}) (m:= .lst (vs++ws)) (af _ ⟨0,Heap.get?_push_size _ rfl⟩ r);exact .mk (bN ..) I' (Internal.keep_push _ _) (hq _ n1)
theorem CL (hn:n≤1000) (hq:Q (.s ⟨#[n]⟩) st):WC X (.builtin "chr") [.i (n:Int)] st Q:=λφ s us I r=>by
 unfold VRs at r;refine am r λy ys z1 z2=>?_;clear r;subst z1;refine xa1 z2 λz3 r=>?_;clear z2;obtain ⟨t,e1⟩:=z3;unfold VRs at r;subst r e1;refine P.chr_of_int (by simp;exact jLL hn s!"d") ?_;have e:((n:Int)).toNat=n:=by exact o33
 rw[e];exact .mk (ft ..) (I.toks _) (.refl _) hq
theorem Ar (hh:X.A.handled=none) {a b:Int} (hq:Q (.i (if b<a then b else a)) st):WC X (.builtin "min") [.i a,.i b] st Q:=λφ s us I r=>by
 unfold VRs at r;refine am r λy ys z1 z2=>?_;clear r;subst z1;refine xa1 z2 λz3 r=>?_;clear z2;obtain ⟨t,e1⟩:=z3;unfold VRs at r;refine am r λz zs z1 z2=>?_;clear r;subst z1;refine xa1 z2 λz3 r=>?_;clear z2;obtain ⟨u,e2⟩:=z3;unfold VRs at r;subst r e1 e2;refine min_two_ints hh λh' tk k=>?_;refine .mk (m:= .i (if b<a then b else a)) (st':=st) ?_ (I.grow k tk) (aB k) hq;split
 ·exact cH ..
 ·exact cH ..
end
theorem mT {h:Heap}:∀{ns:List Int} {vs:List Value},VRs h (ns.map .i) vs->∃ts:List (Int×Nv),ts.map (·.1)=ns∧vs=ts.map λp=> .int p.1 p.2
 | [],vs,r=>by
  have r:VRs h [] vs:=r;unfold VRs at r;subst r;exact (af ([]) rfl rfl)
 |n::ns,vs,r=>by
  have r:VRs h (.i n::ns.map .i) vs:=r;unfold VRs at r;refine am r λy ys z1 z2=>?_;clear r;clear r;subst z1;refine xa1 z2 λz3 r2=>?_;clear z2;obtain ⟨t,e⟩:=z3;refine ad (mT r2) λts h1 h2=>?_;exact (af ((n,t)::ts) (by rw[FV,h1]) (by rw[e,h2];rfl))
theorem jT (f:Nat->Int):∀n,argBest (λi j=>decide (f i>f j)) n≤n∧∀i,i≤n->f i≤f (argBest (λi j=>decide (f i>f j)) n)
 |0=>⟨Fd _,λi hi=>by
  have:i=0:=by exact o34 hi
  clear hi;subst this;exact Qt _⟩
 |n+1=>by
  refine xa1 (jT f n) λh1 h2=>?_;unfold argBest;split
  ·rename_i h;have h:=of_decide_eq_true h;refine ⟨Fd _,λi hi=>?_⟩;by_cases e:i=n+1
   ·clear hi;subst e;exact Qt _
   ·have:=h2 i (by exact o35 hi e);exact Iv this (Int.le_of_lt h)
  ·rename_i h;have h:¬f (n+1)>f (argBest (λi j=>decide (f i>f j)) n):=λx=>h (decide_eq_true x);refine ⟨by exact o37 h1,λi hi=>?_⟩;by_cases e:i=n+1
   ·clear hi;subst e;exact HF.mp h
   ·exact h2 i (by exact o35 hi e)
section
variable {X:Xc} {st:St} {Q:MV->St->Prop}
theorem vI (hh:X.A.handled=none) {ns:List Int} (e:st.σ l=EU (.lst (ns.map .i))) (h0:0<ns.length) {v:Int} (hv:v∈ns) (hm:∀x∈ns,x≤v) (hq:Q (.i v) st):WC X (.builtin "max") [.r l] st Q:=λφ s us I r=>by
 refine fN r ?_;refine ad (I.own e) λitems pl rr=>?_;refine ad (mT rr) λts t1 t2=>?_
 have ei:items=intItems ts.toArray:=by
  apply KV.mp;rw[t2];simp[intItems]
 have il:=pl.isList;rw[ei] at il;have hlen:ts.length=ns.length:=by rw[←t1,EZ]
 refine max_intList hh il (by simpa[hlen] using h0) λu h' tk hu k=>?_;refine xa1 (jT (Pr ts.toArray) (ts.toArray.size-1)) λb1 b2=>?_;have hsz:ts.toArray.size=ns.length:=by simp[hlen]
 generalize argBest (λi j=>decide (Pr ts.toArray i>Pr ts.toArray j)) (ts.toArray.size-1)=j at hu b1 b2;refine xe1 (intItems_at hu) λt z1=>?_;clear hu;subst z1
 have na:∀i (hi:i<ns.length),Pr ts.toArray i=ns[i]:=λi hi=>by
  unfold Pr;have h2:ts[i]?=EU (ts[i]'(by exact o39 hlen hi)):=E2 _;simp[h2];have:(ts.map (·.1))[i]'(by simp;exact o39 hlen hi)=ns[i]:=by simp only[t1]
  simpa using this
 have hj:j<ns.length:=by exact o40 h0 hsz b1
 have q1:Pr ts.toArray j=v:=by
  refine JZ ?_ ?_
  ·rw[na j hj];exact hm _ (Fy _)
  ·obtain ⟨i,hi,e2⟩:=Gg hv;have:=b2 i (by exact o41 hsz hi);rw[na i hi,e2] at this;exact this
 rw[q1];exact .mk (cH ..) (I.grow k tk) (aB k) hq
end
end
section
theorem iS (f:Nat->P2):∀n,argBest (λi j=>decide (lt2 (f i) (f j))) n≤n∧∀i,i≤n->¬lt2 (f i) (f (argBest (λi j=>decide (lt2 (f i) (f j))) n))
 |0=>⟨Fd _,λi hi=>by
  have:i=0:=by exact o34 hi
  clear hi;subst this;exact dM _⟩
 |n+1=>by
  refine xa1 (iS f n) λh1 h2=>?_;unfold argBest;split
  ·rename_i h;have h:=of_decide_eq_true h;refine ⟨Fd _,λi hi=>?_⟩;by_cases e:i=n+1
   ·clear hi;subst e;exact dM _
   ·exact λx=>h2 i (by exact o35 hi e) (mN x h)
  ·rename_i h;have h:¬lt2 (f (n+1)) (f (argBest (λi j=>decide (lt2 (f i) (f j))) n)):=λx=>h (decide_eq_true x);refine ⟨by exact o37 h1,λi hi=>?_⟩;by_cases e:i=n+1
   ·clear hi;subst e;exact h
   ·exact h2 i (by exact o35 hi e)
section
variable {u:Value}
variable {w:FH} {A:Gk} {E:Value->Shared->Prop} {s:Shared}
theorem v8 {p q:P2} {Q:Value->Shared->Prop} (hu:A.units<cLine) (r1:VR s.heap (tp p) v) (r2:VR s.heap (tp q) u) (h:Q (.bool (decide (lt2 p q))) s):E4 (Fa pgm w) A (Mf .Lt v u) Q E s:=by
 obtain ⟨a,b⟩:=p;obtain ⟨c,d⟩:=q;refine bx r1 λt o its n z1 z2=>?_;clear r1;subst z1;refine xa4 z2 λe2 e3 e4 e5 r=>?_;clear z2;refine bx r2 λu o' its' n' z1 z2=>?_;clear r2;subst z1;refine xa4 z2 λf2 f3 f4 f5 r'=>?_;clear z2;refine xe2 (dK r) λta tb z1=>?_;clear r;subst z1;refine xe2 (dK r') λtc td z1=>?_;clear r';subst z1;have T:s.TypeIs (.ref t) "tuple" :=(af o e2 e4)
 have U:s.TypeIs (.ref u) "tuple" :=(af o' f2 f4)
 refine M8 (op:= .Lt) (T:="tuple") T U G8 ?_ (.inr hu);refine Jj G8 T Jy (Jk _ _) ((sv t u a b c d ta tb tc td n n' o o' e4 f4 e5 f5).inModel pgm w) (ia2 e2 f2 ?_);exact ⟨s!"4",h⟩
theorem qL {p q:P2} {Q:Bool->Shared->Prop} (hu:A.units<cLine) (r1:VR s.heap (tp p) v) (r2:VR s.heap (tp q) u) (h:Q (decide (p=q)) s):E4 (Fa pgm w) A (eqBool v u) Q E s:=by
 obtain ⟨a,b⟩:=p;obtain ⟨c,d⟩:=q;refine bx r1 λt o its n z1 z2=>?_;clear r1;subst z1;refine xa4 z2 λe2 e3 e4 e5 r=>?_;clear z2;refine bx r2 λu o' its' n' z1 z2=>?_;clear r2;subst z1;refine xa4 z2 λf2 f3 f4 f5 r'=>?_;clear z2;refine xe2 (dK r) λta tb z1=>?_;clear r;subst z1;refine xe2 (dK r') λtc td z1=>?_;clear r';subst z1;have k1:IsTupleKey (intKind pgm w) s.heap [a,b] t:=(jt o _ n e2 e4 ⟨e5,.cons (JA ..) (.cons (JA ..) .nil)⟩)
 have k2:IsTupleKey (intKind pgm w) s.heap [c,d] u:=(jt o' _ n' f2 f4 ⟨f5,.cons (JA ..) (.cons (JA ..) .nil)⟩)
 refine wpAny_eqBool_tuple hu k1 k2 ?_;have:decide ([a,b]=[c,d])=decide (((a,b):P2)=(c,d)):=by rw[decide_eq_decide];simp
 rw[this];exact h
variable {R:LH->Shared->Prop}
theorem uv {h₀:Heap} {I S:Addr} {ps:List P2} (hh:A.in1.handled=none) (hu:A.in1.units<cLine) (nlI:l≠I) (nlS:l≠S) (nIS:I≠S) (hl:h₀.IsList l items) (r:VRs h₀ (ps.map tp) items.toList)
 (im:∀b o,h₀.get? b=EU o->imm o=true->b≠I∧b≠S):
 ∀(k j:Nat) (s:Shared) (vb:Value) (c:Nat),items.size-(j+1)=k->j+1≤items.size->(∀b o,b≠I->b≠S->h₀.get? b=EU o->s.heap.get? b=EU o)->s.heap.IsListIter I l (j+1)->
  items[argBest (λi j=>decide (lt2 ((ps[i]?).getD (0,0)) ((ps[j]?).getD (0,0)))) j]?=EU vb->s.heap.get? S=EU {cls:= .type "list",dict:=none,data:= .seq #[vb,vb] c,slots:= #[]}->
  (∀v h' tk,items[argBest (λi j=>decide (lt2 ((ps[i]?).getD (0,0)) ((ps[j]?).getD (0,0)))) (items.size-1)]?=EU v->(∀b o,b≠I->b≠S->h₀.get? b=EU o->h'.get? b=EU o)->R (.ok (.ret v)) {s with heap:=h',toks:=tk})->
  IZ (Fa pgm w) A (.builtin "min.loop" ⟨[.ref I,.none,.ref S],[]⟩) R s:=by
 have hname:(toString "min" ++toString ".loop" :String)="min.loop" :=s!"d"
 have vat:∀(s:Shared),(∀b o,b≠I->b≠S->h₀.get? b=EU o->s.heap.get? b=EU o)->∀i v,items[i]?=EU v->VR s.heap (tp ((ps[i]?).getD (0,0))) v:=λs old i v hv=>by
  have hi:i<ps.length:=by
   have:=(Array.getElem?_eq_some_iff.mp hv).1;have z:=r.size;rw[EZ] at z;exact o54 this z
  have e:(ps.map tp)[i]?=EU (tp ps[i]):=by simp[hi]
  refine ad (r.arr e) λx hx rx=>?_;rw[hv] at hx;cases hx;rw[E2 hi];exact rx.keep λb o e i=>old b o (im b o e i).1 (im b o e i).2 e
 intro k
 induction k with
 |zero=>
  intro j s vb c hk hj old hit hb hS hR;have hin:j+1=items.size:=by exact GF hj (IK hk)
  refine Gb Lp ?_;rw[FK Hw _];show E4 _ A.in1 (Jr (.ref S)>>=_) _ _ s;refine EX (GQ hS rfl ?_);show E4 _ A.in1 (tryCatch (HM (.ref I)) _>>=_) _ _ s;have hl':s.heap.IsList l items:=by refine ad hl λo ho rest=>?_;clear hl;exact (af o (old l o nlI nlS ho) rest)
  refine EX (Ie (N1 hh hit hl' (by simp;exact E6 (I4 hin)) λh' he'=>?_));have hS':=he' S _ (E8 nIS) hS;show E4 _ A.in1 (Jt S (λ_=> #[])>>=_) _ _ _;refine EX ?_;refine GU hS' rfl (EX (II (E0 ?_)));refine hR vb _ s.toks ?_ λb o hbI hbS e=>(Heap.get?_update_other _ _ (E8 hbS)).trans (he' b o hbI (old b o hbI hbS e));rw[←hin];exact hb
 |succ k ih=>
  intro j s vb c hk hj old hit hb hS hR;have hlt:j+1<items.size:=by exact J5 (by rw[hk];exact H7 _)
  refine Gb Lp ?_;rw[FK Hw _];show E4 _ A.in1 (Jr (.ref S)>>=_) _ _ s;refine EX (GQ hS rfl ?_);show E4 _ A.in1 (tryCatch (HM (.ref I)) _>>=_) _ _ s;have hl':s.heap.IsList l items:=by refine ad hl λo ho rest=>?_;clear hl;exact (af o (old l o nlI nlS ho) rest)
  have hx:items[j+1]?=EU items[j+1]:=by simp[hlt]
  refine EX (Ie (Kf hit hl' hx λh' hit' hs'=>?_));have hS':h'.get? S=_:=hs'.extBut S _ (E8 nIS) hS;have old':∀b o,b≠I->b≠S->h₀.get? b=EU o->h'.get? b=EU o:=λb o h1 h2 e=>hs'.extBut b o h1 (old b o h1 h2 e);show E4 _ A.in1 (tryCatch (IY [_,_] (Mf .Lt items[j+1] vb>>=_)) _>>=_) _ _ _;refine EX (Ie (wpAny_holding (EX (v8 hu (vat _ old' _ _ hx) (vat _ old' _ _ hb) ?_))));refine EX (wpAny_holding (Li ?_));refine EX (II (E0 ?_))
  cases hbt:decide (lt2 ((ps[j+1]?).getD (0,0)) ((ps[argBest (λi j=>decide (lt2 ((ps[i]?).getD (0,0)) ((ps[j]?).getD (0,0)))) j]?).getD (0,0))) with
  |true=>
   simp only[if_true];refine EX ?_;refine GU hS' rfl (EX (II ?_));rw[hname];refine E0 ⟨Gq Hw _,ih (j+1) _ items[j+1] _ (by exact zF hk) hlt (λb o h1 h2 e=>(Heap.get?_update_other _ _ (E8 h2)).trans (old' b o h1 h2 e)) (hit'.at λo e=>(Heap.get?_update_other _ _ (E8 nIS)).trans e)
    (by simp only[argBest,hbt,if_true];exact hx) (Heap.get?_update_self _ hS' rfl) λv' h'' tk'' hP' hk''=>?_⟩
   exact hR v' h'' tk'' hP' hk''
  |false=>
   simp only[FL,if_false];refine EX (II ?_);rw[hname];refine E0 ⟨Gq Hw _,ih (j+1) _ vb c (by exact zF hk) hlt old' hit' (by simp only[argBest,hbt,FL,if_false];exact hb) hS' λv' h'' tk'' hP' hk''=>?_⟩;exact hR v' h'' tk'' hP' hk''
end
end
section
section
variable {w:FH} {A:Gk} {E:Value->Shared->Prop} {s:Shared}
theorem u8 {ps:List P2} {Q:Value->Shared->Prop} (hh:A.handled=none) (hu:A.in1.units<cLine) (hl:s.heap.IsList l items) (r:VRs s.heap (ps.map tp) items.toList) (h0:0<items.size)
 (h:∀v h' tk,items[argBest (λi j=>decide (lt2 ((ps[i]?).getD (0,0)) ((ps[j]?).getD (0,0)))) (items.size-1)]?=EU v->(∀b o,s.heap.get? b=EU o->h'.get? b=EU o)->Q v {s with heap:=h',toks:=tk}):
 E4 (Fa pgm w) A (call (.builtin "min") [.ref l]) Q E s:=by
 have hname:(toString "min" ++toString ".loop" :String)="min.loop" :=s!"d"
 have llt:l<s.heap.objs.size:=by refine ad hl λ_ e _=>?_;clear hl;exact Heap.lt_size e
 refine call_function_tree F.kind_min F.plain_min F.entry_min (F.args_min1 _) ?_;show E4 _ A.in1 (J6 "min" ["key","default"] 0 ⟨[],[]⟩>>=_) _ _ s;refine EX (FN (show J6 "min" ["key","default"] 0 ⟨[],[]⟩=pure [none,none] from rfl) ?_);refine EX (E0 ?_);refine EX (wpAny_pyIter_list hl ?_);refine EX (GD ?_);rw[hname];have hI:(s.heap.push {cls:= .type "list_iterator",data:= .fields #[.ref l,.int 0 0]}).objs.size=s.heap.objs.size+1:=Heap.size_push ..;rw[hI];have k1:∀b o,s.heap.get? b=EU o->((s.heap.push {cls:= .type "list_iterator",data:= .fields #[.ref l,.int 0 0]}).push {cls:= .type "list",data:= .seq #[]}).get? b=EU o:=λb o e=>Heap.get?_push_of_some _ (Heap.get?_push_of_some _ e);refine E0 ⟨Gq Hw _,?_⟩
 have hS:((s.heap.push {cls:= .type "list_iterator",data:= .fields #[.ref l,.int 0 0]}).push {cls:= .type "list",data:= .seq #[]}).get? (s.heap.objs.size+1)=EU {cls:= .type "list",data:= .seq #[]}:=by
  rw[←hI];exact Heap.get?_push_size _ rfl
 have hit:((s.heap.push {cls:= .type "list_iterator",data:= .fields #[.ref l,.int 0 0]}).push {cls:= .type "list",data:= .seq #[]}).IsListIter s.heap.objs.size l 0:=(aR _ (Heap.get?_push_of_some _ (Heap.get?_push_size _ rfl)) rfl rfl)
 generalize ((s.heap.push {cls:= .type "list_iterator",data:= .fields #[.ref l,.int 0 0]}).push {cls:= .type "list",data:= .seq #[]})=h₁ at k1 hS hit⊢;refine Gb Lp ?_;rw[FK Hw _];show E4 _ A.in1 (Jr (.ref (s.heap.objs.size+1))>>=_) _ _ _;refine EX (GQ hS rfl ?_);show E4 _ A.in1 (tryCatch (HM (.ref s.heap.objs.size)) _>>=_) _ _ _;have hl₁:h₁.IsList l items:=by refine ad hl λo ho rest=>?_;clear hl;exact (af o (k1 l o ho) rest)
 have hx:items[0]?=EU items[0]:=by simp[h0]
 refine EX (Ie (Kf (s:={s with heap:=h₁}) hit hl₁ hx λh' hit' hs'=>?_));have hS':=hs'.extBut (s.heap.objs.size+1) _ (IO _) hS;show E4 _ A.in1 (Jt (s.heap.objs.size+1) (λ_=> #[items[0],items[0]])>>=_) _ _ _;refine EX ?_;refine GU hS' rfl ?_;rw[hname]
 have imI:∀b o,h₁.get? b=EU o->imm o=true->b≠s.heap.objs.size∧b≠s.heap.objs.size+1:=λb o e i=>by
  refine ⟨λe1=>?_,λe1=>?_⟩
  ·subst e1;refine aV hit λo' e2 e3 e4=>?_;clear hit;rw[e] at e2;cases e2;unfold imm at i;rw[e4,e3] at i;cases i
  ·subst e1;rw[hS] at e;cases e;cases i
 refine E0 ⟨Gq Hw _,uv (h₀:=h₁) (A:=A) hh hu (Fh llt) (Fh (GN llt)) (E8 (IO _)) hl₁ (r.keep (aB k1)) imI _ 0 _ items[0] _ rfl h0
  (λb o h1 h2 e=>(Heap.get?_update_other _ _ (E8 h2)).trans (hs'.extBut b o h1 e)) (hit'.at λo e=>(Heap.get?_update_other _ _ (IO _)).trans e) hx (Heap.get?_update_self _ hS' rfl) λv h'' tk hv old=>?_⟩
 exact h v h'' tk hv λb o e=>old b o (Fh (Heap.lt_size e)) (Fh (GN (Heap.lt_size e))) (k1 b o e)
end
section
variable {X:Xc} {st:St} {Q:MV->St->Prop}
theorem zX (hh:X.A.handled=none) (hu:X.A.in1.units<cLine) {ps:List P2} (e:st.σ l=EU (.lst (ps.map tp))) {p:P2} (hp:p∈ps) (hm:∀q∈ps,¬lt2 q p) (hq:Q (tp p) st):WC X (.builtin "min") [.r l] st Q:=λφ s us I r=>by
 refine fN r ?_;refine ad (I.own e) λitems pl rr=>?_;have hlen:items.size=ps.length:=by have:=rr.size;rwa [EZ] at this
 have h0:0<ps.length:=MG hp;refine u8 hh hu pl.isList rr (by exact E1 h0 (E6 (I4 hlen))) λv h' tk hv k=>?_;refine xa1 (iS (λi=>(ps[i]?).getD (0,0)) (items.size-1)) λb1 b2=>?_;generalize argBest (λi j=>decide (lt2 ((ps[i]?).getD (0,0)) ((ps[j]?).getD (0,0)))) (items.size-1)=j at hv b1 b2;have hj:j<ps.length:=by exact o49 hlen h0 b1
 have ej:ps[j]?=EU ps[j]:=E2 hj;have e2:(ps.map tp)[j]?=EU (tp ps[j]):=by simp[hj]
 refine ad (rr.arr e2) λx hx rx=>?_;rw[hv] at hx;cases hx
 have ep:ps[j]=p:=by
  refine ku ?_ ?_
  ·refine xe1 (Gg hp) λi z1=>?_;obtain ⟨hi,e3⟩:=z1;have:=b2 i (by exact o41 hlen hi);rw[ej,E2 hi,e3] at this;exact this
  ·exact hm _ (Fy _)
 rw[ep] at rx;exact .mk (rx.keep (aB k)) (I.grow k tk) (aB k) hq
end
section
variable {w:FH}
theorem qf (l:Addr) (items:Array Value) (n:Nat) (ps:List P2) (p:P2) (x:Value) (hz:items.size≤1000) (j:Nat) (hj:j<items.size) (hit:ps[j]?=EU p) (k:Nat):
 ∀i:Nat,j-i=k->i≤j->(∀m,i≤m->m<j->ps[m]?≠EU p)->Pl pgm w (Builtin.«list.remove.loop» ⟨[.ref l,x,Kh i],[]⟩)
  (λA R s=>A.in1.units<cLine∧s.heap.get? l=EU {cls:= .type "list",dict:=none,data:= .seq items n,slots:= #[]}∧VRs s.heap (ps.map tp) items.toList∧VR s.heap (tp p) x∧
   R (.ok (.ret .none)) {s with heap:=s.heap.update l (F4 λxs=>xs.eraseIdxIfInBounds j)}):=by
 have hs1:items.size≤sizeLine:=by rw[sizeLine_eq];exact o51 hz
 have vat:∀(h:Heap) (r:VRs h (ps.map tp) items.toList) (i:Nat) (hi:i<items.size) (q:P2),ps[i]?=EU q->VR h (tp q) items[i]:=λh r i hi q hq=>by
  have e2:(ps.map tp)[i]?=EU (tp q):=by simp[hq]
  refine ad (r.arr e2) λx hx rx=>?_;rw[H0 hi] at hx;cases hx;exact rx
 induction k with
 |zero=>
  intro i hk hij hno A R s h;obtain ⟨hp,g,d,tk,os⟩:=s;refine xa4 h λhu hl r rx h=>?_;have hij':i=j:=by exact GF hij (IK hk)
  subst hij'
  wp_walk using Kr hl
  have hi:items[((i:Nat):Int).toNat]?=EU items[i]:=by simp[hj]
  rw[hi];refine EX (qL hu (vat _ r i hj p hit) rx ?_);rw[decide_eq_true rfl];have hz':(items.eraseIdxIfInBounds i).size≤sizeLine+1:=EY (MeetsSeq.size_erased items _) (GO hs1)
  wp_walk using (GU hl rfl (hz:=hs1) (_hz':=hz')),Kr hl
  simpa using h
 |succ k ih=>
  intro i hk hij hno A R s h;obtain ⟨hp,g,d,tk,os⟩:=s;refine xa4 h λhu hl r rx h=>?_;have hlt:i<items.size:=by exact E3 hij hj
  wp_walk using Kr hl
  have hi:items[((i:Nat):Int).toNat]?=EU items[i]:=by simp[hlt]
  have hc:((i:Int)+1)=((i+1:Nat):Int):=by push_cast;rfl
  have hlen:items.size=ps.length:=by have:=r.size;rwa [EZ] at this
  have eq:ps[i]?=EU (ps[i]'(by exact o54 hlt hlen)):=E2 _;have ne:(ps[i]'(by exact o54 hlt hlen))≠p:=λe=>hno i (Fd _) (by exact J5 (by rw[hk];exact H7 _)) (by rw[eq,e]);rw[hi];refine EX (qL hu (vat _ r i hlt _ eq) rx ?_);rw[decide_eq_false ne]
  wp_walk
  rw[hc]
  exact ⟨Gq HJ _,Gb K1 (by
   rw[FK HJ _];exact ih (i+1) (by exact o56 hk) (by exact J5 (by rw[hk];exact H7 _)) (λm h1 h2=>hno m (by exact Fs h1) h2) A R _ (ia4 hu hl r rx h))⟩
theorem pi (l:Addr) (items:Array Value) (n:Nat) (ps:List P2) (p:P2) (x:Value) (hz:items.size≤1000) (j:Nat) (hj:j<items.size) (hit:ps[j]?=EU p) (hno:∀m,m<j->ps[m]?≠EU p):
 Pl pgm w (Builtin.«list.remove» ⟨[.ref l,x],[]⟩)
  (λA R s=>A.in1.units<cLine∧s.heap.get? l=EU {cls:= .type "list",dict:=none,data:= .seq items n,slots:= #[]}∧VRs s.heap (ps.map tp) items.toList∧VR s.heap (tp p) x∧
   R (.ok (.ret .none)) {s with heap:=s.heap.update l (F4 λxs=>xs.eraseIdxIfInBounds j)}):=by
 intro A R s h;obtain ⟨hp,g,d,tk,os⟩:=s;refine xa4 h λhu hl r rx h=>?_
 wp_walk using Kr hl
 exact ⟨Gq HJ _,Gb K1 (by
  rw[FK HJ _];exact qf l items n ps p x hz j hj hit _ 0 rfl (FY _) (λm _ h2=>hno m h2) A R _ (ia4 hu hl r rx h))⟩
end
section
variable {X:Xc} {st:St} {Q:MV->St->Prop}
theorem VRs.erase {h:Heap}:∀{ms:List MV} {xs:List Value},VRs h ms xs->∀j,VRs h (ms.eraseIdx j) (xs.eraseIdx j)
 | [],xs,r,j=>by
  unfold VRs at r;subst r;exact .nil _
 |m::ms,xs,r,j=>by
  unfold VRs at r;refine am r λy ys z1 z2=>?_;clear r;subst z1;refine xa1 z2 λr1 r2=>?_;clear z2
  cases j with
  |zero=>exact r2
  |succ j=>exact .cons r1 (VRs.erase r2 j)
theorem i4 {α β:Type} (f:α->β):∀(l:List α) (j:Nat),(l.eraseIdx j).map f=(l.map f).eraseIdx j
 | [],_=>rfl
 |_::_,0=>rfl
 |a::l,j+1=>by
  show f a::(l.eraseIdx j).map f=f a::(l.map f).eraseIdx j;rw[i4 f l j]
theorem uV (ps:List P2) (p:P2) (h:p∈ps):ps.erase p=ps.eraseIdx (ps.idxOf p):=by
 rw[List.erase_eq_eraseIdx_of_idxOf rfl]
theorem uX (hu:X.A.in1.units<cLine) {ps:List P2} (e:st.σ l=EU (.lst (ps.map tp))) (hz:ps.length≤900) {p:P2} (hp:p∈ps) (hq:Q (.k .none) ⟨st.σ.put l (.lst ((ps.erase p).map tp)),st.ρ⟩):WC X (.builtin "list.remove") [.r l,tp p] st Q:=λφ s us I r=>by
 refine tN r λz rz=>?_;refine ad (I.own e) λitems z1 rr=>?_;refine xe1 z1 λn pl=>?_;clear z1;have hlen:items.size=ps.length:=by have:=rr.size;rwa [EZ] at this
 have hi:=Gi hp;have T:s.TypeIs (.ref l) "list" :=(af _ pl rfl)
 have h1:ps[ps.idxOf p]?=EU p:=by rw[E2 hi];simp
 have h2:∀m,m<ps.idxOf p->ps[m]?≠EU p:=λm hm e=>by
  obtain ⟨hl,e⟩:=E5.mp e;have:=MH (p:=(·==p)) hm;simp[e] at this
 refine Jj Lq T PySem.F.entry_list_remove (PySem.F.args_list_remove_2 _ _) (pi (w:=X.C.w) l items n ps p z (by exact nLL (EY (E6 hlen) hz) rfl) (ps.idxOf p) (by exact o39 hlen hi) h1 h2) (ia4 hu pl rr rz ?_);have sb:Heap.SameBut l s.heap (s.heap.update l (F4 λxs=>xs.eraseIdxIfInBounds (ps.idxOf p))):=Heap.SameBut.update ..;have k:=cp I e sb;refine xe1 (fW (λxs=>xs.eraseIdxIfInBounds (ps.idxOf p)) items n) λn' hm=>?_
 have er:(items.eraseIdxIfInBounds (ps.idxOf p)).toList=items.toList.eraseIdx (ps.idxOf p):=by
  simp[LF,hlen,hi]
 have x:OR (s.heap.update l (F4 λxs=>xs.eraseIdxIfInBounds (ps.idxOf p))) l (.lst ((ps.erase p).map tp)):=by
  refine (af (items.eraseIdxIfInBounds (ps.idxOf p)) ⟨n',?_⟩ ?_)
  ·rw[←hm];exact Heap.get?_update_self _ pl rfl
  ·rw[er,uV ps p hp];have:((ps.eraseIdx (ps.idxOf p)).map tp)=(ps.map tp).eraseIdx (ps.idxOf p):=i4 tp ps _;rw[this];exact (rr.erase _).keep k
 exact Post.mk (ba ..) (I.upd (t:=s.toks) e sb x) k hq
end
end
section
section
variable {t:Addr}
variable {prog:Program} {w:FH} {A:Gk} {E:Value->Shared->Prop} {s:Shared} {dv:Addr->Value}
theorem tE {Q:Bool->Shared->Prop} (X:(KD w.params dv).In s.heap) (ho:s.heap.get? t=EU o) (hc:o.cls= .ref 153) (hd:o.data= .seq items n) (hz:items.size<1000) (h0:items.size≠0)
 (h:∀k,Q true {s with toks:=k}):E4 (Fa prog w) A (IJ (.ref t)) Q E s:=by
 have ty:Ft (Fa prog w) s.heap (GX (.ref t)) (.ref 153):=by rw[←hc];exact (Ft.ld ho).andThen .now
 have L1:=Ft.of_peek (M:=Fa prog w) X (qb w.params dv ⟨prog,w.params⟩);have L2:Ft (Fa prog w) s.heap (IU (.ref t) (.type "tuple")) true:=ty.andThen (f:=λt=>GG t (.type "tuple")) (Ft.of_peek (M:=Fa prog w) X (jo w.params dv ⟨prog,w.params⟩));have SP:Ft (Fa prog w) s.heap (Hf (.ref t) "__len__") (EU (.builtin "tuple.__len__")):=ty.andThen L1;unfold IJ;refine EX (SP.here ?_);have sp:splitId "tuple.__len__" =EU ("tuple","__len__"):=s!"1"
 dsimp only;rw[sp];dsimp only;refine EX (L2.here ?_);refine Mv (λh=>absurd h s!"d") (λ_=>?_);refine Mv (λ_=>?_) (λhf=>absurd s!"1" hf);refine EX (ty.here ?_);refine EX (mX X ho hc hd hz λt' k=>?_);refine EX (m:=asInt? _) (E0 ?_);refine E0 ?_;have e:((items.size:Int) !=0)=true:=bne_iff_ne.mpr λhh=>h0 (by exact HH.mp hh);rw[e];exact h k
theorem oB {Q:List Value->Shared->Prop} (hh:A.handled=none) (X:(KD w.params dv).In s.heap) (ho:s.heap.get? t=EU o) (hi:imm o=true) (hc:o.cls= .ref 153) (hd:o.data= .seq items n) (hz:items.size<1000) (h0:items.size≠0)
 (h:∀h' k,(∀b o,s.heap.get? b=EU o->h'.get? b=EU o)->Q items.toList {s with heap:=h',toks:=k}):E4 (Fa prog w) A (collect (.ref t)) Q NoE s:=by
 unfold collect;refine EX (QW (Gb F.entry_proto_collect ?_));rw[FK F.plain_proto_collect _];show E4 _ A.in1 (Pk []>>=λl=>again (.builtin "list.__iadd__" ⟨[l,.ref t],[]⟩)) _ _ s;refine EX (GD ?_);refine E0 ⟨Gq OO _,Gb F.entry_list_iadd ?_⟩;rw[FK OO _];show E4 _ A.in1 (GY (.ref s.heap.objs.size) (.ref t) (.ref s.heap.objs.size)) _ _ _;have old0:∀b o,s.heap.get? b=EU o->(s.heap.push {cls:= .type "list",data:= .seq ([]:List Value).toArray}).get? b=EU o:=λb o e=>Heap.get?_push_of_some _ e;have hS:(s.heap.push {cls:= .type "list",data:= .seq ([]:List Value).toArray}).get? s.heap.objs.size=EU {cls:= .type "list",data:= .seq #[] 0}:=Heap.get?_push_size _ rfl;have nS:∀b o,s.heap.get? b=EU o->b≠s.heap.objs.size:=λb o e=>Fh (Heap.lt_size e);have tS:t≠s.heap.objs.size:=nS _ _ ho;have ho1:=old0 _ _ ho;have X1:(KD w.params dv).In (s.heap.push {cls:= .type "list",data:= .seq ([]:List Value).toArray}):=X.keeps old0;generalize s.heap.push {cls:= .type "list",data:= .seq ([]:List Value).toArray}=h1 at*;generalize s.heap.objs.size=S at*;unfold GY;have ty:Ft (Fa prog w) h1 (GX (.ref t)) (.ref 153):=by rw[←hc];exact (Ft.ld ho1).andThen .now
 refine EX (ty.here ?_);have q1:HP (.ref S) (.ref t)=false:=by simp[HP,E8 tS]
 have q2:(GS 153==GL "list")=false:=s!"d"
 have q3:(GS 153==GL "tuple")=false:=s!"d"
 simp only[q1,q2,q3,Kt,FL,if_false];refine EX (kM X1 ho1 hc ?_);have old1:∀b o,h1.get? b=EU o->(h1.push {cls:= .type "tuple_iterator",data:= .fields #[.ref t,.int 0 0]}).get? b=EU o:=λb o e=>Heap.get?_push_of_some _ e;have hS2:=old1 _ _ hS;have ho2:=old1 _ _ ho1;have X2:=X1.keeps old1;have itI:Js (h1.push {cls:= .type "tuple_iterator",data:= .fields #[.ref t,.int 0 0]}) h1.objs.size t 0:=(aR _ (Heap.get?_push_size _ rfl) rfl rfl)
 have SI:S≠h1.objs.size:=Fh (Heap.lt_size hS);have lt1:∀b o,h1.get? b=EU o->b≠h1.objs.size:=λb o e=>Fh (Heap.lt_size e);have tI:=lt1 _ _ ho1;show E4 _ _ _ _ _ {s with heap:=h1.push {cls:= .type "tuple_iterator",data:= .fields #[.ref t,.int 0 0]}};generalize h1.push {cls:= .type "tuple_iterator",data:= .fields #[.ref t,.int 0 0]}=h2 at*;generalize h1.objs.size=I at*;refine EX (wpAny_holding (tE X2 ho2 hc hd hz h0 λk=>?_));refine Mv (λ_=>?_) (λhf=>absurd rfl hf);refine EX (HL ?_);refine EX ?_;show E4 _ _ (Jt S (·.push .none)>>=λ_=>Jt S (·.pop)) _ _ _;refine EX (GU hS2 rfl ?_);have hS3:=Heap.get?_update_self (F4 (·.push FG)) hS2 rfl;refine GU (hz:=by seq_fits) hS3 rfl ?_;have hS4:=Heap.get?_update_self (F4 (·.pop)) hS3 rfl;have oth:∀b o,b≠S->h2.get? b=EU o->((h2.update S (F4 (·.push FG))).update S (F4 (·.pop))).get? b=EU o:=λb o hb e=>(Heap.get?_update_other _ _ (E8 hb)).trans ((Heap.get?_update_other _ _ (E8 hb)).trans e);generalize (h2.update S (F4 (·.push FG))).update S (F4 (·.pop))=h3 at*;have itI3:Js h3 I t 0:=by refine ad itI λo a b=>?_;clear itI;exact (af o (oth _ _ (E8 SI) a) b)
 have sq3:Sq h3 t items:=(cz o n (oth _ _ tS ho2) hd)
 refine E0 ⟨Gq Ij _,?_⟩;refine j8 (n:=items.size) (λi s'=>∃h' c,s'={s with heap:=h',toks:=k}∧Js h' I t i∧Sq h' t items∧h'.get? S=EU {cls:= .type "list",dict:=none,data:= .seq (items.toList.take i).toArray c,slots:= #[]}∧∀b o,b≠S->b≠I->h3.get? b=EU o->h'.get? b=EU o) ?_ ?_ items.size 0 _ (by exact o89) (hU h3 _ rfl itI3 sq3 hS4 (λ_ _ _ _ e=>e))
 ·intro i s' hi zr1;refine am zr1 λh' c z1 z2=>?_;clear zr1;subst z1;obtain ⟨it',sq',S',old'⟩:=z2;have hx:items[i]?=EU items[i]:=by simp[hi]
  refine jh it' sq' hx λh'' it'' sb=>?_;have S'':h''.get? S=_:=(sb.2 S SI).trans S';refine (jt _ _ _ rfl S'' ⟨by simp;exact EY (Ox _ _) (Fs hz),λh4 c4 S4 sb4=>⟨h4,c4,rfl,?_,?_,?_,λb o b1 b2 e=>?_⟩⟩)
  ·refine ad it'' λo' a b=>?_;clear it'';exact (af o' ((sb4.2 I (E8 SI)).trans a) b)
  ·refine am sq' λo' n' a b=>?_;clear sq';exact (cz o' n' ((sb4.2 t tS).trans ((sb.2 t tI).trans a)) b)
  ·have:(items.toList.take (i+1)).toArray=(items.toList.take i).toArray.push items[i]:=by
    rw[FT (by simpa using hi)];simp
   rw[this];exact S4
  ·exact (sb4.2 b b1).trans ((sb.2 b b2).trans (old' b o b1 b2 e))
 ·intro s' zr1;refine am zr1 λh' c z1 z2=>?_;clear zr1;subst z1;obtain ⟨it',sq',S',old'⟩:=z2;refine jS hh it' sq' s!"4" λh'' ex=>⟨rfl,?_⟩
  have S'':h''.get? S=_:=ex S _ SI S';show E4 _ A (load S>>=_) _ _ _;refine EX (GP S'' ?_);show E4 _ A (pure _) _ _ _;refine E0 ?_
  have e:(items.toList.take items.size).toArray.toList=items.toList:=by
   rw[G6];exact HC s!"4"
  show Q (items.toList.take items.size).toArray.toList _;rw[e];exact h h'' k λb o e=>ex b o (lt1 b o (old0 b o e)) (old' b o (nS b o e) (lt1 b o (old0 b o e)) (oth b o (nS b o e) (old1 b o (old0 b o e))))
end
end
section
section
variable {prog:Program} {w:FH} {A:Gk} {s:Shared} {dv:Addr->Value}
theorem kA {t:Addr} {Q:Value->Shared->Prop} (hh:A.handled=none) (X:(KD w.params dv).In s.heap) (ho:s.heap.get? t=EU o) (hi:imm o=true) (hc:o.cls= .ref 153) (hd:o.data= .seq items n) (hz:items.size<1000) (h0:items.size≠0)
 (h:∀(h':Heap) (k:Nat),(∀b o,s.heap.get? b=EU o->h'.get? b=EU o)->Q (.ref h'.objs.size) {s with heap:=h'.push {cls:= .type "tuple",data:= .seq items},toks:=k}):E4 (Fa prog w) A (call (.type "tuple") [.ref t]) Q NoE s:=by
 have ty:Ft (Fa prog w) s.heap (GX (.ref t)) (.ref 153):=by rw[←hc];exact (Ft.ld ho).andThen .now
 refine MZ (Q₁:=λobj s₁=>∃(h':Heap) (k:Nat),(∀b o,s.heap.get? b=EU o->h'.get? b=EU o)∧obj= .ref h'.objs.size∧s₁={s with heap:=h'.push {cls:= .type "tuple",data:= .seq items},toks:=k}) Kv (F.typeCall_tuple_1 _) F.entry_object_init ?_ λobj s₁ h₁=>?_
 ·refine F1 Kv.plain F.entry_tuple_new (FN (F.newCall_tuple_1 _) ?_);have hsub:=sub_tuple_self;have hinit:=init_tuple_lookup;have hmh:=madeHere_tuple;have hT:∀(A:Gk) (Q:Value->Shared->Prop) (E:Value->Shared->Prop),Q (.ref 153) s->E4 (Fa prog w) A (GX (.ref t)) Q E s:=λA Q E q=>ty.here q;have hC:∀(Q:List Value->Shared->Prop) (E:Value->Shared->Prop),(∀(h':Heap) (k:Nat),(∀b o,s.heap.get? b=EU o->h'.get? b=EU o)->Q items.toList {s with heap:=h',toks:=k})->E4 (Fa prog w) A.in1.in1 (collect (.ref t)) Q E s:=λQ E q=>FB (oB (A:=A.in1.in1) hh X ho hi hc hd hz h0 q) (λ_ _ x=>x) λ_ _ x=>x.elim;clear ty X ho;clear h;obtain ⟨hp,g,d,tk,os⟩:=s
  wp_walk using hT _,hC _ _
  intro h' k hk;show E4 _ _ (KL items.toList.toArray>>=λv=>ret v) _ _ _;unfold KL;have e:items.toList.toArray=items:=s!"4"
  rw[e];refine EX (GD ?_ (by show items.size≤sizeLine;rw[sizeLine_eq];exact po hz));exact E0 (cZ h' k hk rfl rfl)
 ·refine bM h₁ λh' k old z1 z2=>?_;clear h₁;subst z1;subst z2;have tyT:({s with heap:=h'.push {cls:= .type "tuple",data:= .seq items},toks:=k}:Shared).TypeIs (.ref h'.objs.size) "tuple" :=(af _ (Heap.get?_push_size _ rfl) rfl)
  exact (ia2 tyT (F.args_object_init_2 _ _) (object_init_meets Kv.init.lookup Kv.made s!"d" prog w A.in1 _ _ ⟨tyT,rfl,h h' k old⟩))
end
theorem VRs.of_get {h:Heap}:∀{ms:List MV} {xs:List Value},ms.length=xs.length->(∀(i:Nat) m x,ms[i]?=EU m->xs[i]?=EU x->VR h m x)->VRs h ms xs
 | [],[],_,_=> .nil _
 | [],_::_,e,_=>by simp at e
 |_::_,[],e,_=>by simp at e
 |m::ms,x::xs,e,k=> .cons (k 0 m x rfl rfl) (VRs.of_get (by simpa using e) λi m' x' a b=>k (i+1) m' x' (by simpa using a) (by simpa using b))
section
variable {X:Xc} {st:St} {Q:MV->St->Prop}
theorem IF.pushed {s:Shared} (I:IF X φ st s) (k:∀b o,s.heap.get? b=EU o->h'.get? b=EU o) (o:Obj) (t:Nat):IF X φ st {s with heap:=h'.push o,toks:=t}:=
 I.grow (λb o' e=>Heap.get?_push_of_some o (k b o' e)) t
theorem wf (hh:X.A.handled=none) (N:Kn X) (hz:ms.length<1000) (h0:ms.length≠0) (hq:Q (.t (.type "tuple") ms) st):WC X (.type "tuple") [.t (.ref 153) ms] st Q:=λφ s us I r=>by
 unfold VRs at r;refine am r λy ys z1 z2=>?_;clear r;subst z1;refine xa1 z2 λz3 r=>?_;clear z2;obtain ⟨a,o,items,n,e1,e2,e3,e4,e5,e6⟩:=z3;unfold VRs at r;subst r e1;have z:=e6.size;refine kA hh (I.kin N) e2 e3 e4 e5 (by exact E3 (E6 z) hz) (by exact z▸h0) λh' k old=>?_;have k2:∀b o',s.heap.get? b=EU o'->(h'.push {cls:= .type "tuple",data:= .seq items}).get? b=EU o':=λb o' e=>Heap.get?_push_of_some _ (old b o' e);refine Post.mk (m:= .t (.type "tuple") ms) (eU _ _ items 0 rfl (Heap.get?_push_size _ rfl) rfl rfl rfl (e6.keep (aB k2))) (I.pushed old _ k) (aB k2) hq
theorem rJ (hh:X.A.handled=none) {r:Addr} {n:Nat} (hn:n≤1000) (e:st.σ r=EU (rgO 0 (n:Int))) (hq:∀a,st.σ a=none->Q (.r a) ⟨st.σ.put a (.lst ((F7 n).map λk:Nat=> .i (k:Int))),st.ρ⟩):WC X (.type "list") [.r r] st Q:=λφ s us I rr=>by
 refine fN rr ?_;refine aV (I.own e) λo ho _ z1=>?_;refine xe2 z1 λt u z3=>?_;clear z1;obtain ⟨v,rfl⟩:=z3;refine call_list_range hh (r:=r) (a:=0) (b:=n) (c:=1) (t:=t) (u:=u) (v:=v) (n:=n) ho (small_one s!"d" s!"d" (by exact Ai) (by exact jLT hn s!"d")) (by rw[Q3];exact rg0 n) (by exact nLL hn rfl) λh' tk acc c' old hS items=>?_;refine xa2 (bA I.inv.fresh) λn1 n2 n3=>?_;have I1:=I.grow old tk
 have x:OR h' s.heap.objs.size (.lst ((F7 n).map λk:Nat=> .i (k:Int))):=by
  refine (af acc ⟨c',hS⟩ (VRs.of_get (by rw[EZ,Jn,H5,items.1]) λi m x hm hx=>?_));rw[Fx] at hm;refine ad (Gc.mp hm) λk hk z1=>?_;subst z1;have hl:=(E5.mp hk).1;have hv:=(E5.mp hk).2;rw[Kx] at hv;clear hk hm;subst hv;obtain ⟨t',e'⟩:=items.2 i x (by simpa using hx);rw[e',Int.zero_add,Int.mul_one];exact cH ..
 have I2:=(I1.hide n2 n1 I.inv.sz x).show_ n2 n1 n3;exact .mk (bN ..) I2 (aB old) (hq _ n2)
end
end
section
noncomputable abbrev nI (k:Nat):MV:= .i (k:Int)
section
variable {X:Xc} {st:St} {Q:MV->St->Prop}
theorem r8 {h:Heap}:∀{ns:List Nat} {vs:List Value},VRs h (ns.map nI) vs->∀y∈vs,∃(n:Nat) (t:Nv),y= .int (n:Int) t
 | [],vs,r,y,hy=>by
  have r:VRs h [] vs:=r;unfold VRs at r;subst r;cases hy
 |n::ns,vs,r,y,hy=>by
  have r:VRs h (nI n::ns.map nI) vs:=r;unfold VRs at r;refine am r λz zs z1 z2=>?_;clear r;subst z1;refine xa1 z2 λz3 r2=>?_;clear z2;obtain ⟨t,e⟩:=z3;rcases FF.mp hy with rfl|hy
  ·exact (ie2 n t e)
  ·exact r8 r2 y hy
noncomputable def isI (k:Int):Value->Bool
 | .int a _=>a==k
 |_=>false
theorem qz {ns:List Nat} (e:st.σ l=EU (.lst (ns.map nI))) (hz:ns.length≤1000) (hk:k∈ns) (hq:Q (nI (ns.idxOf k)) st):WC X (.builtin "list.index") [.r l,nI k] st Q:=λφ s us I r=>by
 unfold VRs at r;refine am r λy ys z1 z2=>?_;clear r;subst z1;refine xa1 z2 λe1 r=>?_;clear z2;unfold VRs at r;refine am r λz zs z1 z2=>?_;clear r;subst z1;refine xa1 z2 λz3 r=>?_;clear z2;obtain ⟨t,e2⟩:=z3;unfold VRs at r;subst r e2;cases (show y= .ref l from e1);refine ad (I.own e) λitems z1 rr=>?_;refine xe1 z1 λn pl=>?_;clear z1;have hlen:items.size=ns.length:=by have:=rr.size;rwa [EZ] at this
 have hi:=Gi hk;have T:s.TypeIs (.ref l) "list" :=(af _ pl rfl)
 have at_:∀(i:Nat) (hi:i<items.size),∃t,items[i]= .int ((ns[i]'(by exact iU hlen hi):Nat):Int) t:=λi hi=>by
  have e2:(ns.map nI)[i]?=EU (nI (ns[i]'(by exact iU hlen hi))):=by simp[show i<ns.length by exact iU hlen hi]
  refine ad (rr.arr e2) λx hx z1=>?_;refine xe1 z1 λt rx=>?_;clear z1;rw[H0 hi] at hx;cases hx;exact ⟨t,rx⟩
 refine IV Jo T PySem.F.entry_list_index (PySem.F.args_list_index_2 _ _)
  (MeetsSeq.list_index l items n (.int (k:Int) t) (isI k) (λy hy=>?_) (ns.idxOf k) (by exact o39 hlen hi) (by exact Gm (GM.mpr (EY (Fs hi) hz)) s!"d") ?_ λm hm hlt=>?_) ⟨pl,.mk (cH ..) (I.toks _) (.refl _) hq⟩
 ·refine xe2 (r8 rr y (by simpa using hy)) λa u z1=>?_;clear hy;subst z1;exact OP _ _ _ _
 ·refine xe1 (at_ (ns.idxOf k) (by exact o39 hlen hi)) λt e3=>?_;rw[e3];show ((ns[ns.idxOf k]:Nat):Int)==(k:Int);simp
 ·refine xe1 (at_ m hm) λt e3=>?_;rw[e3];show (((ns[m]'(by exact iU hlen hm):Nat):Int)==(k:Int))=false;have:=MH (p:=(·==k)) hlt;rw[beq_eq_false_iff_ne];intro h;exact absurd (show (ns[m]'(by exact iU hlen hm))=k by exact o1 h) (by simpa using this)
theorem uy {x:Int} (hx:x.toNat=n) (h0:0≤x) (hn:n≤1000) (e:st.σ l=EU (.lst [.k .none])) (hq:∀a,st.σ a=none->Q (.r a) ⟨st.σ.put a (.lst (FZ n (.k .none))),st.ρ⟩):W2 X (Ha .Mult) (.r l) (.i x) st Q:=λφ s v w I e1 ⟨u,e2⟩=>by
 cases ((show v= .ref l from e1));subst e2;refine ad (I.own e) λitems z1 rr=>?_;refine xe1 z1 λc pl=>?_;clear z1
 have hit:items= #[.none]:=by
  unfold VRs at rr;refine bM rr λy ys e3 r1 rr=>?_;unfold VRs at rr;subst rr;cases ((show y= .none from r1));rw[←Hg (xs:=items),e3]
 clear rr;subst hit;have em:(#[FG]:Array Value).isEmpty=false:=rfl
 have fl:∀(m:Nat) (a:Array Value),NG (λx1 x2=>x1++x2) a (FZ m #[FG])=a++(FZ m FG).toArray:=by
  intro m
  induction m with
  |zero=>intro a;simp
  |succ m ih=>
   intro a;rw[Nt,JU,ih,Nt];apply KV.mp;simp
 have eq:(NG (λx1 x2=>x1++x2) #[] (FZ (if (#[FG]:Array Value).isEmpty=true then 0 else x.toNat) #[FG]))=(FZ n FG).toArray:=by
  rw[em,if_neg s!"d",hx,fl];simp
 have vr:∀(h:Heap) m,VRs h (FZ m (.k .none)) (FZ m FG):=by
  intro h m
  induction m with
  |zero=>exact .nil _
  |succ m ih=>exact .cons (ba ..) ih
 obtain ⟨n1,I'⟩:=I.new (o:={cls:= .type "list",data:= .seq (FZ n FG).toArray}) (m:= .lst (FZ n (.k .none))) (af _ ⟨0,Heap.get?_push_size _ rfl⟩ (vr _ _))
 have fin:Post X φ s Q (.ref s.heap.objs.size) {s with heap:=s.heap.push {cls:= .type "list",data:= .seq (NG (λx1 x2=>x1++x2) #[] (FZ (if (#[FG]:Array Value).isEmpty=true then 0 else x.toNat) #[FG]))}}:=by
  rw[eq];exact .mk (bN ..) I' (Internal.keep_push _ _) (hq _ n1)
 have T:s.TypeIs (.ref l) "list" :=(af _ pl rfl)
 refine wpAny_binaryOp_repeat_ref (T:="list") (U:="int") s!"d" T (λs'=>OZ s' _ u) noFill_list_mul PySem.F.fills_int_mul Mq repeat_list PySem.F.slot_int_index.lookup ?_;refine IV Mq (OZ s _ u) PySem.F.entry_int_rmul (PySem.F.args_int_rmul_2 _ _) (int___rmul___int_list _ u l _ c) ⟨pl,?_⟩;refine (ia2 rfl T ?_);exact IV PySem.F.slot_list_mul T PySem.F.entry_list_mul (PySem.F.args_list_mul_2 _ _) (AutoListH.list___mul___list_int_3 l #[FG] c x u (by simp[Qu];exact ⟨Iv s!"d" h0,Gm (PG.mp (hx▸hn)) s!"d"⟩) (by show¬(1*x.toNat>_);exact F9.mpr (by rw[Nat.one_mul,hx];exact EY hn s!"d")) (by show¬IS (1*x.toNat)=true;simp[IS,sizeLine];exact Iv (PG.mp (hx▸hn)) s!"d")) ⟨pl,fin⟩
end
end
section
noncomputable def Sep (σ:Sg) (l:List (Addr×MO)):Prop:=(∀p∈l,σ p.1=EU p.2)∧l.Pairwise λp q=>p.1≠q.1
theorem Sep.g {σ:Sg} {l:List (Addr×MO)} (h:Sep σ l) (i:Nat) {a:Addr} {m:MO} (e:l[i]?=EU (a,m)):σ a=EU m:=h.1 (a,m) (GZ e)
theorem Sep.new {σ:Sg} {l:List (Addr×MO)} (h:Sep σ l) (hb:σ b=none) (m:MO):Sep (σ.put b m) ((b,m)::l):=by
 have hn:∀p∈l,p.1≠b:=λp hp e=>by have:=h.1 p hp;rw[e,hb] at this;cases this
 refine ⟨λp hp=>?_,Ky.mpr ⟨λp hp=>E8 (hn p hp),h.2⟩⟩;rcases FF.mp hp with rfl|hp
 ·exact Sg.put_same ..
 ·exact (Sg.put_ne _ _ (hn p hp)).trans (h.1 p hp)
theorem Sep.keep {σ:Sg} {l:List (Addr×MO)} (h:Sep σ l) (k:∀b m,σ b=EU m->σ' b=EU m):Sep σ' l:=⟨λp hp=>k _ _ (h.1 p hp),h.2⟩
theorem Sep.same {σ:Sg} {l:List (Addr×MO)} (h:Sep σ l) (hb:σ b=none) (m:MO):Sep (σ.put b m) l:=h.keep λc m' hc=>by
 rw[Sg.put_ne _ _ (λe=>by subst e;rw[hb] at hc;cases hc)];exact hc
theorem Sep.p {σ:Sg} {l:List (Addr×MO)} (h:Sep σ l) (i:Nat) {a:Addr} {m:MO} (e:l[i]?=EU (a,m)) (m':MO):Sep (σ.put a m') (l.set i (a,m')):=by
 obtain ⟨hi,e'⟩:=E5.mp e;have pw:=FX.mp h.2;refine ⟨λp hp=>?_,FX.mpr λj k hj hk hjk=>?_⟩
 ·refine xe1 (Gg hp) λj z1=>?_;clear hp;obtain ⟨hj,rfl⟩:=z1;rw[FA] at hj;rw[JI];split
  ·exact Sg.put_same ..
  ·rename_i hij
   have ne:l[j].1≠a:=λe2=>by
    rcases Oa i j with h1|h1|h1
    ·exact pw i j hi hj h1 (by rw[e',e2])
    ·exact hij h1
    ·exact pw j i hj hi h1 (by rw[e',e2])
   exact (Sg.put_ne _ _ ne).trans (h.1 _ (Fy _))
 ·rw[FA] at hj hk
  have e1:∀j (hj:j<l.length),((l.set i (a,m'))[j]'(by rw[FA];exact hj)).1=l[j].1:=λj hj=>by
   rw[JI];split
   ·rename_i e2;subst e2;rw[e']
   ·rfl
  rw[e1 j hj,e1 k hk];exact pw j k hj hk hjk
theorem Sep.drop1 {σ:Sg} {p:Addr×MO} {l:List (Addr×MO)} (h:Sep σ (p::l)):Sep σ l:=⟨λq hq=>h.1 q (Fj _ hq),h.2.of_cons⟩
section
variable {X:Xc} {st:St} {Q:MV->St->Prop}
theorem yA {e1 e2:G0} {pos} (h:WE X e1 st λm st₁=>WT X m st₁ λb st₂=>if b=true then WE X e2 st₂ Q else Q m st₂):WE X (.BoolOp .And [e1,e2] pos) st Q:=λφ s I=>by
 rw[arm_eval_BoolOp];show E4 X.M X.A (boolOp pos .And [eval e1 X.env,eval e2 X.env]) _ _ s
 show E4 X.M X.A (eval e1 X.env>>=λv=>Ke pos>>=λ_=>IY [v] (NK v)>>=λt=>match BoolOp.And,t with
  | .And,false| .Or,true=>pure v
  |_,_=>boolOp pos .And [eval e2 X.env]) _ _ s
 refine EX (ab (h φ s I) λv s₁ pp=>?_);obtain ⟨m,st₁,r₁,I₁,k₁,h₁⟩:=pp;refine EX (GH ?_);refine EX (wpAny_holding (ab (h₁ φ s₁ v I₁ r₁) λb s₂ pp=>?_));obtain ⟨st₂,I₂,k₂,h₂⟩:=pp
 cases b with
 |true=>
  rw[if_pos rfl] at h₂;show E4 X.M X.A (eval e2 X.env) _ _ _;exact ab (h₂ φ s₂ I₂) λw s₃ p=>p.trans (k₁.trans k₂)
 |false=>
  rw[if_neg s!"d"] at h₂;exact E0 ⟨m,st₂,r₁.keep k₂,I₂,k₁.trans k₂,h₂⟩
theorem tK {lower upper:Option G0} {p:Pos} (ht:∀o r,IM value o r=pure ())
 (h:WE X value st λa st₁=>∃l vs items,a= .r l∧WP X lower st₁ λlo st₂=>WP X upper st₂ λhi st₃=>X.C.h0.IsList l items∧VRs X.C.h0 vs items.toList∧vs.length≤sizeLine∧∀b,st₃.σ b=none->Q (.r b) ⟨st₃.σ.put b (.lst (eG vs lo hi)),st₃.ρ⟩):
 WE X (.Subscript value (.Slice lower upper none p) pos) st Q:=λφ s I=>by
 refine MW (ab (h φ s I) λv s₁ y1=>?_) ht;obtain ⟨a,st₁,r,I₁,k₁,l,vs,items,e0,h₁⟩:=y1;refine ab (jw h₁ I₁) λvl s₂ y2=>?_;obtain ⟨lo,st₂,e₂,I₂,k₂,h₂⟩:=y2;refine ab (jw h₂ I₂) λvu s₃ pp=>?_;refine ia pp λhi st₃ e₃ I₃ k₃ pl0 rr0 z1=>?_;clear pp;refine xa1 z1 λhl q=>?_;clear z1;subst e0;cases (show v= .ref l from r);have pl:s₃.heap.IsList l items:=by refine ad pl0 λo e r=>?_;clear pl0;exact (af o (I₃.inv.old _ _ e) r)
 have rr:VRs s₃.heap vs items.toList:=rr0.keep (aB I₃.inv.old);refine (eU l items (lo.map (·.1)) (hi.map (·.1)) rfl pl (by rw[rr.size];exact hl) (e₂▸jz lo) (e₃▸jz hi) ?_);have I₄:=I₃.push {cls:= .type "slice",data:= .fields #[vl,vu,.none]}
 have nr:VRs (s₃.heap.push {cls:= .type "slice",data:= .fields #[vl,vu,.none]}) (eG vs (lo.map (·.1)) (hi.map (·.1))) (NC items (lo.map (·.1)) (hi.map (·.1)) none).toList:=by
  rw[Qi];have sz:=rr.size;rw[G6];unfold eG;rw[←sz];exact ((rr.keep (Internal.keep_push _ _)).drop _).take _
 obtain ⟨n,I₅⟩:=I₄.new (m:= .lst (eG vs (lo.map (·.1)) (hi.map (·.1)))) (o:={cls:= .type "list",data:= .seq (NC items (lo.map (·.1)) (hi.map (·.1)) none)}) (af _ ⟨0,Heap.get?_push_size _ rfl⟩ (nr.keep (Internal.keep_push _ _)));rw[Heap.size_push] at n I₅;exact .mk (bN ..) I₅ (k₁.trans (k₂.trans (k₃.trans ((Internal.keep_push _ _).trans (Internal.keep_push _ _))))) (q _ n)
theorem tw (xs:List α) (g f:α->MV) (p:α->Bool) (ns:List Str) (Bd:α->Lo->Prop) (cl:List (Str×Addr)) (gs:List (Str×Value))
 (Oi:∀C,XOk (Xi X scope cl C gs)) (ht:∀C,fa (Xi X scope cl C gs) target λi=> .itl l i)
 (hclos:H9 scope X.env=pure cl) (hsc:c9 scope=true) (hs:∀x,F5 iter X.env x=pure x) (h0:Nm (loC scope) ns) (sz:xs.length≤1000)
 (hl:st.σ l=EU (.lst (xs.map g)))
 (hit:∀Q':MV->St->Prop,Q' (.r l) st->WE X iter st Q')
 (hasg:∀C a (st':St),a∈xs->st'.σ=st.σ->Nm st'.ρ ns->∀QU:St->Prop,(∀ρ',Nm ρ' ns->Bd a ρ'->QU ⟨st.σ,ρ'⟩)->WA (Xi X scope cl C gs) target (g a) st' QU)
 (htest:∀C a ρ',a∈xs->Bd a ρ'->∀QB:Bool->St->Prop,QB (p a) ⟨st.σ,ρ'⟩->bQ (Xi X scope cl C gs) ifs ⟨st.σ,ρ'⟩ QB)
 (helt:∀C a ρ',a∈xs->p a=true->Bd a ρ'->∀Q':MV->St->Prop,Q' (f a) ⟨st.σ,ρ'⟩->WE (Xi X scope cl C gs) elt ⟨st.σ,ρ'⟩ Q')
 (hq:∀D,st.σ D=none->Q (.r D) ⟨st.σ.put D (.lst ((xs.filter p).map f)),st.ρ⟩):
 WE X (.ListComp elt [⟨target,iter,ifs,0⟩] scope pos) st Q:=by
 refine jn cl gs (mo:=λi=> .itl l i) (vs:=xs.map g) (Cond:=λst=>st.σ l=EU (.lst (xs.map g))) (λi acc st'=>st'.σ=st.σ∧Nm st'.ρ ns∧acc=(((xs.take i).filter p).map f))
  (λC=>ci (Oi C) l _) (λC=>fc (Oi C) l) hs ht hclos hsc (by rw[EZ,sizeLine_eq];exact o51 sz) ?_ ?_ ?_ ?_
 ·refine hit _ (ia3 rfl (cB hl) ⟨rfl,h0,s!"4"⟩ ?_);intro acc st' zr1 D hD;refine xa2 zr1 λe1 _ e3=>?_;clear zr1;rw[EZ,Go] at e3;rw[e1] at hD;rw[e1,e3];exact hq D hD
 ·intro i acc st' zr1;refine pv zr1 λ_ _=>?_;clear zr1;rw[EZ];exact EY (GR _ _) (H8 _ _)
 ·intro i acc st' zr1;refine xa2 zr1 λe1 _ _=>?_;clear zr1;rw[e1];exact hl
 ·intro C i hi acc st' zr1;refine pv zr1 λe1 e2=>?_;clear zr1;have hi':i<xs.length:=by simpa using hi
  have htk:xs.take (i+1)=xs.take i++[xs[i]]:=FT hi';rw[F8];refine hasg C xs[i] st' (Fy _) e1 e2 _ λρ' n1 b1=>?_;refine htest C xs[i] ρ' (Fy _) b1 _ ?_
  cases hp:p xs[i] with
  |true=>
   rw[if_pos rfl];refine helt C xs[i] ρ' (Fy _) hp b1 _ (ia2 rfl n1 ?_);rw[htk,Ik,Fe,GK hp];rfl
  |false=>
   rw[if_neg s!"d"];refine (ia2 rfl n1 ?_);rw[htk,Ik,Ho (by rw[hp];decide)];simp
end
end
section
noncomputable abbrev fdL (v:Value):FuncData:=dD (top 35) "law" "law" .none v (.str (EW "law_il0198_01") 1575) none (.ref 1009)
noncomputable abbrev gsL:List (Str×Value):=[("len",.builtin "len"),("chr",.builtin "chr"),("max",.builtin "max"),("min",.builtin "min"),("range",.type "range"),("list",.type "list"),("heappush",.ref 271),("heappop",.ref 278),("_law_read",.ref 998),("_law_line",.ref 991),("_law_parted",.ref 1005),("SequenceMatcher",.ref 260),("shlex",.ref 975)]
noncomputable abbrev XL (C:Cx) (A:Gk) (v:Value) (L:Addr):Xc:=⟨C,A,J7 (fdL v) L 1010,gsL⟩
theorem C6 (P:F0):hO (cg (top 35)) P gsL=true:=s!"k"
theorem DL {C:Cx} (G:Gd C) (hh:A.handled=none) (v:Value) (L:Addr):XOk (XL C A v L):=by
 refine ⟨rfl,hh,λx u e=>?_⟩;have z:=Fm.mp (C6 C.w.params) (x,u) (gy e);simp only[Fc,JT,Ga,beq_iff_eq,I5] at z;refine xa1 z λz5 z3=>?_;clear z;refine xa1 z5 λz1 z2=>?_;clear z5;refine (ia2 z1 (by simpa using z2) (λs old E Q q=>?_));have n3:s.heap.Ns (J7 (fdL v) L 1010).globals (dw (l3 C.w.params)):=(gX G.says rfl (s3 _)).keeps old;rcases z3 with z3|⟨z3,z4⟩
 ·exact Lj n3 z3 q
 ·have n0:s.heap.Ns (J7 (fdL v) L 1010).builtins (dw (l0 C.w.params)):=(gX G.says rfl (s0 _)).keeps old;exact K5 n3 z3 n0 z4 q
section
variable {C:Cx} {A:Gk} {v:Value} {L:Addr}
theorem g_len:gsL.lookup (EW "len")=EU (.builtin "len"):=s!"k"
theorem g_chr:gsL.lookup (EW "chr")=EU (.builtin "chr"):=s!"k"
theorem g_max:gsL.lookup (EW "max")=EU (.builtin "max"):=s!"k"
theorem g_min:gsL.lookup (EW "min")=EU (.builtin "min"):=s!"k"
theorem g_range:gsL.lookup (EW "range")=EU (.type "range"):=s!"k"
theorem g_list:gsL.lookup (EW "list")=EU (.type "list"):=s!"k"
theorem g_push:gsL.lookup (EW "heappush")=EU (.ref 271):=s!"k"
theorem g_pop:gsL.lookup (EW "heappop")=EU (.ref 278):=s!"k"
theorem g_read:gsL.lookup (EW "_law_read")=EU (.ref 998):=s!"k"
theorem g_line:gsL.lookup (EW "_law_line")=EU (.ref 991):=s!"k"
theorem g_parted:gsL.lookup (EW "_law_parted")=EU (.ref 1005):=s!"k"
theorem g_SM:gsL.lookup (EW "SequenceMatcher")=EU (.ref 260):=s!"k"
theorem g_sh:gsL.lookup (EW "shlex")=EU (.ref 975):=s!"k"
noncomputable def IsC (X:Xc) (x:Str) (c:Addr):Prop:=X.env.kindOf x=EU .cell∧X.env.cells.lookup x=EU c∧(x==("__debug__" :Str))=false
theorem vv:IsC (XL C A v L) "things" (L+1):=(ia2 s!"k" s!"k" s!"1")
theorem ya:IsC (XL C A v L) "told" (L+2):=(ia2 s!"k" s!"k" s!"1")
theorem ER:IsC (XL C A v L) "y" (L+3):=(ia2 s!"k" s!"k" s!"1")
theorem yg:IsC (XL C A v L) "turn" (L+4):=(ia2 s!"k" s!"k" s!"1")
theorem xt:IsC (XL C A v L) "words" (L+5):=(ia2 s!"k" s!"k" s!"1")
theorem zj:IsC (XL C A v L) "came" (L+6):=(ia2 s!"k" s!"k" s!"1")
theorem yb:IsC (XL C A v L) "left" (L+7):=(ia2 s!"k" s!"k" s!"1")
theorem t6:IsC (XL C A v L) "lexers" (L+8):=(ia2 s!"k" s!"k" s!"1")
theorem aJ (O:XOk X) {c:Addr} (h:IsC X x c) {σ:Sg} {pos m} {Q:MV->St->Prop} (e:σ c=EU (.cel (EU m))) (hq:Q m ⟨σ,ρ⟩):WE X (.Name x pos) ⟨σ,ρ⟩ Q:=yV O h.1 h.2.1 h.2.2 e hq
theorem dA (O:XOk X) {c:Addr} (h:IsC X x c) {σ:Sg} {pos m u} (e:σ c=EU (.cel u)) (hq:QU ⟨σ.put c (.cel (EU m)),ρ⟩):WA X (.Name x pos) m ⟨σ,ρ⟩ QU:=yh O h.1 h.2.1 e hq
end
structure LawC (X:Xc) (L:Addr) (k:Nat):Prop where
 G:Gd X.C
 R:Rm (k+10) X.A
 O:XOk X
 hin:GC X.env=false
 eq:∃v,X.env=J7 (fdL v) L 1010
 gs:X.gs=gsL
 c_things:IsC X "things" (L+1)
 c_told:IsC X "told" (L+2)
 c_y:IsC X "y" (L+3)
 c_turn:IsC X "turn" (L+4)
 c_words:IsC X "words" (L+5)
 c_came:IsC X "came" (L+6)
 c_left:IsC X "left" (L+7)
 c_lexers:IsC X "lexers" (L+8)
theorem yO {C:Cx} (G:Gd C) (R:Rm (k+10) A):LawC (XL C A v L) L k:=
 ⟨G,R,DL G R.hh v L,s!"k",⟨v,rfl⟩,rfl,vv,ya,ER,yg,xt,zj,yb,t6⟩
section
variable {X:Xc} {L:Addr} {k:Nat}
theorem LawC.g_len (W:LawC X L k):X.gs.lookup (EW "len")=EU (.builtin "len" :Value):=by rw[W.gs];exact Internal.g_len
theorem LawC.g_chr (W:LawC X L k):X.gs.lookup (EW "chr")=EU (.builtin "chr" :Value):=by rw[W.gs];exact Internal.g_chr
theorem LawC.g_max (W:LawC X L k):X.gs.lookup (EW "max")=EU (.builtin "max" :Value):=by rw[W.gs];exact Internal.g_max
theorem LawC.g_min (W:LawC X L k):X.gs.lookup (EW "min")=EU (.builtin "min" :Value):=by rw[W.gs];exact Internal.g_min
theorem LawC.g_range (W:LawC X L k):X.gs.lookup (EW "range")=EU (.type "range" :Value):=by rw[W.gs];exact Internal.g_range
theorem LawC.g_list (W:LawC X L k):X.gs.lookup (EW "list")=EU (.type "list" :Value):=by rw[W.gs];exact Internal.g_list
theorem LawC.g_push (W:LawC X L k):X.gs.lookup (EW "heappush")=EU (.ref 271:Value):=by rw[W.gs];exact Internal.g_push
theorem LawC.g_pop (W:LawC X L k):X.gs.lookup (EW "heappop")=EU (.ref 278:Value):=by rw[W.gs];exact Internal.g_pop
theorem LawC.g_read (W:LawC X L k):X.gs.lookup (EW "_law_read")=EU (.ref 998:Value):=by rw[W.gs];exact Internal.g_read
theorem LawC.g_line (W:LawC X L k):X.gs.lookup (EW "_law_line")=EU (.ref 991:Value):=by rw[W.gs];exact Internal.g_line
theorem LawC.g_parted (W:LawC X L k):X.gs.lookup (EW "_law_parted")=EU (.ref 1005:Value):=by rw[W.gs];exact Internal.g_parted
theorem LawC.g_SM (W:LawC X L k):X.gs.lookup (EW "SequenceMatcher")=EU (.ref 260:Value):=by rw[W.gs];exact Internal.g_SM
theorem LawC.g_sh (W:LawC X L k):X.gs.lookup (EW "shlex")=EU (.ref 975:Value):=by rw[W.gs];exact Internal.g_sh
theorem LawC.u1 (W:LawC X L k):X.A.in1.units<cLine:=by have:=(Rm.in1 (n:=k+9) W.R).u;exact E3 (EY (Fr _ _) (Fr _ 16)) this
theorem LawC.u64 (W:LawC X L k):X.A.units+64<cLine:=by have:=W.R.u;exact E3 (EY (Fr (_+64) (16*_)) (Fr _ 16)) (g16 (k:=64) this s!"d")
theorem LawC.hh (W:LawC X L k):X.A.handled=none:=W.R.hh
end
noncomputable def σL (L:Addr):Sg:=λb=>if L<b∧b≤L+8 then EU (.cel none) else none
theorem AR (L:Addr):Sep (σL L) [(L+1,.cel none),(L+2,.cel none),(L+3,.cel none),(L+4,.cel none),(L+5,.cel none),(L+6,.cel none),(L+7,.cel none),(L+8,.cel none)]:=by
 show Sep (σL L) ([1,2,3,4,5,6,7,8].map λi=>(L+i,MO.cel none));refine ⟨λp hp=>?_,NV.mpr (Jq.imp (λh e=>h (Nat.add_left_cancel e)) (show [1,2,3,4,5,6,7,8].Pairwise (·≠·) by decide))⟩;refine ad (Fp.mp hp) λi hi e=>?_;have h:=(show∀i∈[1,2,3,4,5,6,7,8],1≤i∧i≤8 by decide) i hi;rw[←e];exact if_pos ⟨Hq h.1,Fi h.2 L⟩
end
section
noncomputable def wr:Stmt->List Stmt
 | .For _ _ b _ _=>b
 |_=>[]
noncomputable def B1:List Stmt:=wr ((cu (top 35)).getD 6 (.Pass ⟨0,0,0,0⟩))
noncomputable def B2:List Stmt:=wr (B1.getD 9 (.Pass ⟨0,0,0,0⟩))
noncomputable def xJ (L lth lto lh lin lgo lrow:Addr) (row:List Int) (ts:List T4) (S:S1) (my mu:Option MV):List (Addr×MO):=
 [(L+1,.cel (EU (.r lth))),(L+2,.cel (EU (.r lto))),(L+3,.cel my),(L+4,.cel mu),(L+5,.cel none),(L+6,.cel none),(L+7,.cel none),(L+8,.cel none),
  (lth,.lst (ts.map λt=>thM t.th)),(lto,.lst (S.told.map nI)),(lh,.lst (S.heap.map tp)),(lin,.lst ((S.ins.map ip).map tp)),(lgo,.lst (S.gone.map nI)),(lrow,.lst (row.map .i))]
structure P1 (L lth lto lh lin lgo lrow:Addr) (row:List Int) (ts:List T4) (S:S1) (my mu:Option MV) (σ:Sg) (ρ:Lo):Prop where
 sep:Sep σ (xJ L lth lto lh lin lgo lrow row ts S my mu)
 heap:lk ρ "heap" =EU (EU (.r lh))
 inside:lk ρ "inside" =EU (EU (.r lin))
 gone:lk ρ "gone" =EU (EU (.r lgo))
 row:lk ρ "row" =EU (EU (.r lrow))
 nm:Nm ρ ["x","number","sign","takes","least","a","b","due"]
theorem J1.least {S:S1} (J:J1 n S) (h:S.ins≠ []):∃p∈S.ins,∀b∈S.ins,¬lt2 (ip b) (ip p):=by
 obtain ⟨hp,pm,srt,so,sp,O⟩:=J
 cases srt with
 |nil=>exact absurd sp.symm.eq_nil h
 |cons p srt=>
  refine (af p (sp.mem_iff.mp (Fn ..)) (λb hb=>?_));rcases FF.mp (sp.mem_iff.mpr hb) with rfl|hb
  ·exact dM _
  ·exact kI (Ge so hb)
theorem oW (l:List PN) (p:PN):(l.map ip).erase (ip p)=(l.erase p).map ip:=by
 induction l with
 |nil=>rfl
 |cons a l ih=>
  rw[FV,Oy,Oy];by_cases h:a=p
  ·clear ih;subst h;simp
  ·have h':ip a≠ip p:=λe=>h (uU e);rw[if_neg (by simpa using h'),if_neg (by simpa using h),FV,ih]
theorem sm {α:Type}:∀{l:List α},l≠ []->∃ys x,l=ys++[x]
 | [],h=>absurd rfl h
 | [a],_=>(ie2 ([]) a rfl)
 |a::b::l,_=>by
  refine xe2 (sm (l:=b::l) s!"4") λys x e=>?_;exact (ie2 (a::ys) x (by rw[e];rfl))
theorem J1.len {n:Nat} {S:S1} (J:J1 n S):S.heap.length=S.ins.length∧S.ins.length≤n∧S.gone.length≤n∧S.told.length=n:=by
 obtain ⟨hp,pm,srt,so,sp,O⟩:=J;have h1:=pm.length_eq;rw[EZ] at h1;have h2:=sp.length_eq
 have h3:(S.gone++srt.map (·.2)).length≤n:=by
  have:=Ip O.nd (l₂:=F7 n) λk hk=>by simpa using (O.mem k).mp hk
  simpa using this
 rw[E7,EZ] at h3;exact (ia3 h1 (by exact h2▸EY (Hi _ _) h3) (by exact EY (Fr _ _) h3) O.len)
section
variable {X:Xc} {kk:Nat} {L lth lto lh lin lgo lrow:Addr} {row:List Int} {ts:List T4} {S:S1} {my mu:Option MV} {σ:Sg} {ρ:Lo}
set_option maxHeartbeats 4000000 in
theorem Bt (W:LawC X L kk) (P:P1 L lth lto lh lin lgo lrow row ts S my mu σ ρ) (J:J1 n S) (hn:n≤10) (h0:S.ins≠ [])
 (hq:∀S' σ' ρ',P1 L lth lto lh lin lgo lrow row ts S' my mu σ' ρ'->J1 n S'->S'.ins.length+1=S.ins.length->S'.told=S.told->Q .next ⟨σ',ρ'⟩):WS X B2 ⟨σ,ρ⟩ Q:=by
 have O:=W.O;refine xa3 J.len λj1 j2 j3 j4=>?_;refine ad (J.least h0) λp hp hm=>?_;have hp':ip p∈S.ins.map ip:=Fp.mpr (af p hp rfl);refine xe2 (sm (l:=S.heap) (λe=>h0 (by rw[e] at j1;exact FS.mp j1.symm))) λys x eh=>?_;obtain ⟨pe,J'⟩:=J.pop hp hm eh;conv=>arg 2;whnf
 refine xe1 (P.nm "least" s!"1") λu_l x_least=>?_;have u1:=W.u1;refine aa (ah s!"r" s!"r" s!"t" (aT O W.g_min trivial (ac (ai O P.inside (ag (zX W.hh u1 (P.sep.g 11 rfl) hp' (λq hq=>?_) (aL O x_least (ae ?_))))))))
 ·refine ad (Fp.mp hq) λq' hq' z1=>?_;clear hq;subst z1;exact hm q' hq'
 have y_least:lk (stL ρ "least" (tp (ip p))) "least" =EU (EU (tp (ip p))):=s!"lk"
 have y_inside:lk (stL ρ "least" (tp (ip p))) "inside" =EU (EU (.r lin)):=bo s!"ne" P.inside;have y_heap:lk (stL ρ "least" (tp (ip p))) "heap" =EU (EU (.r lh)):=bo s!"ne" P.heap;have y_gone:lk (stL ρ "least" (tp (ip p))) "gone" =EU (EU (.r lgo)):=bo s!"ne" P.gone;have y_row:lk (stL ρ "least" (tp (ip p))) "row" =EU (EU (.r lrow)):=bo s!"ne" P.row;have y_nm:=P.nm.st (x:="least") (m:=tp (ip p));generalize stL ρ "least" (tp (ip p))=ρ1 at y_least y_inside y_heap y_gone y_row y_nm⊢;refine aa (aA W.hin s!"r" (bp (T:="list") (id:="list.remove") trivial s!"r" s!"4" s!"r" Fw Lq PySem.F.type_list_remove
  (ai O y_inside ⟨bK (P.sep.g 11 rfl),ac (ai O y_least (ag (uX u1 (P.sep.g 11 rfl) (by rw[EZ];exact nLL (EY j2 hn) rfl) hp' ⟨trivial,ae ?_⟩)))⟩)))
 rw[oW];have S1:=P.sep.p 11 rfl (.lst (((S.ins.erase p).map ip).map tp))
 try dsimp only at S1⊢
 generalize σ.put lin (.lst (((S.ins.erase p).map ip).map tp))=σ1 at S1⊢;refine am (bu W.G (a:=278) s!"k") λob fd hi1 hi2=>?_;refine aa (bl (aC s!"r" (bB O W.g_pop hi1 hi2 trivial (ac (ai O y_heap (ag (bz (Ct.mono (tU (k:=kk+7) W.G W.R (ys:=ys) (x:=x) (by have:=congrArg Lb eh;rw[E7] at this;simp at this;exact E1 (EY (E6 (this.symm.trans j1)) (EY j2 hn):_<10) s!"d") (by rw[←eh];exact S1.g 10 rfl)) ?_))))))));intro m σ2 zr1;refine xa1 zr1 λz2 z3=>?_;clear zr1;subst z2;subst z3;have S2:=S1.p 10 rfl (.lst ((du ys x).2.map tp))
 try dsimp only at S2⊢
 generalize σ1.put lh (.lst ((du ys x).2.map tp))=σ2 at S2⊢;refine ai O y_least (wY W.u64 (ay ?_));rw[pe,decide_eq_true rfl];refine aD rfl (ak (ae ?_));refine aa (cw O W.hin y_gone (S2.g 12 rfl) s!"r" s!"r" s!"r" trivial (aP (ai O y_least (aq (xO (j:=1) (m:=nI p.2) (co (λ_ _=>s!"r") (λ_ _=>s!"r")) s!"d" s!"d" s!"2" s!"2" (i6 (S2.g 12 rfl) (by rw[EZ];exact v3 hn j3) (ae (ak ?_))))))));have S3:=S2.p 12 rfl (.lst (S.gone.map nI++[nI p.2]))
 try dsimp only at S3⊢
 have e:S.gone.map nI++[nI p.2]=(S.gone++[p.2]).map nI:=by rw[Fe];rfl
 rw[e] at S3⊢;refine hq ⟨S.told,(du ys x).2,S.ins.erase p,S.gone++[p.2]⟩ _ _ ⟨S3,y_heap,y_inside,y_gone,y_row,y_nm⟩ J' ?_ rfl;show (S.ins.erase p).length+1=_;rw[List.length_erase_of_mem hp];have:=MG hp;exact GV this
end
end
section
theorem wK (x:Int) {b:Nat} (hb:0<b):∃Y:Nat,x.fmod (b:Int)=(Y:Int)∧Y<b:=by
 have e:x.fmod (b:Int)=x % (b:Int):=Mb x (by exact dX);have h1:=Int.emod_nonneg x (b:=(b:Int)) (by exact Dz hb);have h2:=Int.emod_lt_of_pos x (b:=(b:Int)) (by exact FO.mpr hb);exact (af ((x % (b:Int)).toNat) (by rw[e];exact (NF h1).symm) (by exact (Int.toNat_lt h1).mpr h2))
theorem sw (a b:Nat):Int.fdiv (a:Int) (b:Int)=((a/b:Nat):Int):=by
 rw[LG _ (by exact dX)];simp
theorem r7 (a b:Nat):Int.fmod (a:Int) (b:Int)=((a % b:Nat):Int):=by
 rw[Mb _ (by exact dX)];simp
theorem xD {vs':List MV} {σ:Sg} (h:σ l=EU (.lst vs)) (hz:vs.length≤1000) (e:vs++[m]=vs') (hq:Q .next ⟨σ.put l (.lst vs'),ρ⟩):s6 l m ⟨σ,ρ⟩ Q:=i6 h hz (by rw[e];exact hq)
theorem iZ {σ:Sg} {Q:MV->St->Prop} {vs':List MV} (e:σ l=EU (.lst vs)) (hsz:vs.length≤sizeLine) (e2:vs++[m]=vs') (hq:Q (.k .none) ⟨σ.put l (.lst vs'),ρ⟩):WC X (.builtin "list.append") [.r l,m] ⟨σ,ρ⟩ Q:=fZ e hsz (by show Q _ ⟨σ.put l _,ρ⟩;rw[e2];exact hq)
theorem Sep.call {σ:Sg} {l:List (Addr×MO)} (h:Sep σ l) (k:∀b m,σ b=EU m->σ' b=EU m) (hb:σ b=none) {m:MO} (e:σ' b=EU m):Sep σ' (l++[(b,m)]):=by
 refine ⟨λp hp=>?_,GJ.mpr (ia2 h.2 (Mw _ _) (λp hp q hq e2=>?_))⟩
 ·rcases F2.mp hp with hp|hp
  ·exact k _ _ (h.1 p hp)
  ·rw[FW.mp hp];exact e
 ·rw[FW.mp hq] at e2;have:=h.1 p hp;rw[e2,hb] at this;cases this
theorem Sep.perm {σ:Sg} {l l':List (Addr×MO)} (h:Sep σ l) (p:l.Perm l'):Sep σ l':=
 ⟨λq hq=>h.1 q (p.mem_iff.mpr hq),(p.pairwise_iff λ{_ _} x=>E8 x).mp h.2⟩
theorem Sep.callF {σ:Sg} {l:List (Addr×MO)} (h:Sep σ l) (k:∀b m,σ b=EU m->σ' b=EU m) (hb:σ b=none) {m:MO} (e:σ' b=EU m):Sep σ' ((b,m)::l):=(h.call k hb e).perm (I8 _ _)
theorem rR {σ:Sg} {Q:MV->St->Prop} {ws us:List MV} (e:σ l=EU (.lst vs)) (e2:σ b=EU (.lst ws)) (hz:vs.length+ws.length≤1000) (hu:vs++ws=us) (hq:∀a σ',σ a=none->(∀b m,σ b=EU m->σ' b=EU m)->σ' a=EU (.lst us)->Q (.r a) ⟨σ',ρ⟩):W2 X (Ha .Add) (.r l) (.r b) ⟨σ,ρ⟩ Q:=
 BI e e2 hz λa ha=>hq a _ ha (λb m hb=>(Sg.put_ne _ _ (λe=>by rw[e,show σ a=none from ha] at hb;cases hb)).trans hb) (by rw[hu];exact Sg.put_same ..)
section
variable {X:Xc} {st:St} {Q:MV->St->Prop} {x y z:Int}
theorem fU (hb:y≠0) (e:x.fmod y=z) (h:Q (.i z) st):W2 X (Ha .Mod) (.i x) (.i y) st Q:=B8 hb (by rw[e];exact h)
theorem zZ (hp:KR x y=false) (hb:y≠0) (e:x.fdiv y=z) (h:Q (.i z) st):W2 X (Ha .FloorDiv) (.i x) (.i y) st Q:=oH hp hb (by rw[e];exact h)
theorem ur (e:x+y=z) (h:Q (.i z) st):W2 X (Ha .Add) (.i x) (.i y) st Q:=c0 (by rw[e];exact h)
theorem yD {a b c:Str} (hz:a.length+b.length≤sizeLine) (e:a++b=c) (h:Q (.s c) st):W2 X (Ha .Add) (.s a) (.s b) st Q:=cU hz (by rw[e];exact h)
theorem AN (e:st.σ l=EU (.lst vs)) (hfit:(vs.length:Int)<2^63) (hn:vs.length=n) (hq:Q (nI n) st):WC X (.builtin "len") [.r l] st Q:=dz e hfit (by rw[hn];exact hq)
theorem y0 (hh:X.A.handled=none) (e:(if y<x then y else x)=z) (hq:Q (.i z) st):WC X (.builtin "min") [.i x,.i y] st Q:=Ar hh (by rw[e];exact hq)
end
theorem mE (Y a b:Nat):((Y:Int).fdiv (a:Int)).fmod (b:Int)=((Y/a % b:Nat):Int):=by rw[sw,r7]
noncomputable def sgL:List Str:=[EW "",EW " ",EW "'",EW "\"",EW "\\",EW "#",EW ";",EW "|",EW "\n"]
theorem BF:((F7 9).all λj=>(sgL.getD j (EW "")).cps.toList==dp.getD j [])=true:=s!"1"
theorem BJ (n:Nat) (hj:j<9):(⟨#[97+n]⟩:Str)++sgL.getD j (EW "")=wd n (dp.getD j []):=by
 have h:=Fm.mp BF j (by simpa using hj);rw[beq_iff_eq] at h;show (⟨#[97+n]++(sgL.getD j (EW "")).cps⟩:Str)=⟨((97+n)::dp.getD j []).toArray⟩;rw[←h];congr 1;apply KV.mp;simp
theorem Ab (hj:j<9):dp.getD j []∈dp:=by
 rw[FQ,E2 (show j<dp.length from hj)];exact Fy _
theorem xN (h:j<n):Ny (j:Int) n=EU j:=by
 unfold Ny;rw[if_neg (HF.mpr (Ff j))];exact if_pos (by rw[decide_eq_true (Ff j),decide_eq_true (FO.mpr h)];rfl)
theorem J1.mem {n:Nat} {S:S1} (J:J1 n S) {p:P2} (hp:p∈S.heap):∃q:PN,p=ip q∧q.2<n:=by
 obtain ⟨_,pm,srt,so,sp,O⟩:=J;refine ad (Fp.mp (pm.mem_iff.mp hp)) λq hq z1=>?_;clear hp;subst z1;exact (af q rfl ((O.mem q.2).mp (Gz _ (Fp.mpr ⟨q,sp.mem_iff.mpr hq,rfl⟩))))
theorem eJ {l:List Nat} (h:k<l.length):(l.map nI)[k]?=EU (nI (l.getD k 0)):=by
 rw[Fx,FQ,E2 h];rfl
section
variable {X:Xc} {kk:Nat} {L lth lto lh lin lgo lrow:Addr} {row:List Int} {ts:List T4} {S:S1} {my mu:Option MV} {σ:Sg} {ρ:Lo}
set_option maxHeartbeats 4000000 in
theorem xf (W:LawC X L kk) {x:Int} (P:P1 L lth lto lh lin lgo lrow row ts S my mu σ ρ) (hx:lk ρ "x" =EU (EU (.i x))) (T:Ths ts) (hts:ts.length=n) (J:J1 n S) (hrow:row.length≤10) (hn:n<row.length)
 (hq:∀ts' S' my' mu' σ' ρ',P1 L lth lto lh lin lgo lrow row ts' S' my' mu' σ' ρ'->Ths ts'->ts'.length=n+1->J1 (n+1) S'->(n+1=row.length->S'.ins=[])->Q .next ⟨σ',ρ'⟩):WS X B1 ⟨σ,ρ⟩ Q:=by
 have O:=W.O
 refine xa3 J.len λj1 j2 j3 j4=>?_
 have sz:=sizeLine_eq
 conv=>arg 2;whnf
 refine ad (wK x (b:=1620) s!"d") λY hY hYl=>?_
 refine aa (ah s!"r" s!"r" s!"t" (ar (ai O hx (aq (fU s!"d" (show x.fmod 1620=(Y:Int) from hY) (dA O W.c_y (P.sep.g 2 rfl) (ae ?_)))))))
 have S1:=P.sep.p 2 rfl (.cel (EU (.i (Y:Int))))
 generalize σ.put (L+3) (.cel (EU (.i (Y:Int))))=σ1 at S1⊢
 refine xe1 (P.nm "number" s!"1") λu_n x_number=>?_
 refine aa (ah s!"r" s!"r" s!"t" (aT O W.g_len trivial (ac (aJ O W.c_things (S1.g 0 rfl) (ag (AN (S1.g 8 rfl) (by rw[EZ];exact jTT (E1 (E3 (E6 hts) hn) hrow) s!"d") (by rw[EZ,hts]) (aL O x_number (ae ?_))))))))
 obtain ⟨jj,hjj,hj⟩:∃jj,Y/20 % 9=jj∧jj<9:=⟨_,rfl,Mc _ s!"d"⟩
 with_reducible refine aa ?_
 with_reducible refine ah s!"r" s!"r" s!"t" ?_
 with_reducible refine aP ?_
 with_reducible refine cX s!"t" ?_
 iterate 9 with_reducible refine ac (aI ?_)
 with_reducible refine ag ?_
 refine ⟨by rw[sz];show 9≤_;decide,?_⟩
 refine ar (ar (aJ O W.c_y (S1.g 2 rfl) (aq ?_)))
 refine oH s!"k" s!"d" (aq ?_)
 refine fU s!"d" (show ((Y:Int).fdiv 20).fmod 9=(jj:Int) from hjj▸mE Y 20 9) ?_
 refine oZ (k:=(jj:Int)) (j:=jj) (m:= .s (sgL.getD jj (EW ""))) (λ_ _=>s!"r") (by clear hj;subst hjj;exact Ff _) (by clear hj;subst hjj;exact Iw (FO.mpr (Mc _ s!"d")) s!"d") (xN hj) ?_ ?_
 ·show (sgL.map MV.s)[jj]?=_
  rw[Fx,FQ,E2 (show jj<sgL.length from hj)];rfl
 refine xe1 ((P.nm.st (x:="number") (m:=nI n)) "sign" s!"1") λu_s x_sign=>?_
 refine aL O x_sign (ae ?_)
 have y_x:lk (stL (stL ρ "number" (nI n)) "sign" (.s (sgL.getD jj (EW "")))) "x" =EU (EU (.i x)):=s!"lk"
 have y_number:lk (stL (stL ρ "number" (nI n)) "sign" (.s (sgL.getD jj (EW "")))) "number" =EU (EU (nI n)):=s!"lk"
 have y_sign:lk (stL (stL ρ "number" (nI n)) "sign" (.s (sgL.getD jj (EW "")))) "sign" =EU (EU (.s (sgL.getD jj (EW "")))):=s!"lk"
 have y_heap:lk (stL (stL ρ "number" (nI n)) "sign" (.s (sgL.getD jj (EW "")))) "heap" =EU (EU (.r lh)):=bo s!"ne" (bo s!"ne" P.heap)
 have y_inside:lk (stL (stL ρ "number" (nI n)) "sign" (.s (sgL.getD jj (EW "")))) "inside" =EU (EU (.r lin)):=bo s!"ne" (bo s!"ne" P.inside)
 have y_gone:lk (stL (stL ρ "number" (nI n)) "sign" (.s (sgL.getD jj (EW "")))) "gone" =EU (EU (.r lgo)):=bo s!"ne" (bo s!"ne" P.gone)
 have y_row:lk (stL (stL ρ "number" (nI n)) "sign" (.s (sgL.getD jj (EW "")))) "row" =EU (EU (.r lrow)):=bo s!"ne" (bo s!"ne" P.row)
 have y_nm:=(P.nm.st (x:="number") (m:=nI n)).st (x:="sign") (m:= .s (sgL.getD jj (EW "")))
 generalize stL (stL ρ "number" (nI n)) "sign" (.s (sgL.getD jj (EW "")))=ρ1 at y_x y_number y_sign y_heap y_inside y_gone y_row y_nm⊢
 have hwd:(⟨#[97+n]⟩:Str)++sgL.getD jj (EW "")=wd n (dp.getD jj []):=BJ n hj
 have hsl:(sgL.getD jj (EW "")).length≤10:=by
  have h:=Fm.mp (show ((F7 9).all λj=>decide ((sgL.getD j (EW "")).length≤10))=true by decide+kernel) jj (by simpa using hj)
  exact of_decide_eq_true h
 have hW:Y/180 % 3<3:=Mc _ s!"d"
 have hG:Y/540<3:=by exact Nat.div_lt_of_lt_mul (show _<540*3 from hYl)
 let tn:T4:=⟨n,dp.getD jj [],Y/180 % 3,Y/540⟩
 have hok:tn.Ok:=⟨by show n<10;exact wH hrow hn,Ab hj,hW,hG⟩
 with_reducible refine aa ?_
 refine aA W.hin s!"r" ?_
 refine bp (T:="list") (id:="list.append") s!"t" s!"r" s!"4" s!"r" Fw Gw Gx ?_
 refine aJ O W.c_things (S1.g 0 rfl) ⟨bK (S1.g 8 rfl),?_⟩
 with_reducible refine ac ?_
 with_reducible refine cX s!"t" ?_
 with_reducible refine ac ?_
 with_reducible refine ar ?_
 refine aT O W.g_chr s!"t" ?_
 with_reducible refine ac ?_
 refine ar (aq (ai O y_number (ur (show (97+(n:Int))=((97+n:Nat):Int) by exact rfl) ?_)))
 refine ag (CL (by exact EY (Fi (EY (Fs hn) hrow) 97) s!"d") ?_)
 refine ai O y_sign (yD (by rw[sz];show 1+_≤_;exact EY (Fi hsl 1) s!"d") hwd ?_)
 with_reducible refine ac ?_
 refine ar (ar (aJ O W.c_y (S1.g 2 rfl) (aq ?_)))
 refine oH s!"k" s!"d" (aq ?_)
 refine fU s!"d" (mE Y 180 3) ?_
 with_reducible refine ac ?_
 refine ar (aJ O W.c_y (S1.g 2 rfl) (aq ?_))
 refine zZ s!"k" s!"d" (sw Y 540) ?_
 refine ag ⟨by rw[sz];show 3≤_;decide,?_⟩
 refine ag (iZ (vs':=(ts++[tn]).map λt=>thM t.th) (S1.g 8 rfl) (by rw[EZ,sz];exact nTL (E1 (E3 (E6 hts) hn) hrow) rfl) (by rw[Fe];rfl) ⟨trivial,ae ?_⟩)
 have S2:=S1.p 8 rfl (.lst ((ts++[tn]).map λt=>thM t.th))
 generalize σ1.put lth (.lst ((ts++[tn]).map λt=>thM t.th))=σ2 at S2⊢
 refine xe1 W.eq λv hv=>?_
 have hr5:(Y:Int).fmod 5=((Y % 5:Nat):Int):=r7 Y 5
 generalize hrr:((Y % 5:Nat):Int)=r at hr5
 with_reducible refine aa ?_
 refine aA W.hin s!"r" ?_
 refine bp (T:="list") (id:="list.append") s!"t" s!"r" s!"4" s!"r" Fw Gw Gx ?_
 refine aJ O W.c_told (S2.g 1 rfl) ⟨bK (S2.g 9 rfl),?_⟩
 with_reducible refine ac ?_
 refine ar (aq ?_)
 refine aT O W.g_max s!"t" ?_
 with_reducible refine ac ?_
 with_reducible refine ar ?_
 with_reducible refine b9 s!"t" ?_
 refine ac (aq (ag ⟨by rw[sz];show 1≤_;decide,λl0 hl0=>?_⟩))
 have S3:=S2.new hl0 (.lst [.i 0])
 generalize σ2.put l0 (.lst [.i 0])=σ3 at S3⊢
 refine tw S.heap tp (λp=>nI (S.told.getD p.2.toNat 0)) (λp=>decide (r<p.1)) ["rank","earlier"] (λp ρ=>lk ρ "rank" =EU (EU (.i p.1))∧lk ρ "earlier" =EU (EU (.i p.2)))
  [("y",L+3),("told",L+2)] [] (λC=>ao O s!"k" C) (λC=>hX) (by rw[hv];kernel_rfl) s!"k" (λ_=>s!"r") (.cons (u:=none) s!"k" (.cons (u:=none) s!"k" .nil)) (by exact nTL (E1 (E3 (EY (E6 j1) j2) hn) hrow) rfl) (S3.g 11 rfl)
  (λQ' q=>ai O y_heap q) ?_ ?_ ?_ ?_
 ·rintro C p ⟨σ',ρ'⟩ hp e nm QU hQ
  have e:σ'=σ3:=e
  clear S3;subst e
  refine xe1 (nm "rank" s!"1") λu1 z1=>?_
  refine xe1 (nm "earlier" s!"1") λu2 z2=>?_
  refine jk (ao O s!"k" C) s!"t" s!"r" (bZ (aL (ao O s!"k" C) z1 (bZ (aL (ao O s!"k" C) s!"lk" (fH ?_)))))
  exact hQ _ (.st (.st nm)) ⟨by walk_at "lk",s!"lk"⟩
 ·intro C p ρ' hp zr1 QB hQB;refine xa1 zr1 λz1 z2=>?_;clear zr1
  unfold bQ
  dsimp only
  refine aC s!"r" (ai (ao O s!"k" C) z1 (ar (aJ (ao O s!"k" C) (ia2 (by show (Gl _ _ _ X.env).kindOf _=_;rw[hv];kernel_rfl) s!"k" s!"1") (S3.g 3 rfl) (aq ?_))))
  exact fU s!"d" hr5 (iu (ay hQB))
 ·intro C p ρ' hp hpp zr1 Q' hQ';refine xa1 zr1 λz1 z2=>?_;clear zr1
  refine ad (J.mem hp) λq z3 hqn=>?_;clear hp hpp z1;subst z3
  refine aP (aJ (ao O s!"k" C) (ia2 (by show (Gl _ _ _ X.env).kindOf _=_;rw[hv];kernel_rfl) s!"k" s!"1") (S3.g 2 rfl) ?_)
  refine ai (ao O s!"k" C) z2 (aY (co (λ_ _=>s!"r") (λ_ _=>s!"r")) (S3.g 10 rfl) (by unfold ip;simp) (by unfold ip;simp;exact jTT (E1 (Fq hqn hn) hrow) s!"d") (eJ (by unfold ip;simp;exact o39 j4 hqn)) hQ')
 intro D hD
 have S4:=S3.new hD (.lst ((S.heap.filter λp=>decide (r<p.1)).map λp=>nI (S.told.getD p.2.toNat 0)))
 have fl:(S.heap.filter λp=>decide (r<p.1)).length≤S.heap.length:=GR _ _
 obtain ⟨vals,hvals⟩:∃vals,((S.heap.filter λp=>decide (r<p.1)).map λp=>S.told.getD p.2.toNat 0)=vals:=⟨_,rfl⟩
 refine rR (us:=((0::vals).map λk:Nat=>(k:Int)).map .i) (S4.g 1 rfl) (S4.g 0 rfl) (by rw[EZ];show 1+_≤_;exact EY (Fi (EY fl (EY (E6 j1) (EY j2 (EY (Fs hn) hrow)))) 1) s!"d") (by rw[←hvals,FR,FV,FR];rfl) λl2 σ5 hl2 k5 e5=>?_
 have S5:=S4.callF k5 hl2 e5
 have em:newTold S r=1+mxL vals:=by unfold newTold;rw[hvals]
 refine ag (vI W.hh (S5.g 0 rfl) s!"4" (v:=((mxL vals:Nat):Int)) ?_ ?_ ?_)
 ·by_cases h:mxL vals=0
  ·rw[h];simp
  ·exact Fp.mpr (af (mxL vals) (Fj _ (gG h)) rfl)
 ·intro x hx
  refine ad (Fp.mp hx) λy hy z3=>?_;subst z3
  rcases FF.mp hy with rfl|hy
  ·exact Ff _
  ·have:=i7 hy;exact o71 this
 refine ur (show (1:Int)+((mxL vals:Nat):Int)=((newTold S r:Nat):Int) by rw[em];exact rfl) ?_
 refine ag (iZ (vs':=(S.told++[newTold S r]).map nI) (S5.g 12 rfl) (by rw[EZ,sz];exact nTL (E1 (E3 (E6 j4) hn) hrow) rfl) (by rw[Fe];rfl) ⟨trivial,ae ?_⟩)
 have S6:=((S5.p 12 rfl (.lst ((S.told++[newTold S r]).map nI))).drop1).drop1.drop1
 generalize σ5.put lto (.lst ((S.told++[newTold S r]).map nI))=σ6 at S6⊢
 clear S5 S4 S3 S2 S1 hl0 hD hl2 k5 e5
 refine am (bu W.G (a:=271) s!"k") λob fd hi1 hi2=>?_
 with_reducible refine aa ?_
 refine aA W.hin s!"r" ?_
 refine bB O W.g_push hi1 hi2 s!"t" ?_
 refine ac (ai O y_heap ?_)
 with_reducible refine ac ?_
 with_reducible refine cX s!"t" ?_
 with_reducible refine ac ?_
 refine ar (aJ O W.c_y (S6.g 2 rfl) (aq ?_))
 refine fU s!"d" hr5 ?_
 refine ac (ai O y_number (ag ⟨by rw[sz];show 2≤_;decide,ag ?_⟩))
 refine bz (Ct.mono (q6 (k:=kk+8) W.G W.R (xs:=S.heap) (p:=(r,(n:Int))) (by exact nTT (E1 (E3 (EY (E6 j1) j2) hn) hrow) rfl) (S6.g 10 rfl)) ?_)
 intro m σ7 zr1;refine xa1 zr1 λz4 z5=>?_;clear zr1;subst z4;subst z5
 refine ⟨trivial,ae ?_⟩
 have S7:=S6.p 10 rfl (.lst ((sd (r,(n:Int)) S.heap.length S.heap.length (S.heap++[(r,(n:Int))])).map tp))
 generalize σ6.put lh (.lst ((sd (r,(n:Int)) S.heap.length S.heap.length (S.heap++[(r,(n:Int))])).map tp))=σ7 at S7⊢
 with_reducible refine aa ?_
 refine cw O W.hin y_inside (S7.g 11 rfl) s!"r" s!"r" s!"r" s!"t" ?_
 with_reducible refine cX s!"t" ?_
 with_reducible refine ac ?_
 refine ar (aJ O W.c_y (S7.g 2 rfl) (aq ?_))
 refine fU s!"d" hr5 ?_
 refine ac (ai O y_number (ag ⟨by rw[sz];show 2≤_;decide,xD (vs':=((S.ins++[(r,n)]).map ip).map tp) (S7.g 11 rfl) (by rw[EZ,EZ];exact nTL (E1 (E3 j2 hn) hrow) rfl) (by rw[Fe,Fe];rfl) (ae ?_)⟩))
 have S8:=S7.p 11 rfl (.lst (((S.ins++[(r,n)]).map ip).map tp))
 generalize σ7.put lin (.lst (((S.ins++[(r,n)]).map ip).map tp))=σ8 at S8⊢
 clear S7 S6
 have J8:=J.push r
 with_reducible refine aa ?_
 with_reducible refine ah s!"r" s!"r" s!"t" ?_
 refine aT O W.g_min s!"t" ?_
 with_reducible refine ac ?_
 refine aT O W.g_len s!"t" ?_
 refine ac (ai O y_inside (ag (dz (S8.g 11 rfl) ?_ ?_)))
 ·rw[EZ,EZ,E7];simp;exact show ((_+1:Nat):Int)<_ from Gm (GM.mpr (EY (FE j2) (EY hn hrow))) s!"d"
 with_reducible refine ac ?_
 with_reducible refine aP ?_
 with_reducible refine cX s!"t" ?_
 iterate 4 with_reducible refine ac (aq ?_)
 with_reducible refine ag ?_
 refine ⟨by rw[sz];show 4≤_;decide,?_⟩
 refine ar (ar (aJ O W.c_y (S8.g 2 rfl) (aq ?_)))
 refine oH s!"k" s!"d" (aq ?_)
 obtain ⟨t4,e4,h4⟩:∃t4,Y/5 % 4=t4∧t4<4:=⟨_,rfl,Mc _ s!"d"⟩
 refine fU s!"d" (show ((Y:Int).fdiv 5).fmod 4=(t4:Int) from e4▸mE Y 5 4) ?_
 refine oZ (k:=(t4:Int)) (j:=t4) (m:=nI ([0,0,1,2].getD t4 0)) (λ_ _=>s!"r") (by exact Bn) (by exact jTT h4 s!"d") (xN h4) (eJ (l:=[0,0,1,2]) h4) ?_
 generalize [0,0,1,2].getD t4 0=tk
 refine xe1 (y_nm "takes" s!"1") λu_t x_takes=>?_
 obtain ⟨t0,e0,l0⟩:∃t0:Nat,(if ((tk:Nat):Int)<((((S.ins++[(r,n)]).map ip).map tp).length:Int) then ((tk:Nat):Int) else ((((S.ins++[(r,n)]).map ip).map tp).length:Int))=(t0:Int)∧t0≤(S.ins++[(r,n)]).length:=by
  rw[EZ,EZ]
  split
  ·exact (af tk rfl (by exact EN ‹_›))
  ·exact (af _ rfl (Fd _))
 refine ag (y0 W.hh e0 (aL O x_takes (ae ?_)))
 have z_takes:lk (stL ρ1 "takes" (nI t0)) "takes" =EU (EU (nI t0)):=s!"lk"
 have z_heap:lk (stL ρ1 "takes" (nI t0)) "heap" =EU (EU (.r lh)):=s!"lk"
 have z_inside:lk (stL ρ1 "takes" (nI t0)) "inside" =EU (EU (.r lin)):=s!"lk"
 have z_gone:lk (stL ρ1 "takes" (nI t0)) "gone" =EU (EU (.r lgo)):=s!"lk"
 have z_row:lk (stL ρ1 "takes" (nI t0)) "row" =EU (EU (.r lrow)):=s!"lk"
 have z_nm:=y_nm.st (x:="takes") (m:=nI t0)
 show WS X _ ⟨σ8,stL ρ1 "takes" (nI t0)⟩ Q
 generalize stL ρ1 "takes" (nI t0)=ρ2 at z_takes z_heap z_inside z_gone z_row z_nm⊢
 have lT:((ts++[tn]).map λt=>thM t.th).length=n+1:=by rw[EZ,E7,hts];rfl
 have lI:(((S.ins++[(r,n)]).map ip).map tp).length=S.ins.length+1:=by rw[EZ,EZ,E7];rfl
 have lI':(S.ins++[(r,n)]).length=S.ins.length+1:=by rw[E7];rfl
 refine dB (Q1:=λfl st'=>fl= .next∧st'.σ=σ8∧∃t:Nat,lk st'.ρ "takes" =EU (EU (nI t))∧t≤S.ins.length+1∧(n+1=row.length->t=S.ins.length+1)∧lk st'.ρ "heap" =EU (EU (.r lh))∧lk st'.ρ "inside" =EU (EU (.r lin))∧lk st'.ρ "gone" =EU (EU (.r lgo))∧lk st'.ρ "row" =EU (EU (.r lrow))∧Nm st'.ρ ["x","number","sign","takes","least","a","b","due"]) ?_ ?_
 ·with_reducible refine bl ?_
  with_reducible refine aC s!"r" ?_
  refine aT O W.g_len s!"t" ?_
  refine ac (aJ O W.c_things (S8.g 0 rfl) (ag (dz (S8.g 8 rfl) (by rw[lT];exact jLT (EY hn hrow) s!"d") ?_)))
  refine aT O W.g_len s!"t" ?_
  refine ac (ai O z_row (ag (dz (S8.g 13 rfl) (by rw[EZ];exact BH hrow) (j5 (ay ?_)))))
  rw[lT,EZ]
  by_cases h:n+1=row.length
  ·refine ift (by rw[beq_iff_eq];exact congrArg Nat.cast h) ?_
   with_reducible refine aa ?_
   with_reducible refine ah s!"r" s!"r" s!"t" ?_
   refine aT O W.g_len s!"t" ?_
   refine ac (ai O z_inside (ag (dz (S8.g 11 rfl) (by rw[lI];exact Gm (GM.mpr (EY (FE j2) (EY (E6 h) hrow))) s!"d") (aL O z_takes (ae (ak ?_))))))
   rw[lI]
   exact (ia2 rfl rfl ⟨S.ins.length+1,s!"lk",Fd _,λ_=>rfl,s!"lk",s!"lk",s!"lk",s!"lk",.st z_nm⟩)
  ·refine aD (by rw[beq_eq_false_iff_ne];exact λz_e=>h (HH.mp z_e)) (ak (ia2 rfl rfl ⟨t0,z_takes,by exact EY l0 (E6 lI'),λe=>absurd e h,z_heap,z_inside,z_gone,z_row,z_nm⟩))
 intro fl zr1 zr2;obtain ⟨σ9,ρ3⟩:=zr1;refine xa1 zr2 λz4 z5=>?_;clear zr2;subst z4;obtain ⟨rfl,t,v_takes,ht,hlast,v_heap,v_inside,v_gone,v_row,v_nm⟩:=z5
 dsimp only at v_takes v_heap v_inside v_gone v_row v_nm
 refine ae ?_
 with_reducible refine aa ?_
 refine fK (mo:=λi=>rgI (0+(i:Int)) ((t:Int)-i)) (vs:=cY 0 t) (Cond:=λ_=>True) (λi st=>∃S' mu',P1 L lth lto lh lin lgo lrow row (ts++[tn]) S' (EU (.i (Y:Int))) mu' st.σ st.ρ∧J1 (n+1) S'∧S'.ins.length+i=S.ins.length+1)
  (gB O 0 t) (λ_=>s!"r") (λ_ _=>s!"r") ?_ (λ_ _ _=>trivial) ?_ ?_
 ·refine fR O W.g_range s!"t" ?_
  refine ac (ai O v_takes (ag (pg λrg hrg=>⟨(cZ _ mu ⟨S8.same hrg _,v_heap,v_inside,v_gone,v_row,v_nm⟩ J8 ?_),?_⟩)))
  ·exact lI'
  ·exact iq (a:=0) s!"d" s!"d" (by exact Ai) (by exact Gm (GM.mpr (EY ht (EY (FE j2) (EY hn hrow)))) s!"d") t (rg0 t) (Sg.put_same ..)
 ·intro J0 hJ i hi zr1 zr2;obtain ⟨σ',ρ'⟩:=zr1;refine bM zr2 λS' mu' P' J' hl=>?_;clear zr2
  have hi':i<t:=by simpa[cY] using hi
  refine dA O W.c_turn (P'.sep.g 3 rfl) ?_
  refine Bt W (mu:=EU ((cY 0 t)[i])) ⟨P'.sep.p 3 rfl _,P'.heap,P'.inside,P'.gone,P'.row,P'.nm⟩ J' (by exact EY hn hrow) (λe=>by rw[e] at hl;simp at hl;exact Fz _ (E1 (E3 (E6 (I4 hl)) hi') ht)) λS'' σ'' ρ'' P'' J'' h1 h2=>hJ _ _ (cZ S'' _ P'' J'' (by exact DE hl h1))
 ·intro zr1 zr2;obtain ⟨σ',ρ'⟩:=zr1;refine bM zr2 λS' mu' P' J' hl=>?_;clear zr2
  have hlen:(cY 0 t).length=t:=by simp[cY]
  rw[hlen] at hl
  refine ak (ae (ak (hq (ts++[tn]) S' _ mu' σ' ρ' P' ⟨?_,?_⟩ (by rw[E7,hts];rfl) J' λe=>?_)))
  ·intro z hz
   rcases F2.mp hz with hz|hz
   ·exact T.ok z hz
   ·rw[FW.mp hz];exact hok
  ·intro i z hz
   by_cases h:i<ts.length
   ·rw[Gs h] at hz;exact T.k i z hz
   ·rw[Hc (by exact o82 h)] at hz
    have h0:i-ts.length=0:=by
     cases h1:i-ts.length with
     |zero=>rfl
     |succ m=>rw[h1] at hz;simp at hz
    rw[h0] at hz
    simp at hz
    subst hz
    show n=i
    exact ((GF (IK h0) (F9.mp h)).trans hts).symm
  ·have:=hlast e
   exact FS.mp (by exact Nat.add_right_cancel (hl.trans (this.symm.trans (Iu _).symm)))
end
end
section
theorem Sep.newE {σ:Sg} {l:List (Addr×MO)} (h:Sep σ l) (hb:σ b=none) (m:MO):Sep (σ.put b m) (l++[(b,m)]):=
 (h.new hb m).perm (I8 _ _).symm
theorem Sep.pick {σ:Sg} {l l':List (Addr×MO)} (h:Sep σ l) (is:List Nat) (nd:is.Nodup) (e:is.map (λi=>l[i]?)=l'.map EU):Sep σ l':=by
 have hlen:is.length=l'.length:=by have:=congrArg Lb e;rwa [EZ,EZ] at this
 have at_:∀(a:Nat) (ha:a<l'.length),l[is[a]'(by exact o39 hlen ha)]?=EU l'[a]:=λa ha=>by
  have h1:(is.map (λi=>l[i]?))[a]?=(l'.map EU)[a]?:=by rw[e]
  rw[Fx,Fx,E2 (show a<is.length by exact o39 hlen ha),E2 ha] at h1;simpa using h1
 have pw:=FX.mp h.2;refine ⟨λp hp=>?_,FX.mpr λa b ha hb hab=>?_⟩
 ·obtain ⟨a,ha,rfl⟩:=Gg hp;exact h.1 _ (GZ (at_ a ha))
 ·obtain ⟨h1,e1⟩:=E5.mp (at_ a ha);obtain ⟨h2,e2⟩:=E5.mp (at_ b hb);have ne:=(FX.mp nd) a b (by exact o39 hlen ha) (by exact o39 hlen hb) hab;rw[←e1,←e2];rcases NZ ne with h3|h3
  ·exact pw _ _ h1 h2 h3
  ·exact E8 (pw _ _ h2 h1 h3)
theorem Du (l:List MV):eG l none (EU 6)=l.take 6:=by
 unfold eG;simp only[O4,Kb];have:MU l.length 6=min 6 l.length:=by unfold MU;simp;exact EF
 rw[this,Nat.sub_zero];rcases KP 6 l.length with h|h
 ·rw[Lg h]
 ·rw[Oe h,HC (Fd _),HC h]
theorem Nm.sub {ns ms:List Str} (h:Nm ρ ns) (hs:(ms.all λx=>ns.contains x)=true):Nm ρ ms:=λx hx=>h x (by
 have:=Fm.mp hs x hx;simpa using this)
noncomputable def BR:List Stmt:=(cu (top 35)).drop 7
section
variable {X:Xc} {kk:Nat} {L:Addr} {σ:Sg} {ρ:Lo}
set_option maxHeartbeats 4000000 in
theorem yj (W:LawC X L kk) {scr:List Int} {its:Array Value} (pl:X.C.h0.IsList lsc its) (rr:VRs X.C.h0 (scr.map .i) its.toList) (hz:scr.length≤63)
 (hs:lk ρ "script" =EU (EU (.r lsc))) (nm:Nm ρ ["row","heap","inside","gone","x","number","sign","takes","least","a","b","due"])
 (S0:Sep σ [(L+1,.cel none),(L+2,.cel none),(L+3,.cel none),(L+4,.cel none),(L+5,.cel none),(L+6,.cel none),(L+7,.cel none),(L+8,.cel none)]) {Q:Fl->St->Prop}
 (hq:∀lth lto lh lin lgo lrow row ts S my mu σ' ρ',P1 L lth lto lh lin lgo lrow row ts S my mu σ' ρ'->Ths ts->4≤ts.length->ts.length≤10->J1 ts.length S->S.ins=[]->Nm ρ' ["a","b","due"]->WS X BR ⟨σ',ρ'⟩ Q):
 WS X (cu (top 35)) ⟨σ,ρ⟩ Q:=by
 have O:=W.O
 have sz:=sizeLine_eq
 conv=>arg 2;whnf
 refine xe1 (nm "row" s!"1") λu_row x_row=>?_
 refine xe1 (nm "heap" s!"1") λu_heap x_heap=>?_
 refine xe1 (nm "inside" s!"1") λu_inside x_inside=>?_
 refine xe1 (nm "gone" s!"1") λu_gone x_gone=>?_
 with_reducible refine aa ?_
 with_reducible refine ah s!"r" s!"r" s!"t" ?_
 with_reducible refine ar ?_
 with_reducible refine b9 s!"t" ?_
 iterate 4 with_reducible refine ac (aq ?_)
 with_reducible refine ag ?_
 refine ⟨by rw[sz];show 4≤_;decide,λl0 hl0=>?_⟩
 refine tK (λ_ _=>s!"r") ?_
 refine ai O hs (oG lsc (scr.map .i) its rfl ?_)
 refine fD (fG (aq (gk 6 rfl pl rr (by rw[EZ,sz];exact Eo hz) (λl1 hl1=>?_))))
 have k1:(σ.put l0 (.lst [.i 223,.i 1021,.i 1172,.i 0])) l0=EU (.lst [.i 223,.i 1021,.i 1172,.i 0]):=Sg.put_same ..
 have ne01:l0≠l1:=λe=>by subst e;have:=k1.symm.trans hl1;cases this
 refine rR (us:=([223,1021,1172,0]++scr.take 6).map .i) ((Sg.put_ne _ _ ne01).trans k1) ((Sg.put_same ..).trans (by rw[Du,←List.map_take])) (by rw[EZ,H4];show 4+_≤_;exact Do) (by rw[Fe];rfl) λlrow σ1 hrow kr er=>?_
 have S1:=((S0.same hl0 (.lst [.i 223,.i 1021,.i 1172,.i 0])).same hl1 _).call kr hrow er
 refine aL O x_row (ae ?_)
 clear k1 ne01 hl0 hl1 hrow S0 kr er
 with_reducible refine aa ?_
 refine ah s!"r" s!"r" s!"t" (b9 s!"t" (ag ⟨FY _,λlth hth=>?_⟩))
 have S2:=S1.newE hth (.lst [])
 refine dA O W.c_things (S2.g 0 rfl) (ae ?_)
 have S3:=S2.p 0 rfl (.cel (EU (.r lth)))
 with_reducible refine aa ?_
 refine ah s!"r" s!"r" s!"t" (b9 s!"t" (ag ⟨FY _,λlto hto=>?_⟩))
 have S4:=S3.newE hto (.lst [])
 refine dA O W.c_told (S4.g 1 rfl) (ae ?_)
 have S5:=S4.p 1 rfl (.cel (EU (.r lto)))
 with_reducible refine aa ?_
 refine ah s!"r" s!"r" s!"t" (b9 s!"t" (ag ⟨FY _,λlh hh=>?_⟩))
 have S6:=S5.newE hh (.lst [])
 refine aL O (bo s!"ne" x_heap) (ae ?_)
 with_reducible refine aa ?_
 refine ah s!"r" s!"r" s!"t" (b9 s!"t" (ag ⟨FY _,λlin hin=>?_⟩))
 have S7:=S6.newE hin (.lst [])
 refine aL O s!"lk" (ae ?_)
 with_reducible refine aa ?_
 refine ah s!"r" s!"r" s!"t" (b9 s!"t" (ag ⟨FY _,λlgo hgo=>?_⟩))
 have S8:=S7.newE hgo (.lst [])
 refine aL O s!"lk" (ae ?_)
 have S9:=S8.pick (l':=[(L+1,.cel (EU (.r lth))),(L+2,.cel (EU (.r lto))),(L+3,.cel none),(L+4,.cel none),(L+5,.cel none),(L+6,.cel none),(L+7,.cel none),(L+8,.cel none),(lth,.lst []),(lto,.lst []),(lh,.lst []),(lin,.lst []),(lgo,.lst []),(lrow,.lst (([223,1021,1172,0]++scr.take 6).map .i))]) [0,1,2,3,4,5,6,7,9,10,11,12,13,8] s!"d" s!"k"
 have hrl:([223,1021,1172,0]++scr.take 6).length≤10:=by rw[E7,H4];show 4+_≤_;exact Ej
 have hrl4:4≤([223,1021,1172,0]++scr.take 6).length:=by rw[E7];show 4≤4+_;exact DH
 generalize [223,1021,1172,0]++scr.take 6=row at S9 hrl hrl4
 have y_row:lk (stL (stL (stL (stL ρ "row" (.r lrow)) "heap" (.r lh)) "inside" (.r lin)) "gone" (.r lgo)) "row" =EU (EU (.r lrow)):=s!"lk"
 have y_heap:lk (stL (stL (stL (stL ρ "row" (.r lrow)) "heap" (.r lh)) "inside" (.r lin)) "gone" (.r lgo)) "heap" =EU (EU (.r lh)):=s!"lk"
 have y_inside:lk (stL (stL (stL (stL ρ "row" (.r lrow)) "heap" (.r lh)) "inside" (.r lin)) "gone" (.r lgo)) "inside" =EU (EU (.r lin)):=s!"lk"
 have y_gone:lk (stL (stL (stL (stL ρ "row" (.r lrow)) "heap" (.r lh)) "inside" (.r lin)) "gone" (.r lgo)) "gone" =EU (EU (.r lgo)):=s!"lk"
 have y_nm:Nm (stL (stL (stL (stL ρ "row" (.r lrow)) "heap" (.r lh)) "inside" (.r lin)) "gone" (.r lgo)) ["x","number","sign","takes","least","a","b","due"]:=
  Nm.st (Nm.st (Nm.st (Nm.st (nm.sub s!"1"))))
 show WS X _ ⟨_,stL (stL (stL (stL ρ "row" (.r lrow)) "heap" (.r lh)) "inside" (.r lin)) "gone" (.r lgo)⟩ Q
 generalize stL (stL (stL (stL ρ "row" (.r lrow)) "heap" (.r lh)) "inside" (.r lin)) "gone" (.r lgo)=ρ1 at y_row y_heap y_inside y_gone y_nm⊢
 with_reducible refine aa ?_
 refine fK (mo:=λi=> .itl lrow i) (vs:=row.map .i) (Cond:=λst=>st.σ lrow=EU (.lst (row.map .i))) (λi st=>∃ts S my mu,P1 L lth lto lh lin lgo lrow row ts S my mu st.σ st.ρ∧Ths ts∧ts.length=i∧J1 i S∧(i=row.length->S.ins=[]))
  (ci O lrow _) (λ_=>s!"r") (λ_ _=>s!"r") ?_ ?_ ?_ ?_
 ·exact ai O y_row ⟨(jA ([]) ⟨[],[],[],[]⟩ none none ⟨S9,y_heap,y_inside,y_gone,y_row,y_nm⟩ ⟨(λt ht=>by cases ht),(λi t h=>by simp at h)⟩ ⟨rfl,J1.start,(λe=>by exact (EK hrl4 e).elim)⟩),cB (S9.g 13 rfl)⟩
 ·intro i st zr1;refine bx zr1 λts S my mu P _=>?_;clear zr1
  exact P.sep.g 13 rfl
 ·intro J0 hJ i hi zr1 zr2;obtain ⟨σ',ρ'⟩:=zr1;refine bx zr2 λts S my mu P z1=>?_;clear zr2;obtain ⟨T,hl,J,_⟩:=z1
  have hi':i<row.length:=by simpa using hi
  rw[F8]
  refine xe1 (P.nm "x" s!"1") λu hu=>?_
  refine aL O hu ?_
  refine xf W (x:=row[i]) (P:=⟨P.sep,bo s!"ne" P.heap,bo s!"ne" P.inside,bo s!"ne" P.gone,bo s!"ne" P.row,P.nm.st⟩) (cF hu) T hl J hrl hi' λts' S' my' mu' σ'' ρ'' P' T' hl' J' he=>hJ _ _ (jA ts' S' my' mu' P' T' ⟨hl',J',he⟩)
 ·intro zr1 zr2;obtain ⟨σ',ρ'⟩:=zr1;refine bx zr2 λts S my mu P z1=>?_;clear zr2;obtain ⟨T,hl,J,he⟩:=z1
  rw[EZ] at hl J he
  refine ak (ae ?_)
  exact hq lth lto lh lin lgo lrow row ts S my mu σ' ρ' P T (by exact DO hrl4 hl) (by exact Ei hrl hl) (by rw[hl];exact J) (he rfl) (P.nm.sub s!"1")
end
end
section
noncomputable def t40:T4:=⟨0,[],0,0⟩
noncomputable def tAt (ts:List T4) (k:Nat):T4:=(ts[k]?).getD t40
theorem jG (h:k<ts.length):ts[k]?=EU (tAt ts k):=by unfold tAt;rw[E2 h];rfl
theorem pU (T:Ths ts) (h:k<ts.length):(tAt ts k).Ok:=T.ok _ (GZ (jG h))
theorem eF (h:k<ts.length):aS ts k=(tAt ts k).w:=mW (jG h)
theorem yx:∀s∈dp,∀k,k<10->Ht (wd k s)=true:=s!"1"
theorem wOk (hk:k<10) {s:List Nat} (hs:s∈dp):Ht (wd k s)=true:=yx s hs k hk
theorem wP {t:T4} (h:t.Ok):Ht t.w=true:=wOk h.k h.s
theorem gV {m:Str} (hm:Ht m=true) (hw:∀w∈ws,Ht w=true):∀a∈bb ws m,Gy 8 (Fv.str a)=true:=by
 intro a ha;obtain ⟨i,hi,rfl⟩:=Gg ha;show Ht _=true;rcases cA (E2 hi) with ⟨j,_,h⟩|⟨j,_,h,_⟩
 ·exact hw _ (GZ h)
 ·rw[h];exact hm
theorem kz (a b:Str) (h:Fv.str a=Fv.str b):a=b:=by injection h
theorem x0 (l:List MV):eG l none none=l:=by unfold eG;simp
theorem eg (l:List α):l.filter (λ_=>true)=l:=Kq.mpr λ_ _=>rfl
theorem BE {st:St} {Q:MV->St->Prop} (xs:List α) (g f:α->MV) (p:α->Bool) (cl:List (Str×Addr))
 (O:XOk X) (hclos:H9 scope X.env=pure cl) (hsc:c9 scope=true) (hs:∀x,F5 iter X.env x=pure x) (h0:lk (loC scope) x=EU none) (sz:xs.length≤1000)
 (hl:st.σ l=EU (.lst (xs.map g)))
 (hit:∀Q':MV->St->Prop,Q' (.r l) st->WE X iter st Q')
 (htest:∀C a ρ',a∈xs->lk ρ' x=EU (EU (g a))->∀QB:Bool->St->Prop,QB (p a) ⟨st.σ,ρ'⟩->bQ (Xi X scope cl C []) ifs ⟨st.σ,ρ'⟩ QB)
 (helt:∀C a ρ',a∈xs->p a=true->lk ρ' x=EU (EU (g a))->∀Q':MV->St->Prop,Q' (f a) ⟨st.σ,ρ'⟩->WE (Xi X scope cl C []) elt ⟨st.σ,ρ'⟩ Q')
 (hq:∀D,st.σ D=none->Q (.r D) ⟨st.σ.put D (.lst ((xs.filter p).map f)),st.ρ⟩):
 WE X (.ListComp elt [⟨.Name x pt,iter,ifs,0⟩] scope pos) st Q:=
 tw xs g f p [x] (λa ρ=>lk ρ x=EU (EU (g a))) cl [] (λC=>ao O hsc C) (λC=>dG λ_ _=>rfl) hclos hsc hs (.cons h0 .nil) sz hl hit
  (λC a st' ha e nm QU hQ=>by
   obtain ⟨σ',ρ'⟩:=st';have e:σ'=st.σ:=e;subst e;refine xe1 (nm x s!"4") λu z=>?_;exact aL (ao O hsc C) z (hQ _ (.st nm) (cF z))) htest helt hq
theorem d9 {σ:Sg} {Q:MV->St->Prop} (xs:List α) (g f:α->MV) (p:α->Bool) (hvs:(xs.filter p).map f=vs) (cl:List (Str×Addr))
 (O:XOk X) (hclos:H9 scope X.env=pure cl) (hsc:c9 scope=true) (hs:∀x,F5 iter X.env x=pure x) (h0:lk (loC scope) x=EU none) (sz:xs.length≤1000)
 (hl:σ l=EU (.lst (xs.map g)))
 (hit:∀Q':MV->St->Prop,Q' (.r l) ⟨σ,ρ⟩->WE X iter ⟨σ,ρ⟩ Q')
 (htest:∀C a ρ',a∈xs->lk ρ' x=EU (EU (g a))->∀QB:Bool->St->Prop,QB (p a) ⟨σ,ρ'⟩->bQ (Xi X scope cl C []) ifs ⟨σ,ρ'⟩ QB)
 (helt:∀C a ρ',a∈xs->p a=true->lk ρ' x=EU (EU (g a))->∀Q':MV->St->Prop,Q' (f a) ⟨σ,ρ'⟩->WE (Xi X scope cl C []) elt ⟨σ,ρ'⟩ Q')
 (hq:∀D σ',σ D=none->(∀b m,σ b=EU m->σ' b=EU m)->σ' D=EU (.lst vs)->Q (.r D) ⟨σ',ρ⟩):
 WE X (.ListComp elt [⟨.Name x pt,iter,ifs,0⟩] scope pos) ⟨σ,ρ⟩ Q:=
 BE xs g f p cl O hclos hsc hs h0 sz hl hit htest helt λD hD=>hq D _ hD (λb m hb=>(Sg.put_ne _ _ (λe=>by rw[e,show σ D=none from hD] at hb;cases hb)).trans hb) (by rw[hvs];exact Sg.put_same ..)
theorem z9 (a b:Nat):((a:Int)==(b:Int))=decide (a=b):=by rw[Ig,beq_iff_eq,decide_eq_true_eq];exact HH
theorem Am (a b:Nat):((a:Int) !=(b:Int))=decide (a≠b):=by rw[Ig,bne_iff_ne,decide_eq_true_eq];exact not_congr HH
theorem xw {st:St} {QB:Bool->St->Prop} {a b:Nat} (h:QB (decide (a=b)) st):WT X (.k (.bool ((a:Int)==(b:Int)))) st QB:=ay (by rw[z9];exact h)
theorem xR {st:St} {QB:Bool->St->Prop} {a b:Nat} (h:QB (decide (a≠b)) st):WT X (.k (.bool ((a:Int) !=(b:Int)))) st QB:=ay (by rw[Am];exact h)
theorem vp (h:k<ts.length):(ts.map λt=>thM t.th)[((k:Nat):Int).toNat]?=EU (thM (tAt ts k).th):=by
 rw[FU,Fx,jG h];rfl
theorem kU (h:k<ts.length):((ts.map T4.w).map MV.s)[((k:Nat):Int).toNat]?=EU (.s (tAt ts k).w):=by
 rw[FU,Fx,Fx,jG h];rfl
noncomputable def BR2:List Stmt:=BR.drop 6
noncomputable def Base (L lth lto lh lgo lw lcm llf llx:Addr) (mu:Option MV) (ts:List T4) (told gone cm lf:List Nat) (lxs:List MV):List (Addr×MO):=
 [(L+1,.cel (EU (.r lth))),(L+2,.cel (EU (.r lto))),(L+4,.cel mu),(L+5,.cel (EU (.r lw))),(L+6,.cel (EU (.r lcm))),(L+7,.cel (EU (.r llf))),(L+8,.cel (EU (.r llx))),
  (lth,.lst (ts.map λt=>thM t.th)),(lto,.lst (told.map nI)),(lh,.lst []),(lgo,.lst (gone.map nI)),(lw,.lst ((ts.map T4.w).map .s)),(lcm,.lst (cm.map nI)),(llf,.lst (lf.map nI)),(llx,.lst lxs)]
structure Pb (L lth lto lh lgo lw lcm llf llx:Addr) (mu:Option MV) (ts:List T4) (told gone cm lf:List Nat) (lxs:List MV) (σ:Sg) (ρ:Lo):Prop where
 sep:Sep σ (Base L lth lto lh lgo lw lcm llf llx mu ts told gone cm lf lxs)
 heap:lk ρ "heap" =EU (EU (.r lh))
 gone:lk ρ "gone" =EU (EU (.r lgo))
 nm:Nm ρ ["a","b","due"]
section
variable {X:Xc} {kk:Nat} {L lth lto lh lin lgo lrow:Addr} {row:List Int} {ts:List T4} {S:S1} {my mu:Option MV} {σ:Sg} {ρ:Lo}
set_option maxHeartbeats 4000000 in
theorem yE (W:LawC X L kk) (P:P1 L lth lto lh lin lgo lrow row ts S my mu σ ρ) (T:Ths ts) (h4:4≤ts.length) (h10:ts.length≤10) (J:J1 ts.length S) (he:S.ins=[])
 (hq:∀lw lcm llf llx σ' ρ',Pb L lth lto lh lgo lw lcm llf llx mu ts S.told S.gone (F7 ts.length) S.gone [] σ' ρ'->WS X BR2 ⟨σ',ρ'⟩ Q):
 WS X BR ⟨σ,ρ⟩ Q:=by
 have O:=W.O
 have sz:=sizeLine_eq
 obtain ⟨v,hv⟩:=W.eq
 obtain ⟨OK,hh0⟩:=J.done he
 refine xa3 J.len λj1 j2 j3 j4=>?_
 have Pn:=P.nm.sub (ms:=["a","b","due"]) s!"1"
 have Pg:=P.gone
 have Ph:=P.heap
 have S0:=P.sep
 clear P J
 conv=>arg 2;whnf
 with_reducible refine aa ?_
 with_reducible refine ah (by rw[hv];kernel_rfl) s!"r" s!"t" ?_
 refine tw ts (λt=>thM t.th) (λt=> .s t.w) (λ_=>true) ["word","way","gap"] (λt ρ=>lk ρ "word" =EU (EU (.s t.w)))
  [] [] (λC=>ao O s!"k" C) (λC=>hX) s!"r" s!"k" (λ_=>s!"r") (.cons (u:=none) s!"k" (.cons (u:=none) s!"k" (.cons (u:=none) s!"k" .nil))) (by exact fq h10) (S0.g 8 rfl)
  (λQ' q=>aJ O W.c_things (S0.g 0 rfl) q) ?_ ?_ ?_ ?_
 ·rintro C t ⟨σ',ρ'⟩ ht e nm QU hQ
  have e:σ'=σ:=e
  clear S0;subst e
  refine xe1 (nm "word" s!"1") λu1 z1=>?_
  refine xe1 (nm "way" s!"1") λu2 z2=>?_
  refine xe1 (nm "gap" s!"1") λu3 z3=>?_
  refine jk (ao O s!"k" C) s!"t" s!"r" (bZ (aL (ao O s!"k" C) z1 (bZ (aL (ao O s!"k" C) s!"lk" (bZ (aL (ao O s!"k" C) s!"lk" (fH ?_)))))))
  exact hQ _ (.st (.st (.st nm))) (bo s!"ne" (bo s!"ne" (cF z1)))
 ·rintro C t ρ' ht z1 QB hQB
  exact hQB
 ·rintro C t ρ' ht _ z1 Q' hQ'
  exact ai (ao O s!"k" C) z1 hQ'
 intro lw hlw
 have S1:=S0.newE hlw (.lst ((ts.filter λ_=>true).map λt=> .s t.w))
 refine dA O W.c_words (S1.g 4 rfl) (ae ?_)
 have S2:=S1.p 4 rfl (.cel (EU (.r lw)))
 rw[eg] at S2⊢
 rw[show (ts.map λt=>MV.s t.w)=(ts.map T4.w).map .s by rw[FR];rfl] at S2⊢
 dsimp only at S2⊢
 generalize (σ.put lw (.lst ((ts.map T4.w).map .s))).put (L+5) (.cel (EU (.r lw)))=σ2 at S2⊢
 clear S1 S0 hlw
 obtain ⟨t0,ts',ets⟩:∃t0 ts',ts=t0::ts':=by
  cases ts with
  |nil=>simp at h4
  |cons a l=>exact (ie2 a l rfl)
 refine am (bu W.G (a:=998) s!"k") λob1 fd1 hr1 hr2=>?_
 refine am (bu W.G (a:=991) s!"k") λob2 fd2 hl1 hl2=>?_
 refine am (bu W.G (a:=1005) s!"k") λob3 fd3 hp1 hp2=>?_
 with_reducible refine aa ?_
 with_reducible refine bl ?_
 with_reducible refine aC s!"r" ?_
 refine bB O W.g_read hr1 hr2 s!"t" ?_
 with_reducible refine ac ?_
 refine bB O W.g_line hl1 hl2 s!"t" ?_
 refine ac (aJ O W.c_things (S2.g 0 rfl) (ac (aI (ag ?_))))
 refine bz (Ct.mono (CtA.ct (fY (k:=kk+8) W.G W.R kZ T.ok (by exact wS h10) (S2.g 8 rfl))) ?_)
 intro m σ3 zr1;refine xa1 zr1 λz5 fr3=>?_;clear zr1;subst z5
 have S3:=S2.keep fr3
 have lineL:=hV 59 (ts:=ts) T.ok
 refine ag ?_
 rw[kZ]
 refine bz (Ct.mono (CtA.ct (iX (k:=kk+4) W.G W.R (toks:=bb (ts.map T4.w) ⟨#[59]⟩) (by exact vW h10 lineL) (by rw[eD,EZ];exact Af h10) (by rw[ets];exact lH (.inl rfl) (by rw[←ets];exact T.ok)))) ?_)
 intro m σ4 zr1;refine ad zr1 λla z5 z6=>?_;clear zr1;subst z5;obtain ⟨hla,ela,fr4⟩:=z6
 have S4:=S3.keep fr4
 refine bB O W.g_parted hp1 hp2 s!"t" ?_
 refine ac (aJ O W.c_words (S4.g 4 rfl) (ac (aI (ag ?_))))
 refine bz (Ct.mono (CtA.ct (dQ (k:=kk+9) W.G W.R (S4.g 14 rfl) (by rw[EZ];exact tD h10))) ?_)
 intro m σ5 zr1;refine ad zr1 λlb z5 z6=>?_;clear zr1;subst z5;obtain ⟨hlb,elb,fr5⟩:=z6
 have S5:=S4.keep fr5
 have okw:∀w∈ts.map T4.w,Ht w=true:=λw hw=>by
  refine ad (Fp.mp hw) λt ht z4=>?_;clear hw;subst z4
  exact wP (T.ok t ht)
 refine oO to kz (fr5 _ _ ela) elb (gV s!"1" okw) (gV s!"1" okw) W.u64 (ay ?_)
 refine aD s!"4" (ak (ae ?_))
 clear S4 S3 S2 fr3 fr4 fr5 hla ela hlb elb
 have hgn:∀k∈S.gone,k<ts.length:=λk hk=>(OK.mem k).mp hk
 have hO:∀t∈S.gone.map (tAt ts),t.Ok:=λt ht=>by
  refine ad (Fp.mp ht) λk hk z4=>?_;clear ht;subst z4
  exact pU T (hgn k hk)
 obtain ⟨g0,gs',egs⟩:∃g0 gs',S.gone.map (tAt ts)=g0::gs':=by
  have:0∈S.gone:=(OK.mem 0).mpr (by exact o69 h4)
  cases e:S.gone.map (tAt ts) with
  |nil=>rw[Nk] at e;rw[e] at this;cases this
  |cons a l=>exact (ie2 a l rfl)
 have glen:(S.gone.map (tAt ts)).length≤10:=by rw[EZ];exact wR h10 j3
 have mark_124:=gS
 with_reducible refine aa ?_
 with_reducible refine bl ?_
 with_reducible refine aC s!"r" ?_
 refine bB O W.g_read hr1 hr2 s!"t" ?_
 with_reducible refine ac ?_
 refine bB O W.g_line hl1 hl2 s!"t" ?_
 with_reducible refine ac ?_
 refine d9 S.gone nI (λk=>thM (tAt ts k).th) (λ_=>true) (vs:=(S.gone.map (tAt ts)).map λt=>thM t.th) (by rw[eg,FR];rfl) [("things",L+1)] O (by rw[hv];kernel_rfl) s!"k" (λ_=>s!"r") s!"k" (by exact v3 h10 j3) (S5.g 12 rfl) (λQ' q=>ai O Pg q) (λC k ρ' _ _ QB h=>h) ?_ ?_
 ·rintro C k ρ' hk _ z1 Q' hQ'
  refine aP (aJ (ao O s!"k" C) (ia2 (by show (Gl _ _ _ X.env).kindOf _=_;rw[hv];kernel_rfl) s!"k" s!"1") (S5.g 0 rfl) ?_)
  exact ai (ao O s!"k" C) z1 (aY (co (λ_ _=>s!"r") (λ_ _=>s!"r")) (S5.g 8 rfl) (by exact dX) (by have:=hgn k hk;exact fO h10 this) (vp (hgn k hk)) hQ')
 intro D σ6 hD k6 e6
 have S6:=S5.call k6 hD e6
 refine ac (aI (ag ?_))
 refine bz (Ct.mono (CtA.ct (fY (k:=kk+8) W.G W.R gS hO (by exact wS glen) (S6.g 15 rfl))) ?_)
 intro m σ7 zr1;refine xa1 zr1 λz5 fr7=>?_;clear zr1;subst z5
 have S7:=S6.keep fr7
 have lineG:=hV 124 hO
 refine ag ?_
 rw[gS]
 refine bz (Ct.mono (CtA.ct (iX (k:=kk+4) W.G W.R (toks:=bb ((S.gone.map (tAt ts)).map T4.w) ⟨#[124]⟩) (by exact vW glen lineG) (by rw[eD,EZ];exact Af glen) (by rw[egs];exact lH (.inr rfl) (by rw[←egs];exact hO)))) ?_)
 intro m σ8 zr1;refine ad zr1 λlc z5 z6=>?_;clear zr1;subst z5;obtain ⟨hlc,elc,fr8⟩:=z6
 have S8:=S7.keep fr8
 refine bB O W.g_parted hp1 hp2 s!"t" ?_
 with_reducible refine ac ?_
 refine d9 S.gone nI (λk=> .s (tAt ts k).w) (λ_=>true) (vs:=((S.gone.map (tAt ts)).map T4.w).map .s) (by rw[eg,FR,FR];rfl) [("words",L+5)] O (by rw[hv];kernel_rfl) s!"k" (λ_=>s!"r") s!"k" (by exact v3 h10 j3) (S8.g 12 rfl) (λQ' q=>ai O Pg q) (λC k ρ' _ _ QB h=>h) ?_ ?_
 ·rintro C k ρ' hk _ z1 Q' hQ'
  refine aP (aJ (ao O s!"k" C) (ia2 (by show (Gl _ _ _ X.env).kindOf _=_;rw[hv];kernel_rfl) s!"k" s!"1") (S8.g 4 rfl) ?_)
  exact ai (ao O s!"k" C) z1 (aY (co (λ_ _=>s!"r") (λ_ _=>s!"r")) (S8.g 14 rfl) (by exact dX) (by have:=hgn k hk;exact fO h10 this) (kU (hgn k hk)) hQ')
 intro D2 σ9 hD2 k9 e9
 have S9:=S8.call k9 hD2 e9
 have elc9:=k9 _ _ elc
 refine ac (aI (ag ?_))
 refine bz (Ct.mono (CtA.ct (dQ (k:=kk+9) W.G W.R (S9.g 16 rfl) (by rw[EZ];exact tD glen))) ?_)
 intro m σ10 zr1;refine ad zr1 λld z5 z6=>?_;clear zr1;subst z5;obtain ⟨hld,eld,fr10⟩:=z6
 have S10:=S9.keep fr10
 have okg:∀w∈(S.gone.map (tAt ts)).map T4.w,Ht w=true:=λw hw=>by
  refine ad (Fp.mp hw) λt ht z4=>?_;clear hw;subst z4
  exact wP (hO t ht)
 refine oO to kz (fr10 _ _ elc9) eld (gV s!"1" okg) (gV s!"1" okg) W.u64 (ay ?_)
 refine aD s!"4" (ak (ae ?_))
 have S11:Sep σ10 _:=⟨λp hp=>S10.1 p (GI _ (GI _ hp)),((GJ.mp (GJ.mp S10.2).1).1)⟩
 clear S10 S9 S8 S7 S6 S5 elc9 eld fr10 fr8 elc hlc fr7 hD hD2 hld k6 e6 k9 e9
 with_reducible refine aa ?_
 with_reducible refine ah s!"r" s!"r" s!"t" ?_
 refine fR O W.g_list s!"t" ?_
 with_reducible refine ac ?_
 refine fR O W.g_range s!"t" ?_
 with_reducible refine ac ?_
 refine aT O W.g_len s!"t" ?_
 refine ac (aJ O W.c_things (S11.g 0 rfl) (ag (dz (S11.g 8 rfl) (by rw[EZ];exact BH h10) ?_)))
 rw[EZ]
 refine ag (pg λrg hrg=>?_)
 have S12:=S11.same hrg (rgO 0 (ts.length:Int))
 refine ag (rJ W.hh (by exact fq h10) (Sg.put_same ..) λlcm hcm=>?_)
 have S13:=S12.newE hcm (.lst ((F7 ts.length).map λk:Nat=> .i (k:Int)))
 refine dA O W.c_came (S13.g 5 rfl) (ae ?_)
 have S14:=S13.p 5 rfl (.cel (EU (.r lcm)))
 dsimp only at S14⊢
 generalize ((σ10.put rg (rgO 0 (ts.length:Int))).put lcm (.lst ((F7 ts.length).map λk:Nat=> .i (k:Int)))).put (L+6) (.cel (EU (.r lcm)))=σ14 at S14⊢
 clear S13 S12 S11 hcm hrg
 with_reducible refine aa ?_
 with_reducible refine ah s!"r" s!"r" s!"t" ?_
 refine lO (λ_ _=>s!"r") ?_
 refine ai O Pg (cz lgo (S.gone.map nI) rfl (fD (fD ⟨S14.g 12 rfl,by rw[EZ,sz];exact nLL (EY j3 h10) rfl,λllf hlf=>?_⟩)))
 rw[x0]
 have S15:=S14.newE hlf (.lst (S.gone.map nI))
 refine dA O W.c_left (S15.g 6 rfl) (ae ?_)
 have S16:=S15.p 6 rfl (.cel (EU (.r llf)))
 dsimp only at S16⊢
 generalize (σ14.put llf (.lst (S.gone.map nI))).put (L+7) (.cel (EU (.r llf)))=σ16 at S16⊢
 clear S15 S14 hlf
 with_reducible refine aa ?_
 refine ah s!"r" s!"r" s!"t" (b9 s!"t" (ag ⟨FY _,λllx hlx=>?_⟩))
 have S17:=S16.newE hlx (.lst [])
 refine dA O W.c_lexers (S17.g 7 rfl) (ae ?_)
 have S18:=S17.p 7 rfl (.cel (EU (.r llx)))
 dsimp only at S18⊢
 generalize (σ16.put llx (.lst [])).put (L+8) (.cel (EU (.r llx)))=σ18 at S18⊢
 clear S17 S16 hlx
 unfold xJ at S18
 rw[hh0] at S18
 refine hq lw lcm llf llx σ18 ρ ⟨?_,Ph,Pg,Pn⟩
 have dr:∀{l1 l2:List (Addr×MO)} {p:Addr×MO},Sep σ18 (l1++(p::l2))->Sep σ18 (l1++l2):=λ{l1 l2 p} h=>by
  have:=(h.perm KZ).drop1
  exact this
 have a1:=dr (l1:=[_,_]) S18
 have a2:=dr (l1:=[_,_,_,_,_,_,_,_,_,_]) a1
 have a3:=dr (l1:=[_,_,_,_,_,_,_,_,_,_,_]) a2
 exact a3
end
end
section
variable {X:Xc} {st:St} {φ:Sg} {Q:MV->St->Prop}
theorem wh {Q:MV->St->Prop} (cl:List (Str×Addr)) (gs:List (Str×Value)) {Ω:Type} {mo:Ω->Nat->MO} {vs:Ω->List MV} {Cond:Ω->St->Prop}
 (J:Ω->Nat->List MV->St->Prop)
 (S:∀o C,Steps (Xi X scope cl C gs) (mo o) (vs o) (Cond o)) (self:∀o C,i9 (Xi X scope cl C gs) (mo o))
 (hs:∀x,F5 iter X.env x=pure x) (ht:∀o C,fa (Xi X scope cl C gs) target (mo o))
 (hclos:H9 scope X.env=pure cl) (hsc:c9 scope=true) (sz:∀o,(vs o).length≤sizeLine)
 (h:WE X iter st λm st₁=>∃o,st₁.ρ=st.ρ∧qm X m st₁ (mo o)∧J o 0 [] ⟨st₁.σ,loC scope⟩∧
  ∀acc st',J o (vs o).length acc st'->∀D,st'.σ D=none->Q (.r D) ⟨st'.σ.put D (.lst acc),st.ρ⟩)
 (jl:∀o i acc st,J o i acc st->acc.length≤i) (cond:∀o i acc st,J o i acc st->Cond o st)
 (turn:∀o C i (hi:i<(vs o).length) acc st,J o i acc st->WA (Xi X scope cl C gs) target (vs o)[i] st λst₂=>bQ (Xi X scope cl C gs) ifs st₂ λok st₃=>
  if ok=true then WE (Xi X scope cl C gs) elt st₃ λm st₄=>J o (i+1) (acc++[m]) st₄ else J o (i+1) acc st₃):
 WE X (.ListComp elt [⟨target,iter,ifs,0⟩] scope pos) st Q:=λφ s I=>by
 rw[Q5];refine jR (use:=none) J st.ρ _ S self hs ht hclos hsc sz I h jl cond turn λo acc st' s' D C ρc hq I' k nC nD DC φC φD sC sD=>?_;refine ad ((I'.inv.rep C (.fr ρc) (by unfold tot Sg.put;rw[if_neg nC];show (st'.σ C).or _=_;rw[sC];exact if_pos rfl)).2) λm hn _=>?_;refine (af m hn (λh' sb=>?_));refine xa1 (I'.forget (t:=s'.toks) nC sC (by unfold Sg.put;rw[if_neg (E8 DC)];exact φC) sb.extBut) λI₂ k₂=>?_;exact .mk (bN ..) (I₂.show_ sD nD φD) (k.trans k₂) (hq D sD)
end
noncomputable def lcB:MO->Bool
 | .lst _=>true
 | .cel _=>true
 |_=>false
noncomputable def LC (m:MO):Prop:=lcB m=true
theorem LC.lst {vs:List MV}:LC (.lst vs):=rfl
theorem LC.cel {c:Option MV}:LC (.cel c):=rfl
theorem LC.ins {a b:Addr}:¬LC (.ins a b):=λh=>by cases h
theorem LC.ns {l:List (Str×MV)}:¬LC (.ns l):=λh=>by cases h
theorem LC.dq {l:Option Str}:¬LC (dqO l):=λh=>by cases h
theorem LC.all {l:List (Addr×MO)} (h:l.all (λp=>lcB p.2)=true):∀p∈l,LC p.2:=Fm.mp h
structure LD where
 sx:Addr
 dsx:Addr
 io:Addr
 dio:Addr
 pbk:Addr
 fs:Addr
 buf:Str
 st:Option Str
 pos:Nat
 toks:List Str
noncomputable abbrev e0:Str:=EW ""
structure LD.Ok (σ:Sg) (d:LD):Prop where
 x:LX σ d.sx d.dsx d.io d.dio d.pbk d.fs shW e0 none d.buf d.st e0 d.pos none
 r:Reads shW e0 d.buf d.toks d.st d.pos none
 b:d.buf.length<1000
theorem LX.keepN {σ:Sg} {st:Option Str} {pos:Nat} (h:LX σ sx dsx io dio pbk fs W e0 none buf st tok pos pb)
 (k:∀b m,(b=sx∨b=dsx∨b=io∨b=dio∨b=pbk∨b=fs)->σ b=EU m->σ' b=EU m):LX σ' sx dsx io dio pbk fs W e0 none buf st tok pos pb:=by
 obtain ⟨a,⟨ln,b⟩,c,d,e,f,g,i,j⟩:=h;exact ⟨k _ _ s!"4" a,⟨ln,k _ _ s!"4" b⟩,k _ _ s!"4" c,k _ _ s!"4" d,k _ _ s!"4" e,k _ _ s!"4" f,(λx hx=>nomatch hx),i,j⟩
structure Lxs (σ:Sg) (ds:List LD):Prop where
 ok:∀d∈ds,d.Ok σ
 ap:ds.Pairwise λd e=>d.dsx≠e.dsx∧d.dio≠e.dio
theorem Lxs.nil {σ:Sg}:Lxs σ []:=⟨(λd h=>by cases h),.nil⟩
theorem LD.Ok.keep {σ:Sg} {d:LD} (h:d.Ok σ) (k:∀b m,¬LC m->σ b=EU m->σ' b=EU m):d.Ok σ':=by
 refine ⟨h.x.keepN λb m hb hm=>k b m ?_ hm,h.r,h.b⟩;obtain ⟨a,⟨ln,b'⟩,c,d',e,f,_⟩:=h.x;rcases hb with rfl|rfl|rfl|rfl|rfl|rfl
 ·rw[a] at hm;cases hm;exact LC.ins
 ·rw[b'] at hm;cases hm;exact LC.ns
 ·rw[c] at hm;cases hm;exact LC.ins
 ·rw[d'] at hm;cases hm;exact LC.ns
 ·rw[e] at hm;cases hm;exact LC.dq
 ·rw[f] at hm;cases hm;exact LC.dq
theorem Lxs.keep {σ σ':Sg} {ds:List LD} (h:Lxs σ ds) (k:∀b m,¬LC m->σ b=EU m->σ' b=EU m):Lxs σ' ds:=⟨λd hd=>(h.ok d hd).keep k,h.ap⟩
theorem Lxs.all {σ:Sg} (h:Lxs σ ds) (k:∀b m,σ b=EU m->σ' b=EU m):Lxs σ' ds:=h.keep λb m _ hm=>k b m hm
theorem Lxs.put {σ:Sg} {ds:List LD} (h:Lxs σ ds) {a:Addr} {m:MO} (ha:σ a=EU m) (hm:LC m) (m':MO):Lxs (σ.put a m') ds:=h.keep λb m0 n0 hb=>by
 rw[Sg.put_ne _ _ (λe=>by subst e;rw[ha] at hb;cases hb;exact n0 hm)];exact hb
theorem Lxs.new {σ:Sg} (h:Lxs σ ds) {a:Addr} (ha:σ a=none) (m':MO):Lxs (σ.put a m') ds:=h.all λb m hb=>by
 rw[Sg.put_ne _ _ (λe=>by subst e;rw[ha] at hb;cases hb)];exact hb
theorem Sep.keepLC {σ:Sg} {l:List (Addr×MO)} (h:Sep σ l) (hl:∀p∈l,LC p.2) (k:∀b m,LC m->σ b=EU m->σ' b=EU m):Sep σ' l:=⟨λp hp=>k _ _ (hl p hp) (h.1 p hp),h.2⟩
theorem Lxs.add {σ:Sg} (h:Lxs σ ds) {toks:List Str} (N:oM σ σ' m shW e0 x) (hx:x.length<1000) (hr:Reads shW e0 x toks (EU (EW " ")) 0 none):
 ∃d:LD,m= .r d.sx∧d.toks=toks∧Lxs σ' (ds++[d])∧∀b m,σ b=EU m->σ' b=EU m:=by
 refine xe2 N λsx dsx z1=>?_;clear N;refine xe2 z1 λio dio z2=>?_;clear z1;obtain ⟨pbk,fs,pc,rfl,lx,u1,u2,u3,u4,u5,fr⟩:=z2
 have hpc:pc=none:=by
  have:=lx.hp
  cases pc with
  |none=>rfl
  |some a=>rw[show (e0.length !=0)=false by decide+kernel] at this;cases this
 clear u5;subst hpc;have old:=h.all fr;refine (cI ⟨sx,dsx,io,dio,pbk,fs,x,EU (EW " "),0,toks⟩ rfl rfl ⟨λd hd=>?_,?_⟩ fr)
 ·rcases F2.mp hd with hd|hd
  ·exact old.ok d hd
  ·rw[FW.mp hd];exact ⟨lx,hr,hx⟩
 ·refine GJ.mpr (ia2 h.ap (Mw _ _) (λd hd e he=>?_));rw[FW.mp he];have ok:=(h.ok d hd).x;refine xe1 ok.n λln hn=>?_;refine ⟨λe=>?_,λe=>?_⟩
  ·have e:d.dsx=dsx:=e;rw[e,u2] at hn;cases hn
  ·have e:d.dio=dio:=e;have hi:=ok.ni;rw[e,u4] at hi;cases hi
theorem Lxs.step {σ:Sg} (h:Lxs σ ds) {u:Nat} {d:LD} (hu:ds[u]?=EU d) {st:Option Str} {pos:Nat} {toks:List Str}
 (lx:LX σ' d.sx d.dsx d.io d.dio d.pbk d.fs shW e0 none d.buf st e0 pos none) (hr:Reads shW e0 d.buf toks st pos none) (fr:∀b m,b≠d.dsx->b≠d.dio->σ b=EU m->σ' b=EU m):
 Lxs σ' (ds.set u {d with st:=st,pos:=pos,toks:=toks}):=by
 obtain ⟨hul,hue⟩:=E5.mp hu;have okd:=h.ok d (GZ hu);have pw:=FX.mp h.ap
 have oth:∀j (hj:j<ds.length),j≠u->ds[j].dsx≠d.dsx∧ds[j].dio≠d.dio:=λj hj hju=>by
  rcases NZ hju with h1|h1
  ·have:=pw j u hj hul h1;rw[hue] at this;exact this
  ·have:=pw u j hul hj h1;rw[hue] at this;exact ⟨E8 this.1,E8 this.2⟩
 refine xe1 okd.x.n λlnd hnd=>?_;refine ⟨λe he=>?_,?_⟩
 ·obtain ⟨j,hj,rfl⟩:=Gg he;rw[FA] at hj;rw[JI];split
  ·exact ⟨lx,hr,okd.b⟩
  ·rename_i hju;have okj:=h.ok ds[j] (Fy _);refine xa1 (oth j hj (E8 hju)) λo1 o2=>?_;refine ⟨okj.x.keepN λb m hb hm=>fr b m ?_ ?_ hm,okj.r,okj.b⟩
   ·obtain ⟨a,⟨ln,b'⟩,c,d',e,f,_⟩:=okj.x;clear hm;rcases hb with rfl|rfl|rfl|rfl|rfl|rfl
    ·exact aK a hnd
    ·exact o1
    ·exact aK c hnd
    ·exact E8 (eu hnd d')
    ·exact E8 (bI hnd e)
    ·exact E8 (bI hnd f)
   ·obtain ⟨a,⟨ln,b'⟩,c,d',e,f,_⟩:=okj.x;clear hm;rcases hb with rfl|rfl|rfl|rfl|rfl|rfl
    ·exact aK a okd.x.ni
    ·exact eu b' okd.x.ni
    ·exact aK c okd.x.ni
    ·exact o2
    ·exact E8 (bI okd.x.ni e)
    ·exact E8 (bI okd.x.ni f)
 ·refine FX.mpr λi j hi hj hij=>?_;rw[FA] at hi hj
  have e1:∀i (hi:i<ds.length),((ds.set u {d with st:=st,pos:=pos,toks:=toks})[i]'(by rw[FA];exact hi)).dsx=ds[i].dsx∧((ds.set u {d with st:=st,pos:=pos,toks:=toks})[i]'(by rw[FA];exact hi)).dio=ds[i].dio:=λi hi=>by
   rw[JI];split
   ·rename_i e;subst e;rw[hue];exact ⟨rfl,rfl⟩
   ·exact ⟨rfl,rfl⟩
  rw[(e1 i hi).1,(e1 i hi).2,(e1 j hj).1,(e1 j hj).2];exact pw i j hi hj hij
section
open Builtin.ObjectAttr
theorem ym {st:St} (xs:List α) (g f:α->MV) (p:α->Bool) (hvs:(xs.filter p).map f=vs) {px spos:Pos} (cl:List (Str×Addr))
 (O:XOk X) (hsw:J3 (.ListComp elt [⟨.Name y pt,iter,ifs,0⟩] scope pos) (EU (.Name x px)) spos.line X.env=pure true) (hclos:H9 scope X.env=pure cl) (hsc:c9 scope=true) (hs:∀x,F5 iter X.env x=pure x) (h0:lk (loC scope) y=EU none) (sz:xs.length≤1000)
 (hl:st.σ l=EU (.lst (xs.map g)))
 (hit:∀Q':MV->St->Prop,Q' (.r l) st->WE X iter st Q')
 (htest:∀C a ρ',a∈xs->lk ρ' y=EU (EU (g a))->∀QB:Bool->St->Prop,QB (p a) ⟨st.σ,ρ'⟩->bQ (Xi X scope cl C []) ifs ⟨st.σ,ρ'⟩ QB)
 (helt:∀C a ρ',a∈xs->p a=true->lk ρ' y=EU (EU (g a))->∀Q':MV->St->Prop,Q' (f a) ⟨st.σ,ρ'⟩->WE (Xi X scope cl C []) elt ⟨st.σ,ρ'⟩ Q')
 (hq:∀D σ',st.σ D=none->(∀b m,st.σ b=EU m->σ' b=EU m)->σ' D=EU (.lst vs)->WA X (.Name x px) (.r D) ⟨σ',st.ρ⟩ λst₂=>Q .next st₂):
 WS1 X (.Assign [.Name x px] (.ListComp elt [⟨.Name y pt,iter,ifs,0⟩] scope pos) spos) st Q:=by
 refine kH cl [] (mo:=λi=> .itl l i) (vs:=xs.map g) (Cond:=λst=>st.σ l=EU (.lst (xs.map g))) (λi acc st'=>st'.σ=st.σ∧Nm st'.ρ [y]∧acc=(((xs.take i).filter p).map f)) hsw
  (λC=>ci (ao O hsc C) l _) (λC=>fc (ao O hsc C) l) hs (λC=>dG λ_ _=>rfl) hclos hsc (by rw[EZ,sizeLine_eq];exact o51 sz) ?_ ?_ ?_ ?_
 ·refine hit _ (ia3 rfl (cB hl) ⟨rfl,.cons h0 .nil,s!"4"⟩ ?_);intro acc st' zr1 D hD;refine xa2 zr1 λe1 _ e3=>?_;clear zr1;rw[EZ,Go] at e3;rw[e1] at hD;rw[e1,e3];exact hq D _ hD (λb m hb=>(Sg.put_ne _ _ (λe=>by rw[e,hD] at hb;cases hb)).trans hb) (by rw[hvs];exact Sg.put_same ..)
 ·intro i acc st' zr1;refine pv zr1 λ_ _=>?_;clear zr1;rw[EZ];exact EY (GR _ _) (H8 _ _)
 ·intro i acc st' zr1;refine xa2 zr1 λe1 _ _=>?_;clear zr1;rw[e1];exact hl
 ·intro C i hi acc zr1 zr2;obtain ⟨σ',ρ'⟩:=zr1;refine pv zr2 λe1 e2=>?_;clear zr2;have hi':i<xs.length:=by simpa using hi
  have htk:xs.take (i+1)=xs.take i++[xs[i]]:=FT hi';have e1:σ'=st.σ:=e1;subst e1;rw[F8];refine xe1 (e2 y s!"4") λu z=>?_;refine aL (ao O hsc C) z ?_;refine htest C xs[i] _ (Fy _) (cF z) _ ?_
  cases hp:p xs[i] with
  |true=>
   rw[if_pos rfl];refine helt C xs[i] _ (Fy _) hp (cF z) _ (ia2 rfl (Nm.st e2) ?_);rw[htk,Ik,Fe,GK hp];rfl
  |false=>
   rw[if_neg s!"d"];refine (ia2 rfl (Nm.st e2) ?_);rw[htk,Ik,Ho (by rw[hp];decide)];simp
theorem SM.gmb {w:FH} {σ:Sg} {x la:Addr} {d:Addr} {F:Addr->Prop} {ns:List (Str×MV)} (h:SM w σ x la lb ws dx d js jp F ns):nk ns "get_matching_blocks" =none:=by
 rw[h.ns];unfold smN sq2 sq1 sm0;walk_at "nk"
theorem Bu (p q:N3) (h:Fv.tuple [.int (p.1:Int),.int (p.2.1:Int),.int (p.2.2:Int)]=Fv.tuple [.int (q.1:Int),.int (q.2.1:Int),.int (q.2.2:Int)]):p=q:=by
 obtain ⟨a,b,c⟩:=p;obtain ⟨d,e,f⟩:=q;simp at h;refine xa2 h λh1 h2 h3=>?_;rw[show a=d by exact o1 h1,show b=e by exact o1 h2,show c=f by exact o1 h3]
theorem xB {a:Option MV} (h:a=none) (h2:a=EU m):False:=nomatch h.symm.trans h2
theorem SM.apart {w:FH} {σ:Sg} {x la:Addr} {d:Addr} {F:Addr->Prop} {ns:List (Str×MV)} (h:SM w σ x la lb ws dx d js jp F ns) {e:LD} (ok:e.Ok σ):dx≠e.dsx∧dx≠e.dio:=by
 have ha:=h.at.1;obtain ⟨ln,hn⟩:=ok.x.n;refine ⟨λq=>?_,λq=>?_⟩
 ·have h1:=h.n;rw[q,hn] at h1;clear h;cases h1;exact xB s!"k" ha
 ·have h1:=h.n;have h2:=ok.x.ni;rw[q,h2] at h1;clear h;cases h1;exact xB s!"k" ha
noncomputable def B3:List Stmt:=wr (BR2.getD 0 (.Pass ⟨0,0,0,0⟩))
section
variable {X:Xc} {kk:Nat} {L lth lto lh lgo lw lcm llf llx:Addr} {ts:List T4} {told gone:List Nat} {t:Nat} {ds:List LD} {σ:Sg} {ρ:Lo}
set_option maxHeartbeats 4000000 in
theorem wg (W:LawC X L kk) (P:Pb L lth lto lh lgo lw lcm llf llx (EU (nI t)) ts told gone (bc told ts.length t) (bi told gone t) (ds.map λd=> .r d.sx) σ ρ) (T:Ths ts) (h10:ts.length≤10) (OK:OrdOk ts.length told gone) (ht:1≤t) (hne:eC told ts.length t≠ [])
 (LL:Lxs σ ds) (hds:ds.length≤20) {Q:Fl->St->Prop}
 (hq:∀lcm' llf' σ' ρ' d,Pb L lth lto lh lgo lw lcm' llf' llx (EU (nI t)) ts told gone (bc told ts.length (t+1)) (bi told gone (t+1)) ((ds++[d]).map λd=> .r d.sx) σ' ρ'->Lxs σ' (ds++[d])->d.toks=((eC told ts.length t).map (tAt ts)).map T4.w->Q .next ⟨σ',ρ'⟩):
 WS X B3 ⟨σ,ρ⟩ Q:=by
 have O:=W.O
 have N:=kn W.G
 have sz:=sizeLine_eq
 obtain ⟨v,hv⟩:=W.eq
 have S0:=P.sep
 have Ph:=P.heap
 have Pg:=P.gone
 have Pn:=P.nm
 clear P
 have hcam:∀k∈bc told ts.length t,k<ts.length:=λk hk=>(gL.mp hk).1
 have hlef:∀k∈bi told gone t,k<ts.length:=λk hk=>((fJ OK).mp hk).1
 have lcam:(bc told ts.length t).length≤10:=by
  have:=GR (λk=>decide (t≤told.getD k 0)) (F7 ts.length)
  rw[Jn] at this
  exact EY this h10
 have llef:(bi told gone t).length≤10:=by
  have h1:=Ip (pG OK (t:=t)) (l₂:=F7 ts.length) λk hk=>by simpa using hlef k hk
  rw[Jn] at h1
  exact wR h10 h1
 have htold:told.length=ts.length:=OK.len
 refine am (bu W.G (a:=1005) s!"k") λob3 fd3 hp1 hp2=>?_
 refine am (bu W.G (a:=991) s!"k") λob2 fd2 hl1 hl2=>?_
 conv=>arg 2;whnf
 refine xe1 (Pn "a" s!"1") λu_a x_a=>?_
 refine xe1 (Pn "b" s!"1") λu_b x_b=>?_
 refine xe1 (Pn "due" s!"1") λu_d x_d=>?_
 with_reducible refine aa ?_
 with_reducible refine ah s!"r" s!"r" s!"t" ?_
 refine bB O W.g_parted hp1 hp2 s!"t" ?_
 with_reducible refine ac ?_
 refine d9 (bc told ts.length t) nI (λk=> .s (aS ts k)) (λ_=>true) (vs:=((bc told ts.length t).map (aS ts)).map .s) (by rw[eg,FR];rfl) [("words",L+5)] O (by rw[hv];kernel_rfl) s!"k" (λ_=>s!"r") s!"k" (by exact fq lcam) (S0.g 12 rfl) (λQ' q=>aJ O W.c_came (S0.g 4 rfl) q) (λC k ρ' _ _ QB h=>h) ?_ ?_
 ·rintro C k ρ' hk _ z1 Q' hQ'
  refine aP (aJ (ao O s!"k" C) (ia2 (by show (Gl _ _ _ X.env).kindOf _=_;rw[hv];kernel_rfl) s!"k" s!"1") (S0.g 3 rfl) ?_)
  exact ai (ao O s!"k" C) z1 (aY (co (λ_ _=>s!"r") (λ_ _=>s!"r")) (S0.g 11 rfl) (by exact dX) (by have:=hcam k hk;exact fO h10 this) (kU (hcam k hk)) (by rw[←eF (hcam k hk)];exact hQ'))
 intro D1 σ1 hD1 k1 e1
 have S1:=S0.call k1 hD1 e1
 have L1:=LL.all k1
 refine ac (aI (ag ?_))
 refine bz (Ct.mono (CtA.ct (dQ (k:=kk+9) W.G W.R (S1.g 15 rfl) (by rw[EZ];exact tD lcam))) ?_)
 intro m σ2 zr1;refine ad zr1 λla z4 z5=>?_;clear zr1;subst z4;obtain ⟨hla,ela,fr2⟩:=z5
 have S2:=S1.call fr2 hla ela
 have L2:=L1.all fr2
 refine aL O x_a (ae ?_)
 have y_a:lk (stL ρ "a" (.r la)) "a" =EU (EU (.r la)):=s!"lk"
 have y_b:lk (stL ρ "a" (.r la)) "b" =EU u_b:=s!"lk"
 have y_d:lk (stL ρ "a" (.r la)) "due" =EU u_d:=s!"lk"
 have y_heap:lk (stL ρ "a" (.r la)) "heap" =EU (EU (.r lh)):=bo s!"ne" Ph
 have y_gone:lk (stL ρ "a" (.r la)) "gone" =EU (EU (.r lgo)):=bo s!"ne" Pg
 have y_nm:=Pn.st (x:="a") (m:= .r la)
 generalize stL ρ "a" (.r la)=ρ1 at y_a y_b y_d y_heap y_gone y_nm⊢
 clear S1 L1 S0 LL hD1 hla ela fr2 k1 e1
 with_reducible refine aa ?_
 with_reducible refine ah s!"r" s!"r" s!"t" ?_
 refine bB O W.g_parted hp1 hp2 s!"t" ?_
 with_reducible refine ac ?_
 refine d9 (bi told gone t) nI (λk=> .s (aS ts k)) (λ_=>true) (vs:=((bi told gone t).map (aS ts)).map .s) (by rw[eg,FR];rfl) [("words",L+5)] O (by rw[hv];kernel_rfl) s!"k" (λ_=>s!"r") s!"k" (by exact fq llef) (S2.g 13 rfl) (λQ' q=>aJ O W.c_left (S2.g 5 rfl) q) (λC k ρ' _ _ QB h=>h) ?_ ?_
 ·rintro C k ρ' hk _ z1 Q' hQ'
  refine aP (aJ (ao O s!"k" C) (ia2 (by show (Gl _ _ _ X.env).kindOf _=_;rw[hv];kernel_rfl) s!"k" s!"1") (S2.g 3 rfl) ?_)
  exact ai (ao O s!"k" C) z1 (aY (co (λ_ _=>s!"r") (λ_ _=>s!"r")) (S2.g 11 rfl) (by exact dX) (by have:=hlef k hk;exact fO h10 this) (kU (hlef k hk)) (by rw[←eF (hlef k hk)];exact hQ'))
 intro D2 σ3 hD2 k3 e3
 have S3:=S2.call k3 hD2 e3
 have L3:=L2.all k3
 refine ac (aI (ag ?_))
 refine bz (Ct.mono (CtA.ct (dQ (k:=kk+9) W.G W.R (S3.g 17 rfl) (by rw[EZ];exact tD llef))) ?_)
 intro m σ4 zr1;refine ad zr1 λlb z4 z5=>?_;clear zr1;subst z4;obtain ⟨hlb,elb,fr4⟩:=z5
 have S4:=S3.call fr4 hlb elb
 have L4:=L3.all fr4
 refine aL O y_b (ae ?_)
 have z_a:lk (stL ρ1 "b" (.r lb)) "a" =EU (EU (.r la)):=s!"lk"
 have z_b:lk (stL ρ1 "b" (.r lb)) "b" =EU (EU (.r lb)):=s!"lk"
 have z_d:lk (stL ρ1 "b" (.r lb)) "due" =EU u_d:=s!"lk"
 have z_heap:lk (stL ρ1 "b" (.r lb)) "heap" =EU (EU (.r lh)):=s!"lk"
 have z_gone:lk (stL ρ1 "b" (.r lb)) "gone" =EU (EU (.r lgo)):=s!"lk"
 have z_nm:=y_nm.st (x:="b") (m:= .r lb)
 generalize stL ρ1 "b" (.r lb)=ρ2 at z_a z_b z_d z_heap z_gone z_nm⊢
 clear S3 L3 S2 L2 hD2 hlb elb fr4 k3 e3 y_a y_b y_d y_heap y_gone y_nm
 with_reducible refine aa ?_
 refine ym (bc told ts.length t) nI (λk=>tT (2*(bc told ts.length t).idxOf k,2*(bi told gone t).idxOf k,1)) (λk=>decide (told.getD k 0=t)) (vs:=((ce told gone ts.length t (bc told ts.length t)).map t1).map tT) (by unfold ce;rw[FR,FR];rfl) [("turn",L+4),("told",L+2),("left",L+7),("came",L+6)] O (by rw[hv];kernel_rfl) (by rw[hv];kernel_rfl) s!"k" (λ_=>s!"r") s!"k" (by exact fq lcam) (S4.g 12 rfl) (λQ' q=>aJ O W.c_came (S4.g 4 rfl) q) ?_ ?_ ?_
 ·rintro C k ρ' hk z1 QB hQB
  unfold bQ
  dsimp only
  refine aC s!"r" (aP (aJ (ao O s!"k" C) (ia2 (by show (Gl _ _ _ X.env).kindOf _=_;rw[hv];kernel_rfl) s!"k" s!"1") (S4.g 1 rfl) ?_))
  refine ai (ao O s!"k" C) z1 (aY (co (λ_ _=>s!"r") (λ_ _=>s!"r")) (S4.g 8 rfl) (by exact dX) (by have:=hcam k hk;exact fO h10 this) (by rw[FU];exact eJ (by rw[htold];exact hcam k hk)) ?_)
  refine aJ (ao O s!"k" C) (ia2 (by show (Gl _ _ _ X.env).kindOf _=_;rw[hv];kernel_rfl) s!"k" s!"1") (S4.g 2 rfl) (j5 (xw hQB))
 ·rintro C k ρ' hk hpk z1 Q' hQ'
  with_reducible refine cX s!"t" ?_
  with_reducible refine ac ?_
  refine ar (aq ?_)
  refine bp (T:="list") (id:="list.index") s!"t" s!"r" s!"4" s!"r" Fw Jo Lv ?_
  refine aJ (ao O s!"k" C) (ia2 (by show (Gl _ _ _ X.env).kindOf _=_;rw[hv];kernel_rfl) s!"k" s!"1") (S4.g 4 rfl) ⟨bK (S4.g 12 rfl),ac (ai (ao O s!"k" C) z1 (ag (qz (S4.g 12 rfl) (by exact fq lcam) hk ?_)))⟩
  refine oN (Je s!"d") ?_
  with_reducible refine ac ?_
  refine ar (aq ?_)
  refine bp (T:="list") (id:="list.index") s!"t" s!"r" s!"4" s!"r" Fw Jo Lv ?_
  refine aJ (ao O s!"k" C) (ia2 (by show (Gl _ _ _ X.env).kindOf _=_;rw[hv];kernel_rfl) s!"k" s!"1") (S4.g 5 rfl) ⟨bK (S4.g 13 rfl),ac (ai (ao O s!"k" C) z1 (ag (qz (S4.g 13 rfl) (by exact fq llef) ((jC OK).mp hk) ?_)))⟩
  refine oN (Je s!"d") ?_
  refine ac (aq (ag ⟨by rw[sz];show 3≤_;decide,?_⟩))
  exact hQ'
 intro D3 σ5 hD3 k5 e5
 have S5:=S4.call k5 hD3 e5
 have L5:=L4.all k5
 have ldue:(ce told gone ts.length t (bc told ts.length t)).length≤10:=by
  unfold ce
  rw[EZ]
  exact EY (GR _ _) lcam
 have hch:=qT OK (show Wd ts.length (aS ts) (EW ";") (EW "|") by rw[kZ,gS];exact T.wd h10) ht
 have hrw:=y9 OK (show Wd ts.length (aS ts) (EW ";") (EW "|") by rw[kZ,gS];exact T.wd h10) t
 clear k5 e5
 generalize ce told gone ts.length t (bc told ts.length t)=due at S5 ldue hch
 refine aL O z_d (ae ?_)
 have w_a:lk (stL ρ2 "due" (.r D3)) "a" =EU (EU (.r la)):=s!"lk"
 have w_b:lk (stL ρ2 "due" (.r D3)) "b" =EU (EU (.r lb)):=s!"lk"
 have w_d:lk (stL ρ2 "due" (.r D3)) "due" =EU (EU (.r D3)):=s!"lk"
 have w_heap:lk (stL ρ2 "due" (.r D3)) "heap" =EU (EU (.r lh)):=s!"lk"
 have w_gone:lk (stL ρ2 "due" (.r D3)) "gone" =EU (EU (.r lgo)):=s!"lk"
 have w_nm:=z_nm.st (x:="due") (m:= .r D3)
 generalize stL ρ2 "due" (.r D3)=ρ3 at w_a w_b w_d w_heap w_gone w_nm⊢
 clear S4 L4 z_a z_b z_d z_heap z_gone z_nm hD3
 have lA:(bb ((bc told ts.length t).map (aS ts)) (EW ";")).length≤20:=by rw[eD,EZ];exact Bw lcam
 have lB:(bb ((bi told gone t).map (aS ts)) (EW "|")).length≤20:=by rw[eD,EZ];exact Bw llef
 with_reducible refine aa ?_
 refine cw O W.hin w_d (S5.g 19 rfl) s!"r" s!"r" s!"r" s!"t" ?_
 with_reducible refine cX s!"t" ?_
 with_reducible refine ac ?_
 refine aT O W.g_len s!"t" ?_
 refine ac (ai O w_a (ag (dz (S5.g 16 rfl) (by rw[EZ];exact vN lA) ?_)))
 with_reducible refine ac ?_
 refine aT O W.g_len s!"t" ?_
 refine ac (ai O w_b (ag (dz (S5.g 18 rfl) (by rw[EZ];exact vN lB) ?_)))
 rw[EZ,EZ]
 have ldl:(due.map t1++[((bb ((bc told ts.length t).map (aS ts)) (EW ";")).length,(bb ((bi told gone t).map (aS ts)) (EW "|")).length,0)]).length≤11:=by rw[E7,EZ];show _+1≤_;exact IE ldue
 have eM:(due.map λp=>tM (t1 p))++[tM ((bb ((bc told ts.length t).map (aS ts)) (EW ";")).length,(bb ((bi told gone t).map (aS ts)) (EW "|")).length,0)]=(due.map t1++[((bb ((bc told ts.length t).map (aS ts)) (EW ";")).length,(bb ((bi told gone t).map (aS ts)) (EW "|")).length,0)]).map tM:=by rw[Fe,FR];rfl
 have eT:=(Fe (f:=tT) (l₁:=due.map t1) (l₂:=[((bb ((bc told ts.length t).map (aS ts)) (EW ";")).length,(bb ((bi told gone t).map (aS ts)) (EW "|")).length,0)])).symm
 generalize due.map t1++[((bb ((bc told ts.length t).map (aS ts)) (EW ";")).length,(bb ((bi told gone t).map (aS ts)) (EW "|")).length,0)]=dl at ldl eM eT
 refine ac (aq (ag ⟨by rw[sz];show 3≤_;decide,xD (S5.g 19 rfl) (by rw[EZ,EZ];exact fq ldue) eT (ae ?_)⟩))
 have S6:=S5.p 19 rfl (.lst (dl.map tT))
 have L6:=L5.put (S5.g 19 rfl) .lst (.lst (dl.map tT))
 generalize σ5.put D3 (.lst (dl.map tT))=σ6 at S6 L6⊢
 clear S5 L5 eT
 have hcSM:eQ (KD X.C.w.params N.dv) 260=true:=by
  have M:=zx X.C.w.params N.dv
  simp only[Fc] at M
  exact M.2
 have hcSH:eQ (KD X.C.w.params N.dv) 975=true:=by
  have M:=sN X.C.w.params N.dv
  simp only[Fc] at M
  exact M.2
 with_reducible refine aa ?_
 with_reducible refine bl ?_
 with_reducible refine aC s!"r" ?_
 refine wh (Ω:=Addr×Sg) [] [("tuple",.type "tuple")] (mo:=λo i=> .itl o.1 i) (vs:=λ_=>dl.map tM) (Cond:=λo st=>st.σ o.1=EU (.lst (dl.map tM)))
  (λo i acc st'=>st'.σ=o.2∧Nm st'.ρ ["block"]∧o.2 o.1=EU (.lst (dl.map tM))∧acc=(dl.take i).map tT)
  (λo C=>ci (kT W.G rfl W.hh (by rw[hv];rfl) (by rw[hv];rfl) rfl (by rw[hv];kernel_rfl)) o.1 _) (λo C=>fc (kT W.G rfl W.hh (by rw[hv];rfl) (by rw[hv];rfl) rfl (by rw[hv];kernel_rfl)) o.1) (λ_=>s!"r") (λo C=>dG λ_ _=>rfl)
  s!"r" s!"k" (λo=>by rw[EZ,sz];exact nLL ldl rfl) ?_ ?_ ?_ ?_
 rotate_left
 ·intro o i acc st' zr1;refine xa3 zr1 λ_ _ _ z4=>?_;clear zr1;subst z4
  rw[EZ];exact H8 _ _
 ·intro o i acc st' zr1;refine xa3 zr1 λe1 _ e3 _=>?_;clear zr1
  rw[e1];exact e3
 ·intro o C i hi acc zr1 zr2;obtain ⟨σ',ρ'⟩:=zr1;refine xa3 zr2 λe1 e2 e3 z4=>?_;clear zr2;subst z4
  have hi':i<dl.length:=by simpa using hi
  rw[F8]
  refine xe1 (e2 "block" s!"1") λu z=>?_
  refine aL (kT W.G rfl W.hh (by rw[hv];rfl) (by rw[hv];rfl) s!"2" (by rw[hv];kernel_rfl)) z ?_
  unfold bQ
  dsimp only
  rw[if_pos rfl]
  refine fR (T:="tuple") (kT W.G rfl W.hh (by rw[hv];rfl) (by rw[hv];rfl) s!"2" (by rw[hv];kernel_rfl)) s!"k" s!"t" (ac (ai (kT W.G rfl W.hh (by rw[hv];rfl) (by rw[hv];rfl) s!"2" (by rw[hv];kernel_rfl)) (cF z) (ag ?_)))
  show WC _ _ [.t (.ref 153) [.i (dl[i].1:Int),.i (dl[i].2.1:Int),.i (dl[i].2.2:Int)]] _ _
  refine wf (ms:=[.i (dl[i].1:Int),.i (dl[i].2.1:Int),.i (dl[i].2.2:Int)]) (by exact W.hh) (by exact ⟨N.dv,N.k⟩) (by show 3<1000;decide) (by show 3≠0;decide) ?_
  refine (ia3 e1 (Nm.st e2) e3 ?_)
  rw[FT hi',Fe];rfl
 refine bJ N s!"r" s!"t" ?_
 refine f8 O N W.g_SM s!"t" s!"3" hcSM ?_
 refine ac (fE (ac (ai O w_a (ac (ai O w_b (ag (gQ ?_)))))))
 refine iI (CtA.mono (AG (k:=kk+5) W.G W.R (S6.g 18 rfl) (by exact wW lB)) ?_)
 intro m σ7 zr1;refine xe2 zr1 λx dx z4=>?_;clear zr1;obtain ⟨d,js,jp,F,ns,rfl,SMx,fr7⟩:=z4
 refine dR 221 SMx.i SMx.n SMx.gmb (zw _ _) (AW _ _) s!"k" (bu W.G s!"k") (ag ?_)
 refine bz (Ct.mono (CtA.ct (yM (k:=kk+6) W.G W.R SMx (fr7 _ _ (S6.g 16 rfl)) (fr7 _ _ (S6.g 18 rfl)) hrw (by exact wW lA) (by exact wW lB) hch (by exact nLT ldue rfl))) ?_)
 intro m σ8 zr1;refine ad zr1 λlbk z4 z5=>?_;clear zr1;subst z4;obtain ⟨ebk,fr8⟩:=z5
 have ebk':σ8 lbk=EU (.lst (dl.map tM)):=by rw[ebk];exact congrArg (λl=>EU (MO.lst l)) eM
 have S7:=S6.keep fr7
 have L7:=L6.all fr7
 have S8:=S7.keepLC (LC.all rfl) (λb m hm hb=>fr8 b m (λe=>by subst e;rw[SMx.n] at hb;cases hb;exact LC.ns hm) hb)
 have L8:Lxs σ8 ds:=by
  refine ⟨λe he=>?_,L7.ap⟩
  have ok:=L7.ok e he
  obtain ⟨n1,n2⟩:=SMx.apart ok
  refine ⟨ok.x.keepN λb m hb hm=>fr8 b m (λq=>?_) hm,ok.r,ok.b⟩
  subst q
  obtain ⟨a,⟨ln,b'⟩,c,d',e',f,_⟩:=ok.x
  rcases hb with h|h|h|h|h|h
  ·rw[h,a] at hm;cases hm;have:=SMx.n;rw[h,a] at this;cases this
  ·exact n1 h
  ·have:=SMx.n;rw[h,c] at this;cases this
  ·exact n2 h
  ·have:=SMx.n;rw[h,e'] at this;cases this
  ·have:=SMx.n;rw[h,f] at this;cases this
 clear fr8 fr7 S7 L7 S6 L6 SMx ebk
 refine (cI (lbk,σ8) rfl (cB ebk') ⟨rfl,.cons (u:=none) s!"k" .nil,ebk',rfl⟩ ?_)
 intro acc zr1 zr2 D4 hD4;obtain ⟨σ',ρ'⟩:=zr1;refine xa3 zr2 λe1 _ _ z4=>?_;clear zr2;subst z4
 have e1:σ'=σ8:=e1
 subst e1
 rw[EZ,Go]
 have okD:∀a∈dl,Gy 8 (Fv.tuple [.int (a.1:Int),.int (a.2.1:Int),.int (a.2.2:Int)])=true:=λ_ _=>rfl
 refine ai O w_d (oO BN Bu (Sg.put_same ..) (dm hD4 _ _ _ (S8.g 19 rfl)) okD okD W.u64 (ay ?_))
 refine aD s!"4" (ak (ae ?_))
 have S9:=S8.same hD4 (.lst (dl.map tT))
 have L9:=L8.new hD4 (.lst (dl.map tT))
 generalize σ'.put D4 (.lst (dl.map tT))=σ9 at S9 L9⊢
 clear S8 L8 ebk' hD4
 obtain ⟨r0,rs,ers⟩:∃r0 rs,(eC told ts.length t).map (tAt ts)=r0::rs:=by
  cases e:eC told ts.length t with
  |nil=>exact absurd e hne
  |cons a l=>exact (ie2 _ _ rfl)
 have rok:∀z∈(eC told ts.length t).map (tAt ts),z.Ok:=λz hz=>by
  refine ad (Fp.mp hz) λk hk z2=>?_;subst z2
  exact pU T (lW.mp hk).1
 have lrn:((eC told ts.length t).map (tAt ts)).length≤10:=by
  rw[EZ,←rM]
  exact EY (GR _ _) lcam
 with_reducible refine aa ?_
 refine aA W.hin s!"r" ?_
 refine bp (T:="list") (id:="list.append") s!"t" s!"r" s!"4" s!"r" Fw Gw Gx ?_
 refine aJ O W.c_lexers (S9.g 6 rfl) ⟨bK (S9.g 14 rfl),?_⟩
 with_reducible refine ac ?_
 refine f8 O N W.g_sh s!"t" s!"3" hcSH ?_
 with_reducible refine ac ?_
 refine bB O W.g_line hl1 hl2 s!"t" ?_
 with_reducible refine ac ?_
 refine d9 (bc told ts.length t) nI (λk=>thM (tAt ts k).th) (λk=>decide (told.getD k 0=t)) (vs:=((eC told ts.length t).map (tAt ts)).map λt=>thM t.th) (by rw[rM,FR];rfl) [("turn",L+4),("told",L+2),("things",L+1)] O (by rw[hv];kernel_rfl) s!"k" (λ_=>s!"r") s!"k" (by exact fq lcam) (S9.g 12 rfl) (λQ' q=>aJ O W.c_came (S9.g 4 rfl) q) ?_ ?_ ?_
 ·rintro C k ρ' hk z1 QB hQB
  unfold bQ
  dsimp only
  refine aC s!"r" (aP (aJ (ao O s!"k" C) (ia2 (by show (Gl _ _ _ X.env).kindOf _=_;rw[hv];kernel_rfl) s!"k" s!"1") (S9.g 1 rfl) ?_))
  refine ai (ao O s!"k" C) z1 (aY (co (λ_ _=>s!"r") (λ_ _=>s!"r")) (S9.g 8 rfl) (by exact dX) (by have:=hcam k hk;exact fO h10 this) (by rw[FU];exact eJ (by rw[htold];exact hcam k hk)) ?_)
  refine aJ (ao O s!"k" C) (ia2 (by show (Gl _ _ _ X.env).kindOf _=_;rw[hv];kernel_rfl) s!"k" s!"1") (S9.g 2 rfl) (j5 (xw hQB))
 ·rintro C k ρ' hk _ z1 Q' hQ'
  refine aP (aJ (ao O s!"k" C) (ia2 (by show (Gl _ _ _ X.env).kindOf _=_;rw[hv];kernel_rfl) s!"k" s!"1") (S9.g 0 rfl) ?_)
  exact ai (ao O s!"k" C) z1 (aY (co (λ_ _=>s!"r") (λ_ _=>s!"r")) (S9.g 7 rfl) (by exact dX) (by have:=hcam k hk;exact fO h10 this) (vp (hcam k hk)) hQ')
 intro D5 σ10 hD5 k10 e10
 have S10:=S9.call k10 hD5 e10
 have L10:=L9.all k10
 refine ac (aI (ag ?_))
 refine bz (Ct.mono (CtA.ct (fY (k:=kk+8) W.G W.R pO rok (by exact wS lrn) (S10.g 20 rfl))) ?_)
 intro m σ11 zr1;refine xa1 zr1 λz4 fr11=>?_;clear zr1;subst z4
 have S11:=S10.keep fr11
 have L11:=L10.all fr11
 have lineR:=hV 32 rok
 refine ag (kG (eL (gQ ?_)))
 refine iI (CtA.mono (tj (k:=kk+5) W.G W.R) ?_)
 rintro m σ12 NX
 refine ad (L11.add NX (toks:=((eC told ts.length t).map (tAt ts)).map T4.w) (by rw[pO];exact vW lrn lineR) (by rw[ers,pO];exact rd (by rw[←ers];exact rok))) λdn z2 z3=>?_;subst z2;refine xa2 z3 λhtk L12 fr12=>?_;clear z3
 have S12:=S11.keep fr12
 refine ag (iZ (vs':=(ds++[dn]).map λd=>MV.r d.sx) (S12.g 14 rfl) (by rw[EZ,sz];exact AS hds) (by rw[Fe];rfl) ⟨trivial,ae ?_⟩)
 have S13:=S12.p 14 rfl (.lst ((ds++[dn]).map λd=>MV.r d.sx))
 have L13:=L12.put (S12.g 14 rfl) LC.lst (.lst ((ds++[dn]).map λd=>MV.r d.sx))
 generalize σ12.put llx (.lst ((ds++[dn]).map λd=>MV.r d.sx))=σ13 at S13 L13⊢
 clear S12 L12 S11 L11 S10 L10 S9 L9 hD5 fr11 fr12 NX k10 e10
 with_reducible refine aa ?_
 with_reducible refine ah (by rw[hv];kernel_rfl) s!"r" s!"t" ?_
 refine d9 (bc told ts.length t) nI nI (λk=>decide (told.getD k 0≠t)) (vs:=(bc told ts.length (t+1)).map nI) (by rw[wI]) [("turn",L+4),("told",L+2)] O (by rw[hv];kernel_rfl) s!"k" (λ_=>s!"r") s!"k" (by exact fq lcam) (S13.g 12 rfl) (λQ' q=>aJ O W.c_came (S13.g 4 rfl) q) ?_ ?_ ?_
 ·rintro C k ρ' hk z1 QB hQB
  unfold bQ
  dsimp only
  refine aC s!"r" (aP (aJ (ao O s!"k" C) (ia2 (by show (Gl _ _ _ X.env).kindOf _=_;rw[hv];kernel_rfl) s!"k" s!"1") (S13.g 1 rfl) ?_))
  refine ai (ao O s!"k" C) z1 (aY (co (λ_ _=>s!"r") (λ_ _=>s!"r")) (S13.g 8 rfl) (by exact dX) (by have:=hcam k hk;exact fO h10 this) (by rw[FU];exact eJ (by rw[htold];exact hcam k hk)) ?_)
  refine aJ (ao O s!"k" C) (ia2 (by show (Gl _ _ _ X.env).kindOf _=_;rw[hv];kernel_rfl) s!"k" s!"1") (S13.g 2 rfl) (tf (xR hQB))
 ·rintro C k ρ' hk _ z1 Q' hQ'
  exact ai (ao O s!"k" C) z1 hQ'
 intro lcm' σ14 hlcm' k14 e14
 have S14:=S13.call k14 hlcm' e14
 have L14:=L13.all k14
 refine dA O W.c_came (S14.g 4 rfl) (ae ?_)
 have S15:=S14.p 4 rfl (.cel (EU (.r lcm')))
 have L15:=L14.put (S14.g 4 rfl) LC.cel (.cel (EU (.r lcm')))
 generalize σ14.put (L+6) (.cel (EU (.r lcm')))=σ15 at S15 L15⊢
 clear S14 L14 S13 L13 hlcm' k14 e14
 with_reducible refine aa ?_
 with_reducible refine ah (by rw[hv];kernel_rfl) s!"r" s!"t" ?_
 refine d9 (bi told gone t) nI nI (λk=>decide (told.getD k 0≠t)) (vs:=(bi told gone (t+1)).map nI) (by rw[wJ]) [("turn",L+4),("told",L+2)] O (by rw[hv];kernel_rfl) s!"k" (λ_=>s!"r") s!"k" (by exact fq llef) (S15.g 13 rfl) (λQ' q=>aJ O W.c_left (S15.g 5 rfl) q) ?_ ?_ ?_
 ·rintro C k ρ' hk z1 QB hQB
  unfold bQ
  dsimp only
  refine aC s!"r" (aP (aJ (ao O s!"k" C) (ia2 (by show (Gl _ _ _ X.env).kindOf _=_;rw[hv];kernel_rfl) s!"k" s!"1") (S15.g 1 rfl) ?_))
  refine ai (ao O s!"k" C) z1 (aY (co (λ_ _=>s!"r") (λ_ _=>s!"r")) (S15.g 8 rfl) (by exact dX) (by have:=hlef k hk;exact fO h10 this) (by rw[FU];exact eJ (by rw[htold];exact hlef k hk)) ?_)
  refine aJ (ao O s!"k" C) (ia2 (by show (Gl _ _ _ X.env).kindOf _=_;rw[hv];kernel_rfl) s!"k" s!"1") (S15.g 2 rfl) (tf (xR hQB))
 ·rintro C k ρ' hk _ z1 Q' hQ'
  exact ai (ao O s!"k" C) z1 hQ'
 intro llf' σ16 hllf' k16 e16
 have S16:=S15.call k16 hllf' e16
 have L16:=L15.all k16
 refine dA O W.c_left (S16.g 5 rfl) (ae ?_)
 have S17:=S16.p 5 rfl (.cel (EU (.r llf')))
 have L17:=L16.put (S16.g 5 rfl) LC.cel (.cel (EU (.r llf')))
 refine ak (hq lcm' llf' _ ρ3 dn ⟨?_,w_heap,w_gone,w_nm⟩ L17 htk)
 exact S17.pick [0,1,2,3,4,5,6,7,8,9,10,11,21,22,14] s!"d" s!"k"
end
end
section
open Builtin.ObjectAttr
theorem Bm {told gone:List Nat} (OK:OrdOk n told gone) (ht:1≤t) (hm:t≤mxL told):eC told n t≠ []:=by
 have key:∀j k,k<n->told.getD k 0=t+j->∃k',k'<n∧told.getD k' 0=t:=by
  intro j
  induction j with
  |zero=>intro k hk e;exact (af k hk e)
  |succ j ih=>
   intro k hk e;rcases OK.ex k hk with h|⟨e',he,_,h⟩
   ·exact (F9.mpr (E6 (e.symm.trans h)) (E3 ht (Hq (Iz _)))).elim
   ·exact ih e' (by exact o62 hk he) (by exact N0 (h.symm.trans e))
 have h0:mxL told≠0:=by exact o64 ht hm
 obtain ⟨i,hi,e⟩:=Gg (gG h0);have hi':i<n:=by rw[←OK.len];exact hi
 have e':told.getD i 0=mxL told:=by rw[FQ,E2 hi,e];rfl
 refine ad (key (mxL told-t) i hi' (by exact e'.trans (IX hm).symm)) λk hk ek=>?_;intro h;have:=lW.mpr ⟨hk,ek⟩;rw[h] at this;cases this
theorem xP {told gone:List Nat} (OK:OrdOk n told gone):mxL told≤n:=by
 have lim:∀k,k<n->told.getD k 0≤k+1:=by
  intro k
  induction k using OJ with
  |_ k ih=>
   intro hk;rcases OK.ex k hk with h|⟨e',he,_,h⟩
   ·exact EY (E6 h) (Hi 1 _)
   ·have:=ih e' he (by exact o62 hk he);exact h▸FE (EY this he)
 by_cases h0:mxL told=0
 ·exact o2 h0
 ·obtain ⟨i,hi,e⟩:=Gg (gG h0);have hi':i<n:=by rw[←OK.len];exact hi
  have:=lim i hi';rw[FQ,E2 hi,e] at this;have:mxL told≤i+1:=this;exact EY this hi'
noncomputable def BR3:List Stmt:=BR2.drop 1
noncomputable def cO (ts:List T4) (told gone:List Nat) (u:Nat):List Str:=((gone.filter λk=>decide (told.getD k 0=u+1)).map (tAt ts)).map T4.w
section
variable {X:Xc} {kk:Nat} {L lth lto lh lgo lw lcm llf llx:Addr} {ts:List T4} {told gone:List Nat} {mu:Option MV} {σ:Sg} {ρ:Lo}
set_option maxHeartbeats 4000000 in
theorem zk (W:LawC X L kk) (P:Pb L lth lto lh lgo lw lcm llf llx mu ts told gone (F7 ts.length) gone [] σ ρ) (T:Ths ts) (h4:4≤ts.length) (h10:ts.length≤10) (OK:OrdOk ts.length told gone)
 (hq:∀lcm llf mu ds σ' ρ' cm lf,Pb L lth lto lh lgo lw lcm llf llx mu ts told gone cm lf (ds.map λd=> .r d.sx) σ' ρ'->Lxs σ' ds->ds.length=mxL told->(∀(u:Nat) (d:LD),ds[u]?=EU d->d.toks=cO ts told gone u)->WS X BR3 ⟨σ',ρ'⟩ Q):
 WS X BR2 ⟨σ,ρ⟩ Q:=by
 have O:=W.O
 have sz:=sizeLine_eq
 obtain ⟨v,hv⟩:=W.eq
 have htold:told.length=ts.length:=OK.len
 have mle:mxL told≤10:=EY (xP OK) h10
 have m0:mxL told≠0:=by
  have h1:=OK.pos 0 (by exact o69 h4)
  have h2:told.getD 0 0∈told:=by
   rw[FQ,E2 (show 0<told.length by exact o70 h4 htold)]
   exact Fy _
  have:=i7 h2
  exact o64 h1 this
 conv=>arg 2;whnf
 with_reducible refine aa ?_
 refine fK (mo:=λi=>rgI (1+(i:Int)) ((mxL told:Int)-i)) (vs:=cY 1 (mxL told)) (Cond:=λ_=>True)
  (λi st=>∃lcm llf mu ds,Pb L lth lto lh lgo lw lcm llf llx mu ts told gone (bc told ts.length (i+1)) (bi told gone (i+1)) (ds.map λd=> .r d.sx) st.σ st.ρ∧Lxs st.σ ds∧ds.length=i∧∀(u:Nat) (d:LD),ds[u]?=EU d->d.toks=cO ts told gone u)
  (gB O 1 (mxL told)) (λ_=>s!"r") (λ_ _=>s!"r") ?_ (λ_ _ _=>trivial) ?_ ?_
 ·refine fR O W.g_range s!"t" ?_
  refine ac (aq ?_)
  with_reducible refine ac ?_
  refine ar (aq ?_)
  refine aT O W.g_max s!"t" ?_
  refine ac (aJ O W.c_told (P.sep.g 1 rfl) (ag (vI W.hh (ns:=told.map λk:Nat=>(k:Int)) (by rw[FR];exact P.sep.g 8 rfl) (by rw[EZ];exact o70 h4 htold) (v:=((mxL told:Nat):Int)) (Fp.mpr (af _ (gG m0) rfl)) (λx hx=>?_) (c0 (ag (pN λrg hrg=>?_))))))
  ·refine ad (Fp.mp hx) λy hy z1=>?_;clear hx;subst z1
   have:=i7 hy;exact o71 this
  refine ⟨(jA lcm llf mu ([]) ⟨?_,P.heap,P.gone,P.nm⟩ Lxs.nil ⟨rfl,λu d h=>by simp at h⟩),iq (a:=1) s!"d" s!"d" (by exact Ff _) (by exact Gm (Int.add_le_add_left (GM.mpr mle) 1) s!"d") (mxL told) (rg1 _) (Sg.put_same ..)⟩
  show Sep _ _
  rw[yP OK,yI OK]
  exact P.sep.same hrg _
 ·intro J0 hJ i hi zr1 zr2;obtain ⟨σ',ρ'⟩:=zr1;refine bx zr2 λlcm llf mu ds P' z2=>?_;clear zr2;obtain ⟨LL,hl,htk⟩:=z2
  have hi':i<mxL told:=by simpa[cY] using hi
  have ev:(cY 1 (mxL told))[i]=nI (i+1):=by simp[cY];exact congrArg MV.i o78
  rw[ev]
  refine dA O W.c_turn (P'.sep.g 2 rfl) ?_
  refine wg W ⟨P'.sep.p 2 rfl (.cel (EU (nI (i+1)))),P'.heap,P'.gone,P'.nm⟩ T h10 OK (by exact o79) (Bm OK (by exact o79) (by exact o80 hi')) (LL.put (P'.sep.g 2 rfl) LC.cel _) (by exact nTL (E1 (E3 (E6 hl) hi') mle) rfl) λlcm' llf' σ'' ρ'' d P'' LL'' hd=>hJ _ _ (jA lcm' llf' _ (ds++[d]) P'' LL'' ⟨by rw[E7,hl];rfl,λu e he=>?_⟩)
  by_cases hu:u<ds.length
  ·rw[Gs hu] at he
   exact htk u e he
  ·rw[Hc (by exact o82 hu)] at he
   have h0:u-ds.length=0:=by
    cases h1:u-ds.length with
    |zero=>rfl
    |succ m=>rw[h1] at he;simp at he
   rw[h0] at he
   have he:EU d=EU e:=he
   cases he
   rw[hd]
   unfold cO
   rw[w8 OK,show u=i by exact (GF (IK h0) (F9.mp hu)).trans hl]
 ·intro zr1 zr2;obtain ⟨σ',ρ'⟩:=zr1;refine bx zr2 λlcm llf mu ds P' z2=>?_;obtain ⟨LL,hl,htk⟩:=z2
  have hlen:(cY 1 (mxL told)).length=mxL told:=by simp[cY]
  rw[hlen] at hl
  exact ak (ae (hq lcm llf mu ds σ' ρ' _ _ P' LL hl htk))
end
end
section
open Builtin.ObjectAttr
theorem Lxs.rest {σ:Sg} {d:LD} (h:Lxs σ (d::ds)) (fr:∀b m,b≠d.dsx->b≠d.dio->σ b=EU m->σ' b=EU m):Lxs σ' ds:=by
 obtain ⟨h1,h2⟩:=Ky.mp h.ap;have okd:=h.ok d (Fn ..);obtain ⟨lnd,hnd⟩:=okd.x.n;refine ⟨λe he=>?_,h2⟩;have okj:=h.ok e (Fj _ he);obtain ⟨o1,o2⟩:=h1 e he;refine ⟨okj.x.keepN λb m hb hm=>fr b m ?_ ?_ hm,okj.r,okj.b⟩
 ·obtain ⟨a,⟨ln,b'⟩,c,d',e,f,_⟩:=okj.x;clear hm;rcases hb with rfl|rfl|rfl|rfl|rfl|rfl
  ·exact aK a hnd
  ·exact E8 o1
  ·exact aK c hnd
  ·exact E8 (eu hnd d')
  ·exact E8 (bI hnd e)
  ·exact E8 (bI hnd f)
 ·obtain ⟨a,⟨ln,b'⟩,c,d',e,f,_⟩:=okj.x;clear hm;rcases hb with rfl|rfl|rfl|rfl|rfl|rfl
  ·exact aK a okd.x.ni
  ·exact eu b' okd.x.ni
  ·exact aK c okd.x.ni
  ·exact E8 o2
  ·exact E8 (bI okd.x.ni e)
  ·exact E8 (bI okd.x.ni f)
theorem xr {l:List α} {x:α} (h:l[i]?=EU x):l.set i x=l:=by
 obtain ⟨hi,e⟩:=E5.mp h;rw[←e];exact List.set_getElem_self hi
theorem Base.lc {lth lto lh lgo lw lcm llf llx:Addr} {mu:Option MV} {told gone cm lf:List Nat} {lxs:List MV}:∀p∈Base L lth lto lh lgo lw lcm llf llx mu ts told gone cm lf lxs,LC p.2:=LC.all rfl
section
variable {X:Xc} {kk:Nat} {L lth lto lh lgo lw lcm llf llx:Addr} {ts:List T4} {told gone cm lf:List Nat} {mu:Option MV} {ds:List LD} {σ:Sg} {ρ:Lo}
set_option maxHeartbeats 4000000 in
theorem yH (W:LawC X L kk) (P:Pb L lth lto lh lgo lw lcm llf llx mu ts told gone cm lf (ds.map λd=> .r d.sx) σ ρ) (T:Ths ts) (h10:ts.length≤10) (OK:OrdOk ts.length told gone) (LL:Lxs σ ds) (hds:ds.length=mxL told) (hdl:ds.length≤20)
 (htk:∀(u:Nat) (d:LD),ds[u]?=EU d->d.toks=cO ts told gone u):
 WS X BR3 ⟨σ,ρ⟩ λfl st=>fl= .ret (.k (.bool true)):=by
 have O:=W.O
 have N:=kn W.G
 have sz:=sizeLine_eq
 refine xe1 W.eq λv hv=>?_
 have htold:told.length=ts.length:=OK.len
 have S0:Sep σ (Base L lth lto lh lgo lw lcm llf llx mu ts told gone cm lf (ds.map λd=> .r d.sx)):=P.sep
 have Ph:=P.heap
 have Pg:=P.gone
 clear P
 have hgn:∀k∈gone,k<ts.length:=λk hk=>(OK.mem k).mp hk
 have glen:gone.length≤10:=by
  have h1:=Ip OK.nd (l₂:=F7 ts.length) λk hk=>by simpa using hgn k hk
  rw[Jn] at h1
  exact wR h10 h1
 have tmx:∀k,k<ts.length->told.getD k 0-1<ds.length:=λk hk=>by
  have h1:=OK.pos k hk
  have h2:told.getD k 0≤mxL told:=i7 (by rw[FQ,E2 (show k<told.length by exact o39 htold hk)];exact Fy _)
  exact Dv hds h1 h2
 conv=>arg 2;whnf
 with_reducible refine aa ?_
 with_reducible refine bl ?_
 with_reducible refine aC s!"r" ?_
 refine jn [("told",L+2),("lexers",L+8)] [] (mo:=λi=> .itl lgo i) (vs:=gone.map nI) (Cond:=λst=>st.σ lgo=EU (.lst (gone.map nI)))
  (λi acc st'=>∃ds',Sep st'.σ (Base L lth lto lh lgo lw lcm llf llx mu ts told gone cm lf (ds.map λd=> .r d.sx))∧Lxs st'.σ ds'∧(ds'.map λd=>MV.r d.sx)=ds.map (λd=>MV.r d.sx)∧Nm st'.ρ ["k"]∧
   (∀(u:Nat) (d:LD),ds'[u]?=EU d->d.toks=cO ts told (gone.drop i) u)∧acc=(gone.take i).map λk=> .s (aS ts k))
  (λC=>ci (ao O s!"k" C) lgo _) (λC=>fc (ao O s!"k" C) lgo) (λ_=>s!"r") (λC=>dG λ_ _=>rfl) (by rw[hv];kernel_rfl) s!"k" (by rw[EZ,sz];exact nLL glen rfl) ?_ ?_ ?_ ?_
 rotate_left
 ·intro i acc st' zr1;refine fy zr1 λds' _ _ _ _ z3=>?_;clear zr1;obtain ⟨_,rfl⟩:=z3
  rw[EZ];exact H8 _ _
 ·intro i acc st' zr1;refine ad zr1 λds' S _=>?_;clear zr1
  exact S.g 10 rfl
 ·intro C i hi acc zr1 zr2;obtain ⟨σ',ρ'⟩:=zr1;refine fy zr2 λds' S LL' hsx nm z3=>?_;clear zr2;obtain ⟨htk',rfl⟩:=z3
  have hi':i<gone.length:=by simpa using hi
  rw[F8]
  refine xe1 (nm "k" s!"1") λu0 z=>?_
  refine aL (ao O s!"k" C) z ?_
  unfold bQ
  dsimp only
  rw[if_pos rfl]
  have hk:=hgn _ (Fy hi')
  have hdrop:gone.drop i=gone[i]::gone.drop (i+1):=Jg hi'
  have htake:gone.take (i+1)=gone.take i++[gone[i]]:=FT hi'
  generalize gone[i]=k at hk hdrop htake⊢
  have lds:ds'.length=ds.length:=by have:=congrArg Lb hsx;rwa [EZ,EZ] at this
  have hu:=tmx k hk
  have hp:=OK.pos k hk
  obtain ⟨d,hd⟩:∃d,ds'[told.getD k 0-1]?=EU d:=⟨_,E2 (by exact A1 lds hu)⟩
  have htd:=htk' _ _ hd
  have htd:d.toks=(tAt ts k).w::cO ts told (gone.drop (i+1)) (told.getD k 0-1):=by
   rw[htd]
   unfold cO
   rw[hdrop,GK (by rw[decide_eq_true_eq];exact (GV hp).symm)]
   rfl
  have dok:=LL'.ok d (GZ hd)
  refine xe1 dok.r.run λn hrun=>?_
  have hsxd:(ds.map λd=>MV.r d.sx)[(((told.getD k 0:Nat):Int)-1).toNat]?=EU (.r d.sx):=by
   rw[←hsx,show (((told.getD k 0:Nat):Int)-1).toNat=told.getD k 0-1 by exact A7,Fx,hd];rfl
  refine ib (X:=Xi X _ _ C []) W.G (ao O s!"k" C) ⟨N.dv,N.k⟩ (k:=kk+6) W.R dok.x dok.b s!"1" hrun s!"r" (λQ' q=>?_) ?_
  ·refine aP (aJ (ao O s!"k" C) (ia2 (by show (Gl _ _ _ X.env).kindOf _=_;rw[hv];kernel_rfl) s!"k" s!"1") (S.g 6 rfl) ?_)
   refine ar (aP (aJ (ao O s!"k" C) (ia2 (by show (Gl _ _ _ X.env).kindOf _=_;rw[hv];kernel_rfl) s!"k" s!"1") (S.g 1 rfl) ?_))
   refine ai (ao O s!"k" C) (cF z) (aY (co (λ_ _=>s!"r") (λ_ _=>s!"r")) (S.g 8 rfl) (by exact dX) (by exact fO h10 hk) (by rw[FU];exact eJ (by rw[htold];exact hk)) ?_)
   exact aq (eY (aY (co (λ_ _=>s!"r") (λ_ _=>s!"r")) (S.g 14 rfl) (by exact DR hp) (by exact Gm (Int.sub_le_self _ s!"d") (Gm (GM.mpr (EY (KQ hu) hdl)) s!"d")) hsxd q))
  ·intro ls' σ'' HK lx fr
   rw[htd] at HK
   refine xa1 HK λhres hreads=>?_;clear HK
   have hpb:=lx.cn rfl
   rw[hpb] at lx hreads
   refine xe1 dok.x.n λlnd hnd=>?_
   have fr':∀b m,b≠d.dsx->b≠d.dio->σ' b=EU m->σ'' b=EU m:=λb m h1 h2 hb=>fr b m h1 h2 (λa ha=>by cases ha) hb
   refine (gk (ds'.set (told.getD k 0-1) {d with st:=ls'.st,pos:=ls'.pos,toks:=cO ts told (gone.drop (i+1)) (told.getD k 0-1)}) (S.keepLC Base.lc (λb m hm hb=>fr' b m (λe=>by subst e;rw[hnd] at hb;cases hb;exact LC.ns hm) (λe=>by subst e;rw[dok.x.ni] at hb;cases hb;exact LC.ns hm) hb)) (LL'.step hd lx hreads fr') ?_ (Nm.st nm) ⟨λw e he=>?_,?_⟩)
   ·rw[JO,←hsx]
    exact xr (by rw[Fx,hd];rfl)
   ·by_cases hw:w=told.getD k 0-1
    ·subst hw
     rw[MD (by exact A1 lds hu)] at he
     cases he;rfl
    ·rw[Nd (E8 hw)] at he
     rw[htk' w e he]
     unfold cO
     rw[hdrop,Ho (by rw[decide_eq_true_eq];exact λz_h=>hw (by rw[z_h];rfl))]
   ·rw[htake,Fe,hres,←eF hk];rfl
 refine ai O Pg (ia3 rfl (cB (S0.g 10 rfl)) ⟨ds,S0,LL,rfl,.cons (u:=none) s!"k" .nil,(λu d h=>by rw[Kb];exact htk u d h),rfl⟩ ?_)
 intro acc zr1 zr2 D hD;obtain ⟨σ1,ρ1⟩:=zr1;refine fy zr2 λds1 S1 LL1 hsx1 _ z3=>?_;clear zr2;obtain ⟨htk1,rfl⟩:=z3
 dsimp only at S1 LL1 hD⊢
 rw[EZ,Go]
 rw[EZ,List.drop_length] at htk1
 have S2:=S1.newE hD (.lst (gone.map λk=> .s (aS ts k)))
 have L2:=LL1.new hD (.lst (gone.map λk=> .s (aS ts k)))
 have ew:(gone.map λk=>MV.s (aS ts k))=(gone.map (aS ts)).map .s:=by rw[FR];rfl
 rw[ew] at S2 L2⊢
 generalize σ1.put D (.lst ((gone.map (aS ts)).map .s))=σ2 at S2 L2⊢
 clear S1 LL1 hD
 refine d9 gone nI (λk=> .s (aS ts k)) (λ_=>true) (vs:=(gone.map (aS ts)).map .s) (by rw[eg,FR];rfl) [("words",L+5)] O (by rw[hv];kernel_rfl) s!"k" (λ_=>s!"r") s!"k" (by exact fq glen) (S2.g 10 rfl) (λQ' q=>ai O Pg q) (λC k ρ' _ _ QB h=>h) ?_ ?_
 ·rintro C k ρ' hk _ z1 Q' hQ'
  refine aP (aJ (ao O s!"k" C) (ia2 (by show (Gl _ _ _ X.env).kindOf _=_;rw[hv];kernel_rfl) s!"k" s!"1") (S2.g 3 rfl) ?_)
  exact ai (ao O s!"k" C) z1 (aY (co (λ_ _=>s!"r") (λ_ _=>s!"r")) (S2.g 11 rfl) (by exact dX) (by have:=hgn k hk;exact fO h10 this) (kU (hgn k hk)) (by rw[←eF (hgn k hk)];exact hQ'))
 intro D2 σ3 hD2 k3 e3
 have S3:=S2.call k3 hD2 e3
 have L3:=L2.all k3
 have okw:∀a∈gone.map (aS ts),Gy 8 (Fv.str a)=true:=λa ha=>by
  refine ad (Fp.mp ha) λk hk z2=>?_;clear ha;subst z2
  show Ht _=true
  rw[eF (hgn k hk)]
  exact wP (pU T (hgn k hk))
 refine oO to kz (S3.g 15 rfl) (S3.g 16 rfl) okw okw W.u64 (ay ?_)
 refine aD s!"4" (ak (ae ?_))
 clear S2 L2 hD2 k3 e3
 with_reducible refine aa ?_
 with_reducible refine be ?_
 refine yA ?_
 with_reducible refine kX s!"r" ?_
 refine ai O Ph (b9 s!"t" (ag ⟨FY _,λle hle=>?_⟩))
 have S4:=S3.newE hle (.lst [])
 have L4:=L3.new hle (.lst [])
 refine xX (f:=λn:Int=>MV.i n) (g:=Fv.int) (xs:=[]) (ys:=[]) tP (λa b h=>by injection h) (S4.g 9 rfl) (S4.g 17 rfl) (λa h=>by cases h) (λa h=>by cases h) W.u64 ?_
 refine ay (ift s!"4" ?_)
 dsimp only
 generalize σ3.put le (.lst [])=σ4 at S4 L4⊢
 clear S3 L3 hle
 have SB:=S4.pick (l':=Base L lth lto lh lgo lw lcm llf llx mu ts told gone cm lf (ds.map λd=> .r d.sx)) [0,1,2,3,4,5,6,7,8,9,10,11,12,13,14] s!"d" s!"k"
 clear S4
 have lds:ds1.length=ds.length:=by have:=congrArg Lb hsx1;rwa [EZ,EZ] at this
 with_reducible refine kX s!"r" ?_
 refine jn [] [] (mo:=λi=> .itl llx i) (vs:=ds.map λd=> .r d.sx) (Cond:=λst=>st.σ llx=EU (.lst (ds.map λd=> .r d.sx)))
  (λi acc st'=>Sep st'.σ (Base L lth lto lh lgo lw lcm llf llx mu ts told gone cm lf (ds.map λd=> .r d.sx))∧Lxs st'.σ (ds1.drop i)∧Nm st'.ρ ["lexer"]∧acc=FZ i (.k .none))
  (λC=>ci (ao O s!"k" C) llx _) (λC=>fc (ao O s!"k" C) llx) (λ_=>s!"r") (λC=>dG λ_ _=>rfl) s!"r" s!"k" (by rw[EZ,sz];exact AS hdl) ?_ ?_ ?_ ?_
 rotate_left
 ·intro i acc st' zr1;refine xa3 zr1 λ_ _ _ z3=>?_;clear zr1;subst z3
  rw[List.length_replicate];exact Fd _
 ·intro i acc st' zr1;refine xa1 zr1 λS _=>?_;clear zr1
  exact S.g 14 rfl
 ·intro C i hi acc zr1 zr2;obtain ⟨σ',ρ'⟩:=zr1;refine xa3 zr2 λS LL' nm z3=>?_;clear zr2;subst z3
  have hi':i<ds1.length:=by rw[lds];simpa using hi
  have ev:(ds.map λd=>MV.r d.sx)[i]= .r ds1[i].sx:=by
   have h1:(ds.map λd=>MV.r d.sx)[i]?=EU (.r ds1[i].sx):=by rw[←hsx1,Fx,E2 hi'];rfl
   rw[E2 hi] at h1
   exact My h1
  rw[ev]
  refine xe1 (nm "lexer" s!"1") λu0 z=>?_
  refine aL (ao O s!"k" C) z ?_
  unfold bQ
  dsimp only
  rw[if_pos rfl]
  have hdrop:ds1.drop i=ds1[i]::ds1.drop (i+1):=Jg hi'
  have htd:ds1[i].toks=[]:=htk1 i _ (E2 hi')
  rw[hdrop] at LL'
  generalize ds1[i]=d at LL' htd⊢
  have dok:=LL'.ok d (Fn ..)
  refine xe1 dok.r.run λn hrun=>?_
  refine ib (X:=Xi X _ _ C []) W.G (ao O s!"k" C) ⟨N.dv,N.k⟩ (k:=kk+6) W.R dok.x dok.b s!"1" hrun s!"r" (λQ' q=>ai (ao O s!"k" C) (cF z) q) ?_
  intro ls' σ'' HK lx fr
  rw[htd] at HK
  have hres:cy ls'= .k .none:=HK
  refine xe1 dok.x.n λlnd hnd=>?_
  have fr':∀b m,b≠d.dsx->b≠d.dio->σ' b=EU m->σ'' b=EU m:=λb m h1 h2 hb=>fr b m h1 h2 (λa ha=>by cases ha) hb
  exact (ia3 (S.keepLC Base.lc (λb m hm hb=>fr' b m (λe=>by subst e;rw[hnd] at hb;cases hb;exact LC.ns hm) (λe=>by subst e;rw[dok.x.ni] at hb;cases hb;exact LC.ns hm) hb)) (LL'.rest fr') (Nm.st nm) (by rw[hres,←List.replicate_succ']))
 refine aJ O W.c_lexers (SB.g 6 rfl) (ia3 rfl (cB (SB.g 14 rfl)) ⟨SB,L4,.cons (u:=none) s!"k" .nil,rfl⟩ ?_)
 intro acc zr1 zr2 D3 hD3;obtain ⟨σ5,ρ5⟩:=zr1;refine xa3 zr2 λS5 _ _ z3=>?_;clear zr2;subst z3
 dsimp only at S5 hD3⊢
 rw[EZ]
 have S6:=S5.newE hD3 (.lst (FZ ds.length (.k .none)))
 generalize σ5.put D3 (.lst (FZ ds.length (.k .none)))=σ6 at S6⊢
 with_reducible refine ar ?_
 with_reducible refine b9 s!"t" ?_
 refine ac (fE (ag ⟨by rw[sz];show 1≤_;decide,λln hln=>?_⟩))
 have S7:=S6.newE hln (.lst [.k .none])
 dsimp only
 generalize σ6.put ln (.lst [.k .none])=σ7 at S7⊢
 refine aT O W.g_len s!"t" ?_
 refine ac (aJ O W.c_lexers (S7.g 6 rfl) (ag (dz (S7.g 14 rfl) (by rw[EZ];exact vN hdl) ?_)))
 rw[EZ]
 refine uy (n:=ds.length) (by exact o33) (by exact dX) (by exact nLL hdl rfl) (S7.g 16 rfl) λlm hlm=>?_
 have S8:=S7.newE hlm (.lst (FZ ds.length (.k .none)))
 have er:FZ ds.length (MV.k .none)=(FZ ds.length ()).map λ_:Unit=>MV.k .none:=by rw[List.map_replicate]
 refine xX (f:=λ_:Unit=>MV.k .none) (g:=λ_=>Fv.none) (xs:=FZ ds.length ()) (ys:=FZ ds.length ()) Cv (λ_ _ _=>rfl) ?_ ?_ (λ_ _=>rfl) (λ_ _=>rfl) W.u64 (cV s!"4")
 ·rw[←er];exact S8.g 15 rfl
 ·rw[←er];exact S8.g 17 rfl
end
end
theorem A4 {kk:Nat} (W:LawC X L kk) {scr:List Int} {its:Array Value} (pl:X.C.h0.IsList lsc its) (rr:VRs X.C.h0 (scr.map .i) its.toList) (hz:scr.length≤63):
 WS X (cu (top 35)) ⟨σL L,lo1 (top 35) [("script",.r lsc)]⟩ λfl st=>fl= .ret (.k (.bool true)):=by
 have l_script:lk (lo1 (top 35) [("script",.r lsc)]) "script" =EU (EU (.r lsc)):=s!"k"
 have l_nm:Nm (lo1 (top 35) [("script",.r lsc)]) ["row","heap","inside","gone","x","number","sign","takes","least","a","b","due"]:=by
  refine .cons (u:=none) ?_ (.cons (u:=none) ?_ (.cons (u:=none) ?_ (.cons (u:=none) ?_ (.cons (u:=none) ?_ (.cons (u:=none) ?_ (.cons (u:=none) ?_ (.cons (u:=none) ?_ (.cons (u:=none) ?_ (.cons (u:=none) ?_ (.cons (u:=none) ?_ (.cons (u:=none) ?_ .nil)))))))))))<;>kernel_rfl
 refine yj W pl rr hz l_script l_nm (AR L) λlth lto lh lin lgo lrow row ts S my mu σ ρ P T h4 h10 J he nm=>?_;refine yE W P T h4 h10 J he λlw lcm llf llx σ ρ P2=>?_;have OK:=(J.done he).1;refine zk W P2 T h4 h10 OK λlcm llf mu ds σ ρ cm lf P3 LL hds htk=>?_;exact yH W P3 T h10 OK LL hds (by have:=xP OK;exact nLL (EY (EY (E6 hds) this) h10) rfl) htk
theorem yK (a:Array Obj) (b:Nat) (hb:b≠a.size-1):a.pop[b]?=a[b]?:=by
 rw[Array.getElem?_pop];split
 ·rfl
 ·rename_i hh;have:a.size≤b:=by exact KQ (Gf (F9.mp hh) (E8 hb))
  rw[Array.getElem?_eq_none this]
theorem Bb:∀(n:Nat) (h:Heap),h.objs.size=n->(∃b o,h.get? b=EU o)->∃h':Heap,(∀b,h'.get? b=h.get? b)∧h'.objs.size≤h.objs.size∧∃o,h'.get? (h'.objs.size-1)=EU o
 |0,h,e,⟨b,o,hb⟩=>by
  have:=Heap.lt_size hb;rw[e] at this;exact absurd this (JV _)
 |n+1,h,e,hx=>by
  cases hl:h.get? (h.objs.size-1) with
  |some o=>exact (ck h (λ_=>rfl) (Fd _) o hl)
  |none=>
   have same:∀b,({h with objs:=h.objs.pop}:Heap).get? b=h.get? b:=λb=>by
    by_cases hb:b=h.objs.size-1
    ·subst hb;rw[hl];unfold Heap.get?;have:h.objs.pop[h.objs.size-1]?=none:=s!"4"
     simp only[this]
    ·unfold Heap.get?;have:h.objs.pop[b]?=h.objs[b]?:=yK _ _ hb;simp only[this]
   obtain ⟨h',a,b,c⟩:=Bb n {h with objs:=h.objs.pop} (by simp[e]) (by refine xe2 hx λb o hb=>?_;exact (ie2 b o ((same b).trans hb)));refine (aR h' (λx=>(a x).trans (same x)) (EY b s!"4") c)
theorem m8 {h:Heap} {cl:Str->Option Addr}:∀{ds:List WData} {vs:List Value} {as:List Addr},ReadsAllW [] cl h vs ds as->(∀d∈ds,∃n,d= .int n)->∃ns:List Int,VRs h (ns.map .i) vs∧ns.length=ds.length
 | [],_,_,r,_=>by cases r;exact (af ([]) (.nil _) rfl)
 |d::ds,_,_,r,hd=>by
  cases r with
  |cons r1 r2=>
   refine xe1 (hd d (Fn ..)) λn z1=>?_;subst z1;refine ad (m8 r2 λx hx=>hd x (Fj _ hx)) λns r3 hl=>?_;cases r1;exact (af (n::ns) (.cons (cH ..) r3) (by simp[hl]))
theorem Ch {C:Cx} (G:Gd C):∃v o,C.h0.get? 1010=EU o∧o.data= .func (fdL v):=by
 refine xe1 (G.says.fn (a:=1010) (st:=top 35) (n:="law") (q:="law") (d:= .none) (pm:= .str (EW "law_il0198_01") 1575) (an:=none) (cd:= .ref 1009) s!"k") λv hv=>?_;exact (cz v _ hv rfl)
theorem w9:((cg (top 35)).names.all λp=>(cg (top 35)).names.lookup p.1==EU p.2&& !(p.1==("__debug__" :Str)))=true:=s!"k"
theorem xL (h:lk (lo1 (top 35) [("script",.r lsc)]) x=EU u):(cg (top 35)).names.lookup x=EU .local∧(x==("__debug__" :Str))=false∧u=([(EW "script",MV.r lsc)]:List (Str×MV)).lookup x:=by
 refine g4 (gR (f:=λy=>([(EW "script",MV.r lsc)]:List (Str×MV)).lookup y) (l:=(cg (top 35)).names.filter λp=>p.2== .local) h) λe k hmem=>?_;refine xa1 (GB.mp hmem) λh1 h2=>?_;have h3:=Fm.mp w9 (x,k) h1;simp only[Fc,Ga,beq_iff_eq] at h3;have:k= .local:=by simpa using h2
 clear hmem h1 h2;subst this;exact (ia2 h3.1 (by simpa using h3.2) e)
theorem C5 {m:MO} (h:σL L b=EU m):m= .cel none∧L<b∧b≤L+8:=by
 unfold σL at h;split at h
 ·cases h;exact ⟨rfl,s!"A"⟩
 ·cases h
theorem f6 {L b:Nat} (h:b≤L+(k+1)):b≤L+k∨b=L+(k+1):=(Nat.eq_or_lt_of_le h).symm.imp FD id
theorem x6 {L b:Nat} (h1:L<b) (h2:b≤L+8):b=L+1∨b=L+2∨b=L+3∨b=L+4∨b=L+5∨b=L+6∨b=L+7∨b=L+8:=
 (f6 h2).elim (λh=>(f6 h).elim (λh=>(f6 h).elim (λh=>(f6 h).elim (λh=>(f6 h).elim (λh=>(f6 h).elim (λh=>(f6 h).elim (λh=> .inl (GF h h1))
  λh=> .inr (.inl h)) λh=> .inr (.inr (.inl h))) λh=> .inr (.inr (.inr (.inl h)))) λh=> .inr (.inr (.inr (.inr (.inl h))))) λh=> .inr (.inr (.inr (.inr (.inr (.inl h)))))) λh=> .inr (.inr (.inr (.inr (.inr (.inr (.inl h))))))) λh=> .inr (.inr (.inr (.inr (.inr (.inr (.inr h))))))
set_option maxHeartbeats 4000000 in
theorem zD {C:Cx} (G:Gd C) (hA:∀env,Rm 10 (A.deeper env)) (hroom:A.depth<MS) {s:Shared} (old:∀b o,C.h0.get? b=EU o->s.heap.get? b=EU o) (szle:C.h0.objs.size≤s.heap.objs.size) (hg:s.gens= #[]) (hos:s.os=C.os)
 {lsc:Addr} {scr:List Int} {its:Array Value} (pl:C.h0.IsList lsc its) (rr:VRs C.h0 (scr.map .i) its.toList) (hz:scr.length≤63) {Qv:Value->Shared->Prop}
 (hq:∀s',(∀b o,C.h0.get? b=EU o->s'.heap.get? b=EU o)->s'.gens= #[]->s'.os=C.os->Qv (.bool true) s'):E4 (Fa pgm C.w) A (call (.ref 1010) [.ref lsc]) Qv NoE s:=by
 refine am (Ch G) λv o ho hd=>?_;have hcd:C.h0.CodeRec (.ref 1009) "law" :=G.says.code (t:=1616) s!"k";refine wpAny_call (codeAny_call_cells (fd:=fdL v) (body:=cu (top 35)) (binds:=[(EW "script",.ref lsc)]) hroom (old _ _ ho) hd (G.lim.keeps old) (hcd.keeps old) rfl s!"k" rfl ?_ (λs₁ IC=>?_) s!"2" s!"2" s!"2")
 ·intro x hx;rw[FW.mp hx];exact .inl s!"k"
 generalize hL:s.heap.objs.size=L at IC⊢;have W:LawC (XL C (A.deeper (J7 (fdL v) L 1010)) v L) L 0:=yO G (hA _);obtain ⟨IC0,cell,apart,above⟩:=IC;obtain ⟨⟨h₁,tk,e₁⟩,ns,keep,fresh⟩:=IC0;have old₁:∀b o,C.h0.get? b=EU o->s₁.heap.get? b=EU o:=λb o e=>keep b o (old b o e)
 have hcm:bindC (J7 (fdL v) L 1010).kindOf [(EW "script",GS lsc)] (λ_=>none)=λ_=>none:=by
  unfold bindC;rw[if_pos s!"k"];rfl
 have hbm:bindL (J7 (fdL v) L 1010).kindOf [(EW "script",GS lsc)] (λ_=>none)=λy=>if y=EW "script" then EU (GS lsc) else none:=by
  unfold bindL;rw[if_pos s!"k"];rfl
 rw[hcm] at cell;rw[hbm] at ns
 have cells:∀b,L<b->b≤L+8->s₁.heap.IsCell b none:=λb h1 h2=>by
  rcases x6 h1 h2 with e|e|e|e|e|e|e|e<;>subst e
  ·exact cell _ _ W.c_things.2.1
  ·exact cell _ _ W.c_told.2.1
  ·exact cell _ _ W.c_y.2.1
  ·exact cell _ _ W.c_turn.2.1
  ·exact cell _ _ W.c_words.2.1
  ·exact cell _ _ W.c_came.2.1
  ·exact cell _ _ W.c_left.2.1
  ·exact cell _ _ W.c_lexers.2.1
 have IFs:IF (XL C (A.deeper (J7 (fdL v) L 1010)) v L) (λ_=>none) ⟨σL L,lo1 (top 35) [("script",.r lsc)]⟩ s₁:=by
  refine ⟨⟨old₁,λa m ha=>?_,by rw[e₁];exact hg,by rw[e₁];exact hos⟩,?_,λ_ _ _=>rfl,λx u hx=>?_⟩
  ·have ha:(if a=L then EU (MO.fr (lo1 (top 35) [("script",.r lsc)])) else (σL L a).or none)=EU m:=ha;by_cases e:a=L
   ·rw[if_pos e] at ha;cases ha;clear W cell apart above fresh hcm hbm cells ha;subst e;refine ⟨by rw[←hL];exact szle,_,ns,λx u hx=>?_⟩;refine xa2 (xL hx) λ_ _ hu=>?_;rw[List.lookup_cons] at hu
    cases hb:x==EW "script" with
    |true=>
     rw[hb] at hu;clear hx;cases hu;rw[beq_iff_eq.mp hb];exact (af _ (if_pos rfl) (bN ..))
    |false=>rw[hb] at hu;cases hu
   ·rw[if_neg e] at ha
    cases hs:σL L a with
    |none=>rw[hs] at ha;cases ha
    |some m'=>
     rw[hs] at ha;cases ha;refine xa1 (C5 hs) λz1 z2=>?_;clear ha hs;subst z1;refine xa1 z2 λh1 h2=>?_;clear z2;exact ⟨EY (by rw[←hL];exact szle) (Fs h1),cells a h1 h2⟩
  ·show σL L L=none;exact if_neg λh=>Fz _ h.1
  ·refine xa2 (xL hx) λh1 h2 _=>?_;exact ⟨h1,h2⟩
 refine FB (A4 W pl rr hz (λ_=>none) s₁ IFs) (λf s' pp=>?_) λ_ _ x=>x.elim;obtain ⟨fl,st',rf,I',k',q⟩:=pp;subst q;refine ad rf λu z1 ru=>?_;clear rf;subst z1;cases (show u= .bool true from ru);exact hq s' I'.inv.old I'.inv.gens I'.inv.os
theorem wX {d:WData} (h:WShape.has [] d (.list .int)=true):∃ds,d= .list ds∧∀x∈ds,∃n,x= .int n:=
 (hasW_list h).imp λ_ h=>⟨h.1,λx hx=>hasW_int (hasItemsW_at h.2 x hx)⟩
theorem AA {ds:List WData} (h:Oz [] (Fk.pre) {args:=[.list ds]}=true):ds.length≤63:=by
 have h:Oz [] (.and (.not (.lit (.bool (decide ((63:Int)<(ds.length:Int)))))) (.lit (.bool true))) {args:=[.list ds]}=true:=h;generalize hb:decide ((63:Int)<(ds.length:Int))=b at h
 cases b with
 |false=>exact GM.mp (HF.mp (of_decide_eq_false hb))
 |true=>exact Bool.noConfusion ((show Oz [] (.and (.not (.lit (.bool true))) (.lit (.bool true))) {args:=[.list ds]}=false by kernel_rfl).symm.trans h)
theorem AI {a:Addr} {m m':Str->Option Value} (x:h.Ns a m) (y:h.Ns a m') (n:Str):m n=m' n:=by
 refine iw x λo es ep ho hd _ e=>?_;clear x;refine iw y λo' es' ep' ho' hd' _ e'=>?_;clear y;rw[ho] at ho';cases ho';rw[hd] at hd';cases hd';rw[←e n,←e' n]
theorem AU (P:F0):dw (oX ((K P).lookup 3)) (EW "law")=EU (.ref 1010):=s!"k"
theorem x5 (args:List WData):Fk.row.toRowW.claim.post args (.bool true) args=true:=s!"k"
theorem walk:WalkO q loose (λ_ _=>True) Says Fk.row.toRowW tR [] (λf vs=>Nh f vs):=by
 intro w s₀ s₁ mg mb Gr S a o pm cd doc dV kV ho hod hcode hdf hmg hgens args vals as hpre hlay hrd hwell has;clear hlay hwell has hcode hod hdf ho
 have ea:a=1010:=by
  have n3:s₁.heap.Ns 3 (dw (oX ((K w.params).lookup 3))):=gX S s!"k" (s3 _);have:=AI Gr.T.g n3 (EW "law");rw[show mg (EW "law")=EU (.ref a) from hmg,AU] at this;clear hmg;cases this;rfl
 clear hmg;subst ea;refine xa1 (pre_splitW hpre) λha hp=>?_;refine am (hasAllW_cons (R:=[]) (e:= .list .int) (es:=[]) ha) λd r z1 z2=>?_;subst z1;refine xa1 z2 λhd hr=>?_;clear z2;cases hasAllW_nil (R:=[]) hr;refine ad (wX hd) λds z1 hi=>?_;clear hd hpre ha;subst z1;have hz:ds.length≤63:=AA hp;have hrd:ReadsAllW [] (classAt s₀.heap) s₁.heap vals [.list ds] as:=hrd
 cases hrd with
 |cons r1 r2=>
 cases r2
 cases r1 with
 | @list lsc o vs n _ as' hlo hlc hld hrs=>
 refine ad (m8 hrs hi) λscr rr hl=>?_;refine aV (Bb _ s₁.heap rfl (ie2 _ _ hlo)) λh0 same szle last=>?_;have up:∀b o,s₁.heap.get? b=EU o->h0.get? b=EU o:=λb o e=>(same b).trans e;have dn:∀b o,h0.get? b=EU o->s₁.heap.get? b=EU o:=λb o e=>(same b).symm.trans e;have G:Gd ⟨w,h0,s₁.os,last⟩:=⟨k7 w _ _ S up,Gr.T.nolimit.keeps up⟩
 have pl:h0.IsList lsc vs:=(ck _ (up _ _ hlo) hlc n hld)
 have rr':VRs h0 (scr.map .i) vs.toList:=rr.keep λb o e _=>up b o e;show E4 (Fa pgm w) callerA (call (.ref 1010) [.ref lsc]) _ _ s₁;refine FB (zD (C:=⟨w,h0,s₁.os,last⟩) G (A:=callerA) (λenv=>⟨rfl,by show 1+300+1+4*10+1<1000;decide,by show 4+3+16*10+16<9900;decide⟩) (by show 1+300<1000;decide) dn szle hgens rfl pl rr' (by exact EY (E6 hl) hz)
  (Qv:=λv s'=>GoodWG Fk.row.toRowW.claim (classAt s₀.heap) (ExcName.means s₀.heap) [.list ds] s₁ (.ok (.ret v)) s') (λs' old g os=>?_)) (λ_ _ x=>x) λ_ _ x=>x.elim
 exact (ia3 (.inl ⟨_,.bool true,[],rfl,λ_=>rfl,.bool true,x5 _,λ_=>⟨.nil,λa ha=>by cases ha⟩⟩) (.of_keep λb o e=>old b o (up b o e)) os (.of_eq g))
theorem final:Fk.Holds:=head walk
end
end
end
end Mine.Internal
theorem PySem.Challenge.cw_il0198_01_holds : PySem.Challenge.rw_il0198_01.Holds :=
  Mine.Internal.final
