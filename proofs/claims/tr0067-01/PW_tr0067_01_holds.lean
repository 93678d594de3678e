import PyProof.Rows.All
import Wide.All
import OpenK.AllK
import KE.KPar
import KE.KNestM
import Wide.FinOn
import KE.KRevIter
import KE.KNest
import KE.KLam
import KE.KSortTup
import PyProof.DictCompW
import OpenK.KDescr
import KE.KBoundM
import KE.KItemsList
import OpenK.KMake
import KE.KFromBytes
import PyProof.AttrMissHeap
import PyProof.StrLawsReplace
import PyProof.StrLawsTight
import PyProof.Rows.CatFin
import KE.FramesApart
import PySem.Challenge.RW_tr0067_01
set_option maxRecDepth 100000
set_option Elab.async false
set_option linter.all false
set_option hygiene false
set_option compiler.extract_closed false
set_option tactic.hygienic false
open PySem PySem.Calls PyProof.Rows PySem.W
namespace Mine.Tactic
open _root_.Option renaming some→j,none→bn,map→n7,isSome_iff_exists→wy,map_eq_some_iff→wX,map_some→J_,eq_none_iff_forall_ne_some→afk
open _root_ renaming List→p,Nat→E,Option→Y,Bool→ga,Int→m0,if_neg→ss,if_pos→tt,congrArg→GT,absurd→aB,beq_iff_eq→bt,Array→bD,cond→c9,beq_eq_false_iff_ne→eo,False→gG,True→g6,Unit→g7,decide_eq_true→hV,beq_self_eq_true→jl,decide_eq_false→lL,of_decide_eq_true→mQ,decide_eq_true_iff→mX,if_false→n5,if_true→r',dif_neg→t5,String→wK,not_or→wQ,bne_self_eq_false→zU,congrFun→zZ,decide_eq_decide→DO,DecidableEq→KP,Decidable→SP,ne_true_of_eq_false→Tf,or_false→TM,decide_eq_false_iff_not→T9,bne_iff_ne→Ua
open _root_.Bool renaming true→V,false→G,and_eq_true_iff→f3,false_ne_true→hW,and_eq_true→iT,eq_iff_iff→j0,eq_false_iff→lP,false_eq_true→pg,or_eq_true→ps,not_eq_true→sb,not_eq_true'→uc,or_eq_true_iff→Dn,true_and→Ds,not_eq_eq_eq_not→Ka,or_eq_false_iff→Kg,and_false→Kk,false_or→KH,noConfusion→Ts,false_and→TK,not_true→Ub,eq_false_or_eq_true→ae5,not_not→agA,not_eq_false→agZ
open PySem renaming Str→X,Expr→bv,Value→cd,wpAny→f4,wpAny_bind→g1,Addr→kt,Shared→nl,wpAny_pure→s2,Stmt→wP,Pos→wS,Around→xs,Env→IN,Scope→KT,model→aE,strKind→aG,Sem→aP,Tok→be,Heap→bl,Obj→cE,wpAny_mono→cJ,callEnvC→cQ,wpAny_holding→dF,pyIter→d9,cellsFrom→eR,wpAny_standAt→fF,Flow→fG,DictEntry→f5,rawInt→gr,sizeLine→gH,strKind_is→gI,isTrue→g8,starEach→ht,pyNext→hu,Const→iv,Model→iw,backTo→iy,Comprehension→iS,assign→iU,codeAny→iV,Fin→jq,wpAny_Name→jY,Params→kZ,mainGlobals→k0,wpAny_newObj_type→k2,NameKind→k4,sizeLine_eq→k6,bindArgs→k7,CmpOp→lH,standAt→lM,seg_bind→lR,sysModules→mL,bootBuiltins→mM,PyData→mO,binaryOp→mP,JoinOk→mR,wpAny_call_entry→mW,Operator→n3,Keyword→n4,wpAny_call→n9,codeAny_builtin→n',relabel→n_,execs→oa,wpAny_rule→ob,BoolOp→pf,holding→pk,foldedSetIterable→pq,World→qo,Result→qp,SetTable→qq,findBy→qs,partValue→qu,wpAny_of_eq→qw,letOwnedTupleGo→qy,swapsWith→qA,wpAny_ite_split→qB,setNext→qC,Arguments→rX,seqIndex?→r0,spliced→r1,call_meets→r3,wpAny_typeOf→r4,Walks→r8,assignEach→r9,wpAny_askSetting→sa,typeLookup_type→sf,builtinLookup_eq_fast→sg,layNew→sh,wpAny_setState_of→si,cLine→t7,typeIs_str→t',Args→t_,isSubtype_type→ua,strValues→ub,assignInOrder→ug,wpAny_callSpecial?_slot→ul,wpAny_field→um,Code→uo,wpAny_attempt→uq,wpAny_setField→ur,entryFor→us,table→ut,scanBound→uu,argsOk→uw,Program→ww,sliceBounds→wB,Frame→wC,getAttr→wD,wpAny_isInstance→wG,wpAny_loadPart'→wJ,callWith→wL,getMethod→wM,GenEnd→wR,typeLookup→wV,ExceptHandler→zw,FuncData→zx,codeAmong→zz,storeName→zA,joinParts→zD,evalEach→zE,wpAny_assign_Name→zL,wpAny_Assign_Name→zN,newExc→zO,firstArgMember→zP,setAdd→zR,plainId_quiet→zT,builtinsNs→C9,GenState→C',Pairs→C_,truthy→Dc,behindInMarks→De,newTuple→Dg,callAny→Di,wpAny_load→Dj,Meets→Dm,wpAny_seqItems→Dr,field→DA,BindsTo→DC,setAddHashed→DE,wpAny_fieldsOf→DH,setsByText→DI,wpAny_setEntries_of→DJ,UnaryOp→JN,compareOp→JR,subscripted→JS,operate→JT,getItem→JU,evalArgs→JY,evalPart→JZ,letTemporaryGo→J0,updateSeq→J4,wpAny_updateSeq→J5,Builtin→J6,compEnvC→Kb,newFunctionEnv→Kc,pushCells_keeps→Ke,wpAny_execs_nil→Kh,wpAny_runValue→Ki,bindName→Kj,setAttr→Kl,newFields→Km,InCallC→Kn,seg_wrap→Kq,raiseNew→Kr,strIterType→Kt,slot_listiter_next→Ku,putSet_of→Ky,drawOrder→KA,pickOrder→KC,slotArgs→KD,wpAny_newList→KG,TriplesOk→SQ,recursionLimit→SU,wpAny_truthy_bool→SY,wpAny_with_toks→S3,wpAny_Constant_int→S4,slicePick→S6,isSubtype→S9,checkBoundCall→S',wpAny_loadPart→S_,codeAny_of_tree→Tb,call_meetsIn→Tg,backToKw→Tj,keywordEach→Tn,attributeBase→To,getMethod_builtin→Tp,wpAny_pyIter_list→Tr,wpAny_alloc→Tt,pushCells→Tu,comprehension→Tw,constantsAlone→Tx,foldedForSure→Tz,interactive→TA,swappedStores→TC,wpAny_listPart→TJ,seg_again→TN,wpAny_handled→TO,wpAny_throw→TP,isSubtype_stop→TQ,setGen_self→TR,entryFor_of_tree→TS,wpAny_evalAll_cons→T1,wpAny_evalAll_nil→T2,wpAny_newTuple→T4,call→aeT,wpAny_loadName_local→aeZ,wpAny_storeName_local→ae0,wpAny_truthy_list→ae6,wpAny_letOwnedTupleGo_listiter→afl,wpAny_pyIter_zip→afo,lookup_relabel_local→afy,mem_of_lookup→afz,slot_list_setitem→afC,plainObj_wpAny_Assign_Attribute→afH,exec_Assign_Name_used→afI,codeAny_call_function→afJ,wpAny_newFunctionEnv_cells→afK,wpAny_pyIter_enum→afM,entry_listiter_next→afV,args_listiter_next→afW,wpAny_pyNext_rev_item→afZ,wpAny_setScan_of→af3,wpAny_storeSet_of→af4,wpAny_dictEntries→af8,wpAny_pyIter_slot→age,meets_dict_items→agx
open _root_.Nat renaming le_refl→Da,le_trans→aJ,le_succ→cu,not_lt→dJ,ne_of_lt→ep,zero_le→e6,le_add_right→e7,lt_succ_self→gp,lt_of_lt_of_le→hs,le_of_lt→jp,zero_add→jZ,ble→lK,lt_irrefl→lQ,le_of_eq→mT,le_of_ble_eq_true→qr,le_succ_of_le→qD,succ_le_succ→r5,ne_of_gt→r7,lt_or_ge→sd,lt_succ_of_lt→wU,succ→zy,lt_of_le_of_lt→zH,le_of_succ_le→zX,sub_self→Dp,blt→Dt,blt_eq→Dv,succ_pos→DF,le_antisymm→DL,not_lt_zero→J9,lt_trans→Kf,mod_lt→Kz,add_right_cancel→KL,ble_eq_true_of_le→SV,add_right_comm→Tv,succ_add_eq_add_succ→TV,not_le→TY,le_zero→T5,sub_zero→T6,lt_trichotomy→Up,succ_ne_zero→afj,le_of_lt_succ→afq,add_le_add_right→afw,add_le_add_left→afx,le_total→afR,add_comm→afU,lt_one_iff→aga,add_sub_cancel_left→agH,lt_of_succ_lt_succ→agO,le_of_succ_le_succ→agT
open _root_.List renaming length_map→aK,mem_singleton→a9,range→bE,mem_cons→cq,map_cons→cs,length_append→ct,append_nil→c2,map_map→dG,mem_map→dM,lookup_cons→en,append_assoc→e8,mem_append→gq,getElem_mem→gJ,flatMap_cons→g9,getElem?_map→hX,zip_cons_cons→hY,mem_range→hZ,nodup_cons→ix,length_cons→iW,size_toArray→jj,map_append→jo,cons_append→jW,filter_cons→k5,getElem?_eq_getElem→k8,prefix_refl→lI,all_eq_true→lO,zip_nil_right→lS,forall_mem_cons→mU,mem_filter→mY,replicate→n8,mem_append_left→oc,length→pl,range_succ_eq_map→pm,map_congr_left→pn,mem_append_right→pu,getElem?_eq_some_iff→rY,filterMap_cons→r2,not_mem_nil→r_,mem_reverse→sk,getElem?_toArray→t9,forall_mem_singleton→uf,nodup_nil→ui,forIn_cons→uj,nil_append→wx,contains_iff_mem→wI,filter_congr→wZ,getElem?_eq_none_iff→zC,tail→zI,map_nil→zM,eq_nil_of_length_eq_zero→zW,filterMap_eq_map→z0,filter_append→z1,any_eq_true→Dq,getElem?_take_of_lt→Du,length_take→Dw,mem_of_getElem?→Dx,drop_drop→DB,getElem?_eq_none→DM,range_succ→DP,suffix_nil→DQ,reverse_reverse→DR,getElem?_append_left→JO,set_cons_succ→JP,any_cons→JX,forIn_nil→Kd,of_mem_zip→Ko,drop_eq_nil_of_le→Kp,length_drop→Ks,length_nil→Kw,getElem?_cons_succ→KJ,flatMap_append→KN,length_range→KS,filter_filter→KU,prefix_append→SR,nodup_append→SS,mem_toArray→SW,all_cons→S5,push_toArray→Ta,getElem?_append_right→TB,drop_eq_getElem_cons→TL,perm_singleton→T',foldl_cons→Ud,take_of_length_le→Ue,suffix_cons_iff→Uh,nil_suffix→Ui,suffix_refl→Uj,length_filter_le→Uk,idxOf_cons→Ul,pairwise_cons→Un,filter_eq_self→Uo,getElem_map→Uq,filter_map→Ur,take_nil→aeU,length_set→aeV,getElem?_set_self→aeW,getElem?_set_ne→aeX,set_cons_zero→aeY,find?_toArray→ae3,find?_cons→ae4,toList_toArray→ae9,replicate_succ→afa,flatten_cons→afb,dropLast_eq_take→aff,any_eq_false→afi,head?_drop→afn,findIdx?_cons→afr,pairwise_append→aft,filterMap_cons_some→afB,take_succ_cons→afL,contains_append→af0,findIdx?→af7,getElem_cons_drop→agc,take_append_drop→agd,not_lt→ags,perm_cons→agt,isEmpty_iff→agz,map_id→agE,drop_eq_nil_iff→agG,filterMap_append→agJ,take_add_one→agK,take_length→agL,reverse_inj→agM,map_reverse→agN,flatMap_map→agP,suffix_cons→agQ,foldl_map→agR,take_left→agS,mem_flatMap→agW,pairwise_lt_range→agY,ext_getElem→ag0,getElem_range→ag1
open _root_.Option.some renaming inj→aO
open PySem.Heap renaming lt_size→b1,get?_push_of_some→cP,get?_push_size→dK,size_push→f6,SameBut→lJ,get?_update_self→mS,get?_update_other→pv,ExtBut→wN,size_update→agn
open PySem.Obj renaming mapSeq→dR,mapFields→DK,putSet→TX,data_mapFields→afX
open PySem.W renaming Frag→dY,keepIn→jm,findIn→pj,getL→qv,callWith_of→qx,emptyDict→sj,plainGet_of→wF,putL→wO,kla_obj→wY,WellAll→w0,plainGet→zF,CodeHd→zV,tabObj→z2,WData→z3,dictOf→Dh,hasDictIn→J1,handedIn→J2,InstAt→S7,lookIn_dict→S8,plainOver→TH
open PySem.Value renaming ref→e9,none→jX,str→j1,type→k3,int→zQ,builtin→agy
open PyProof.Rows renaming seqObj→hv,AllBare→rZ,args_cons→ud,args_nil→ue,IntsAre→wH,listUpdate_at→zY,listItems_at→DN,tail_any→JV,seqEpoch_at→KE,SetOf_congr→TU,oneType'→T7,ksk_tree→T8,unpackItems_tuple→afs,getItem_tuple→aiH,len_tuple→aiK,slot_str_lt→aiV
open _root_.Eq renaming trans→iz
open PySem.Txt renaming join→jk,slice→ph
open _root_.LT renaming lt→jn
open _root_.Prod renaming snd→ko,fst→k1
open PySem.PyData renaming keyHash→lG,strOk→pw,eqv→t8,canLayAll0→wA,layable0→Dd,eqvAll→KQ,list→S0,canLay0→Ug,int→Um,depthAll→ae7,weight→agU,weightAll→agV
open PySem.Heap.SameBut renaming update→lN,refl→aiR
open _root_.Array renaming getElem?_eq_getElem→mN,length_toList→qz,getElem?_eq_some_iff→t6,getElem?_toList→zJ,size_push→Tc,eq_empty_of_size_eq_zero→ae1,any_toList→afD,mem_iff_getElem→afP,getElem_mem→afQ,getElem?_eq_none→agf,forIn_toList→agp,toList_append→agq
open PySem.Str renaming ofString→mV,length→JQ,join→Uc
open PySem.SeqAt renaming shaped→n6
open PySem.Builtin.Str renaming occurrences→qt,partsBetween→Td
open PySem.Around renaming under_plainId→r6
open PySem.GenOnly renaming setGen→se
open PySem.NameKind renaming free→uh,cell→wz
open PySem.Expr renaming Name→uk
open PySem.F renaming called_set→uv,slot_str_split→Dk,entry_str_split→Dl,slot_dict_items→KI,args_str_split_2→Te,plainAttrs_dict→Tq,slot_list_getattribute→T_,slot_int_rmul→afc,slot_dict_get→afe,slot_list_delitem→afE,slot_set_iter→agh,plain_list_iadd→agj,slot_list_lt→agm,args_str_split_3→agr,type_dict_items→agu,entry_dict_items→agv,args_dict_items_1→agw
open _root_.Function renaming comp_apply→ux,comp_def→KR
open PySem.SetTable renaming below→wW,fresh→DG,fill→Kx,bits→af1,fits→af2,tooFull→af5,insertAt→af6
open PySem.Calls renaming Constant_str→zB,spliced_nil→Df,spliced_cons→JW,callWith_builtin→J7,Name_function_global→ae8
open PySem.Code renaming builtin→zG,quiet_builtin→J3
open PySem.Builtin.Range renaming rangeSize→zK,small→afp,rangeFitsLong→aiL
open PyProof.Rows.F renaming plain_set_update_loop→zS,entry_set_update_loop→Kv
open PySem.Sem renaming bind_eq_wrap'→Dy,wrap_wrap→Dz,bind_eq_wrap→afN
open _root_.Int renaming toNat_natCast→DD,not_le→SX,toNat_of_nonneg→S1,ofNat_lt→S2,toNat→T3,lt_or_le→afm,ofNat_inj→agI
open _root_.List.cons renaming inj→J8
open _root_.ForInStep renaming yield→J'
open _root_.Prod.mk renaming injEq→KO
open PySem.Shared renaming TypeIs→Th
open PySem.W.Looks renaming ld→Ti,of_pure→afh
open PySem.Env renaming blockKind→TF
open PySem.Builtin.List renaming listSubscript?→TG,listItems→afF,listUpdate→afG,listLengthHint→agi,listExtendWith→agk,listSameRef→agl,listFitsIndex→aiI,listTooLong→aiJ
open _root_.PUnit renaming unit→TZ
open PySem.KeyKind renaming is_eq_decide→ae2
open PySem.Manifest renaming signature?→afd
open PySem.Builtin.Tuple renaming tupleExact→afg
open _root_.List.Pairwise renaming nil→afu,filter→agX,imp_of_mem→aiW
open PySem.Heap.Ns renaming new→afv
open PySem.BoolOp renaming And→afA
open PySem.Builtin.Generator renaming genWake→afO,sleptOver→afY,endsTheTurnAsAValue→aiO,isStopAndMetaclass→aiP
open PySem.GenState renaming bare→afS
open PySem.Frame renaming guarded→afT
open _root_.Std.Legacy.Range renaming forIn_eq_forIn_range'→af9,size→aiS
open PySem.pickOrder renaming go→agb
open PySem.SetTable.below renaming go→agg
open _root_.StateT renaming run_pure→ago
open PySem.StrLaws renaming glued_eq_join→agB,split_free→agC,join_split→agD,found_one→agF
open PySem.W.WData renaming layableAll→ag2
open PySem.swappedStores renaming match_5→aiM,match_8→aiN
open PySem.Builtin.Frozenset renaming updateFrom→aiQ,sizeOf→aiT,slot0→aiU
def subs(t:Lean.Syntax)(n:Lean.Name):Array Lean.Syntax:=n.components.toArray.map λm=>t.rewriteBottomUp λs=>if s.getId==`x then Lean.mkIdent m else s
def pick(t:Lean.Syntax)(i:List Nat)(n:Lean.Name):Array (Lean.TSyntax `tactic):=(subs (t.setArg 1 (t[1].setArg 0 (t[1][0].setArg 0 (Lean.mkNullNode (i.toArray.map t[1][0][0].getArg))))) n).map λs=>⟨s⟩
local macro_rules |`(tactic|contradiction)=>do
 let t←`(tactic|with_reducible apply x;(·kernel_rfl);(·kernel_rfl);(·kernel_rfl);(·decide+kernel);·rfl)
 let u←`(tactic|with_reducible exact x)
 let l:=(subs u `aid.aic.fz.ru.vM.ahU.E_bool.ahV.Red.lx.B_nil.kJ.cM.ah1.ahZ.ah5.ah7.ah9.KM_lst.KM_dct.vP.ah3).map (λs=>⟨s⟩)++[([0,1,8],`ah8.Qc.Roc),([0,1,2,3,4,5,8],`ja),([0],`ahZ.Res.ahW.tz.P8.my.Rel.P9.ah4),([0,1,2],`jL.aib.ahX.ahY.ah0.gB.cC.fo.HP.P7.kM.gi.HS.kL.ah6.HV),([0,1,2,3,4],`ej.fU.ah2),([0,1,2,3,4,5,6],`Qb.vR),([0,1,10],`jL)].toArray.flatMap λp=>pick t p.1 p.2
 `(tactic|first$[|$l:tactic]*|fail)
local macro_rules |`(tactic|right)=>`(tactic|repeat' contradiction)
local macro_rules |`(tactic|left)=>do
 let t←`(tactic|with_reducible exact x (by assumption) (by first|decide|assumption))
 let l:Array (Lean.TSyntax `tactic):=(subs t `aJ.zH.hs).map λs=>⟨s⟩
 `(tactic|first|assumption$[|$l:tactic]*|lia)
noncomputable def z4:ww:=PySem.Challenge.rw_tr0067_01.row.prog
noncomputable def mZ(i:E):wP:=(z4.main.body[i]?).getD (.Pass default)
noncomputable def k9(i ev:E):wP:=if h:(mZ i).ctorIdx=2 then Stmt.ClassDef.elim (mZ i) h λa a a b a a a a a a a=>(b[ev]?).getD (.Pass default)else .Pass default
noncomputable def Us(s:wP)(q:X)(u g2 n e f t i:E)(c I:cd):cE:=if h:s.ctorIdx=0 then Stmt.FunctionDef.elim s h λz x a a a a a a a a=>{cls:=.type "code",data:=.fields #[.str z u,.str (q.append z) (u+1),.str "/claim/cut.py" (u+2),.int n 0,.int e 0,.int 0 0,.int x.kwonlyargs.length 0,.int f 0,.ref i,.bool V,.int 276 0,.ref (i+1),.none,c,I,.ref (t - 1),.int g2 0,.int n 0,.str "/claim/cut.py" (g2+1)]}else default
noncomputable def Ut(s:wP)(q m:X)(k t:E)(r g:cd):cE:=if h:s.ctorIdx=0 then Stmt.FunctionDef.elim s h λz x b a a a bs a a a=>{cls:=.type "function",data:=.func {name:=z,qualname:=q.append z,params:=x,body:=.stmts b,scope:=bs,globals:=3,closure:=[],defaults:=r,kwdefaults:=g,pyModule:=.str m k,code:=.ref t}}else default
noncomputable def DS(s:wP)(q m:X)(k u g2 n e f t i:E)(c I r g:cd)(l:dY):dY:=(t,Us s q u g2 n e f t i c I)::(t+1,Ut s q m k t r g)::l
noncomputable def hx(s:wP)(q m:X)(k u g2 n e f t:E)(r g:cd)(l:dY):dY:=DS s q m k u g2 n e f t (t - 5) (.ref (t - 3)) (.ref (t - 2)) r g l
noncomputable def sl(i u n e t:E)(l:dY):dY:=DS (mZ i) "" "law_tr0067_01" 675 u (u+3) n e 3 t (t - 3) .none .none .none .none l
noncomputable def uy(P:kZ)(z:E)(n:p (X×E×cd)):Data:=.dict (n.map λc=>{hash:=lG P c.1,key:=.str c.1 c.2.1,val:=c.2.2}).toArray z
noncomputable def lT(P:kZ):dY:=hx (mZ 3) "" "cpy313.email.utils" 289 291 298 6 1 35 44 .none .none<|hx (mZ 4) "" "cpy313.email.utils" 289 301 310 19 1 3 51 .none .none<|hx (mZ 5) "" "cpy313.email.utils" 289 313 320 37 1 3 58 .none .none<|hx (k9 7 1) "Whitespace." "cpy313.tabnanny" 323 342 354 52 2 3 75 .none .none<|hx (k9 7 2) "Whitespace." "cpy313.tabnanny" 323 357 363 75 1 3 82 .none .none<|hx (k9 7 3) "Whitespace." "cpy313.tabnanny" 323 366 375 79 2 3 89 .none .none<|hx (k9 7 4) "Whitespace." "cpy313.tabnanny" 323 378 383 86 2 3 96 .none .none<|hx (k9 7 6) "Whitespace." "cpy313.tabnanny" 323 394 401 92 2 3 110 .none .none<|hx (k9 13 0) "C14NWriterTarget." "cpy313.xml.etree.ElementTree" 425 515 527 113 2 3 153 .none (.ref 147)<|hx (k9 13 1) "C14NWriterTarget." "cpy313.xml.etree.ElementTree" 425 530 537 141 3 35 161 (.ref 155) .none<|hx (k9 13 3) "C14NWriterTarget." "cpy313.xml.etree.ElementTree" 425 552 562 153 3 3 176 (.ref 170) .none<|hx (k9 13 4) "C14NWriterTarget." "cpy313.xml.etree.ElementTree" 425 565 570 180 2 3 183 .none .none<|hx (k9 13 5) "C14NWriterTarget." "cpy313.xml.etree.ElementTree" 425 575 583 184 2 3 192 (.ref 186) .none<|hx (k9 13 7) "C14NWriterTarget." "cpy313.xml.etree.ElementTree" 425 595 602 201 3 3 206 .none .none<|DS (k9 13 8) "C14NWriterTarget." "cpy313.xml.etree.ElementTree" 425 605 608 214 5 3 212 209 .none .none (.ref 208) .none<|hx (k9 13 9) "C14NWriterTarget." "cpy313.xml.etree.ElementTree" 425 611 616 259 2 3 219 .none .none<|hx (mZ 14) "" "cpy313.xml.etree.ElementTree" 425 661 665 276 1 3 247 .none .none<|hx (mZ 15) "" "cpy313.xml.etree.ElementTree" 425 668 672 289 1 3 254 .none .none<|hx (mZ 17) "" "law_tr0067_01" 675 677 685 307 1 3 261 .none .none<|sl 18 688 315 1 266<|sl 19 694 321 1 271<|sl 20 700 331 3 276<|sl 21 706 352 2 281<|sl 22 712 377 2 286<|sl 23 718 379 2 291<|hx (mZ 24) "" "law_tr0067_01" 675 724 731 381 1 3 298 .none .none<|hx (mZ 25) "" "law_tr0067_01" 675 734 742 390 1 3 305 .none .none<|sl 26 745 399 1 310<|[(2,{cls:=.none,data:=uy P 9 [("\x69mport.loaded._sre",183,.bool V),("class._frozen_\x69mportlib.BuiltinImporter",185,.ref 14),("watched.\x69mport",206,.ref 18),("class._frozen_\x69mportlib.ModuleSpec",216,.ref 22),("sys.modules.booked-epoch",245,.int 3 0),("\x69mport.later-laid._sre",270,.bool V),("watched.library",272,.ref 27),("watched.library-objects",0,.str "\x0c" 0),("watched.library-deep._sre",273,.str "\x04\x00\x00\x0b\x04\x00\x00\x0b\x04\x00\x00\x03\x04\x00\x00\x0b\x08\x04dict\x02" 0)]}),(3,{cls:=.type "dict",data:=uy P 32 [("__name__",165,.str "law_tr0067_01" 675),("__doc__",166,.none),("__package__",167,.none),("__loader__",168,.builtin "__main__.__loader__#opaque"),("__spec__",169,.none),("__annotations__",170,.ref 6),("__builtins__",171,.ref 4),("__file__",173,.str "/claim/cut.py" 172),("__cached__",174,.none),("_sre",275,.ref 12),("_wall",288,.ref 38),("_iter_escaped_chars",300,.ref 45),("_strip_quoted_realnames",312,.ref 52),("_check_parenthesis",322,.ref 59),("Whitespace",424,.ref 121),("_twin_re_1",464,.ref 130),("_namespace_map",486,.ref 131),("_raise_serialization_error",493,.ref 138),("_looks_like_prefix_name",495,.ref 139),("C14NWriterTarget",660,.ref 237),("_escape_cdata_c14n",667,.ref 248),("_escape_attrib_c14n",674,.ref 255),("_law_columns",687,.ref 262),("_law_rows",693,.ref 267),("_law_above",699,.ref 272),("_law_told",705,.ref 277),("_law_pieces",711,.ref 282),("_law_written",717,.ref 287),("_law_left",723,.ref 292),("_law_ways",733,.ref 299),("_law_kept",744,.ref 306),("law",750,.ref 311)]}),(120,{cls:=.type "dict",data:=uy P 4 [("__module__",332,.str "cpy313.tabnanny" 323),("__firstlineno__",336,.int 49 335),("S",340,.str " " 338),("T",341,.str "\t" 339),("__init__",356,.ref 76),("longest_run_of_spaces",365,.ref 83),("indent_level",377,.ref 90),("equal",385,.ref 97),("not_equal_witness",393,.ref 104),("less",403,.ref 111),("not_less_witness",411,.ref 118),("__static_attributes__",417,.ref 119),("__dict__",419,.ref 122),("__weakref__",421,.ref 123),("__doc__",422,.none)]}),(121,{cls:=.type "type",data:=.cls {name:="Whitespace",bases:=[.type "object"],mro:=[.ref 121,.type "object"],ns:=120,qualname:="Whitespace"},slots:=#[bn,bn,j (.str "Whitespace" 325),j (.str "Whitespace" 333),j (.builtin "object.__new__"),j (.bool V)]}),(131,{cls:=.type "dict",data:=uy P 7 [("http://www.w3.org/XML/1998/namespace",465,.str "xml" 466),("http://www.w3.org/1999/xhtml",467,.str "html" 468),("http://www.w3.org/1999/02/22-rdf-syntax-ns#",469,.str "rdf" 470),("http://schemas.xmlsoap.org/wsdl/",471,.str "wsdl" 472),("http://www.w3.org/2001/XMLSchema",473,.str "xs" 474),("http://www.w3.org/2001/XMLSchema-instance",475,.str "xsi" 476),("http://purl.org/dc/elements/1.1/",477,.str "dc" 478)]}),(147,{cls:=.type "dict",data:=uy P 7 [("with_comments",508,.bool G),("strip_text",509,.bool G),("rewrite_prefixes",510,.bool G),("qname_aware_tags",511,.none),("qname_aware_attrs",512,.none),("exclude_attrs",513,.none),("exclude_tags",514,.none)]}),(236,{cls:=.type "dict",data:=uy P 4 [("__module__",503,.str "cpy313.xml.etree.ElementTree" 425),("__firstlineno__",507,.int 111 506),("__init__",529,.ref 154),("_iter_namespaces",539,.ref 162),("_resolve_prefix_name",551,.ref 169),("_qname",564,.ref 177),("data",572,.ref 184),("_flush",585,.ref 193),("start_ns",594,.ref 200),("start",604,.ref 207),("_start",610,.ref 213),("end",618,.ref 220),("comment",626,.ref 227),("pi",635,.ref 234),("__static_attributes__",653,.ref 235),("__dict__",655,.ref 238),("__weakref__",657,.ref 239),("__doc__",658,.none)]}),(237,{cls:=.type "type",data:=.cls {name:="C14NWriterTarget",bases:=[.type "object"],mro:=[.ref 237,.type "object"],ns:=236,qualname:="C14NWriterTarget"},slots:=#[bn,bn,j (.str "C14NWriterTarget" 496),j (.str "C14NWriterTarget" 504),j (.builtin "object.__new__"),j (.bool V)]}),(185,{cls:=.type "builtin_function_or_method",data:=.fields #[.builtin "str.join",.str "" 573]}),(155,{cls:=.type "tuple",data:=.seq #[.type "reversed"]}),(170,{cls:=.type "tuple",data:=.seq #[.none]}),(186,{cls:=.type "tuple",data:=.seq #[.ref 185]}),(208,{cls:=.type "tuple",data:=.seq #[.none]})]
noncomputable def od:ww:=view z4 [26]
noncomputable def lo:p X:=["_sre","_wall","_iter_escaped_chars","_strip_quoted_realnames","_check_parenthesis","Whitespace","_twin_re_1","_namespace_map","_raise_serialization_error","_looks_like_prefix_name","C14NWriterTarget","_escape_cdata_c14n","_escape_attrib_c14n","_law_columns","_law_rows","_law_above","_law_told","_law_pieces","_law_written","_law_left","_law_ways","_law_kept"]
noncomputable def KV:kZ:={strHash:=λa=>0,shareClass:=λa=>0,mergeTok:=id,idOf:=λa=>0,idOfShared:=λa a=>0,followText:=λa=>G,idOfImm:=λa=>0}
theorem Uu(P:kZ):(lT KV).map (·.1)=(lT P).map (·.1):=by kernel_rfl
noncomputable def qE:Hook:=kmHook lT ((lT KV).map (·.1)) Uu [210]
noncomputable def KW(s:nl):ga:=xlAt od [] s&&recOk PySem.Challenge.rw_tr0067_01.row.records s
noncomputable def lE:DefRec×p (X×bv):=(defOf od "law").getD (⟨"",default,[],default,default⟩,[])
theorem DT:defOf od PySem.Challenge.rw_tr0067_01.row.name=j (lE.1,lE.2):=by kernel_rfl
theorem Uv:PySem.Challenge.rw_tr0067_01.row.prog.theDef PySem.Challenge.rw_tr0067_01.row.name=j (lE.1.params,lE.1.body,lE.1.scope):=by kernel_rfl
theorem Uw:kwWritten? lE.1.params.kwonlyargs lE.1.params.kw_defaults=j lE.2:=by kernel_rfl
theorem uz:lE.1.name="law":=by kernel_rfl
theorem Ux:PySem.Challenge.rw_tr0067_01.wellSaid=V:=by kernel_rfl
theorem Uy:(chainsOk od&&opensWell PySem.Challenge.rw_tr0067_01.row.prog&&(frees PySem.Challenge.rw_tr0067_01.row.toRowW&&PySem.Challenge.rw_tr0067_01.row.within.isEmpty))=V:=by kernel_rfl
theorem Uz:PySem.Challenge.rw_tr0067_01.row.prog.bare:=⟨rfl,rfl,rfl,rfl,rfl,by decide+kernel⟩
theorem UA:PySem.Challenge.rw_tr0067_01.row.toRowW.promised:=⟨[WData.list []],by kernel_rfl,by kernel_rfl⟩
noncomputable def w1(w:qo):Prop:=(openEnds treeTable z4 w 3936).map (λs=>(openSeen od lo (importedModules z4.main.body) KW V s,qE.obs s))=j (openGood od lo,qE.val w)
theorem UB(w:qo):w1 (w.withFollow "special-get-raises" G):=by unfold w1;kernel_rfl
theorem UC(w:qo):w1 (w.withFollow "special-get-raises" V):=by unfold w1;kernel_rfl
theorem hrow(aeq:WalkO od lo (XL od []) qE.says PySem.Challenge.rw_tr0067_01.row.toRowW lE.1 lE.2 λf L=>aeT f L):PySem.Challenge.rw_tr0067_01.Holds:=holds_law Ux λUD=>holds_open (Xt:=KW) (Yf:=qE.obs) (Ya:=qE.val) (N:=3936) (λw=>byRow2 "special-get-raises" (P:=w1) UB UC w) qE.of qE.keeps (λs g=>xl_of s (f3.mp g).1) XL.keeps DT Uv Uw (λs g=>recFacts_of (f3.mp g).2) rfl UD Uy Uz UA aeq
section
variable{t0 cY N px:Type}
theorem b4{t:Prop}[SP t]{u:t->N}{U l:N}(q:¬t)(h:dite t u (λa=>U)=l):U=l:=(t5 q).symm.trans h
noncomputable def sm(c:bv)(k:pf->p bv->wS->N)(U:N):N:=if h:c.ctorIdx=0 then Expr.BoolOp.elim c h k else U
@[elab_as_elim] theorem z5{P:bv->Prop}{c:bv}{k:pf->p bv->wS->N}{U l:N}(h:sm c k U=l)(a2:∀e b t,k e b t=l->P (.BoolOp e b t))(Fa:U=l->P c):P c:=if q:c.ctorIdx=0 then @Expr.BoolOp.elim (λc=>sm c k U=l->P c) c q a2 h else Fa (b4 q h)
noncomputable def UE(c:bv)(k:pf->p bv->wS->Y N):Y N:=sm c k bn
@[elab_as_elim] theorem ag3{P:bv->Prop}{c:bv}{k:pf->p bv->wS->Y N}{l:N}(h:UE c k=j l)(a2:∀e b t,k e b t=j l->P (.BoolOp e b t)):P c:=z5 h a2 nofun
noncomputable def uA(c:bv)(k:bv->n3->bv->wS->N)(U:N):N:=if h:c.ctorIdx=2 then Expr.BinOp.elim c h k else U
@[elab_as_elim] theorem DU{P:bv->Prop}{c:bv}{k:bv->n3->bv->wS->N}{U l:N}(h:uA c k U=l)(a2:∀e b t r,k e b t r=l->P (.BinOp e b t r))(Fa:U=l->P c):P c:=if q:c.ctorIdx=2 then @Expr.BinOp.elim (λc=>uA c k U=l->P c) c q a2 h else Fa (b4 q h)
noncomputable def z6(c:bv)(k:JN->bv->wS->N)(U:N):N:=if h:c.ctorIdx=3 then Expr.UnaryOp.elim c h k else U
@[elab_as_elim] theorem KX{P:bv->Prop}{c:bv}{k:JN->bv->wS->N}{U l:N}(h:z6 c k U=l)(a2:∀e b t,k e b t=l->P (.UnaryOp e b t))(Fa:U=l->P c):P c:=if q:c.ctorIdx=3 then @Expr.UnaryOp.elim (λc=>z6 c k U=l->P c) c q a2 h else Fa (b4 q h)
noncomputable def DV(c:bv)(k:rX->bv->KT->wS->N)(U:N):N:=if h:c.ctorIdx=4 then Expr.Lambda.elim c h k else U
@[elab_as_elim] theorem UG{P:bv->Prop}{c:bv}{k:rX->bv->KT->wS->N}{U l:N}(h:DV c k U=l)(a2:∀e b t r,k e b t r=l->P (.Lambda e b t r))(Fa:U=l->P c):P c:=if q:c.ctorIdx=4 then @Expr.Lambda.elim (λc=>DV c k U=l->P c) c q a2 h else Fa (b4 q h)
noncomputable def KY(c:bv)(k:rX->bv->KT->wS->Y N):Y N:=DV c k bn
@[elab_as_elim] theorem UH{P:bv->Prop}{c:bv}{k:rX->bv->KT->wS->Y N}{l:N}(h:KY c k=j l)(a2:∀e b t r,k e b t r=j l->P (.Lambda e b t r)):P c:=UG h a2 nofun
noncomputable def z7(c:bv)(k:bv->bv->bv->wS->N)(U:N):N:=if h:c.ctorIdx=5 then Expr.IfExp.elim c h k else U
@[elab_as_elim] theorem UI{P:bv->Prop}{c:bv}{k:bv->bv->bv->wS->N}{U l:N}(h:z7 c k U=l)(a2:∀e b t r,k e b t r=l->P (.IfExp e b t r))(Fa:U=l->P c):P c:=if q:c.ctorIdx=5 then @Expr.IfExp.elim (λc=>z7 c k U=l->P c) c q a2 h else Fa (b4 q h)
noncomputable def DW(c:bv)(k:p (Y bv)->p bv->wS->N)(U:N):N:=if h:c.ctorIdx=6 then Expr.Dict.elim c h k else U
@[elab_as_elim] theorem UJ{P:bv->Prop}{c:bv}{k:p (Y bv)->p bv->wS->N}{U l:N}(h:DW c k U=l)(a2:∀e b t,k e b t=l->P (.Dict e b t))(Fa:U=l->P c):P c:=if q:c.ctorIdx=6 then @Expr.Dict.elim (λc=>DW c k U=l->P c) c q a2 h else Fa (b4 q h)
noncomputable def DX(c:bv)(k:p bv->E->wS->N)(U:N):N:=if h:c.ctorIdx=7 then Expr.Set.elim c h k else U
@[elab_as_elim] theorem UK{P:bv->Prop}{c:bv}{k:p bv->E->wS->N}{U l:N}(h:DX c k U=l)(a2:∀e b t,k e b t=l->P (.Set e b t))(Fa:U=l->P c):P c:=if q:c.ctorIdx=7 then @Expr.Set.elim (λc=>DX c k U=l->P c) c q a2 h else Fa (b4 q h)
noncomputable def KZ(c:bv)(k:p bv->E->wS->Y N):Y N:=DX c k bn
@[elab_as_elim] theorem UL{P:bv->Prop}{c:bv}{k:p bv->E->wS->Y N}{l:N}(h:KZ c k=j l)(a2:∀e b t,k e b t=j l->P (.Set e b t)):P c:=UK h a2 nofun
noncomputable def oe(c:bv)(k:bv->p iS->KT->wS->N)(U:N):N:=if h:c.ctorIdx=8 then Expr.ListComp.elim c h k else U
@[elab_as_elim] theorem z8{P:bv->Prop}{c:bv}{k:bv->p iS->KT->wS->N}{U l:N}(h:oe c k U=l)(a2:∀e b t r,k e b t r=l->P (.ListComp e b t r))(Fa:U=l->P c):P c:=if q:c.ctorIdx=8 then @Expr.ListComp.elim (λc=>oe c k U=l->P c) c q a2 h else Fa (b4 q h)
noncomputable def K0(c:bv)(k:bv->p iS->KT->wS->Y N):Y N:=oe c k bn
@[elab_as_elim] theorem UM{P:bv->Prop}{c:bv}{k:bv->p iS->KT->wS->Y N}{l:N}(h:K0 c k=j l)(a2:∀e b t r,k e b t r=j l->P (.ListComp e b t r)):P c:=z8 h a2 nofun
noncomputable def DY(c:bv)(k:bv->bv->p iS->KT->wS->N)(U:N):N:=if h:c.ctorIdx=10 then Expr.DictComp.elim c h k else U
@[elab_as_elim] theorem UN{P:bv->Prop}{c:bv}{k:bv->bv->p iS->KT->wS->N}{U l:N}(h:DY c k U=l)(a2:∀e b t r g,k e b t r g=l->P (.DictComp e b t r g))(Fa:U=l->P c):P c:=if q:c.ctorIdx=10 then @Expr.DictComp.elim (λc=>DY c k U=l->P c) c q a2 h else Fa (b4 q h)
noncomputable def K1(c:bv)(k:bv->bv->p iS->KT->wS->Y N):Y N:=DY c k bn
@[elab_as_elim] theorem UO{P:bv->Prop}{c:bv}{k:bv->bv->p iS->KT->wS->Y N}{l:N}(h:K1 c k=j l)(a2:∀e b t r g,k e b t r g=j l->P (.DictComp e b t r g)):P c:=UN h a2 nofun
noncomputable def qF(c:bv)(k:bv->p lH->p bv->wS->N)(U:N):N:=if h:c.ctorIdx=15 then Expr.Compare.elim c h k else U
@[elab_as_elim] theorem DZ{P:bv->Prop}{c:bv}{k:bv->p lH->p bv->wS->N}{U l:N}(h:qF c k U=l)(a2:∀e b t r,k e b t r=l->P (.Compare e b t r))(Fa:U=l->P c):P c:=if q:c.ctorIdx=15 then @Expr.Compare.elim (λc=>qF c k U=l->P c) c q a2 h else Fa (b4 q h)
noncomputable def K2(c:bv)(k:bv->p lH->p bv->wS->Y N):Y N:=qF c k bn
@[elab_as_elim] theorem K3{P:bv->Prop}{c:bv}{k:bv->p lH->p bv->wS->Y N}{l:N}(h:K2 c k=j l)(a2:∀e b t r,k e b t r=j l->P (.Compare e b t r)):P c:=DZ h a2 nofun
noncomputable def m1(c:bv)(k:bv->p bv->p n4->wS->N)(U:N):N:=if h:c.ctorIdx=16 then Expr.Call.elim c h k else U
@[elab_as_elim] theorem z9{P:bv->Prop}{c:bv}{k:bv->p bv->p n4->wS->N}{U l:N}(h:m1 c k U=l)(a2:∀e b t r,k e b t r=l->P (.Call e b t r))(Fa:U=l->P c):P c:=if q:c.ctorIdx=16 then @Expr.Call.elim (λc=>m1 c k U=l->P c) c q a2 h else Fa (b4 q h)
noncomputable def kp(c:bv)(k:bv->p bv->p n4->wS->Y N):Y N:=m1 c k bn
@[elab_as_elim] theorem k'{P:bv->Prop}{c:bv}{k:bv->p bv->p n4->wS->Y N}{l:N}(h:kp c k=j l)(a2:∀e b t r,k e b t r=j l->P (.Call e b t r)):P c:=z9 h a2 nofun
noncomputable def D0(c:bv)(k:bv->m0->Y bv->wS->N)(U:N):N:=if h:c.ctorIdx=17 then Expr.FormattedValue.elim c h k else U
@[elab_as_elim] theorem UP{P:bv->Prop}{c:bv}{k:bv->m0->Y bv->wS->N}{U l:N}(h:D0 c k U=l)(a2:∀e b t r,k e b t r=l->P (.FormattedValue e b t r))(Fa:U=l->P c):P c:=if q:c.ctorIdx=17 then @Expr.FormattedValue.elim (λc=>D0 c k U=l->P c) c q a2 h else Fa (b4 q h)
noncomputable def K4(c:bv)(k:bv->m0->Y bv->wS->Y N):Y N:=D0 c k bn
@[elab_as_elim] theorem UQ{P:bv->Prop}{c:bv}{k:bv->m0->Y bv->wS->Y N}{l:N}(h:K4 c k=j l)(a2:∀e b t r,k e b t r=j l->P (.FormattedValue e b t r)):P c:=UP h a2 nofun
noncomputable def D1(c:bv)(k:p bv->wS->N)(U:N):N:=if h:c.ctorIdx=18 then Expr.JoinedStr.elim c h k else U
@[elab_as_elim] theorem UR{P:bv->Prop}{c:bv}{k:p bv->wS->N}{U l:N}(h:D1 c k U=l)(a2:∀e b,k e b=l->P (.JoinedStr e b))(Fa:U=l->P c):P c:=if q:c.ctorIdx=18 then @Expr.JoinedStr.elim (λc=>D1 c k U=l->P c) c q a2 h else Fa (b4 q h)
noncomputable def so(c:bv)(k:iv->E->wS->N)(U:N):N:=if h:c.ctorIdx=19 then Expr.Constant.elim c h k else U
@[elab_as_elim] theorem z'{P:bv->Prop}{c:bv}{k:iv->E->wS->N}{U l:N}(h:so c k U=l)(a2:∀e b t,k e b t=l->P (.Constant e b t))(Fa:U=l->P c):P c:=if q:c.ctorIdx=19 then @Expr.Constant.elim (λc=>so c k U=l->P c) c q a2 h else Fa (b4 q h)
noncomputable def sp(c:bv)(k:iv->E->wS->Y N):Y N:=so c k bn
@[elab_as_elim] theorem uB{P:bv->Prop}{c:bv}{k:iv->E->wS->Y N}{l:N}(h:sp c k=j l)(a2:∀e b t,k e b t=j l->P (.Constant e b t)):P c:=z' h a2 nofun
noncomputable def w2(c:bv)(k:bv->X->wS->N)(U:N):N:=if h:c.ctorIdx=20 then Expr.Attribute.elim c h k else U
@[elab_as_elim] theorem D2{P:bv->Prop}{c:bv}{k:bv->X->wS->N}{U l:N}(h:w2 c k U=l)(a2:∀e b t,k e b t=l->P (.Attribute e b t))(Fa:U=l->P c):P c:=if q:c.ctorIdx=20 then @Expr.Attribute.elim (λc=>w2 c k U=l->P c) c q a2 h else Fa (b4 q h)
noncomputable def lU(c:bv)(k:bv->X->wS->Y N):Y N:=w2 c k bn
@[elab_as_elim] theorem m2{P:bv->Prop}{c:bv}{k:bv->X->wS->Y N}{l:N}(h:lU c k=j l)(a2:∀e b t,k e b t=j l->P (.Attribute e b t)):P c:=D2 h a2 nofun
noncomputable def w3(c:bv)(k:bv->bv->wS->N)(U:N):N:=if h:c.ctorIdx=21 then Expr.Subscript.elim c h k else U
@[elab_as_elim] theorem D3{P:bv->Prop}{c:bv}{k:bv->bv->wS->N}{U l:N}(h:w3 c k U=l)(a2:∀e b t,k e b t=l->P (.Subscript e b t))(Fa:U=l->P c):P c:=if q:c.ctorIdx=21 then @Expr.Subscript.elim (λc=>w3 c k U=l->P c) c q a2 h else Fa (b4 q h)
noncomputable def D4(c:bv)(k:bv->bv->wS->Y N):Y N:=w3 c k bn
@[elab_as_elim] theorem K5{P:bv->Prop}{c:bv}{k:bv->bv->wS->Y N}{l:N}(h:D4 c k=j l)(a2:∀e b t,k e b t=j l->P (.Subscript e b t)):P c:=D3 h a2 nofun
noncomputable def z_(c:bv)(k:bv->wS->N)(U:N):N:=if h:c.ctorIdx=22 then Expr.Starred.elim c h k else U
@[elab_as_elim] theorem US{P:bv->Prop}{c:bv}{k:bv->wS->N}{U l:N}(h:z_ c k U=l)(a2:∀e b,k e b=l->P (.Starred e b))(Fa:U=l->P c):P c:=if q:c.ctorIdx=22 then @Expr.Starred.elim (λc=>z_ c k U=l->P c) c q a2 h else Fa (b4 q h)
noncomputable def K6(c:bv)(k:bv->wS->Y N):Y N:=z_ c k bn
@[elab_as_elim] theorem UT{P:bv->Prop}{c:bv}{k:bv->wS->Y N}{l:N}(h:K6 c k=j l)(a2:∀e b,k e b=j l->P (.Starred e b)):P c:=US h a2 nofun
noncomputable def lV(c:bv)(k:X->wS->N)(U:N):N:=if h:c.ctorIdx=23 then Expr.Name.elim c h k else U
@[elab_as_elim] theorem qG{P:bv->Prop}{c:bv}{k:X->wS->N}{U l:N}(h:lV c k U=l)(a2:∀e b,k e b=l->P (.Name e b))(Fa:U=l->P c):P c:=if q:c.ctorIdx=23 then @Expr.Name.elim (λc=>lV c k U=l->P c) c q a2 h else Fa (b4 q h)
noncomputable def cZ(c:bv)(k:X->wS->Y N):Y N:=lV c k bn
@[elab_as_elim] theorem c5{P:bv->Prop}{c:bv}{k:X->wS->Y N}{l:N}(h:cZ c k=j l)(a2:∀e b,k e b=j l->P (.Name e b)):P c:=qG h a2 nofun
noncomputable def w4(c:bv)(k:p bv->wS->N)(U:N):N:=if h:c.ctorIdx=24 then Expr.List.elim c h k else U
@[elab_as_elim] theorem D5{P:bv->Prop}{c:bv}{k:p bv->wS->N}{U l:N}(h:w4 c k U=l)(a2:∀e b,k e b=l->P (.List e b))(Fa:U=l->P c):P c:=if q:c.ctorIdx=24 then @Expr.List.elim (λc=>w4 c k U=l->P c) c q a2 h else Fa (b4 q h)
noncomputable def m3(c:bv)(k:p bv->E->wS->N)(U:N):N:=if h:c.ctorIdx=25 then Expr.Tuple.elim c h k else U
@[elab_as_elim] theorem Aa{P:bv->Prop}{c:bv}{k:p bv->E->wS->N}{U l:N}(h:m3 c k U=l)(a2:∀e b t,k e b t=l->P (.Tuple e b t))(Fa:U=l->P c):P c:=if q:c.ctorIdx=25 then @Expr.Tuple.elim (λc=>m3 c k U=l->P c) c q a2 h else Fa (b4 q h)
noncomputable def K7(c:bv)(k:p bv->E->wS->Y N):Y N:=m3 c k bn
@[elab_as_elim] theorem K8{P:bv->Prop}{c:bv}{k:p bv->E->wS->Y N}{l:N}(h:K7 c k=j l)(a2:∀e b t,k e b t=j l->P (.Tuple e b t)):P c:=Aa h a2 nofun
noncomputable def sq(c:bv)(k:Y bv->Y bv->Y bv->wS->N)(U:N):N:=if h:c.ctorIdx=26 then Expr.Slice.elim c h k else U
@[elab_as_elim] theorem D6{P:bv->Prop}{c:bv}{k:Y bv->Y bv->Y bv->wS->N}{U l:N}(h:sq c k U=l)(a2:∀e b t r,k e b t r=l->P (.Slice e b t r))(Fa:U=l->P c):P c:=if q:c.ctorIdx=26 then @Expr.Slice.elim (λc=>sq c k U=l->P c) c q a2 h else Fa (b4 q h)
noncomputable def K9(c:bv)(k:Y bv->Y bv->Y bv->wS->Y N):Y N:=sq c k bn
@[elab_as_elim] theorem UU{P:bv->Prop}{c:bv}{k:Y bv->Y bv->Y bv->wS->Y N}{l:N}(h:K9 c k=j l)(a2:∀e b t r,k e b t r=j l->P (.Slice e b t r)):P c:=D6 h a2 nofun
noncomputable def Ab(c:wP)(k:Y bv->wS->N)(U:N):N:=if h:c.ctorIdx=3 then Stmt.Return.elim c h k else U
@[elab_as_elim] theorem UV{P:wP->Prop}{c:wP}{k:Y bv->wS->N}{U l:N}(h:Ab c k U=l)(a2:∀e b,k e b=l->P (.Return e b))(Fa:U=l->P c):P c:=if q:c.ctorIdx=3 then @Stmt.Return.elim (λc=>Ab c k U=l->P c) c q a2 h else Fa (b4 q h)
noncomputable def D7(c:wP)(k:p bv->wS->N)(U:N):N:=if h:c.ctorIdx=4 then Stmt.Delete.elim c h k else U
@[elab_as_elim] theorem UW{P:wP->Prop}{c:wP}{k:p bv->wS->N}{U l:N}(h:D7 c k U=l)(a2:∀e b,k e b=l->P (.Delete e b))(Fa:U=l->P c):P c:=if q:c.ctorIdx=4 then @Stmt.Delete.elim (λc=>D7 c k U=l->P c) c q a2 h else Fa (b4 q h)
noncomputable def K'(c:wP)(k:p bv->wS->Y N):Y N:=D7 c k bn
@[elab_as_elim] theorem UX{P:wP->Prop}{c:wP}{k:p bv->wS->Y N}{l:N}(h:K' c k=j l)(a2:∀e b,k e b=j l->P (.Delete e b)):P c:=UW h a2 nofun
noncomputable def uC(c:wP)(k:p bv->bv->wS->N)(U:N):N:=if h:c.ctorIdx=5 then Stmt.Assign.elim c h k else U
@[elab_as_elim] theorem K_{P:wP->Prop}{c:wP}{k:p bv->bv->wS->N}{U l:N}(h:uC c k U=l)(a2:∀e b t,k e b t=l->P (.Assign e b t))(Fa:U=l->P c):P c:=if q:c.ctorIdx=5 then @Stmt.Assign.elim (λc=>uC c k U=l->P c) c q a2 h else Fa (b4 q h)
noncomputable def La(c:wP)(k:p bv->bv->wS->Y N):Y N:=uC c k bn
@[elab_as_elim] theorem UY{P:wP->Prop}{c:wP}{k:p bv->bv->wS->Y N}{l:N}(h:La c k=j l)(a2:∀e b t,k e b t=j l->P (.Assign e b t)):P c:=K_ h a2 nofun
noncomputable def D8(c:wP)(k:bv->n3->bv->wS->N)(U:N):N:=if h:c.ctorIdx=7 then Stmt.AugAssign.elim c h k else U
@[elab_as_elim] theorem UZ{P:wP->Prop}{c:wP}{k:bv->n3->bv->wS->N}{U l:N}(h:D8 c k U=l)(a2:∀e b t r,k e b t r=l->P (.AugAssign e b t r))(Fa:U=l->P c):P c:=if q:c.ctorIdx=7 then @Stmt.AugAssign.elim (λc=>D8 c k U=l->P c) c q a2 h else Fa (b4 q h)
noncomputable def uD(c:wP)(k:bv->bv->p wP->p wP->wS->N)(U:N):N:=if h:c.ctorIdx=9 then Stmt.For.elim c h k else U
@[elab_as_elim] theorem U0{P:wP->Prop}{c:wP}{k:bv->bv->p wP->p wP->wS->N}{U l:N}(h:uD c k U=l)(a2:∀e b t r g,k e b t r g=l->P (.For e b t r g))(Fa:U=l->P c):P c:=if q:c.ctorIdx=9 then @Stmt.For.elim (λc=>uD c k U=l->P c) c q a2 h else Fa (b4 q h)
noncomputable def w5(c:wP)(k:bv->p wP->p wP->wS->N)(U:N):N:=if h:c.ctorIdx=11 then Stmt.While.elim c h k else U
@[elab_as_elim] theorem U1{P:wP->Prop}{c:wP}{k:bv->p wP->p wP->wS->N}{U l:N}(h:w5 c k U=l)(a2:∀e b t r,k e b t r=l->P (.While e b t r))(Fa:U=l->P c):P c:=if q:c.ctorIdx=11 then @Stmt.While.elim (λc=>w5 c k U=l->P c) c q a2 h else Fa (b4 q h)
noncomputable def sr(c:wP)(k:bv->p wP->p wP->wS->N)(U:N):N:=if h:c.ctorIdx=12 then Stmt.If.elim c h k else U
@[elab_as_elim] theorem U2{P:wP->Prop}{c:wP}{k:bv->p wP->p wP->wS->N}{U l:N}(h:sr c k U=l)(a2:∀e b t r,k e b t r=l->P (.If e b t r))(Fa:U=l->P c):P c:=if q:c.ctorIdx=12 then @Stmt.If.elim (λc=>sr c k U=l->P c) c q a2 h else Fa (b4 q h)
noncomputable def D9(c:wP)(k:p wP->p zw->p wP->p wP->wS->N)(U:N):N:=if h:c.ctorIdx=17 then Stmt.Try.elim c h k else U
@[elab_as_elim] theorem U3{P:wP->Prop}{c:wP}{k:p wP->p zw->p wP->p wP->wS->N}{U l:N}(h:D9 c k U=l)(a2:∀e b t r g,k e b t r g=l->P (.Try e b t r g))(Fa:U=l->P c):P c:=if q:c.ctorIdx=17 then @Stmt.Try.elim (λc=>D9 c k U=l->P c) c q a2 h else Fa (b4 q h)
noncomputable def wExpr(c:wP)(k:bv->wS->N)(U:N):N:=if h:c.ctorIdx=24 then Stmt.Expr.elim c h k else U
@[elab_as_elim] theorem Lb{P:wP->Prop}{c:wP}{k:bv->wS->N}{U l:N}(h:wExpr c k U=l)(a2:∀e b,k e b=l->P (.Expr e b))(Fa:U=l->P c):P c:=if q:c.ctorIdx=24 then @Stmt.Expr.elim (λc=>wExpr c k U=l->P c) c q a2 h else Fa (b4 q h)
noncomputable def D'(c:wP)(k:bv->wS->Y N):Y N:=wExpr c k bn
@[elab_as_elim] theorem Lc{P:wP->Prop}{c:wP}{k:bv->wS->Y N}{l:N}(h:D' c k=j l)(a2:∀e b,k e b=j l->P (.Expr e b)):P c:=Lb h a2 nofun
noncomputable def D_(c:wP)(k:wS->N)(U:N):N:=if h:c.ctorIdx=25 then Stmt.Pass.elim c h k else U
@[elab_as_elim] theorem U4{P:wP->Prop}{c:wP}{k:wS->N}{U l:N}(h:D_ c k U=l)(a2:∀e,k e=l->P (.Pass e))(Fa:U=l->P c):P c:=if q:c.ctorIdx=25 then @Stmt.Pass.elim (λc=>D_ c k U=l->P c) c q a2 h else Fa (b4 q h)
noncomputable def Ea(c:wP)(k:wS->N)(U:N):N:=if h:c.ctorIdx=26 then Stmt.Break.elim c h k else U
@[elab_as_elim] theorem U5{P:wP->Prop}{c:wP}{k:wS->N}{U l:N}(h:Ea c k U=l)(a2:∀e,k e=l->P (.Break e))(Fa:U=l->P c):P c:=if q:c.ctorIdx=26 then @Stmt.Break.elim (λc=>Ea c k U=l->P c) c q a2 h else Fa (b4 q h)
noncomputable def JE(c:iv)(k:m0->N)(U:N):N:=if h:c.ctorIdx=2 then Const.int.elim c h k else U
@[elab_as_elim] theorem aer{P:iv->Prop}{c:iv}{k:m0->N}{U l:N}(h:JE c k U=l)(a2:∀e,k e=l->P (.int e))(Fa:U=l->P c):P c:=if q:c.ctorIdx=2 then @Const.int.elim (λc=>JE c k U=l->P c) c q a2 h else Fa (b4 q h)
noncomputable def Ld(c:iv)(k:m0->Y N):Y N:=JE c k bn
@[elab_as_elim] theorem U6{P:iv->Prop}{c:iv}{k:m0->Y N}{l:N}(h:Ld c k=j l)(a2:∀e,k e=j l->P (.int e)):P c:=aer h a2 nofun
noncomputable def JF(c:iv)(k:X->N)(U:N):N:=if h:c.ctorIdx=5 then Const.str.elim c h k else U
@[elab_as_elim] theorem U7{P:iv->Prop}{c:iv}{k:X->N}{U l:N}(h:JF c k U=l)(a2:∀e,k e=l->P (.str e))(Fa:U=l->P c):P c:=if q:c.ctorIdx=5 then @Const.str.elim (λc=>JF c k U=l->P c) c q a2 h else Fa (b4 q h)
noncomputable def w6(c:iv)(k:X->Y N):Y N:=JF c k bn
@[elab_as_elim] theorem Ac{P:iv->Prop}{c:iv}{k:X->Y N}{l:N}(h:w6 c k=j l)(a2:∀e,k e=j l->P (.str e)):P c:=U7 h a2 nofun
noncomputable def Eb(c:cd)(k:kt->N)(U:N):N:=if h:c.ctorIdx=10 then Value.ref.elim c h k else U
@[elab_as_elim] theorem U8{P:cd->Prop}{c:cd}{k:kt->N}{U l:N}(h:Eb c k U=l)(a2:∀e,k e=l->P (.ref e))(Fa:U=l->P c):P c:=if q:c.ctorIdx=10 then @Value.ref.elim (λc=>Eb c k U=l->P c) c q a2 h else Fa (b4 q h)
noncomputable def Le(c:cd)(k:kt->Y N):Y N:=Eb c k bn
@[elab_as_elim] theorem U9{P:cd->Prop}{c:cd}{k:kt->Y N}{l:N}(h:Le c k=j l)(a2:∀e,k e=j l->P (.ref e)):P c:=U8 h a2 nofun
theorem Ec{t0 cY:Type}{x:t0->cY->Prop}{P:Prop}(h:∃e b,x e b)(a2:∀e b,x e b->P):P:=h.elim λe q=>q.elim (a2 e)
theorem uE{t0 cY N:Type}{x:t0->cY->N->Prop}{P:Prop}(h:∃e b t,x e b t)(a2:∀e b t,x e b t->P):P:=h.elim λe q=>Ec q (a2 e)
theorem U'{t0 cY N px:Type}{x:t0->cY->N->px->Prop}{P:Prop}(h:∃e b t r,x e b t r)(a2:∀e b t r,x e b t r->P):P:=h.elim λe q=>uE q (a2 e)
theorem ag4{e:N}{P:Prop}(h:j e=bn):P:=nomatch h
theorem dN{P:Prop}(h:G=V):P:=nomatch h
theorem Ed{P:Prop}(h:V=G):P:=nomatch h
theorem jr{n:p N}:∀e,e∈n->e∉([]:p N):=λa a h=>nomatch h
theorem cR{x:N->Prop}:∀e,e∈([]:p N)->x e:=λa h=>nomatch h
theorem m4{e:N}{P:Prop}(h:e∈[]):P:=nomatch h
theorem a'{l:N}{P:Prop}(h:bn=j l):P:=nomatch h
@[elab_as_elim] theorem aQ{P:N->Prop}{e l:N}(h:j e=j l)(a2:P e):P l:=aO h▸a2
noncomputable def s4(c:Y (t0×cY))(k:t0->cY->Y N):Y N:=c.rec bn λx=>x.rec k
theorem b8{P:Prop}{c:Y (t0×cY)}{k:t0->cY->Y N}{l:N}(h:s4 c k=j l)(a2:∀e b,c=j (e,b)->k e b=j l->P):P:=c.casesOn (motive:=λI=>c=I->s4 I k=j l->P) (λa h=>a' h) (λx g h=>a2 x.1 x.2 g h) rfl h
theorem Op{c:Y (t0×cY)}{k:t0->cY->Y N}{e:t0}{b:cY}(h:c=j (e,b)):s4 c k=k e b:=h▸rfl
noncomputable def js(c:Y (t0×cY×px))(k:t0->cY->px->Y N):Y N:=c.rec bn λx=>x.rec λe q=>q.rec (k e)
theorem pz{P:Prop}{c:Y (t0×cY×px)}{k:t0->cY->px->Y N}{l:N}(h:js c k=j l)(a2:∀e b t,c=j (e,b,t)->k e b t=j l->P):P:=c.casesOn (motive:=λI=>c=I->js I k=j l->P) (λa h=>a' h) (λx g h=>a2 x.1 x.2.1 x.2.2 g h) rfl h
theorem qH{c:Y (t0×cY×px)}{k:t0->cY->px->Y N}{e:t0}{b:cY}{t:px}(h:c=j (e,b,t)):js c k=k e b t:=h▸rfl
noncomputable def b9(c:Y t0)(k:t0->Y N):Y N:=c.rec bn k
theorem dd{P:Prop}{c:Y t0}{k:t0->Y N}{l:N}(h:b9 c k=j l)(a2:∀e,c=j e->k e=j l->P):P:=c.casesOn (motive:=λI=>c=I->b9 I k=j l->P) (λa h=>a' h) a2 rfl h
theorem eS{c:Y t0}{k:t0->Y N}{e:t0}(h:c=j e):b9 c k=k e:=h▸rfl
noncomputable def eF(c:Y t0)(k:t0->N)(U:N):N:=c.rec U k
theorem j2{P:Prop}{c:Y t0}{k:t0->N}{U l:N}(h:eF c k U=l)(a2:∀e,c=j e->k e=l->P)(Fa:c=bn->U=l->P):P:=c.casesOn (motive:=λI=>c=I->eF I k U=l->P) Fa a2 rfl h
theorem m5{c:Y t0}{k:t0->N}{U:N}{e:t0}(h:c=j e):eF c k U=k e:=h▸rfl
theorem fH{c:Y t0}{k:t0->N}{U:N}(h:c=bn):eF c k U=U:=h▸rfl
noncomputable def dZ(c I:Y N):Y N:=eF c j I
theorem fq{P:Prop}{c I:Y N}{l:N}(h:dZ c I=j l)(a2:c=j l->P)(Fa:I=j l->P):P:=j2 h (λa g h=>a2 (g.trans h)) λa h=>Fa h
theorem Ee{b:ga}(h:(!b)=G):b=V:=match b,h with|true,_=>rfl
theorem su{b:ga}(h:(!b)=V):b=G:=match b,h with|false,_=>rfl
noncomputable def pp(b:ga)(c:Y N):Y N:=c9 b c bn
theorem Gt{P:Prop}{b:ga}{c:Y N}{l:N}(h:pp b c=j l)(a2:b=V->c=j l->P):P:=b.casesOn (motive:=λI=>b=I->pp I c=j l->P) (λa h=>a' h) a2 rfl h
theorem Re{b:ga}{c:Y N}(h:b=V):pp b c=c:=h▸rfl
theorem og{P:Prop}{b t:ga}{c:Y N}{l:N}(h:pp (b&&t) c=j l)(a2:b=V->t=V->c=j l->P):P:=Gt h λg h=>a2 (f3.mp g).1 (f3.mp g).2 h
theorem iX{P:Prop}{b:ga}{c:Y N}{l:N}(h:pp (!b) c=j l)(a2:b=G->c=j l->P):P:=b.casesOn (motive:=λI=>b=I->pp (!I) c=j l->P) a2 (λa h=>a' h) rfl h
noncomputable def b'[BEq t0](e b:t0)(c:Y N):Y N:=pp (e==b) c
@[elab_as_elim] theorem b5{P:t0->Prop}[BEq t0][LawfulBEq t0]{e b:t0}{c:Y N}{l:N}(h:b' e b c=j l)(a2:c=j l->P b):P e:=Gt h λg h=>eq_of_beq g▸a2 h
theorem qI{P:Prop}{b:ga}{c I l:N}(h:c9 b c I=l)(a2:b=V->c=l->P)(Fa:b=G->I=l->P):P:=b.casesOn (motive:=λt=>b=t->c9 t c I=l->P) Fa a2 rfl h
theorem Ef{b:ga}{c I:N}(h:b=V):c9 b c I=c:=h▸rfl
theorem Eg{b:ga}{c I:N}(h:b=G):c9 b c I=I:=h▸rfl
@[elab_as_elim] theorem d0{P:N->Prop}{c:Y t0}{k:t0->N}{l:N}(h:c.map k=j l)(a2:∀e,c=j e->P (k e)):P l:=c.casesOn (motive:=λI=>c=I->I.map k=j l->P l) (λa h=>a' h) (λe g h=>aQ h (a2 e g)) rfl h
theorem gK{P:Prop}{c:Y t0}{k:t0->N}{l:N}(h:c.map k=j l)(a2:∀e,c=j e->j (k e)=j l->P):P:=c.casesOn (motive:=λI=>c=I->I.map k=j l->P) (λa h=>a' h) a2 rfl h
noncomputable def dS(n:p t0)(c:Y N):Y N:=n.rec c λa a a=>bn
noncomputable def qJ(n:p t0)(k:t0->p t0->Y N):Y N:=n.rec bn λe n a=>k e n
noncomputable def bY(n:p t0)(k:t0->Y N):Y N:=qJ n λe n=>dS n (k e)
noncomputable def eT(n:p t0)(k:t0->t0->Y N):Y N:=qJ n λe n=>bY n (k e)
@[elab_as_elim] theorem d1{P:p t0->Prop}{n:p t0}{c:Y N}{l:N}(h:dS n c=j l)(a2:c=j l->P []):P n:=match n,h with|[],h=>a2 h
@[elab_as_elim] theorem qK{P:p t0->Prop}{n:p t0}{k:t0->p t0->Y N}{l:N}(h:qJ n k=j l)(a2:∀e n,k e n=j l->P (e::n)):P n:=match n,h with|e::n,h=>a2 e n h
@[elab_as_elim] theorem d2{P:p t0->Prop}{n:p t0}{k:t0->Y N}{l:N}(h:bY n k=j l)(a2:∀e,k e=j l->P [e]):P n:=qK h λe n h=>d1 h (a2 e)
@[elab_as_elim] theorem pA{P:p t0->Prop}{n:p t0}{k:t0->t0->Y N}{l:N}(h:eT n k=j l)(a2:∀e b,k e b=j l->P [e,b]):P n:=qK h λe n h=>d2 h (a2 e)
noncomputable def kq(T:Y t0)(c:Y N):Y N:=T.rec c λa=>bn
@[elab_as_elim] theorem qL{P:Y t0->Prop}{T:Y t0}{c:Y N}{l:N}(h:kq T c=j l)(a2:c=j l->P bn):P T:=match T,h with|none,h=>a2 h
theorem Eh{P:Prop}{T:Y t0}{c:Y N}{l:N}(h:kq T c=j l)(a2:T=bn->c=j l->P):P:=match T,h with|none,h=>a2 rfl h
theorem Lf{T:Y t0}{c:Y N}(h:T=bn):kq T c=c:=h▸rfl
@[elab_as_elim] theorem Lg{P:Y t0->Prop}{T:Y t0}{k:t0->Y N}{l:N}(h:b9 T k=j l)(a2:∀e,k e=j l->P (j e)):P T:=match T,h with|some e,h=>a2 e h
noncomputable def look(e:X)(n:p (X×N)):Y N:=n.lookup e
noncomputable def Ei(k:n4)(c:X)(f:bv->wS->Y N):Y N:=b9 k.arg λe=>b' e c<|f k.value k.pos
@[elab_as_elim] theorem Lh{P:n4->Prop}{k:n4}{c:X}{f:bv->wS->Y N}{l:N}(h:Ei k c f=j l)(a2:∀v x,f v x=j l->P ⟨j c,v,x⟩):P k:=match k,h with|⟨e,v,x⟩,h=>Lg (T:=e) h λe h=>b5 (e:=e) h (a2 v x)
noncomputable def Li(t:iS)(f:bv->bv->p bv->Y N):Y N:=b' t.is_async 0<|f t.target t.iter t.ifs
@[elab_as_elim] theorem U_{P:iS->Prop}{t:iS}{f:bv->bv->p bv->Y N}{l:N}(h:Li t f=j l)(a2:∀u i n,f u i n=j l->P ⟨u,i,n,0⟩):P t:=match t,h with|⟨u,i,n,e⟩,h=>b5 (e:=e) h (a2 u i n)
noncomputable def Ej(c:bv)(k:bv->N)(U:N):N:=z6 c (λpo I a=>c9 (po.ctorIdx==1) (k I) U) U
theorem Lj{P:bv->Prop}{c:bv}{k:bv->N}{U l:N}(h:Ej c k U=l)(a2:∀I x,k I=l->P (.UnaryOp .Not I x))(Fa:U=l->P c):P c:=KX (P:=λI=>c=I->P I) h (λpo I x h g=>qI h (λq h=>@UnaryOp.Not.elim (λpo=>P (.UnaryOp po I x)) po (eq_of_beq q) (a2 I x h)) λa h=>g▸Fa h) (λh g=>g▸Fa h) rfl
noncomputable def Lk(t:iS)(f:bv->bv->Y N):Y N:=b' t.is_async 0<|dS t.ifs<|f t.target t.iter
@[elab_as_elim] theorem Va{P:iS->Prop}{t:iS}{f:bv->bv->Y N}{l:N}(h:Lk t f=j l)(a2:∀u i,f u i=j l->P ⟨u,i,[],0⟩):P t:=match t,h with|⟨u,i,n,e⟩,h=>b5 (e:=e) h λh=>d1 (n:=n) h (a2 u i)
inductive iY(P:t0->cY->Prop):p (t0×cY)->Prop|nil:iY P []|cons {e:t0} {b:cY} {n:p (t0×cY)}:P e b->iY P n->iY P ((e,b)::n)
theorem iY.look[BEq t0][LawfulBEq t0]{P:t0->cY->Prop}{n:p (t0×cY)}(h:iY P n){e:t0}{b:cY}:n.lookup e=j b->P e b:=h.rec nofun λ{er _ _} x a ih g=>by rw[en]at g;cases q:e==er with|true=>rw[q]at g;exact eq_of_beq q▸aO g▸x|false=>rw[q]at g;exact ih g
@[elab_as_elim] theorem kr{P:t0->cY->Prop}{e er:t0}{b sv:cY}(h:j (e,b)=j (er,sv))(a2:P e b):P er sv:=by cases h;exact a2
end
variable{c I tag:X}
variable{t0 cY:Type}
variable{e t f ai aM bS S:kt}
variable{T:cE}
variable{v g2 dc:cd}
variable{L di:p cd}
variable{bd:p f5}
variable{g u value n1 bj gE iter j3 g' jt:bv}
variable{eg:bl}
variable{lv:p kt}
variable{x h0 KB bX ju py bF eU a_ hy f7 oh pB w7 w8:wS}
variable{s it KF:nl}
variable{m ev au cb WF cv an:E}
variable{a1 C bP:cd->nl->Prop}
variable{po:n3}
variable{Rs No s5 TE aI:p bv}
variable{iq:p lH}
variable{inner scope rS:KT}
variable{np:Y bv}
variable{prog:ww}
variable{w:qo}
variable{ba:p (X×cd)}
variable{dj FM es:ga}
variable{wf:qp->nl->Prop}
variable{GE:zx}
variable{body hz:p wP}
variable{cf:Protocol}
variable{ak:qq}
variable{bK:bD E}
variable{t3:p E}
variable{jg:E->ga}
variable{out data:p X}
section
inductive R where
 |none
 |bool (b:ga)
 |int (i:m0)
 |str (s:X)
 |tup (n:p R)
 |ah (n:p R)
 |cF (n:p (X×R))
 |set (n:p X)
 |iA (n:p X)
 |am (i:E)
 |inst (t:kt) (s1:p (X×R))
 |app (i:E)
 |fI (i:E) (f:kt)
 |cg (v:cd)
deriving Inhabited
inductive ca where
 |list (n:p R)
 |inst (t:kt) (s1:p (X×R))
 |set (n:p X)
 |aq (r:R)
deriving Inhabited
section
variable{N:Type}
noncomputable def Ad(c:R)(k:ga->N)(U:N):N:=if h:c.ctorIdx=1 then R.bool.elim c h k else U
@[elab_as_elim] theorem Ll{P:R->Prop}{c:R}{k:ga->N}{U l:N}(h:Ad c k U=l)(a2:∀e,k e=l->P (.bool e))(Fa:U=l->P c):P c:=if q:c.ctorIdx=1 then @R.bool.elim (λc=>Ad c k U=l->P c) c q a2 h else Fa (b4 q h)
noncomputable def Vb(c:R)(k:ga->Y N):Y N:=Ad c k bn
@[elab_as_elim] theorem ag5{P:R->Prop}{c:R}{k:ga->Y N}{l:N}(h:Vb c k=j l)(a2:∀e,k e=j l->P (.bool e)):P c:=Ll h a2 nofun
noncomputable def Vc(c:Y R)(k:ga->Y N):Y N:=b9 c λc=>Ad c k bn
theorem ag6{P:Prop}{c:Y R}{k:ga->Y N}{l:N}(h:Vc c k=j l)(a2:∀e,c=j (.bool e)->k e=j l->P):P:=dd h λr g h=>Ll (P:=λr=>c=j r->P) h (λe h g=>a2 e g h) nofun g
noncomputable def qM(c:R)(k:m0->N)(U:N):N:=if h:c.ctorIdx=2 then R.int.elim c h k else U
@[elab_as_elim] theorem uF{P:R->Prop}{c:R}{k:m0->N}{U l:N}(h:qM c k U=l)(a2:∀e,k e=l->P (.int e))(Fa:U=l->P c):P c:=if q:c.ctorIdx=2 then @R.int.elim (λc=>qM c k U=l->P c) c q a2 h else Fa (b4 q h)
noncomputable def hA(c:R)(k:m0->Y N):Y N:=qM c k bn
@[elab_as_elim] theorem m6{P:R->Prop}{c:R}{k:m0->Y N}{l:N}(h:hA c k=j l)(a2:∀e,k e=j l->P (.int e)):P c:=uF h a2 nofun
theorem Vd{P:Prop}{c:R}{k:m0->N}{U l:N}(h:qM c k U=l)(a2:∀e,c=.int e->k e=l->P)(Fa:U=l->P):P:=uF (P:=λI=>c=I->P) h (λe h g=>a2 e g h) (λh a=>Fa h) rfl
noncomputable def Lm(c:Y R)(k:m0->Y N):Y N:=b9 c λc=>qM c k bn
theorem Ve{P:Prop}{c:Y R}{k:m0->Y N}{l:N}(h:Lm c k=j l)(a2:∀e,c=j (.int e)->k e=j l->P):P:=dd h λr g h=>uF (P:=λr=>c=j r->P) h (λe h g=>a2 e g h) nofun g
noncomputable def lW(c:R)(k:X->N)(U:N):N:=if h:c.ctorIdx=3 then R.str.elim c h k else U
@[elab_as_elim] theorem sx{P:R->Prop}{c:R}{k:X->N}{U l:N}(h:lW c k U=l)(a2:∀e,k e=l->P (.str e))(Fa:U=l->P c):P c:=if q:c.ctorIdx=3 then @R.str.elim (λc=>lW c k U=l->P c) c q a2 h else Fa (b4 q h)
noncomputable def h2(c:R)(k:X->Y N):Y N:=lW c k bn
@[elab_as_elim] theorem lX{P:R->Prop}{c:R}{k:X->Y N}{l:N}(h:h2 c k=j l)(a2:∀e,k e=j l->P (.str e)):P c:=sx h a2 nofun
theorem Ek{P:Prop}{c:R}{k:X->N}{U l:N}(h:lW c k U=l)(a2:∀e,c=.str e->k e=l->P)(Fa:U=l->P):P:=sx (P:=λI=>c=I->P) h (λe h g=>a2 e g h) (λh a=>Fa h) rfl
theorem Vf{c:R}{k:X->N}{U:N}{e}(h:c=.str e):lW c k U=k e:=h▸rfl
noncomputable def uG(c:Y R)(k:X->Y N):Y N:=b9 c λc=>lW c k bn
theorem Ae{P:Prop}{c:Y R}{k:X->Y N}{l:N}(h:uG c k=j l)(a2:∀e,c=j (.str e)->k e=j l->P):P:=dd h λr g h=>sx (P:=λr=>c=j r->P) h (λe h g=>a2 e g h) nofun g
theorem Vg{c:Y R}{k:X->Y N}{e}(h:c=j (.str e)):uG c k=k e:=h▸rfl
noncomputable def uH(c:R)(k:p R->N)(U:N):N:=if h:c.ctorIdx=4 then R.tup.elim c h k else U
@[elab_as_elim] theorem Af{P:R->Prop}{c:R}{k:p R->N}{U l:N}(h:uH c k U=l)(a2:∀e,k e=l->P (.tup e))(Fa:U=l->P c):P c:=if q:c.ctorIdx=4 then @R.tup.elim (λc=>uH c k U=l->P c) c q a2 h else Fa (b4 q h)
noncomputable def w9(c:R)(k:p R->Y N):Y N:=uH c k bn
@[elab_as_elim] theorem El{P:R->Prop}{c:R}{k:p R->Y N}{l:N}(h:w9 c k=j l)(a2:∀e,k e=j l->P (.tup e)):P c:=Af h a2 nofun
theorem Vh{P:Prop}{c:R}{k:p R->N}{U l:N}(h:uH c k U=l)(a2:∀e,c=.tup e->k e=l->P)(Fa:U=l->P):P:=Af (P:=λI=>c=I->P) h (λe h g=>a2 e g h) (λh a=>Fa h) rfl
noncomputable def oi(c:R)(k:p R->N)(U:N):N:=if h:c.ctorIdx=5 then R.ah.elim c h k else U
@[elab_as_elim] theorem sy{P:R->Prop}{c:R}{k:p R->N}{U l:N}(h:oi c k U=l)(a2:∀e,k e=l->P (.ah e))(Fa:U=l->P c):P c:=if q:c.ctorIdx=5 then @R.ah.elim (λc=>oi c k U=l->P c) c q a2 h else Fa (b4 q h)
noncomputable def h4(c:R)(k:p R->Y N):Y N:=oi c k bn
@[elab_as_elim] theorem qN{P:R->Prop}{c:R}{k:p R->Y N}{l:N}(h:h4 c k=j l)(a2:∀e,k e=j l->P (.ah e)):P c:=sy h a2 nofun
theorem Ln{P:Prop}{c:R}{k:p R->N}{U l:N}(h:oi c k U=l)(a2:∀e,c=.ah e->k e=l->P)(Fa:U=l->P):P:=sy (P:=λI=>c=I->P) h (λe h g=>a2 e g h) (λh a=>Fa h) rfl
noncomputable def uI(c:R)(k:p (X×R)->N)(U:N):N:=if h:c.ctorIdx=6 then R.cF.elim c h k else U
@[elab_as_elim] theorem Ag{P:R->Prop}{c:R}{k:p (X×R)->N}{U l:N}(h:uI c k U=l)(a2:∀e,k e=l->P (.cF e))(Fa:U=l->P c):P c:=if q:c.ctorIdx=6 then @R.cF.elim (λc=>uI c k U=l->P c) c q a2 h else Fa (b4 q h)
noncomputable def Lo(c:R)(k:p (X×R)->Y N):Y N:=uI c k bn
@[elab_as_elim] theorem Vi{P:R->Prop}{c:R}{k:p (X×R)->Y N}{l:N}(h:Lo c k=j l)(a2:∀e,k e=j l->P (.cF e)):P c:=Ag h a2 nofun
noncomputable def Em(c:Y R)(k:p (X×R)->Y N):Y N:=b9 c λc=>uI c k bn
theorem Lp{P:Prop}{c:Y R}{k:p (X×R)->Y N}{l:N}(h:Em c k=j l)(a2:∀e,c=j (.cF e)->k e=j l->P):P:=dd h λr g h=>Ag (P:=λr=>c=j r->P) h (λe h g=>a2 e g h) nofun g
noncomputable def En(c:R)(k:p X->N)(U:N):N:=if h:c.ctorIdx=7 then R.set.elim c h k else U
@[elab_as_elim] theorem Vj{P:R->Prop}{c:R}{k:p X->N}{U l:N}(h:En c k U=l)(a2:∀e,k e=l->P (.set e))(Fa:U=l->P c):P c:=if q:c.ctorIdx=7 then @R.set.elim (λc=>En c k U=l->P c) c q a2 h else Fa (b4 q h)
noncomputable def Lq(c:R)(k:p X->Y N):Y N:=En c k bn
@[elab_as_elim] theorem Vk{P:R->Prop}{c:R}{k:p X->Y N}{l:N}(h:Lq c k=j l)(a2:∀e,k e=j l->P (.set e)):P c:=Vj h a2 nofun
noncomputable def Eo(c:R)(k:p X->N)(U:N):N:=if h:c.ctorIdx=8 then R.iA.elim c h k else U
@[elab_as_elim] theorem Vl{P:R->Prop}{c:R}{k:p X->N}{U l:N}(h:Eo c k U=l)(a2:∀e,k e=l->P (.iA e))(Fa:U=l->P c):P c:=if q:c.ctorIdx=8 then @R.iA.elim (λc=>Eo c k U=l->P c) c q a2 h else Fa (b4 q h)
noncomputable def Lr(c:Y R)(k:p X->Y N):Y N:=b9 c λc=>Eo c k bn
theorem Vm{P:Prop}{c:Y R}{k:p X->Y N}{l:N}(h:Lr c k=j l)(a2:∀e,c=j (.iA e)->k e=j l->P):P:=dd h λr g h=>Vl (P:=λr=>c=j r->P) h (λe h g=>a2 e g h) nofun g
noncomputable def oj(c:R)(k:E->N)(U:N):N:=if h:c.ctorIdx=9 then R.am.elim c h k else U
@[elab_as_elim] theorem uJ{P:R->Prop}{c:R}{k:E->N}{U l:N}(h:oj c k U=l)(a2:∀e,k e=l->P (.am e))(Fa:U=l->P c):P c:=if q:c.ctorIdx=9 then @R.am.elim (λc=>oj c k U=l->P c) c q a2 h else Fa (b4 q h)
noncomputable def uK(c:R)(k:E->Y N):Y N:=oj c k bn
@[elab_as_elim] theorem Vn{P:R->Prop}{c:R}{k:E->Y N}{l:N}(h:uK c k=j l)(a2:∀e,k e=j l->P (.am e)):P c:=uJ h a2 nofun
noncomputable def lY(c:Y R)(k:E->Y N):Y N:=b9 c λc=>oj c k bn
theorem pC{P:Prop}{c:Y R}{k:E->Y N}{l:N}(h:lY c k=j l)(a2:∀e,c=j (.am e)->k e=j l->P):P:=dd h λr g h=>uJ (P:=λr=>c=j r->P) h (λe h g=>a2 e g h) nofun g
theorem Vo{c:Y R}{k:E->Y N}{e}(h:c=j (.am e)):lY c k=k e:=h▸rfl
noncomputable def uL(c:R)(k:kt->p (X×R)->N)(U:N):N:=if h:c.ctorIdx=10 then R.inst.elim c h k else U
@[elab_as_elim] theorem Ls{P:R->Prop}{c:R}{k:kt->p (X×R)->N}{U l:N}(h:uL c k U=l)(a2:∀e b,k e b=l->P (.inst e b))(Fa:U=l->P c):P c:=if q:c.ctorIdx=10 then @R.inst.elim (λc=>uL c k U=l->P c) c q a2 h else Fa (b4 q h)
noncomputable def Lu(c:R)(k:kt->p (X×R)->Y N):Y N:=uL c k bn
theorem Vp{P:Prop}{c:R}{k:kt->p (X×R)->N}{U l:N}(h:uL c k U=l)(a2:∀e b,c=.inst e b->k e b=l->P)(Fa:U=l->P):P:=Ls (P:=λI=>c=I->P) h (λe b h g=>a2 e b g h) (λh a=>Fa h) rfl
theorem Vq{c:R}{k:kt->p (X×R)->N}{U:N}{e b}(h:c=.inst e b):uL c k U=k e b:=h▸rfl
noncomputable def Ah(c:R)(k:E->N)(U:N):N:=if h:c.ctorIdx=11 then R.app.elim c h k else U
@[elab_as_elim] theorem Vr{P:R->Prop}{c:R}{k:E->N}{U l:N}(h:Ah c k U=l)(a2:∀e,k e=l->P (.app e))(Fa:U=l->P c):P c:=if q:c.ctorIdx=11 then @R.app.elim (λc=>Ah c k U=l->P c) c q a2 h else Fa (b4 q h)
noncomputable def Ai(c:R)(k:E->kt->N)(U:N):N:=if h:c.ctorIdx=12 then R.fI.elim c h k else U
@[elab_as_elim] theorem Vs{P:R->Prop}{c:R}{k:E->kt->N}{U l:N}(h:Ai c k U=l)(a2:∀e b,k e b=l->P (.fI e b))(Fa:U=l->P c):P c:=if q:c.ctorIdx=12 then @R.fI.elim (λc=>Ai c k U=l->P c) c q a2 h else Fa (b4 q h)
noncomputable def Ep(c:Y R)(k:E->kt->Y N):Y N:=b9 c λc=>Ai c k bn
theorem Lv{P:Prop}{c:Y R}{k:E->kt->Y N}{l:N}(h:Ep c k=j l)(a2:∀e b,c=j (.fI e b)->k e b=j l->P):P:=dd h λr g h=>Vs (P:=λr=>c=j r->P) h (λe b h g=>a2 e b g h) nofun g
noncomputable def Aj(c:R)(k:cd->N)(U:N):N:=if h:c.ctorIdx=13 then R.cg.elim c h k else U
@[elab_as_elim] theorem Vt{P:R->Prop}{c:R}{k:cd->N}{U l:N}(h:Aj c k U=l)(a2:∀e,k e=l->P (.cg e))(Fa:U=l->P c):P c:=if q:c.ctorIdx=13 then @R.cg.elim (λc=>Aj c k U=l->P c) c q a2 h else Fa (b4 q h)
noncomputable def Lw(c:R)(k:cd->Y N):Y N:=Aj c k bn
@[elab_as_elim] theorem Vu{P:R->Prop}{c:R}{k:cd->Y N}{l:N}(h:Lw c k=j l)(a2:∀e,k e=j l->P (.cg e)):P c:=Vt h a2 nofun
noncomputable def Er(c:ca)(k:p R->N)(U:N):N:=if h:c.ctorIdx=0 then ca.list.elim c h k else U
@[elab_as_elim] theorem Vv{P:ca->Prop}{c:ca}{k:p R->N}{U l:N}(h:Er c k U=l)(a2:∀e,k e=l->P (.list e))(Fa:U=l->P c):P c:=if q:c.ctorIdx=0 then @ca.list.elim (λc=>Er c k U=l->P c) c q a2 h else Fa (b4 q h)
noncomputable def k_(c:Y ca)(k:p R->Y N):Y N:=b9 c λc=>Er c k bn
theorem sz{P:Prop}{c:Y ca}{k:p R->Y N}{l:N}(h:k_ c k=j l)(a2:∀e,c=j (.list e)->k e=j l->P):P:=dd h λr g h=>Vv (P:=λr=>c=j r->P) h (λe h g=>a2 e g h) nofun g
theorem w'{c:Y ca}{k:p R->Y N}{e}(h:c=j (.list e)):k_ c k=k e:=h▸rfl
noncomputable def Es(c:ca)(k:kt->p (X×R)->N)(U:N):N:=if h:c.ctorIdx=1 then ca.inst.elim c h k else U
@[elab_as_elim] theorem Vw{P:ca->Prop}{c:ca}{k:kt->p (X×R)->N}{U l:N}(h:Es c k U=l)(a2:∀e b,k e b=l->P (.inst e b))(Fa:U=l->P c):P c:=if q:c.ctorIdx=1 then @ca.inst.elim (λc=>Es c k U=l->P c) c q a2 h else Fa (b4 q h)
noncomputable def w_(c:Y ca)(k:kt->p (X×R)->Y N):Y N:=b9 c λc=>Es c k bn
theorem Et{P:Prop}{c:Y ca}{k:kt->p (X×R)->Y N}{l:N}(h:w_ c k=j l)(a2:∀e b,c=j (.inst e b)->k e b=j l->P):P:=dd h λr g h=>Vw (P:=λr=>c=j r->P) h (λe b h g=>a2 e b g h) nofun g
noncomputable def Eu(c:ca)(k:p X->N)(U:N):N:=if h:c.ctorIdx=2 then ca.set.elim c h k else U
@[elab_as_elim] theorem Vx{P:ca->Prop}{c:ca}{k:p X->N}{U l:N}(h:Eu c k U=l)(a2:∀e,k e=l->P (.set e))(Fa:U=l->P c):P c:=if q:c.ctorIdx=2 then @ca.set.elim (λc=>Eu c k U=l->P c) c q a2 h else Fa (b4 q h)
noncomputable def Lx(c:Y ca)(k:p X->Y N):Y N:=b9 c λc=>Eu c k bn
theorem Vy{P:Prop}{c:Y ca}{k:p X->Y N}{l:N}(h:Lx c k=j l)(a2:∀e,c=j (.set e)->k e=j l->P):P:=dd h λr g h=>Vx (P:=λr=>c=j r->P) h (λe h g=>a2 e g h) nofun g
noncomputable def Ew(c:Y ca)(t:kt)(k:p (X×R)->Y N):Y N:=w_ c λaL s1=>pp (aL==t) (k s1)
theorem Ly{P:Prop}{c:Y ca}{k:p (X×R)->Y N}{l:N}(h:Ew c t k=j l)(a2:∀s1,c=j (.inst t s1)->k s1=j l->P):P:=Et h λa s1 g h=>Gt h λq h=>a2 s1 (eq_of_beq q▸g) h
end
noncomputable def ca.live:ca->ga|.aq _=>G|_=>V
abbrev aX:=kt->Y cE
abbrev h5:=p (kt×kt)
noncomputable abbrev SL(L:bD cd)(z:E):cE:={cls:=.type "list",data:=.seq L z}
noncomputable abbrev d3(L:bD cd)(z:E):cE:={cls:=.type "tuple",data:=.seq L z}
noncomputable abbrev fJ(bd:bD f5)(z:E):cE:={cls:=.type "dict",data:=.dict bd z}
noncomputable abbrev h6(J r:kt):cE:={cls:=.ref J,dict:=j r,data:=.plain}
noncomputable abbrev sA(f:kt)(e:cd):cE:={cls:=.type "method",data:=.fields #[.ref f,e]}
noncomputable abbrev lZ(f:cd)(e:cd):cE:={cls:=.type "builtin_function_or_method",data:=.fields #[f,e]}
set_option genInjectivity false in
set_option genSizeOf false in
structure sw where
 prog:ww
 w:qo
 K:dY
 az:bl
 mg:X->Y cd
 mb:X->Y cd
 tab:kt
 et:kt
 hB:X
noncomputable abbrev sw.P(d:sw):kZ:=d.w.params
noncomputable abbrev sw.M(d:sw):iw:=aE d.prog d.w
def sC(d:sw)(T:cE)(n:p X):Prop:=∀(h:bl) (e:kt),h.get? e=j T->h.SetOf (strKind d.prog d.w) e (λk=>n.contains k) n.length
noncomputable abbrev eV(bd:bD (m0×cd))(WF:E)(u:qq):cE:={cls:=.type "set",dict:=bn,data:=.set bd WF u}
noncomputable def ol:cd->X|.str k _=>k|_=>⟨#[]⟩
def l0(w:qo)(T:cE)(n:p X):Prop:=∃bd WF ak,T=eV bd WF ak/\ak.led=!(w.params.followText "set-order")/\ak.fits bd.size=V/\(bd.size≤1\/ak.plain=G)/\(∀g∈bd.toList,∃k u,g.2=.str k u)/\(bd.toList.map λg=>ol g.2).Perm n/\bd.size≤2
mutual
inductive x0(d:sw)(B:aX):cd->R->Prop|none:x0 d B .none .none|bool (b:ga):x0 d B (.bool b) (.bool b)|int (i:m0) (u:be):x0 d B (.int i u) (.int i)|str (c:X) (u:be):x0 d B (.str c u) (.str c)|tup {e:kt} {L:p cd} {z:E} {n:p R}:B e=j (d3 L.toArray z)->Is d B L n->x0 d B (.ref e) (.tup n)|ah {e:kt} {L:p cd} {z:E} {n:p R}:B e=j (SL L.toArray z)->Is d B L n->x0 d B (.ref e) (.ah n)|cF {e:kt} {bd:p f5} {z:E} {n:p (X×R)}:(e==mL)=G->B e=j (fJ bd.toArray z)->cG d B bd n->x0 d B (.ref e) (.cF n)|set {e:kt} {T:cE} {n:p X}:B e=j T->sC d T n->x0 d B (.ref e) (.set n)|iA {e:kt} {T:cE} {n:p X}:B e=j T->l0 d.w T n->x0 d B (.ref e) (.iA n)|inst {c r J:kt} {bd:p f5} {z:E} {n:p (X×R)}:B c=j (h6 J r)->B r=j (fJ bd.toArray z)->cG d B bd n->x0 d B (.ref c) (.inst J n)|cg (v:cd):x0 d B v (.cg v)
inductive Is(d:sw)(B:aX):p cd->p R->Prop|nil:Is d B [] []|cons {v:cd} {r:R} {L:p cd} {n:p R}:x0 d B v r->Is d B L n->Is d B (v::L) (r::n)
inductive cG(d:sw)(B:aX):p f5->p (X×R)->Prop|nil:cG d B [] []|cons {g:f5} {c:X} {u:be} {r:R} {bd:p f5} {n:p (X×R)}:g.key=.str c u->g.hash=lG d.P c->x0 d B g.val r->cG d B bd n->cG d B (g::bd) ((c,r)::n)
end
inductive wp(d:sw)(B:aX)(ag:h5):cd->R->Prop|aq {v:cd} {r:R}:x0 d B v r->wp d B ag v r|am {i:E} {e m:kt}:ag[i]?=j (e,m)->wp d B ag (.ref e) (.am i)|app {q:kt} {i:E} {e m:kt}:ag[i]?=j (e,m)->B q=j (lZ (.builtin "list.append") (.ref e))->wp d B ag (.ref q) (.app i)|fI {q:kt} {i:E} {e m f:kt}:ag[i]?=j (e,m)->B q=j (sA f (.ref e))->wp d B ag (.ref q) (.fI i f)
inductive cn(d:sw)(B:aX)(ag:h5):p cd->p R->Prop|nil:cn d B ag [] []|cons {v:cd} {r:R} {L:p cd} {n:p R}:wp d B ag v r->cn d B ag L n->cn d B ag (v::L) (r::n)
inductive f9(d:sw)(B:aX)(ag:h5):p f5->p (X×R)->Prop|nil:f9 d B ag [] []|cons {g:f5} {c:X} {u:be} {r:R} {bd:p f5} {n:p (X×R)}:g.key=.str c u->g.hash=lG d.P c->wp d B ag g.val r->f9 d B ag bd n->f9 d B ag (g::bd) ((c,r)::n)
section
variable{d:sw}{B fK:aX}{ag pD:h5}
theorem m7{n bo:p t0}(h:n<+:bo){i:E}{c:t0}(g:n[i]?=j c):bo[i]?=j c:=by obtain⟨l,rfl⟩:=h;rw[JO (rY.mp g).1];exact g
def Lz(d:sw)(B:aX)(v:cd):R->Prop|.none=>v=.none|.bool b=>v=.bool b|.int i=>∃u,v=.int i u|.str c=>∃u,v=.str c u|.tup n=>∃e L z,v=.ref e/\B e=j (d3 L.toArray z)/\Is d B L n|.ah n=>∃e L z,v=.ref e/\B e=j (SL L.toArray z)/\Is d B L n|.cF n=>∃e bd z,v=.ref e/\(e==mL)=G/\B e=j (fJ bd.toArray z)/\cG d B bd n|.set n=>∃e T,v=.ref e/\B e=j T/\sC d T n|.iA n=>∃e T,v=.ref e/\B e=j T/\l0 d.w T n|.am _=>gG|.inst J n=>∃c r bd z,v=.ref c/\B c=j (h6 J r)/\B r=j (fJ bd.toArray z)/\cG d B bd n|.app _=>gG|.fI _ _=>gG|.cg g2=>v=g2
theorem x0.i{r:R}(h:x0 d B v r):Lz d B v r:=h.casesOn (motive_1:=λv r a=>Lz d B v r) rfl (λa=>rfl) (λa u=>⟨u,rfl⟩) (λa u=>⟨u,rfl⟩) (λh l=>⟨_,_,_,rfl,h,l⟩) (λh l=>⟨_,_,_,rfl,h,l⟩) (λs h l=>⟨_,_,_,rfl,s,h,l⟩) (λh l=>⟨_,_,rfl,h,l⟩) (λh l=>⟨_,_,rfl,h,l⟩) (λh eg l=>⟨_,_,_,_,rfl,h,eg,l⟩) λa=>rfl
def LA(d:sw)(B:aX)(L:p cd):p R->Prop|[]=>L=[]|r::n=>∃v b7,L=v::b7/\x0 d B v r/\Is d B b7 n
theorem Is.i{n:p R}(h:Is d B L n):LA d B L n:=h.casesOn (motive_2:=λL n a=>LA d B L n) rfl λh l=>⟨_,_,rfl,h,l⟩
def Ex(d:sw)(B:aX)(ag:h5)(v:cd):R->Prop|.am i=>∃e m,v=.ref e/\ag[i]?=j (e,m)|.app i=>∃q e m,v=.ref q/\ag[i]?=j (e,m)/\B q=j (lZ (.builtin "list.append") (.ref e))|.fI i f=>∃q e m,v=.ref q/\ag[i]?=j (e,m)/\B q=j (sA f (.ref e))|r=>x0 d B v r
theorem wp.i{r:R}(h:wp d B ag v r):Ex d B ag v r:=h.casesOn (motive:=λv r a=>Ex d B ag v r) (λh=>h.casesOn (motive_1:=λv r a=>Ex d B ag v r) .none .bool .int .str .tup .ah .cF .set .iA .inst .cg) (λh=>⟨_,_,rfl,h⟩) (λh eg=>⟨_,_,_,rfl,h,eg⟩) λh eg=>⟨_,_,_,rfl,h,eg⟩
def Vz(d:sw)(B:aX)(ag:h5)(L:p cd):p R->Prop|[]=>L=[]|r::n=>∃v b7,L=v::b7/\wp d B ag v r/\cn d B ag b7 n
theorem cn.i{n:p R}(h:cn d B ag L n):Vz d B ag L n:=h.casesOn rfl λh l=>⟨_,_,rfl,h,l⟩
@[elab_as_elim] theorem Is.ind{P:p cd->p R->Prop}{n:p R}(h:Is d B L n)(Ey:P [] [])(a2:∀{v r L n},x0 d B v r->Is d B L n->P L n->P (v::L) (r::n)):P L n:=Is.rec (motive_1:=λa a a=>g6) (motive_2:=λL n a=>P L n) (motive_3:=λa a a=>g6) ⟨⟩ (λa=>⟨⟩) (λa a=>⟨⟩) (λa a=>⟨⟩) (λa a a=>⟨⟩) (λa a a=>⟨⟩) (λa a a a=>⟨⟩) (λa a=>⟨⟩) (λa a=>⟨⟩) (λa a a a=>⟨⟩) (λa=>⟨⟩) Ey (λh l a ih=>a2 h l ih) ⟨⟩ (λa a a a a a=>⟨⟩) h
@[elab_as_elim] theorem cG.ind{P:p f5->p (X×R)->Prop}{n:p (X×R)}(h:cG d B bd n)(Ey:P [] [])(a2:∀{g c u r bd n},g.key=.str c u->g.hash=lG d.P c->x0 d B g.val r->cG d B bd n->P bd n->P (g::bd) ((c,r)::n)):P bd n:=cG.rec (motive_1:=λa a a=>g6) (motive_2:=λa a a=>g6) (motive_3:=λbd n a=>P bd n) ⟨⟩ (λa=>⟨⟩) (λa a=>⟨⟩) (λa a=>⟨⟩) (λa a a=>⟨⟩) (λa a a=>⟨⟩) (λa a a a=>⟨⟩) (λa a=>⟨⟩) (λa a=>⟨⟩) (λa a a a=>⟨⟩) (λa=>⟨⟩) ⟨⟩ (λa a a a=>⟨⟩) Ey (λk h v l a ih=>a2 k h v l ih) h
theorem x0.all(AT:∀e T,B e=j T->fK e=j T){r:R}(h:x0 d B v r):x0 d fK v r:=x0.rec (motive_1:=λv r a=>x0 d fK v r) (motive_2:=λL n a=>Is d fK L n) (motive_3:=λbd n a=>cG d fK bd n) .none .bool .int .str (λh a l=>.tup (AT _ _ h) l) (λh a l=>.ah (AT _ _ h) l) (λs h a l=>.cF s (AT _ _ h) l) (λh l=>.set (AT _ _ h) l) (λh l=>.iA (AT _ _ h) l) (λh eg a l=>.inst (AT _ _ h) (AT _ _ eg) l) .cg .nil (λa a h l=>.cons h l) .nil (λk h a a v l=>.cons k h v l) h
theorem x0.mono(AT:∀e T,B e=j T->fK e=j T){r:R}(h:x0 d B v r):x0 d fK v r:=h.all AT
theorem Is.mono(AT:∀e T,B e=j T->fK e=j T){n:p R}(h:Is d B L n):Is d fK L n:=h.ind .nil λh a ih=>.cons (h.all AT) ih
theorem cG.mono(AT:∀e T,B e=j T->fK e=j T){n:p (X×R)}(h:cG d B bd n):cG d fK bd n:=h.ind .nil λk h v a ih=>.cons k h (v.all AT) ih
theorem wp.mono(AT:∀e T,B e=j T->fK e=j T)(bf:ag<+:pD){r:R}(l:wp d B ag v r):wp d fK pD v r:=l.casesOn (λh=>.aq (h.all AT)) (λh=>.am (m7 bf h)) (λh eg=>.app (m7 bf h) (AT _ _ eg)) λh eg=>.fI (m7 bf h) (AT _ _ eg)
theorem cn.mono(AT:∀e T,B e=j T->fK e=j T)(bf:ag<+:pD){n:p R}(l:cn d B ag L n):cn d fK pD L n:=l.rec .nil λh a ih=>.cons (h.mono AT bf) ih
theorem f9.mono(AT:∀e T,B e=j T->fK e=j T)(bf:ag<+:pD){n:p (X×R)}(l:f9 d B ag bd n):f9 d fK pD bd n:=l.rec .nil λk h v a ih=>.cons k h (v.mono AT bf) ih
theorem cG.xa{n:p (X×R)}(h:cG d B bd n):f9 d B ag bd n:=h.ind .nil λk h v a ih=>.cons k h (.aq v) ih
theorem Is.xa{n:p R}(h:Is d B L n):cn d B ag L n:=h.ind .nil λh a ih=>.cons (.aq h) ih
theorem cn.length{n:p R}(l:cn d B ag L n):L.length=n.length:=l.rec rfl λa a ih=>GT zy ih
theorem Is.length{n:p R}(h:Is d B L n):L.length=n.length:=h.ind rfl λa a ih=>GT zy ih
theorem Is.get{n:p R}(h:Is d B L n):∀{i:E} {r:R},n[i]?=j r->∃v,L[i]?=j v/\x0 d B v r:=h.ind (P:=λL n=>∀{i:E} {r:R},n[i]?=j r->∃v,L[i]?=j v/\x0 d B v r) nofun λ{v g L n} h a ih i r=>i.casesOn (motive:=λi=>(g::n)[i]?=j r->∃g2,(v::L)[i]?=j g2/\x0 d B g2 r) (λg=>⟨v,rfl,aO g▸h⟩) λa=>ih
theorem Is.append{b7:p cd}{n k:p R}(h:Is d B L n)(q:Is d B b7 k):Is d B (L++b7) (n++k):=h.ind (P:=λL n=>Is d B (L++b7) (n++k)) q λh a ih=>.cons h ih
theorem Is.take{n:p R}(h:Is d B L n):∀z,Is d B (L.take z) (n.take z):=h.ind (P:=λL n=>∀z,Is d B (L.take z) (n.take z)) (λz=>by rw[aeU,aeU];exact .nil) λh a ih z=>z.casesOn .nil λz=>.cons h (ih z)
theorem Is.one{r:R}(h:x0 d B v r):Is d B [v] [r]:=.cons h .nil
theorem Is.two{r g:R}(h:x0 d B v r)(eg:x0 d B g2 g):Is d B [v,g2] [r,g]:=.cons h (.one eg)
end
set_option genInjectivity false in
set_option genSizeOf false in
structure nb where
 ag:h5
 o:p ca
 B:aX
 s:nl
 N:kt->Y E
 ak:ga
noncomputable def cH:h5->p ca->p kt|x::ag,t::o=>if t.live then x.2::cH ag o else cH ag o|_,_=>[]
noncomputable def nb.aH(W:nb):p kt:=cH W.ag W.o
noncomputable abbrev nb.h(W:nb):bl:=W.s.heap
structure sw.ab(d:sw):Prop where
 K:d.K.In d.az
 fs:d.az.Ns k0 d.mg
 j4:d.az.Ns C9 d.mb
 nolimit:d.az.NoLimit
 builtins:∀c:X,c≠"__name__"->d.mb c=mM c
 tab:d.az.get? d.tab=bn
def om(d:sw)(W:nb)(x:kt×kt):ca->Prop|.list n=>x.1=x.2/\∃L z,W.h.get? x.2=j (SL L.toArray z)/\Is d W.B L n|.inst J s1=>W.B x.1=j (h6 J x.2)/\∃bd z,W.h.get? x.2=j (fJ bd.toArray z)/\f9 d W.B W.ag bd s1|.set n=>x.1=x.2/\∃T,W.h.get? x.2=j T/\sC d T n|.aq r=>x0 d W.B (.ref x.1) r
def uM(d:sw)(h:bl)(B:aX):Prop:=∃he:bD cd,h.get? d.tab=j {cls:=.none,data:=.fields he}/\SQ he.toList/\∀h0 ax,zz h0 he.toList=j ax->∃aL ft L u,ax=.ref aL/\B aL=j ft/\ft.data=.fields L/\L[1]?=j (.str d.hB u)
theorem uM.keep{d:sw}{h:bl}{B fK:aX}(u:uM d h B)(k:∀T,h.get? d.tab=j T->eg.get? d.tab=j T)(VA:∀e T,B e=j T->fK e=j T):uM d eg fK:=by obtain⟨he,h1,ex,h3⟩:=u;refine⟨he,k _ h1,ex,λh0 ax g=>?_⟩;obtain⟨aL,ft,L,u,SZ,bu,l⟩:=h3 h0 ax g;exact⟨aL,ft,L,u,SZ,VA _ _ bu,l⟩
def Ak(N:kt->Y E)(s:nl):Prop:=(∀e i,N e=j i->i<s.gens.size/\e<s.heap.objs.size)/\∀e b i,N e=j i->N b=j i->e=b
structure VB(sK:p kt)(W y:nb):Prop where
 old:∀e i,W.N e=j i->y.N e=j i
 new:∀e i,y.N e=j i->W.N e=j i\/W.s.gens.size≤i
 keep:∀i c,W.s.gens[i]?=j c->(∀e∈sK,y.N e≠j i)->y.s.gens[i]?=j c
 size:W.s.gens.size≤y.s.gens.size
 ak:y.ak=W.ak
structure nb.ab(d:sw)(W:nb):Prop where
 base:∀e T,d.az.get? e=j T->W.B e=j T
 bw:∀e T,W.B e=j T->W.h.get? e=j T
 len:W.ag.length=W.o.length
 cells:∀(i:E) (t:ca),W.o[i]?=j t->∃x,W.ag[i]?=j x/\om d W x t
 apart:W.aH.Nodup
 off:∀e∈W.aH,W.B e=bn/\e≠d.tab
 iZ:W.B d.tab=bn
 jv:∃T,W.B d.et=j T
 fL:d.tab<W.h.objs.size/\(W.ak=V->uM d W.h W.B)
 bare:rZ W.s.gens
 toks:0<W.s.toks
 gen:Ak W.N W.s
structure kw(d:sw)(sK:p kt)(W y:nb):Prop where
 size:W.h.objs.size≤y.h.objs.size
 keep:∀e T,W.h.get? e=j T->e∉W.aH->e∉sK->(W.ak=V->e≠d.tab)->y.h.get? e=j T
 aH:∀e∈y.aH,e∈W.aH\/W.h.objs.size≤e
 B:∀e T,W.B e=j T->y.B e=j T
 eW:∀e T,y.B e=j T->W.B e=j T\/e∈W.aH\/W.h.objs.size≤e
 ag:W.ag<+:y.ag
 gens:VB sK W y
 os:y.s.os=W.s.os
 toks:W.s.toks≤y.s.toks
section
variable{d:sw}{sK:p kt}{W y uN:nb}
theorem kw.refl:kw d sK W W:=⟨Da _,λa a g a a a=>g,λa h=>.inl h,λa a g=>g,λa a g=>.inl g,lI _,⟨λa a g=>g,λa a g=>.inl g,λa a g a=>g,Da _,rfl⟩,rfl,Da _⟩
theorem kw.trans(h:kw d sK W y)(k:kw d sK y uN):kw d sK W uN where
 size:=aJ h.size k.size
 keep:=λe T g pc Tk ty=>k.keep e T (h.keep e T g pc Tk ty) (λq=>(h.aH e q).elim pc λq=>aB (b1 g) (dJ.mpr q)) Tk (λU=>ty (h.gens.ak▸U))
 aH:=λe q=>(k.aH e q).elim (λq=>h.aH e q) λq=>.inr (aJ h.size q)
 B:=λe T g=>k.B e T (h.B e T g)
 eW:=λe T g=>(k.eW e T g).elim (λq=>h.eW e T q) λq=>q.elim (λq=>.inr (h.aH e q)) λq=>.inr (.inr (aJ h.size q))
 ag:=h.ag.trans k.ag
 gens:=⟨λe i g=>k.gens.old e i (h.gens.old e i g),λe i g=>(k.gens.new e i g).elim (λg=>h.gens.new e i g) λg=>.inr (aJ h.gens.size g),λi c g Tk=>k.gens.keep i c (h.gens.keep i c g λe db q=>Tk e db (k.gens.old e i q)) Tk,aJ h.gens.size k.gens.size,k.gens.ak.trans h.gens.ak⟩
 os:=k.os.trans h.os
 toks:=aJ h.toks k.toks
theorem kw.weak{cf:p kt}(h:kw d sK W y)(LB:∀e∈sK,e∈cf):kw d cf W y:=⟨h.size,λe T g pc Tk ty=>h.keep e T g pc (λq=>Tk (LB e q)) ty,h.aH,h.B,h.eW,h.ag,⟨h.gens.old,h.gens.new,λi c g Tk=>h.gens.keep i c g λe db=>Tk e (LB e db),h.gens.size,h.gens.ak⟩,h.os,h.toks⟩
theorem kw.i0{cf:p kt}(h:kw d [] W y):kw d cf W y:=h.weak λa q=>nomatch q
theorem kw.ay(h:kw d sK W y){r:R}(l:wp d W.B W.ag v r):wp d y.B y.ag v r:=l.mono h.B h.ag
theorem kw.VC(h:kw d sK W y){v:p cd}{r:p R}(l:cn d W.B W.ag v r):cn d y.B y.ag v r:=l.mono h.B h.ag
theorem kw.bZ(h:kw d sK W y){r:R}(l:x0 d W.B v r):x0 d y.B v r:=l.mono h.B
theorem kw.oo(h:kw d sK W y){v:p cd}{r:p R}(l:Is d W.B v r):Is d y.B v r:=l.mono h.B
theorem kw.then'(Z:W.ab d)(h:kw d sK W y)(k:kw d lv y uN)(bg:∀e∈lv,e∈sK\/W.h.objs.size≤e):kw d sK W uN where
 size:=aJ h.size k.size
 keep:=λe T g pc Tk ty=>k.keep e T (h.keep e T g pc Tk ty) (λq=>(h.aH e q).elim pc λq=>aB (b1 g) (dJ.mpr q)) (λq=>(bg e q).elim Tk λq=>aB (b1 g) (dJ.mpr q)) (λU=>ty (h.gens.ak▸U))
 aH:=λe q=>(k.aH e q).elim (λq=>h.aH e q) λq=>.inr (aJ h.size q)
 B:=λe T g=>k.B e T (h.B e T g)
 eW:=λe T g=>(k.eW e T g).elim (λq=>h.eW e T q) λq=>q.elim (λq=>.inr (h.aH e q)) λq=>.inr (.inr (aJ h.size q))
 ag:=h.ag.trans k.ag
 gens:=⟨λe i g=>k.gens.old e i (h.gens.old e i g),λe i g=>(k.gens.new e i g).elim (λg=>h.gens.new e i g) λg=>.inr (aJ h.gens.size g),
  λi c g Tk=>k.gens.keep i c (h.gens.keep i c g λe db q=>Tk e db (k.gens.old e i q)) (λe db q=>(bg e db).elim (λU=>Tk e U q) λU=>by
   have lt:=(t6.mp g).1
   rcases k.gens.new e i q with q|q
   ·rcases h.gens.new e i q with q|q
    ·exact aB (Z.gen.1 e i q).2 (dJ.mpr U)
    ·exact aB lt (dJ.mpr q)
   ·exact aB lt (dJ.mpr (aJ h.gens.size q))),aJ h.gens.size k.gens.size,k.gens.ak.trans h.gens.ak⟩
 os:=k.os.trans h.os
 toks:=aJ h.toks k.toks
end
end
variable{n g3 cK bQ:p R}
variable{r aR:R}
variable{fK:aX}
variable{ag:h5}
variable{W y un:nb}
variable{o wE al f2 eu ew:p ca}
variable{s1:p (X×R)}
variable{xL:p R->Y R}
abbrev hf:=p (X×R)
structure Mv(lv:p kt)(s it:nl):Prop where
 size:s.heap.objs.size≤it.heap.objs.size
 keep:∀e T,s.heap.get? e=j T->e∉lv->it.heap.get? e=j T
 gens:∀(i:E) (c:C'),s.gens[i]?=j c->it.gens[i]?=j c
 os:it.os=s.os
 toks:s.toks≤it.toks
section
variable{gs:p kt}{eG:nl}
theorem Mv.trans(h:Mv lv s it)(k:Mv lv it eG):Mv lv s eG:=⟨aJ h.size k.size,λe T g q=>k.keep e T (h.keep e T g q) q,λi c g=>k.gens i c (h.gens i c g),k.os.trans h.os,aJ h.toks k.toks⟩
theorem Mv.weak(h:Mv lv s it)(q:∀e∈lv,e∈gs):Mv gs s it:=⟨h.size,λe T g U=>h.keep e T g λI=>U (q e I),h.gens,h.os,h.toks⟩
theorem Mv.ao{u:E}(h:s.toks≤u):Mv lv s {s with toks:=u}:=⟨Da _,λa a g a=>g,λa a g=>g,rfl,h⟩
theorem Mv.push(T:cE):Mv lv s {s with heap:=s.heap.push T}:=⟨by rw[f6];left,λa a g a=>cP _ g,λa a g=>g,rfl,Da _⟩
theorem Mv.same(fd:lJ e s.heap eg):Mv [e] s {s with heap:=eg}:=⟨by rw[show({s with heap:=eg}:nl).heap=eg from rfl,fd.1];exact Da _,λb T g q=>(fd.2 b λU=>q (U▸.head _)).trans g,λa a g=>g,rfl,Da _⟩
theorem Mv.sD{u:E}(fd:lJ e s.heap eg)(ty:s.toks≤u):Mv [e] s {s with heap:=eg,toks:=u}:=⟨by rw[show({s with heap:=eg,toks:=u}:nl).heap=eg from rfl,fd.1];exact Da _,λb T g q=>(fd.2 b λU=>q (U▸.head _)).trans g,λa a g=>g,rfl,ty⟩
end
noncomputable def nb.to(W:nb)(s:nl):nb:={W with s:=s}
theorem j5:∀{ag:h5} {o:p ca} {i:E} {x:kt×kt} {t:ca},ag[i]?=j x->o[i]?=j t->t.live=V->x.2∈cH ag o|[],_,_,_,_,h,_,_=>by simp at h|_::_,[],_,_,_,_,h,_=>by simp at h|q::ag,r::o,i,x,t,h,k,n=>by cases i with|zero=>simp at h k;subst h k;simp[cH,n]|succ i=>have:=j5 (ag:=ag) (o:=o) (i:=i) (by simpa using h) (by simpa using k) n;unfold cH;split<;>simp[this]
theorem Ez:∀{ag:h5} {o:p ca} {e:kt},e∈cH ag o->∃(i:E) (x:kt×kt) (t:ca),ag[i]?=j x/\o[i]?=j t/\t.live=V/\x.2=e
 |[],_,_,h=>by simp[cH]at h
 |_::_,[],_,h=>by simp[cH]at h
 |q::ag,r::o,e,h=>by
  unfold cH at h;split at h
  ·rename_i n;rcases cq.mp h with rfl|h
   ·exact⟨0,q,r,rfl,rfl,n,rfl⟩
   ·obtain⟨i,x,t,h1,ex,h3,aS⟩:=Ez h;exact⟨i+1,x,t,by simpa using h1,by simpa using ex,h3,aS⟩
  ·obtain⟨i,x,t,h1,ex,h3,aS⟩:=Ez h;exact⟨i+1,x,t,by simpa using h1,by simpa using ex,h3,aS⟩
theorem LC:∀{ag:h5} {o:p ca} {i ev:E} {x q:kt×kt} {t r:ca},(cH ag o).Nodup->ag[i]?=j x->o[i]?=j t->t.live=V->ag[ev]?=j q->o[ev]?=j r->r.live=V->x.2=q.2->i=ev
 |[],_,_,_,_,_,_,_,_,h,_,_,_,_,_,_=>by simp at h
 |_::_,[],_,_,_,_,_,_,_,_,h,_,_,_,_,_=>by simp at h
 |l::ag,g::o,i,ev,x,q,t,r,If,h1,ex,h3,hC,eX,la,a1=>by
  unfold cH at If;cases i with
  |zero=>simp at h1 ex;subst h1 ex;rw[tt h3]at If;cases ev with|zero=>rfl|succ ev=>exact aB (a1▸j5 (by simpa using hC) (by simpa using eX) la) (ix.mp If).1
  |succ i=>
   cases ev with
   |zero=>simp at hC eX;subst hC eX;rw[tt la]at If;exact aB (a1.symm▸j5 (by simpa using h1) (by simpa using ex) h3) (ix.mp If).1
   |succ ev=>
    have VD:(cH ag o).Nodup:=by
     split at If;·exact(ix.mp If).2
     ·exact If
    exact GT (·+1) (LC (ag:=ag) (o:=o) (i:=i) (ev:=ev) VD (by simpa using h1) (by simpa using ex) h3 (by simpa using hC) (by simpa using eX) la a1)
section
variable{d:sw}{sK:p kt}
theorem nb.ab.exists(Z:W.ab d)(h:e∈W.aH):∃T,W.h.get? e=j T:=by obtain⟨i,x,t,h1,ex,h3,rfl⟩:=Ez h;obtain⟨d',ln,q⟩:=Z.cells i t ex;rw[h1]at ln;cases ln;cases t with|list n=>obtain⟨_,L,z,g,_⟩:=q;exact⟨_,g⟩|inst J s1=>obtain⟨_,bd,z,g,_⟩:=q;exact⟨_,g⟩|set n=>obtain⟨_,T,g,_⟩:=q;exact⟨_,g⟩|aq r=>cases h3
theorem nb.ab.LD(Z:W.ab d)(h:e∈W.aH):e<W.h.objs.size:=let⟨_,g⟩:=Z.exists h;b1 g
theorem nb.ab.fresh(Z:W.ab d)(h:W.h.objs.size≤e):W.B e=bn/\e∉W.aH/\e≠d.tab:=by
 refine⟨?_,λq=>aB (Z.LD q) (dJ.mpr h),?_⟩;·cases g:W.B e with|none=>rfl|some T=>exact aB (b1 (Z.bw e T g)) (dJ.mpr h)
 ·rintro rfl;exact aB Z.fL.1 (dJ.mpr h)
theorem qO{x:kt×kt}{t:ca}(AT:∀e T,W.B e=j T->y.B e=j T)(bf:W.ag<+:y.ag)(t1:t.live=V->∀T,W.h.get? x.2=j T->y.h.get? x.2=j T)(q:om d W x t):om d y x t:=by cases t with|list n=>obtain⟨g,L,z,h,l⟩:=q;exact⟨g,L,z,t1 rfl _ h,l.mono AT⟩|inst J s1=>obtain⟨g,bd,z,h,l⟩:=q;exact⟨AT _ _ g,bd,z,t1 rfl _ h,l.mono AT bf⟩|set n=>obtain⟨g,T,h,l⟩:=q;exact⟨g,T,t1 rfl _ h,l⟩|aq r=>exact x0.mono AT q
theorem Mv.EA(m:Mv lv s it):s.gens.size≤it.gens.size:=by
 cases h:s.gens.size with
 |zero=>exact e6 _
 |succ z=>
  have pi:z<s.gens.size:=by rw[h];exact gp z
  exact(t6.mp (m.gens z _ (mN pi))).1
theorem Ak.av{N:kt->Y E}(k:Ak N s)(m:Mv lv s it):Ak N it:=⟨λe i g=>⟨by have h:=(k.1 e i g).1;have:=m.gens i s.gens[i] (mN h);exact(t6.mp this).1,hs (k.1 e i g).2 m.size⟩,k.2⟩
theorem nb.ab.av(Z:W.ab d)(m:Mv lv W.s it)(bg:∀e∈lv,W.B e=bn/\e∉W.aH/\e≠d.tab)(cr:rZ it.gens):(W.to it).ab d where
 base:=Z.base
 bw:=λe T g=>m.keep e T (Z.bw e T g) λq=>by have aT:W.B e=j T:=g;rw[(bg e q).1]at aT;cases aT
 len:=Z.len
 cells:=λi t g=>by
  obtain⟨x,ln,q⟩:=Z.cells i t g
  exact⟨x,ln,qO (W:=W) (y:=W.to it) (λa a g=>g) (lI _) (λn T h=>m.keep _ T h λU=>(bg _ U).2.1 (j5 ln g n)) q⟩
 apart:=Z.apart
 off:=Z.off
 iZ:=Z.iZ
 jv:=Z.jv
 fL:=⟨hs Z.fL.1 m.size,λh=>(Z.fL.2 h).keep (λT g=>m.keep _ _ g λU=>(bg _ U).2.2 rfl) λa a g=>g⟩
 bare:=cr
 gen:=Z.gen.av m
 toks:=hs Z.toks m.toks
theorem kw.av(n:kw d sK un W)(m:Mv lv W.s it)(bg:∀e∈lv,e∈sK\/un.h.objs.size≤e):kw d sK un (W.to it) where
 size:=aJ n.size m.size
 keep:=λe T g pc Tk ty=>m.keep e T (n.keep e T g pc Tk ty) λq=>(bg e q).elim Tk λU=>aB (b1 g) (dJ.mpr U)
 aH:=n.aH
 B:=n.B
 eW:=n.eW
 ag:=n.ag
 gens:=⟨n.gens.old,n.gens.new,λi c g Tk=>m.gens i c (n.gens.keep i c g Tk),aJ n.gens.size m.EA,n.gens.ak⟩
 os:=m.os.trans n.os
 toks:=aJ n.toks m.toks
end
variable{f1 o0 bk bx e':hf}
variable{jh:hf->p ca->Y (ga×p ca)}
noncomputable def nb.aq(W:nb)(e:kt)(T:cE):nb:={W with B:=λc=>if c=e then j T else W.B c}
noncomputable def nb.cell(W:nb)(x:kt×kt)(t:ca):nb:={W with ag:=W.ag++[x],o:=W.o++[t]}
noncomputable def nb.put(W:nb)(i:E)(t:ca):nb:={W with o:=W.o.set i t}
section
variable{d:sw}{sK:p kt}
@[simp] theorem nb.VE(e T):(W.aq e T).s=W.s:=rfl
theorem nb.hD(e:kt)(T:cE):(W.aq e T).B e=j T:=tt rfl
theorem nb.g_(h:W.B e=bn\/W.B e=j T):∀b x,W.B b=j x->(W.aq e T).B b=j x:=by
 intro b x g;show(if b=e then j T else W.B b)=_;by_cases q:b=e
 ·subst q;rw[tt rfl];rcases h with h|h
  ·rw[h]at g;cases g
  ·rw[h]at g;exact g
 ·rw[ss q];exact g
theorem nb.ab.aq(Z:W.ab d)(gt:W.h.get? e=j T)(pc:e∉W.aH)(ty:e≠d.tab):(W.aq e T).ab d:=by
 have AT:W.B e=bn\/W.B e=j T:=by cases g:W.B e with|none=>exact .inl rfl|some x=>have:=Z.bw e x g;rw[gt]at this;exact .inr this.symm
 refine⟨λb x g=>nb.g_ AT b x (Z.base b x g),λb x g=>?_,Z.len,λi t g=>?_,Z.apart,λb cr=>⟨?_,(Z.off b cr).2⟩,?_,?_,⟨Z.fL.1,λh=>(Z.fL.2 h).keep (λa g=>g) (nb.g_ AT)⟩,Z.bare,Z.toks,Z.gen⟩
 ·have aT:(if b=e then j T else W.B b)=j x:=g;by_cases q:b=e;·subst q;rw[tt rfl]at aT;cases aT;exact gt
  ·rw[ss q]at aT;exact Z.bw b x aT
 ·obtain⟨x,ln,q⟩:=Z.cells i t g;exact⟨x,ln,qO (W:=W) (y:=W.aq e T) (nb.g_ AT) (lI _) (λa a h=>h) q⟩
 ·show(if b=e then j T else W.B b)=bn;have aC:b≠e:=λq=>pc (q▸cr);rw[ss aC];exact(Z.off b cr).1
 ·show(if d.tab=e then j T else W.B d.tab)=bn;rw[ss (Ne.symm ty)];exact Z.iZ
 ·obtain⟨x,q⟩:=Z.jv;exact⟨x,nb.g_ AT _ _ q⟩
theorem kw.aq(n:kw d sK un W)(AT:W.B e=bn\/W.B e=j T)(db:un.h.objs.size≤e):kw d sK un (W.aq e T) where
 size:=n.size
 keep:=n.keep
 aH:=n.aH
 B:=λb x g=>nb.g_ AT b x (n.B b x g)
 eW:=λb x g=>by
  have aT:(if b=e then j T else W.B b)=j x:=g
  by_cases q:b=e
  ·subst q;exact .inr (.inr db)
  ·rw[ss q]at aT;exact n.eW b x aT
 ag:=n.ag
 gens:=⟨n.gens.old,n.gens.new,n.gens.keep,n.gens.size,n.gens.ak⟩
 os:=n.os
 toks:=n.toks
noncomputable def nb.new(W:nb)(T:cE):nb:=(W.to {W.s with heap:=W.h.push T}).aq W.h.objs.size T
theorem nb.ab.new(Z:W.ab d)(wn:T.isFreed=G):(W.new T).ab d:=by have f:=Z.fresh (Da W.h.objs.size);exact(Z.av (Mv.push (lv:=[]) T) (cR) Z.bare).aq (dK _ wn) f.2.1 f.2.2
theorem kw.new(n:kw d sK un W)(Z:W.ab d)(T:cE):kw d sK un (W.new T):=(n.av (Mv.push (lv:=[]) T) (cR)).aq (.inl (Z.fresh (Da W.h.objs.size)).1) n.size
theorem nb.uO(T:cE):(W.new T).B W.h.objs.size=j T:=nb.hD ..
theorem nb.ab.ao(Z:W.ab d){u:E}(h:W.s.toks≤u):(W.to {W.s with toks:=u}).ab d:=Z.av (Mv.ao (lv:=[]) h) (cR) Z.bare
theorem kw.ao(n:kw d sK un W){u:E}(h:W.s.toks≤u):kw d sK un (W.to {W.s with toks:=u}):=n.av (Mv.ao (lv:=[]) h) (cR)
theorem nb.ab.push(Z:W.ab d)(T:cE):(W.to {W.s with heap:=W.h.push T}).ab d:=Z.av (Mv.push (lv:=[]) T) (cR) Z.bare
theorem kw.push(n:kw d sK un W)(T:cE):kw d sK un (W.to {W.s with heap:=W.h.push T}):=n.av (Mv.push (lv:=[]) T) (cR)
theorem EB:∀{ag:h5} {o:p ca} (x:kt×kt) (t:ca),ag.length=o.length->cH (ag++[x]) (o++[t])=cH ag o++(if t.live then[x.2]else[])|[],[],x,t,_=>by simp only[wx,cH]|[],_::_,_,_,h=>by simp at h|_::_,[],_,_,h=>by simp at h|q::ag,r::o,x,t,h=>by have ih:=EB (ag:=ag) (o:=o) x t (by simpa using h);simp only[jW,cH,ih];split<;>simp
theorem nb.ab.cell(Z:W.ab d){x:kt×kt}{t:ca}(f0:om d (W.cell x t) x t)(pc:t.live=V->x.2∉W.aH/\W.B x.2=bn/\x.2≠d.tab):(W.cell x t).ab d:=by
 have hE:(W.cell x t).aH=W.aH++(if t.live then[x.2]else[]):=EB x t Z.len;refine⟨Z.base,Z.bw,by show(W.ag++[x]).length=(W.o++[t]).length;simp[Z.len],λi r g=>?_,?_,λe db=>?_,Z.iZ,Z.jv,Z.fL,Z.bare,Z.toks,Z.gen⟩
 ·have aT:(W.o++[t])[i]?=j r:=g;by_cases q:i<W.o.length;·rw[JO q]at aT;obtain⟨l,nw,U⟩:=Z.cells i r aT;exact⟨l,m7 (SR ..) nw,qO (W:=W) (y:=W.cell x t) (λa a g=>g) (SR ..) (λa a h=>h) U⟩
  ·have VF:i=W.o.length:=by have:=(rY.mp aT).1;simp at this;left
   subst VF;simp at aT;subst aT;refine⟨x,?_,f0⟩;show(W.ag++[x])[W.o.length]?=j x;rw[<- Z.len];simp
 ·rw[hE];split;·rename_i n;exact SS.mpr ⟨Z.apart,by simp,λe db b cr=>by rintro rfl;simp at cr;subst cr;exact(pc n).1 db⟩
  ·simpa using Z.apart
 ·rw[hE]at db;rcases gq.mp db with h|h
  ·exact Z.off e h
  ·split at h;·rename_i n;simp at h;subst h;exact(pc n).2
   ·cases h
theorem kw.cell(n:kw d sK un W)(Z:W.ab d){x:kt×kt}{t:ca}(db:un.h.objs.size≤x.2):kw d sK un (W.cell x t) where
 size:=n.size
 keep:=n.keep
 aH:=λe h=>by
  have hE:(W.cell x t).aH=W.aH++(if t.live then[x.2]else[]):=EB x t Z.len
  rw[hE]at h
  rcases gq.mp h with h|h
  ·exact n.aH e h
  ·split at h
   ·simp at h;subst h;exact .inr db
   ·cases h
 B:=n.B
 eW:=n.eW
 ag:=n.ag.trans (SR ..)
 gens:=⟨n.gens.old,n.gens.new,n.gens.keep,n.gens.size,n.gens.ak⟩
 os:=n.os
 toks:=n.toks
theorem EC:∀{ag:h5} {o:p ca} {i:E} {t:ca},o[i]?.map ca.live=j t.live->cH ag (o.set i t)=cH ag o|[],_,_,_,_=>by simp[cH]|_::_,[],_,_,_=>by simp|q::ag,r::o,0,t,h=>by simp at h;simp[cH,h]|q::ag,r::o,i+1,t,h=>by have ih:=EC (ag:=ag) (o:=o) (i:=i) (t:=t) (by simpa using h);simp only[JP,cH,ih]
theorem nb.ab.set(Z:W.ab d){i:E}{x:kt×kt}{t aL:ca}(np:W.o[i]?=j t)(ln:W.ag[i]?=j x)(ae:t.live=V)(l1:aL.live=V)(m:Mv [x.2] W.s it)(cr:rZ it.gens)(f0:om d ((W.put i aL).to it) x aL):((W.put i aL).to it).ab d:=by
 have hE:(W.put i aL).aH=W.aH:=EC (by rw[np];simp[ae,l1]);have ED:x.2∈W.aH:=j5 ln np ae;have off:=Z.off _ ED;refine⟨Z.base,λe T g=>m.keep e T (Z.bw e T g) λq=>?_,by show W.ag.length=(W.o.set i aL).length;rw[aeV];exact Z.len,λev r g=>?_,by show(W.put i aL).aH.Nodup;rw[hE];exact Z.apart,λe db=>Z.off e ?_,Z.iZ,Z.jv,?_,cr,hs Z.toks m.toks,Z.gen.av m⟩;·rw[a9.mp q]at g;have aT:W.B x.2=j T:=g;rw[off.1]at aT;cases aT
 ·have aT:(W.o.set i aL)[ev]?=j r:=g;by_cases q:i=ev;·subst q;have bU:=(rY.mp np).1;rw[aeW bU]at aT;cases aT;exact⟨x,ln,f0⟩
  ·rw[aeX q]at aT;obtain⟨l,nw,U⟩:=Z.cells ev r aT;refine⟨l,nw,qO (W:=W) (y:=(W.put i aL).to it) (λa a g=>g) (lI _) (λn T h=>m.keep _ T h λc=>?_) U⟩;exact q (LC Z.apart ln np ae nw aT n (a9.mp c).symm)
 ·have:e∈(W.put i aL).aH:=db;rw[hE]at this;exact this
 ·exact⟨hs Z.fL.1 m.size,λh=>(Z.fL.2 h).keep (λT g=>m.keep _ _ g λU=>off.2 (a9.mp U).symm) λa a g=>g⟩
theorem kw.set(n:kw d sK un W){i:E}{x:kt×kt}{t aL:ca}(np:W.o[i]?=j t)(ln:W.ag[i]?=j x)(ae:t.live=V)(l1:aL.live=V)(m:Mv [x.2] W.s it):kw d sK un ((W.put i aL).to it) where
 size:=aJ n.size m.size
 keep:=λe T g pc Tk ty=>m.keep e T (n.keep e T g pc Tk ty) λq=>by
  rw[a9.mp q]at pc g
  exact(n.aH _ (j5 ln np ae)).elim pc λU=>aB (b1 g) (dJ.mpr U)
 aH:=λe h=>n.aH e (by have hE:(W.put i aL).aH=W.aH:=EC (by rw[np];simp[ae,l1]);rw[<- hE];exact h)
 B:=n.B
 eW:=n.eW
 ag:=n.ag
 gens:=⟨n.gens.old,n.gens.new,λi c g Tk=>m.gens i c (n.gens.keep i c g Tk),aJ n.gens.size m.EA,n.gens.ak⟩
 os:=m.os.trans n.os
 toks:=aJ n.toks m.toks
theorem xb:∀{ag:h5} {o:p ca} {i:E} {t:ca},t.live=G->∀e,e∈cH ag (o.set i t)->e∈cH ag o
 |[],_,_,_,_,e,h=>by simp[cH]at h
 |_::_,[],_,_,_,e,h=>by simpa using h
 |q::ag,r::o,0,t,f0,e,h=>by simp[cH,f0]at h;unfold cH;split<;>simp[h]
 |q::ag,r::o,i+1,t,f0,e,h=>by
  have ih:=xb (ag:=ag) (o:=o) (i:=i) (t:=t) f0 e;rw[JP]at h;unfold cH at h⊢;split at h
  ·rename_i n;rw[tt n];rcases cq.mp h with h|h
   ·exact h▸.head _
   ·exact .tail _ (ih h)
  ·rename_i n;rw[ss n];exact ih h
theorem EE:∀{ag:h5} {o:p ca} {i:E} {t:ca},t.live=G->(cH ag o).Nodup->(cH ag (o.set i t)).Nodup
 |[],_,_,_,_,h=>by simp[cH]
 |_::_,[],_,_,_,h=>by simpa using h
 |q::ag,r::o,0,t,f0,h=>by
  simp only[aeY,cH,f0]at h⊢;split at h;·exact(ix.mp h).2
  ·exact h
 |q::ag,r::o,i+1,t,f0,h=>by
  rw[JP];unfold cH at h⊢;split at h;·rename_i n;rw[tt n];exact ix.mpr ⟨λU=>(ix.mp h).1 (xb f0 _ U),EE f0 (ix.mp h).2⟩
  ·rename_i n;rw[ss n];exact EE f0 h
theorem EF:∀{ag:h5} {o:p ca} {i:E} {x:kt×kt} {t aL:ca},(cH ag o).Nodup->ag[i]?=j x->o[i]?=j t->t.live=V->aL.live=G->x.2∉cH ag (o.set i aL)
 |[],_,_,_,_,_,_,h,_,_,_=>by simp at h
 |_::_,[],_,_,_,_,_,_,h,_,_=>by simp at h
 |q::ag,r::o,0,x,t,aL,If,h1,ex,h3,aS=>by simp at h1 ex;subst h1 ex;simp only[aeY,cH,aS,pg,n5];unfold cH at If;rw[tt h3]at If;exact(ix.mp If).1
 |q::ag,r::o,i+1,x,t,aL,If,h1,ex,h3,aS=>by
  rw[JP];have m:=j5 (ag:=ag) (o:=o) (i:=i) (by simpa using h1) (by simpa using ex) h3;unfold cH at If⊢;split at If
  ·rename_i n;rw[tt n];intro U;rcases cq.mp U with U|U
   ·exact(ix.mp If).1 (U▸m)
   ·exact EF (ag:=ag) (o:=o) (i:=i) (ix.mp If).2 (by simpa using h1) (by simpa using ex) h3 aS U
  ·rename_i n;rw[ss n];exact EF (ag:=ag) (o:=o) (i:=i) If (by simpa using h1) (by simpa using ex) h3 aS
noncomputable def nb.oq(W:nb)(i:E)(r:R)(e:kt)(T:cE):nb:={W with o:=W.o.set i (.aq r),B:=λc=>if c=e then j T else W.B c}
theorem nb.ab.oq(Z:W.ab d){i:E}{x:kt×kt}{t:ca}(np:W.o[i]?=j t)(ln:W.ag[i]?=j x)(ae:t.live=V)(gt:W.h.get? x.2=j T)(hd:x0 d (W.oq i r x.2 T).B (.ref x.1) r):(W.oq i r x.2 T).ab d:=by
 have ED:x.2∈W.aH:=j5 ln np ae;have off:=Z.off _ ED;have AT:∀b q,W.B b=j q->(W.oq i r x.2 T).B b=j q:=nb.g_ (W:=W) (.inl off.1);refine⟨λb q g=>AT b q (Z.base b q g),λb q g=>?_,by show W.ag.length=(W.o.set i _).length;rw[aeV];exact Z.len,λev g h=>?_,EE rfl Z.apart,λe db=>⟨?_,(Z.off e (xb rfl e db)).2⟩,?_,?_,⟨Z.fL.1,λh=>(Z.fL.2 h).keep (λa g=>g) AT⟩,Z.bare,Z.toks,Z.gen⟩
 ·have aT:(if b=x.2 then j T else W.B b)=j q:=g;by_cases U:b=x.2;·subst U;rw[tt rfl]at aT;cases aT;exact gt
  ·rw[ss U]at aT;exact Z.bw b q aT
 ·have eg:(W.o.set i (.aq r))[ev]?=j g:=h;by_cases q:i=ev;·subst q;rw[aeW (rY.mp np).1]at eg;cases eg;exact⟨x,ln,hd⟩
  ·rw[aeX q]at eg;obtain⟨l,nw,U⟩:=Z.cells ev g eg;exact⟨l,nw,qO (W:=W) (y:=W.oq i r x.2 T) AT (lI _) (λa a h=>h) U⟩
 ·show(if e=x.2 then j T else W.B e)=bn;have aC:e≠x.2:=λq=>EF (aL:=.aq r) Z.apart ln np ae rfl (q▸db);rw[ss aC];exact(Z.off e (xb rfl e db)).1
 ·show(if d.tab=x.2 then j T else W.B d.tab)=bn;rw[ss (Ne.symm off.2)];exact Z.iZ
 ·obtain⟨q,U⟩:=Z.jv;exact⟨q,AT _ _ U⟩
theorem kw.oq(n:kw d sK un W)(Z:W.ab d){i:E}{x:kt×kt}{t:ca}(np:W.o[i]?=j t)(ln:W.ag[i]?=j x)(ae:t.live=V):kw d sK un (W.oq i r x.2 T) where
 size:=n.size
 keep:=n.keep
 aH:=λe h=>n.aH e (xb rfl e h)
 B:=λb q g=>nb.g_ (W:=W) (.inl (Z.off _ (j5 ln np ae)).1) b q (n.B b q g)
 eW:=λb q g=>by
  have aT:(if b=x.2 then j T else W.B b)=j q:=g
  by_cases U:b=x.2
  ·subst U
   exact .inr (n.aH _ (j5 ln np ae))
  ·rw[ss U]at aT;exact n.eW b q aT
 ag:=n.ag
 gens:=⟨n.gens.old,n.gens.new,n.gens.keep,n.gens.size,n.gens.ak⟩
 os:=n.os
 toks:=n.toks
end
structure zs(z:E)(A:xs):Prop where
 handled:A.handled=bn
 depth:A.depth+z≤900
 units:A.units+8*z≤9000
theorem zs.less{z:E}{A:xs}(e:zs z A)(h:m≤z):zs m A:=⟨e.handled,by have:=e.depth;left,by have:=e.units;left⟩
theorem zs.in1{z:E}{A:xs}(e:zs (z+1) A):zs z A.in1:=⟨e.handled,by have:=e.depth;show A.depth+z≤900;left,by have:=e.units;show A.units+1+8*z≤9000;left⟩
theorem zs.deeper{z:E}{A:xs}(e:zs (z+1) A)(O:IN):zs z (A.deeper O):=⟨e.handled,by have:=e.depth;show A.depth+1+z≤900;left,by have:=e.units;show A.units+3+8*z≤9000;left⟩
theorem zs.room{z:E}{A:xs}(e:zs z A):A.depth<SU:=by have:=e.depth;show A.depth<1000;left
theorem zs.line{z:E}{A:xs}(e:zs z A):A.units+64<t7:=by have:=e.units;show A.units+64<9900;left
noncomputable def T0(O:IN):p kt:=O.locals::O.cells.map (·.2)
inductive uP(d:sw)(O:IN)(W:nb)(c:X)(r:R):Prop|inl (h:O.kindOf c=j .local):uP d O W c r|inr (h:O.kindOf c=j .cell\/O.kindOf c=j .free) (t:kt) (v:cd) (f0:O.cells.lookup c=j t) (FB:W.h.IsCell t (j v)) (l:wp d W.B W.ag v r):uP d O W c r
structure Tl(d:sw)(O:IN)(H:hf)(W:nb):Prop where
 kind:O.scope.kind=.function
 glob:O.globals=k0
 j4:O.builtins=C9
 am:∃m,W.h.Ns O.locals m/\∀c r,H.lookup c=j r->O.kindOf c=j .local->∃v,m c=j v/\wp d W.B W.ag v r
 pE:∀c r,H.lookup c=j r->uP d O W c r
 has:∀c t,(c,t)∈O.cells->∃v,W.h.IsCell t v
 apart:O.cells.Pairwise λc I=>c.2≠I.2
 off:∀e∈T0 O,e∉W.aH/\W.B e=bn/\e≠d.tab
 ot:∀c t,(c,t)∈O.cells->t≠O.locals
 full:∀c,O.kindOf c=j .cell\/O.kindOf c=j .free->(O.cells.lookup c).isSome=V
 ak:O.scope.isGenerator=G->W.ak=V
section
variable{d:sw}{sK:p kt}{O:IN}{H:hf}
theorem uP.re(t:uP d O W c r)(h:y.h=W.h)(AT:y.B=W.B)(bf:y.ag=W.ag):uP d O y c r:=t.casesOn .inl λk t v f0 FB l=>.inr k t v f0 (h▸FB) (AT▸bf▸l)
theorem Tl.here(g:Tl d O H W)(h:e∈T0 O):∃T,W.h.get? e=j T:=by
 rcases cq.mp h with rfl|h;·obtain⟨m,⟨T,bd,WF,gt,_⟩,_⟩:=g.am;exact⟨T,gt⟩
 ·obtain⟨⟨c,t⟩,pc,rfl⟩:=dM.mp h;obtain⟨v,T,gt,_⟩:=g.has c t pc;exact⟨T,gt⟩
theorem wo.at{h:bl}{v:Y cd}(c:h.IsCell t v)(g:∀T,h.get? t=j T->eg.get? t=j T):eg.IsCell t v:=let⟨T,gt,l⟩:=c;⟨T,g T gt,l⟩
theorem Tl.le(g:Tl d O H W)(n:kw d sK W y)(Tk:∀e∈T0 O,e∉sK):Tl d O H y:=by
 have keep:∀e∈T0 O,∀T,W.h.get? e=j T->y.h.get? e=j T:=λe db T h=>n.keep e T h (g.off e db).1 (Tk e db) (λa=>(g.off e db).2.2);have uQ:∀c t,(c,t)∈O.cells->t∈T0 O:=λc t h=>.tail _ (dM.mpr ⟨(c,t),h,rfl⟩);refine⟨g.kind,g.glob,g.j4,?_,λc r h=>?_,λc t h=>?_,g.apart,λe db=>?_,g.ot,g.full,λh=>n.gens.ak.trans (g.ak h)⟩;·obtain⟨m,z,l⟩:=g.am;refine⟨m,z.at' λT h=>keep _ (.head _) T h,λc r h k=>?_⟩;obtain⟨v,FB,q⟩:=l c r h k;exact⟨v,FB,n.ay q⟩
 ·rcases g.pE c r h with h|⟨k,t,v,f0,FB,q⟩;·exact .inl h
  ·exact .inr k t v f0 (wo.at FB λT h=>keep _ (uQ c t (mem_of_lookup f0)) T h) (n.ay q)
 ·obtain⟨v,q⟩:=g.has c t h;exact⟨v,wo.at q λT U=>keep _ (uQ c t h) T U⟩
 ·obtain⟨T,gt⟩:=g.here db;have lt:=b1 gt;have q:=g.off e db;refine⟨λU=>(n.aH e U).elim q.1 λU=>aB lt (dJ.mpr U),?_,q.2.2⟩;cases AT:y.B e with
  |none=>rfl
  |some ey=>
   rcases n.eW e ey AT with U|U|U;·rw[q.2.1]at U;cases U
   ·exact aB U q.1
   ·exact aB lt (dJ.mpr U)
theorem Tl.f'(g:Tl d O H W)(n:kw d [] W y):Tl d O H y:=g.le n jr
theorem Tl.load{Ch:iw}{A:xs}(g:Tl d O H W)(f8:H.lookup c=j r)(pi:(c==("__classdict__":X))=G)(h:∀v,wp d W.B W.ag v r->C v W.s):f4 Ch A (loadName O c) C a1 W.s:=by
 rcases g.pE c r f8 with k|⟨k,t,v,f0,FB,q⟩;·obtain⟨m,z,l⟩:=g.am;obtain⟨v,FB,q⟩:=l c r f8 k;exact aeZ g.kind k z FB (h v q)
 ·rcases k with k|k;·exact wpAny_loadName_cell g.kind k f0 FB (h v q)
  ·exact wpAny_loadName_free g.kind k f0 FB (h v q) pi
noncomputable def Pv(H:hf)(c:X)(r:R):hf:=match H with|[]=>[(c,r)]|x::l=>if c==x.1 then(c,r)::l else x::Pv l c r
theorem Al{x:X×R}{l:hf}:Pv (x::l) c r=if c==x.1 then(c,r)::l else x::Pv l c r:=rfl
theorem gL(H:hf)(c:X)(r:R)(I:X):(Pv H c r).lookup I=if I=c then j r else H.lookup I:=by
 induction H with
 |nil=>
  by_cases h:I=c;·subst h;exact(List.lookup_cons_self).trans (tt rfl).symm
  ·have:(I==c)=G:=eo.mpr h;exact(ss h).symm▸(by rw[show Pv [] c r=[(c,r)]from rfl,en,this])
 |cons x l ih=>
  rw[Al];by_cases ln:c=x.1
  ·rw[tt (bt.mpr ln)];by_cases h:I=c;·subst h;simp
   ·have h1:(I==c)=G:=eo.mpr h;have ex:(I==x.1)=G:=ln▸h1;obtain⟨Am,ks⟩:=x;simp only[en,h1,ex,h,n5]
  ·rw[ss (λq=>ln (bt.mp q))];obtain⟨Am,ks⟩:=x;rw[en,ih,en];by_cases h:I=Am;·subst h;have h3:I≠c:=λU=>ln U.symm;simp[h3]
   ·have:(I==Am)=G:=eo.mpr h;simp[this]
def xc(O:IN)(c:X)(sK:p kt):Prop:=(O.kindOf c=j .local->O.locals∈sK)/\∀t,O.kindOf c=j .cell->O.cells.lookup c=j t->t∈sK
theorem EG{H:hf}{P:Prop}(h:(Pv H c r).lookup I=j aR)(h1:I=c->r=aR->P)(ex:I≠c->H.lookup I=j aR->P):P:=if q:I=c then h1 q (aO ((tt q).symm.trans ((gL H c r I).symm.trans h)))else ex q ((ss q).symm.trans ((gL H c r I).symm.trans h))
theorem Tl.store{Ch:iw}{A:xs}(Z:W.ab d)(g:Tl d O H W)(gl:O.kindOf c=j .local\/O.kindOf c=j .cell)(f0:O.kindOf c=j .cell->(O.cells.lookup c).isSome=V)(l:wp d W.B W.ag v r){C:g7->nl->Prop}(h:∀y,y.ab d->Tl d O (Pv H c r) y->(∀un sK,kw d sK un W->(∀e∈T0 O,e∈sK\/un.h.objs.size≤e)->kw d sK un y)->y.o=W.o->y.ag=W.ag->y.B=W.B->y.N=W.N->y.ak=W.ak->y.h.objs.size=W.h.objs.size->Mv (T0 O) W.s y.s->(∀sK,xc O c sK->Mv sK W.s y.s)->C () y.s):f4 Ch A (zA O c v) C a1 W.s:=by
 have uQ:∀c t,(c,t)∈O.cells->t∈T0 O:=λc t h=>.tail _ (dM.mpr ⟨(c,t),h,rfl⟩);rcases gl with k|k
 ·obtain⟨m,z,EH⟩:=g.am;refine ae0 k z (λeg ou fd=>?_) (by rw[g.kind];rfl);have hF:Mv [O.locals] W.s {W.s with heap:=eg,toks:=W.s.toks+1}:=Mv.sD fd (cu _);have off:=g.off O.locals (.head _);refine h (W.to {W.s with heap:=eg,toks:=W.s.toks+1}) (Z.av hF (λe db=>by rw[a9.mp db];exact⟨off.2.1,off.1,off.2.2⟩) Z.bare) ?_ (λun sK n Tk=>n.av hF λe db=>by rw[a9.mp db];exact Tk _ (.head _)) rfl rfl rfl rfl rfl fd.1 (hF.weak λe db=>by rw[a9.mp db];exact .head _) (λsK Tk=>hF.weak λe db=>by rw[a9.mp db];exact Tk.1 k);have t3:∀e T,e≠O.locals->W.h.get? e=j T->eg.get? e=j T:=λe T ne q=>(fd.2 e ne).trans q;refine⟨g.kind,g.glob,g.j4,⟨_,ou,λI aR KM An=>?_⟩,λI aR KM=>?_,λI t KM=>?_,g.apart,g.off,g.ot,g.full,g.ak⟩
  ·rw[gL]at KM;by_cases q:I=c;·rw[tt q]at KM⊢;cases KM;exact⟨v,rfl,l⟩
   ·rw[ss q]at KM⊢;exact EH I aR KM An
  ·refine EG KM (λq a=>.inl (q▸k)) λq KM=>?_;rcases g.pE I aR KM with U|⟨jw,t,eH,f_,FB,EI⟩
   ·exact .inl U
   ·exact .inr jw t eH f_ (wo.at FB λT U=>t3 t T (g.ot I t (mem_of_lookup f_)) U) EI
  ·obtain⟨eH,q⟩:=g.has I t KM;exact⟨eH,wo.at q λT U=>t3 t T (g.ot I t KM) U⟩
 ·obtain⟨t,uR⟩:=wy.mp (f0 k);have l2:=mem_of_lookup uR;obtain⟨VG,VH⟩:=g.has c t l2;refine wpAny_storeName_cell g.kind k uR VH λeg FB fd=>?_;have hF:Mv [t] W.s {W.s with heap:=eg}:=Mv.same fd;have off:=g.off t (uQ c t l2);refine h (W.to {W.s with heap:=eg}) (Z.av hF (λe db=>by rw[a9.mp db];exact⟨off.2.1,off.1,off.2.2⟩) Z.bare) ?_ (λun sK n Tk=>n.av hF λe db=>by rw[a9.mp db];exact Tk _ (uQ c t l2)) rfl rfl rfl rfl rfl fd.1 (hF.weak λe db=>by rw[a9.mp db];exact uQ c t l2) (λsK Tk=>hF.weak λe db=>by rw[a9.mp db];exact Tk.2 t k uR);have t3:∀e T,e≠t->W.h.get? e=j T->eg.get? e=j T:=λe T ne q=>(fd.2 e ne).trans q;refine⟨g.kind,g.glob,g.j4,?_,λI aR KM=>?_,λI aL KM=>?_,g.apart,g.off,g.ot,g.full,g.ak⟩;·obtain⟨m,z,EH⟩:=g.am;refine⟨m,z.at' λT U=>t3 _ T (Ne.symm (g.ot c t l2)) U,λI aR KM An=>?_⟩;exact EG KM (λq a=>nomatch (k.symm.trans (q▸An):j wz=j NameKind.local)) λa KM=>EH I aR KM An
  ·refine EG KM (λq g=>q▸g▸.inr (.inl k) t v uR FB l) λq KM=>?_;rcases g.pE I aR KM with U|⟨jw,aL,eH,f_,EJ,EI⟩
   ·exact .inl U
   ·exact .inr jw aL eH f_ (wo.at EJ λT U=>t3 aL T (λh=>q (name_of_addr g.apart (mem_of_lookup f_) (h▸l2))) U) EI
  ·by_cases q:aL=t;·rw[q];exact⟨_,FB⟩
   ·obtain⟨eH,U⟩:=g.has I aL KM;exact⟨eH,wo.at U λT I=>t3 aL T q I⟩
end
section
noncomputable def H1(z:E):ga:=lK z 1000000
theorem uS{z:E}(h:H1 z=V):z≤1000000:=qr h
theorem b6{z:E}(h:z≤1000000):H1 z=V:=SV h
theorem uT{z:E}(h:H1 z=V):(z:m0)<2^63:=by have:=uS h;left
theorem LF:1000000≤gH:=by decide
noncomputable def fu(i:m0):ga:=Int.natAbs i|>.ble 1000000000
theorem qP{i:m0}(h:fu i=V): -1000000000≤i/\i≤1000000000:=by have:i.natAbs≤1000000000:=qr h;left
theorem LG{i:m0}(h1: -1000000000≤i)(ex:i≤1000000000):fu i=V:=SV (by left)
noncomputable def uU(i:E)(t:Y ca):R:=t.rec (.am i) λt=>t.rec .ah .inst .set λr=>r
noncomputable def view(o:p ca)(r:R):R:=oj r (λi=>uU i o[i]?) r
def cw(d:sw)(W:nb)(v:cd):R->Prop|.none=>v=.none|.bool b=>v=.bool b|.int i=>∃u,v=.int i u|.str c=>∃u,v=.str c u|.tup n=>∃e L z,v=.ref e/\W.h.get? e=j (d3 L.toArray z)/\Is d W.B L n|.ah n=>∃e L z,v=.ref e/\W.h.get? e=j (SL L.toArray z)/\Is d W.B L n|.cF n=>∃e bd z,v=.ref e/\(e==mL)=G/\W.h.get? e=j (fJ bd.toArray z)/\cG d W.B bd n|.set n=>∃e T,v=.ref e/\W.h.get? e=j T/\sC d T n|.iA n=>∃e T,v=.ref e/\W.h.get? e=j T/\l0 d.w T n|.am _=>gG|.inst J n=>∃c r bd z,v=.ref c/\W.h.get? c=j (h6 J r)/\W.h.get? r=j (fJ bd.toArray z)/\f9 d W.B W.ag bd n|.app i=>∃q e m,v=.ref q/\W.ag[i]?=j (e,m)/\W.h.get? q=j (lZ (.builtin "list.append") (.ref e))|.fI i f=>∃q e m,v=.ref q/\W.ag[i]?=j (e,m)/\W.h.get? q=j (sA f (.ref e))|.cg g2=>v=g2
noncomputable def sE(r:R):ga:=oj r (λa=>V) G
def c'(d:sw)(W:nb)(v:cd)(r:R):Prop:=sE r=G->cw d W v r
section
variable{d:sw}
@[elab_as_elim] theorem cw.xd{P:cd->Prop}(h:cw d W v .none)(a2:P .none):P v:=Eq.symm h▸a2
@[elab_as_elim] theorem cw.EK{P:cd->Prop}{b:ga}(h:cw d W v (.bool b))(a2:P (.bool b)):P v:=Eq.symm h▸a2
@[elab_as_elim] theorem cw.de{P:cd->Prop}{i:m0}(h:cw d W v (.int i))(a2:∀u,P (.int i u)):P v:=Exists.elim h λu g=>g▸a2 u
@[elab_as_elim] theorem cw.e_{P:cd->Prop}(h:cw d W v (.str c))(a2:∀u,P (.str c u)):P v:=Exists.elim h λu g=>g▸a2 u
@[elab_as_elim] theorem cw.pF{P:cd->Prop}(h:cw d W v (.tup n))(a2:∀e L z,W.h.get? e=j (d3 L.toArray z)->Is d W.B L n->P (.ref e)):P v:=uE h λe L z q=>q.1▸a2 e L z q.2.1 q.2.2
@[elab_as_elim] theorem cw.hG{P:cd->Prop}(h:cw d W v (.ah n))(a2:∀e L z,W.h.get? e=j (SL L.toArray z)->Is d W.B L n->P (.ref e)):P v:=uE h λe L z q=>q.1▸a2 e L z q.2.1 q.2.2
@[elab_as_elim] theorem cw.ov{P:cd->Prop}{n:p (X×R)}(h:cw d W v (.cF n))(a2:∀e bd z,(e==mL)=G->W.h.get? e=j (fJ bd.toArray z)->cG d W.B bd n->P (.ref e)):P v:=uE h λe L z q=>q.1▸a2 e L z q.2.1 q.2.2.1 q.2.2.2
@[elab_as_elim] theorem cw.EL{P:cd->Prop}{n:p X}(h:cw d W v (.set n))(a2:∀e T,W.h.get? e=j T->sC d T n->P (.ref e)):P v:=Ec h λe T q=>q.1▸a2 e T q.2.1 q.2.2
@[elab_as_elim] theorem cw.EM{P:cd->Prop}{n:p X}(h:cw d W v (.iA n))(a2:∀e T,W.h.get? e=j T->l0 d.w T n->P (.ref e)):P v:=Ec h λe T q=>q.1▸a2 e T q.2.1 q.2.2
@[elab_as_elim] theorem cw.EN{P:cd->Prop}{J:kt}{n:p (X×R)}(h:cw d W v (.inst J n))(a2:∀c r bd z,W.h.get? c=j (h6 J r)->W.h.get? r=j (fJ bd.toArray z)->f9 d W.B W.ag bd n->P (.ref c)):P v:=U' h λc r bd z q=>q.1▸a2 c r bd z q.2.1 q.2.2.1 q.2.2.2
@[elab_as_elim] theorem cw.LH{P:cd->Prop}{i:E}(h:cw d W v (.app i))(a2:∀q e m,W.ag[i]?=j (e,m)->W.h.get? q=j (lZ (.builtin "list.append") (.ref e))->P (.ref q)):P v:=uE h λI e m q=>q.1▸a2 I e m q.2.1 q.2.2
@[elab_as_elim] theorem cw.EO{P:cd->Prop}{i:E}(h:cw d W v (.fI i f))(a2:∀q e m,W.ag[i]?=j (e,m)->W.h.get? q=j (sA f (.ref e))->P (.ref q)):P v:=uE h λI e m q=>q.1▸a2 I e m q.2.1 q.2.2
theorem x0.at(Z:W.ab d)(h:x0 d W.B v r):cw d W v r:=h.casesOn (motive_1:=λv r a=>cw d W v r) rfl (λa=>rfl) (λa u=>⟨u,rfl⟩) (λa u=>⟨u,rfl⟩) (λh l=>⟨_,_,_,rfl,Z.bw _ _ h,l⟩) (λh l=>⟨_,_,_,rfl,Z.bw _ _ h,l⟩) (λs h l=>⟨_,_,_,rfl,s,Z.bw _ _ h,l⟩) (λh l=>⟨_,_,rfl,Z.bw _ _ h,l⟩) (λh l=>⟨_,_,rfl,Z.bw _ _ h,l⟩) (λh eg l=>⟨_,_,_,_,rfl,Z.bw _ _ h,Z.bw _ _ eg,l.xa⟩) λa=>rfl
theorem x0.VI{B:aX}(h:x0 d B v r):view o r=r:=h.casesOn (motive_1:=λa r a=>view o r=r) rfl (λa=>rfl) (λa a=>rfl) (λa a=>rfl) (λa a=>rfl) (λa a=>rfl) (λa a a=>rfl) (λa a=>rfl) (λa a=>rfl) (λa a a=>rfl) λa=>rfl
theorem x0.view(Z:W.ab d)(l:x0 d W.B v r):cw d W v (view W.o r):=l.VI.symm▸l.at Z
theorem VJ(Z:W.ab d){i:E}{m:kt}(nw:W.ag[i]?=j (e,m)):sE (uU i W.o[i]?)=G->cw d W (.ref e) (uU i W.o[i]?):=by cases g:W.o[i]? with|none=>exact Ed|some t=>obtain⟨x,ln,q⟩:=Z.cells i t g;exact t.casesOn (motive:=λt=>om d W (e,m) t->sE (uU i (j t))=G->cw d W (.ref e) (uU i (j t))) (λn q a=>⟨e,_,_,rfl,(GT W.h.get? (show e=m from q.1)).trans q.2.choose_spec.choose_spec.1,q.2.choose_spec.choose_spec.2⟩) (λJ s1 q a=>⟨e,m,_,_,rfl,Z.bw _ _ q.1,q.2.choose_spec.choose_spec⟩) (λn q a=>⟨e,_,rfl,(GT W.h.get? (show e=m from q.1)).trans q.2.choose_spec.1,q.2.choose_spec.2⟩) (λr q a=>x0.at Z q) (aO (ln.symm.trans nw)▸q)
theorem jx(Z:W.ab d)(l:wp d W.B W.ag v r):c' d W v (view W.o r):=l.casesOn (motive:=λv r a=>sE (view W.o r)=G->cw d W v (view W.o r)) (λh a=>h.view Z) (VJ Z) (λh eg a=>⟨_,_,_,rfl,h,Z.bw _ _ eg⟩) λh eg a=>⟨_,_,_,rfl,h,Z.bw _ _ eg⟩
theorem cw.of(Z:W.ab d)(l:wp d W.B W.ag v r)(ae:sE r=G):cw d W v r:=l.casesOn (motive:=λv r a=>sE r=G->cw d W v r) (λh a=>h.at Z) (λa=>Ed) (λh eg a=>⟨_,_,_,rfl,h,Z.bw _ _ eg⟩) (λh eg a=>⟨_,_,_,rfl,h,Z.bw _ _ eg⟩) ae
end
mutual
noncomputable def iR:R->Y mO|.none=>j .none|.bool b=>j (.bool b)|.int i=>j (.int i)|.str c=>j (.str c)|.tup n=>(l3 n).map .tuple|.ah n=>(l3 n).map .list|_=>bn
noncomputable def l3:p R->Y (p mO)|[]=>j []|r::n=>b9 (iR r) λx=>(l3 n).map (x::·)
end
section
variable{d:sw}
theorem cw.read(Z:W.ab d)(r:R):∀v x,c' d W v r->iR r=j x->∃s5,Reads W.h v x s5:=R.rec (motive_1:=λr=>∀v x,c' d W v r->iR r=j x->∃s5,Reads W.h v x s5) (motive_2:=λn=>∀L he,Is d W.B L n->l3 n=j he->∃s5,ReadsAll W.h L he s5) (motive_3:=λa=>g6) (motive_4:=λa=>g6) (λa a h g=>(h rfl).xd (aQ g ⟨_,.none⟩)) (λb a a h g=>(h rfl).EK (aQ g ⟨_,.bool b⟩)) (λi a a h g=>(h rfl).de λu=>aQ g ⟨_,.int i u⟩) (λc a a h g=>(h rfl).e_ λu=>aQ g ⟨_,.str c u⟩) (λn ih a a h g=>(h rfl).pF λe L z h l=>d0 g λhe ln=>(ih _ _ l ln).elim λs5 q=>⟨s5,.tuple h rfl rfl q⟩) (λn ih a a h g=>(h rfl).hG λe L z h l=>d0 g λhe ln=>(ih _ _ l ln).elim λs5 q=>⟨_,.list h rfl rfl q⟩) (λa a a a a=>a') (λa a a a=>a') (λa a a a=>a') (λa a a a=>a') (λa a a a a a=>a') (λa a a a=>a') (λa a a a a=>a') (λa a a a=>a') (λL a l g=>by rw[show L=[]from l.i];exact aQ g ⟨_,.nil⟩)
  (λr n h1 ex a a l g=>by
   obtain⟨v,b7,rfl,h,l⟩:=l.i
   exact dd g λx ln g=>d0 g λhe wT=>(h1 _ _ (λa=>h.at Z) ln).elim λs5 q=>(ex _ _ l wT).elim λzo U=>⟨_,.cons q U⟩) ⟨⟩ (λa a a a=>⟨⟩) (λa a a=>⟨⟩) r
theorem c'.reads(Z:W.ab d){x:mO}(l:c' d W v r)(g:iR r=j x):∃s5,Reads W.h v x s5:=cw.read Z r v x l g
end
noncomputable def sF(f:m0->m0->Y m0)(c I:R):Y R:=hA c λe=>hA I λb=>(f e b).map .int
theorem uV{P:R->R->R->Prop}{f:m0->m0->Y m0}{c I:R}(h:sF f c I=j r)(a2:∀e b t,f e b=j t->P (.int e) (.int b) (.int t)):P c I r:=m6 h λe h=>m6 h λb h=>d0 h (a2 e b)
noncomputable def h7(_ _:R):Y R:=bn
noncomputable def LI(c I:R):Y R:=qM c (λe=>hA I λb=>j (.int (e+b)))<|h2 c λc=>h2 I λI=>pp (H1 (c.length+I.length))<|j (.str (c++I))
noncomputable def iB(po:n3):R->R->Y R:=po.rec LI (sF λe b=>j (e - b)) (sF λe b=>pp (fu e)<|j (e*b)) h7 h7 (sF λe b=>pp (!(b==0))<|j (e.fmod b)) h7 h7 h7 h7 h7 h7 (sF λe b=>pp (!(b==0))<|pp (fu b)<|j (e.fdiv b))
theorem LJ(h:c.cps=I.cps):c=I:=by cases c;cases I;cases h;rfl
theorem aes(h:(c.length==0)=V):c++I=I:=by
 apply LJ;show c.cps++I.cps=I.cps;have:c.cps.size=0:=by simpa[JQ]using h
 have:c.cps=#[]:=ae1 this;rw[this];simp
theorem aet(h:(I.length==0)=V):c++I=c:=by
 apply LJ;show c.cps++I.cps=c.cps;have:I.cps.size=0:=by simpa[JQ]using h
 have:I.cps=#[]:=ae1 this;rw[this];simp
theorem Ao(c I:X):(c++I).length=c.length+I.length:=by show(c.cps++I.cps).size=_;simp[JQ]
section
variable{d:sw}{A:xs}{e b:cd}{c I:R}
theorem made_str{c:X}(h:c.length≤gH)(q:∀u k,C (.str c u) {s with toks:=k}):(Made.str c).post C s:=⟨h,q _ _⟩
def xe(d:sw)(W:nb)(u:aP cd)(A:xs)(e b:cd)(c I r:R):Prop:=∀(a1:cd->nl->Prop) (C:cd->nl->Prop),c' d W e c->c' d W b I->(∀v u,x0 d W.B v r->C v {W.s with toks:=u})->f4 d.M A u C a1 W.s
theorem VK(g:LI c I=j r):xe d W (mP .Add e b) A e b c I r:=uF (P:=λc=>xe d W (mP .Add e b) A e b c I r) g (λa g=>m6 g λa g=>aQ g λa a db cr h=>(db rfl).de λa=>(cr rfl).de λa=>P.add_int (h _ _ (.int _ _))) λg=>lX g λc g=>lX g λI g=>Gt g λq g=>aQ g λa a db cr h=>(db rfl).e_ λa=>(cr rfl).e_ λa=>by
  refine P.add_str ?_;split;·rename_i U;exact h _ W.s.toks (by rw[aes (c:=c) (I:=I) U];exact .str _ _)
  ·split;·rename_i U;exact h _ W.s.toks (by rw[aet (c:=c) (I:=I) U];exact .str _ _)
   ·exact made_str (Ao c I▸aJ (uS q) LF) λu k=>h _ _ (.str _ _)
theorem VL{i:m0}(h:fu i=V):Builtin.Int.intBits i≤64:=intBits_le_64 (by have:=qP h;left) (by have:=qP h;left)
theorem VM{i:m0}(h:fu i=V):i.natAbs<1073741824:=by have:=qP h;left
theorem VN:iB po c I=j r->xe d W (mP po e b) A e b c I r:=po.casesOn (motive:=λpo=>iB po c I=j r->xe d W (mP po e b) A e b c I r) VK (λg=>uV g λa a a g=>aQ g λa a db cr h=>(db rfl).de λa=>(cr rfl).de λa=>P.sub_int (h _ _ (.int _ _))) (λg=>uV g λa a a g=>Gt g λq g=>aQ g λa a db cr h=>(db rfl).de λa=>(cr rfl).de λa=>P.mul_int (h _ _ (.int _ _)) (.of_left (VL q))) a' a' (λg=>uV g λa a a g=>iX g λq g=>aQ g λa a db cr h=>(db rfl).de λa=>(cr rfl).de λa=>mod_int' (eo.mp q) (h _ _ (.int _ _))) a' a' a' a' a' a' λg=>uV g λa a a g=>iX g λq g=>Gt g λU g=>aQ g λa a db cr h=>(db rfl).de λa=>(cr rfl).de λa=>floordiv_int (eo.mp q) (h _ _ (.int _ _)) (.inl (PyProof.noPylong_small (VM U)))
theorem VO(db:c' d W e c)(cr:c' d W b I)(g:iB po c I=j r)(h:∀v u,x0 d W.B v r->C v {W.s with toks:=u}):f4 d.M A (mP po e b) C a1 W.s:=VN g a1 C db cr h
noncomputable def qQ(po:n3):R->R->Y R:=po.rec (sF λe b=>j (e+b)) (sF λe b=>j (e - b)) h7 h7 h7 h7 h7 h7 h7 h7 h7 h7 h7
theorem LK(db:c' d W e c)(cr:c' d W b I)(g:qQ po c I=j r)(h:∀v u,x0 d W.B v r->C v {W.s with toks:=u}):f4 d.M A (inplaceOp po e b) C a1 W.s:=po.casesOn (motive:=λpo=>qQ po c I=j r->xe d W (inplaceOp po e b) A e b c I r) (λg=>uV g λa a a g=>aQ g λa a db cr h=>(db rfl).de λa=>(cr rfl).de λa=>P.iadd_int (h _ _ (.int _ _))) (λg=>uV g λa a a g=>aQ g λa a db cr h=>(db rfl).de λa=>(cr rfl).de λa=>P.isub_int (h _ _ (.int _ _))) a' a' a' a' a' a' a' a' a' a' a' g a1 C db cr h
end
end
section
variable{d:sw}
theorem cG.keys{B:aX}{n:p (X×R)}(l:cG d B bd n):KeysOf (aG d.prog d.w) bd.toArray:=λg rs=>l.ind (P:=λbd a=>g∈bd->∃k,(aG d.prog d.w).is k g.key=V/\g.hash=(aG d.prog d.w).hash k) m4 (λ{_ c _ _ _ _} k h a a ih rs=>(cq.mp rs).elim (λq=>q▸⟨c,k▸gI _ _ _ _,h⟩) ih) (SW.mp rs)
theorem VP{k:X}{u:be}(h:v=.str c u):(aG d.prog d.w).is k v=decide (k=c):=h▸ae2 (gI _ _ _ _) k
theorem VQ{k:X}{g:f5}{u:be}(h:g.key=.str c u):qs (aG d.prog d.w).is (g::bd).toArray k=bif k==c then j g.val else qs (aG d.prog d.w).is bd.toArray k:=by rw[qs,qs,ae3,ae3,ae4,VP h];exact(ae5 (k==c)).elim (λq=>by rw[q,hV (eq_of_beq q)];rfl) λq=>by rw[q,lL (eo.mp q)];rfl
theorem Ap{k:X}{n:p (X×R)}:((c,r)::n).lookup k=bif k==c then j r else n.lookup k:=by rw[en];cases k==c<;>rfl
theorem cG.both{B:aX}(k:X){n:p (X×R)}(l:cG d B bd n):(∃v r,n.lookup k=j r/\qs (aG d.prog d.w).is bd.toArray k=j v/\x0 d B v r)\/(n.lookup k=bn/\qs (aG d.prog d.w).is bd.toArray k=bn):=l.ind (P:=λbd n=>(∃v r,n.lookup k=j r/\qs (aG d.prog d.w).is bd.toArray k=j v/\x0 d B v r)\/(n.lookup k=bn/\qs (aG d.prog d.w).is bd.toArray k=bn)) (.inr ⟨rfl,rfl⟩) λ{g c u r bd n} gl a v a ih=>by rw[Ap,VQ gl];cases k==c with|true=>exact .inl ⟨_,_,rfl,rfl,v⟩|false=>exact ih
theorem cG.find{B:aX}(k:X){n:p (X×R)}(l:cG d B bd n)(h:n.lookup k=j r):∃v,qs (aG d.prog d.w).is bd.toArray k=j v/\x0 d B v r:=(l.both k).elim (λ⟨v,_,g,q⟩=>⟨v,aO (g.symm.trans h)▸q⟩) λq=>nomatch q.1.symm.trans h
theorem cG.mapOf{B:aX}{h:bl}{z:E}{n:p (X×R)}(l:cG d B bd n)(gt:h.get? e=j (fJ bd.toArray z)):h.MapOf (aG d.prog d.w) e (λk=>qs (aG d.prog d.w).is bd.toArray k):=⟨_,bd.toArray,z,gt,⟨rfl,rfl,rfl⟩,rfl,l.keys,λa=>rfl⟩
theorem cG.pairs{B:aX}{n:p (X×R)}(l:cG d B bd n):∃ba:p (X×cd),C_ (aG d.prog d.w) bd ba/\ba.map (·.1)=n.map (·.1):=l.ind (P:=λbd n=>∃ba:p (X×cd),C_ (aG d.prog d.w) bd ba/\ba.map (·.1)=n.map (·.1)) ⟨[],.nil,rfl⟩ λ{g c _ _ _ _} gl a a a ih=>ih.elim λba q=>⟨(c,g.val)::ba,.cons (gl▸gI _ _ _ _) rfl q.1,GT (c::·) q.2⟩
theorem cG.dictOf{B:aX}{h:bl}{z:E}{n:p (X×R)}(l:cG d B bd n)(gt:h.get? e=j (fJ bd.toArray z))(pi:(n.map (·.1)).Nodup):∃ba:p (X×cd),h.DictOf (aG d.prog d.w) e ba/\ba.length=n.length:=l.pairs.elim λba q=>⟨ba,⟨_,bd.toArray,z,gt,⟨rfl,rfl,rfl⟩,rfl,l.keys,q.1,q.2▸pi⟩,by rw[<- aK (f:=(·.1)),q.2,aK]⟩
end
noncomputable def LL(n:p (X×R)):ga:=decide ((n.map (·.1)).Nodup)
noncomputable def gu(r:R):Y ga:=r.casesOn (j G) j (λi=>j (i !=0)) (λc=>pp (H1 c.length)<|j ((c.length:m0) !=0)) (λa=>bn) (λn=>pp (H1 n.length)<|j (!n.isEmpty)) (λn=>pp (H1 n.length&&LL n)<|j (!n.isEmpty)) (λa=>bn) (λa=>bn) (λa=>bn) (λa a=>bn) (λa=>bn) (λa a=>bn) λa=>bn
noncomputable def Aq(r:R):Y ga:=r.casesOn (j V) (λa=>j G) (λa=>j G) (λa=>j G) (λa=>j G) (λa=>j G) (λa=>j G) (λa=>j G) (λa=>j G) (λa=>bn) (λa a=>j G) (λa=>j G) (λa a=>j G) λa=>bn
noncomputable def EP(c I:R):Y ga:=pp (I.ctorIdx==0)<|Aq c
noncomputable def Ar(c I:R):Y ga:=b9 (iR c) λx=>b9 (iR I) λq=>pp (n6 x&&n6 q)<|j (t8 x q)
noncomputable def xf(c I:R):Y ga:=qM c (λe=>qM I (λb=>j (e==b)) (Ar (.int e) I))<|lW c (λs=>lW I (λu=>j (s.cps.toList==u.cps.toList)) (Ar (.str s) I)) (Ar c I)
noncomputable def LM(c:R)(n:p R):Y ga:=b9 (iR c) λx=>b9 (l3 n) λhe=>pp (x.canLay0&&wA he&&lK x.depth 32)<|j (he.any λI=>t8 I x)
noncomputable def xg(c I:R):Y ga:=oi I (LM c)<|uH I (LM c)<|lW I (λu=>h2 c λs=>j (!(qt u s 0 u.length 1).isEmpty))<|Lq I λn=>h2 c λs=>j (n.contains s)
noncomputable def xh(f:m0->m0->ga)(c I:R):Y ga:=hA c λe=>hA I λb=>j (f e b)
noncomputable def ci(po:lH)(c I:R):Y ga:=po.rec (xf c I) ((xf c I).map not) (xh (λe b=>decide (e<b)) c I) (xh (λe b=>decide (e≤b)) c I) (xh (λe b=>decide (e>b)) c I) (xh (λe b=>decide (e≥b)) c I) (EP c I) ((EP c I).map not) (xg c I) ((xg c I).map not)
section
variable{d:sw}{A:xs}{e b:cd}{c I:R}{t:ga}
theorem As{P:R->R->ga->Prop}{f:m0->m0->ga}(h:xh f c I=j t)(a2:∀e b,P (.int e) (.int b) (f e b)):P c I t:=m6 h λe h=>m6 h λb h=>aQ h (a2 e b)
theorem LN{P:R->Prop}(h:EP c I=j t)(a2:Aq c=j t->P .none):P I:=Gt h λq h=>@R.none.elim P I (eq_of_beq q) (a2 h)
theorem LO{P:R->R->ga->Prop}(h:xf c I=j t)(tY:∀e b,P (.int e) (.int b) (e==b))(Fa:∀s u:X,P (.str s) (.str u) (s.cps.toList==u.cps.toList))(xi:∀c I x q,iR c=j x->iR I=j q->(n6 x&&n6 q)=V->P c I (t8 x q)):P c I t:=
 have a2:∀c I,Ar c I=j t->P c I t:=λc I h=>dd h λx ln h=>dd h λq wT h=>Gt h λk h=>aQ (P:=P c I) h (xi c I x q ln wT k)
 uF (P:=λc=>P c I t) h (λe h=>uF (P:=λI=>P (.int e) I t) h (λb h=>aQ (P:=P _ _) h (tY e b)) (a2 _ _)) λh=>sx (P:=λc=>P c I t) h (λe h=>sx (P:=λI=>P (.str e) I t) h (λb h=>aQ (P:=P _ _) h (Fa e b)) (a2 _ _)) (a2 _ _)
theorem LP{P:R->R->ga->Prop}(h:xg c I=j t)(tY:∀c n x he,iR c=j x->l3 n=j he->(x.canLay0&&wA he&&lK x.depth 32)=V->P c (.ah n) (he.any λI=>t8 I x))(Fa:∀c n x he,iR c=j x->l3 n=j he->(x.canLay0&&wA he&&lK x.depth 32)=V->P c (.tup n) (he.any λI=>t8 I x))(xi:∀s u,P (.str s) (.str u) (!(qt u s 0 u.length 1).isEmpty))(EQ:∀s n,P (.str s) (.set n) (n.contains s)):P c I t:=sy (P:=λI=>P c I t) h (λn h=>dd h λx ln h=>dd h λq wT h=>Gt h λk h=>aQ (P:=P _ _) h (tY _ _ x q ln wT k)) λh=>Af (P:=λI=>P c I t) h (λn h=>dd h λx ln h=>dd h λq wT h=>Gt h λk h=>aQ (P:=P _ _) h (Fa _ _ x q ln wT k)) λh=>sx (P:=λI=>P c I t) h (λn h=>lX (P:=λc=>P c _ t) h λs h=>aQ (P:=P _ _) h (xi s n)) λh=>Vk (P:=λI=>P c I t) h λn h=>lX (P:=λc=>P c _ t) h λs h=>aQ (P:=P _ _) h (EQ s n)
theorem LQ{n:p t0}{k:p cY}(h:n.length=k.length):n.isEmpty=k.isEmpty:=by cases n<;>cases k<;>first|rfl|cases h
def Au(d:sw)(W:nb)(A:xs)(a1:cd->nl->Prop)(e:cd)(t:ga):Prop:=∀C:ga->nl->Prop,(∀u,C t {W.s with toks:=u})->f4 d.M A (Dc e) C a1 W.s
theorem VR(db:c' d W e (.ah n))(q:H1 n.length=V):Au d W A a1 e (!n.isEmpty):=λa h=>(db rfl).hG λe L z ae l=>ae6 (items:=L.toArray) ⟨_,ae,rfl,_,rfl⟩ (by rw[jj,l.length];exact uT q) (by rw[List.isEmpty_toArray,LQ l.length];exact h _)
theorem VS{n:p (X×R)}(db:c' d W e (.cF n))(Av:H1 n.length=V)(ER:LL n=V):Au d W A a1 e (!n.isEmpty):=λa h=>(db rfl).ov λe bd z xj ae l=>(l.dictOf ae (mQ ER)).elim λba U=>wpAny_truthy_dict xj U.1 (by rw[U.2];exact uT Av) (by rw[LQ U.2];exact h _)
theorem VT{c:X}(db:c' d W e (.str c))(q:H1 c.length=V):Au d W A a1 e ((c.length:m0) !=0):=λa h=>(db rfl).e_ λa=>P.truthy_str (SX.mpr (uT q)) (h _)
theorem VU(Z:W.ab d){C:ga->nl->Prop}(db:c' d W e c)(g:gu c=j t)(h:∀u,C t {W.s with toks:=u}):f4 d.M A (Dc e) C a1 W.s:=c.casesOn (motive_1:=λc=>c' d W e c->gu c=j t->Au d W A a1 e t) (λdb g=>aQ g λa h=>(db rfl).xd (truthy_none (h W.s.toks))) (λb db g=>aQ g λa h=>(db rfl).EK (SY (h W.s.toks))) (λi db g=>aQ g λa h=>(db rfl).de λa=>P.truthy_int (h W.s.toks)) (λa db g=>Gt g λq g=>aQ g (VT db q)) (λa a=>a') (λa db g=>Gt g λq g=>aQ g (VR db q)) (λa db g=>og g λq U g=>aQ g (VS db q U)) (λa a=>a') (λa a=>a') (λa a=>a') (λa a a=>a') (λa a=>a') (λa a a=>a') (λa a=>a') db g C h
theorem LR(db:c' d W e c)(g:Aq c=j t):(e==jX)=t:=c.casesOn (motive_1:=λc=>c' d W e c->Aq c=j t->(e==jX)=t) (λh g=>(h rfl).xd (aQ g rfl)) (λa h g=>(h rfl).EK (aQ g rfl)) (λa h g=>(h rfl).de λa=>aQ g rfl) (λa h g=>(h rfl).e_ λa=>aQ g rfl) (λa h g=>(h rfl).pF λa a a a a=>aQ g rfl) (λa h g=>(h rfl).hG λa a a a a=>aQ g rfl) (λa h g=>(h rfl).ov λa a a a a a=>aQ g rfl) (λa h g=>(h rfl).EL λa a a a=>aQ g rfl) (λa h g=>(h rfl).EM λa a a a=>aQ g rfl) (λa a=>a') (λa a h g=>(h rfl).EN λa a a a a a a=>aQ g rfl) (λa h g=>(h rfl).LH λa a a a a=>aQ g rfl) (λa a h g=>(h rfl).EO λa a a a a=>aQ g rfl) (λa a=>a') db g
end
section
variable{d:sw}{A:xs}{e b:cd}{c I:R}
theorem VV(Z:W.ab d){z:E}(lf:zs z A){x q:mO}(db:c' d W e c)(cr:c' d W b I)(ln:iR c=j x)(wT:iR I=j q)(fd:(n6 x&&n6 q)=V)(h:C (.bool (t8 x q)) W.s):f4 d.M A (JR .Eq e b) C a1 W.s:=by obtain⟨s5,m8⟩:=db.reads Z ln;obtain⟨zo,m9⟩:=cr.reads Z wT;obtain⟨h1,ex⟩:=f3.mp fd;exact eq_dataH m8 m9 h1 ex lf.line h
theorem VW(Z:W.ab d){z:E}(lf:zs z A){x q:mO}(db:c' d W e c)(cr:c' d W b I)(ln:iR c=j x)(wT:iR I=j q)(fd:(n6 x&&n6 q)=V)(h:C (.bool (!t8 x q)) W.s):f4 d.M A (JR .NotEq e b) C a1 W.s:=by obtain⟨s5,m8⟩:=db.reads Z ln;obtain⟨zo,m9⟩:=cr.reads Z wT;obtain⟨h1,ex⟩:=f3.mp fd;exact ne_dataH m8 m9 h1 ex lf.line h
theorem l4{x:mO}{he:p mO}(h:(x.canLay0&&wA he&&lK x.depth 32)=V):x.canLay0=V/\wA he=V/\min (ae7 he) x.depth≤32:=
 have h:=f3.mp h
 have k:=f3.mp h.1
 ⟨k.1,k.2,aJ (Nat.min_le_right _ _) (qr h.2)⟩
theorem Aw{z:E}{A:xs}(e:zs z A)(h:m≤32):A.units+1+m<t7:=by have:=e.line;left
def VX(d:sw)(W:nb)(A:xs)(a1:cd->nl->Prop)(po:lH)(e b:cd)(t:ga):Prop:=∀C:cd->nl->Prop,(∀u,C (.bool t) {W.s with toks:=u})->f4 d.M A (JR po e b) C a1 W.s
def l5(d:sw)(W:nb)(A:xs)(a1:cd->nl->Prop)(po:lH)(e b:cd)(c I:R)(t:ga):Prop:=c' d W e c->c' d W b I->VX d W A a1 po e b t
theorem LS{he:p mO}(h:l3 n=j he):iR (.ah n)=j (.list he):=GT (n7 S0) h
theorem LU{he:p mO}(h:l3 n=j he):iR (.tup n)=j (.tuple he):=GT (n7 PyData.tuple) h
theorem VY(Z:W.ab d){z:E}(lf:zs z A){t:ga}(g:xf c I=j t):l5 d W A a1 .Eq e b c I t:=LO (P:=l5 d W A a1 .Eq e b) g (λa a db cr C h=>(db rfl).de λa=>(cr rfl).de λa=>P.eq_int (h W.s.toks)) (λa a db cr C h=>(db rfl).e_ λa=>(cr rfl).e_ λa=>P.eq_str (h W.s.toks)) λa a a a ln wT fd db cr C h=>VV Z lf db cr ln wT fd (h W.s.toks)
theorem VZ(Z:W.ab d){z:E}(lf:zs z A){t:ga}(g:xf c I=j t):l5 d W A a1 .NotEq e b c I (!t):=LO (P:=λc I t=>l5 d W A a1 .NotEq e b c I (!t)) g (λa a db cr C h=>(db rfl).de λa=>(cr rfl).de λa=>P.ne_int (h W.s.toks)) (λa a db cr C h=>(db rfl).e_ λa=>(cr rfl).e_ λa=>P.ne_str (h W.s.toks)) λa a a a ln wT fd db cr C h=>VW Z lf db cr ln wT fd (h W.s.toks)
theorem V0(Z:W.ab d){z:E}(lf:zs z A){t:ga}(g:xg c I=j t):l5 d W A a1 .In e b c I t:=LP (P:=l5 d W A a1 .In e b) g (λa a a a ln wT fd db cr C h=>(db.reads Z ln).elim λa m8=>(cr.reads Z (LS wT)).elim λa m9=>SeqAt.in_list_reads m9 m8 (l4 fd).2.1 (l4 fd).1 (Aw lf (l4 fd).2.2) (h W.s.toks)) (λa a a a ln wT fd db cr C h=>(db.reads Z ln).elim λa m8=>(cr.reads Z (LU wT)).elim λa m9=>SeqAt.in_tuple_reads m9 m8 (l4 fd).2.1 (l4 fd).1 (Aw lf (l4 fd).2.2) (h W.s.toks)) (λa a db cr C h=>(db rfl).e_ λa=>(cr rfl).e_ λa=>P.in_str (h W.s.toks)) λa a db cr C h=>(db rfl).e_ λa=>(cr rfl).EL λa a gt dy=>wpAny_inSet_of (knd:=aG d.prog d.w) (gI _ _ _ _) rfl (dy _ _ gt) (h _)
theorem V1(Z:W.ab d){z:E}(lf:zs z A){t:ga}(g:xg c I=j t):l5 d W A a1 .NotIn e b c I (!t):=LP (P:=λc I t=>l5 d W A a1 .NotIn e b c I (!t)) g (λa a a a ln wT fd db cr C h=>(db.reads Z ln).elim λa m8=>(cr.reads Z (LS wT)).elim λa m9=>SeqAt.notIn_list_reads m9 m8 (l4 fd).2.1 (l4 fd).1 (Aw lf (l4 fd).2.2) (h W.s.toks)) (λa a a a ln wT fd db cr C h=>(db.reads Z ln).elim λa m8=>(cr.reads Z (LU wT)).elim λa m9=>SeqAt.notIn_tuple_reads m9 m8 (l4 fd).2.1 (l4 fd).1 (Aw lf (l4 fd).2.2) (h W.s.toks)) (λa a db cr C h=>(db rfl).e_ λa=>(cr rfl).e_ λa=>P.notIn_str (h W.s.toks)) λa a db cr C h=>(db rfl).e_ λa=>(cr rfl).EL λa a gt dy=>wpAny_notInSet_of (knd:=aG d.prog d.w) (gI _ _ _ _) rfl (dy _ _ gt) (h _)
theorem V2(Z:W.ab d){z:E}(lf:zs z A){po:lH}{t:ga}:ci po c I=j t->l5 d W A a1 po e b c I t:=po.casesOn (motive:=λpo=>ci po c I=j t->l5 d W A a1 po e b c I t) (VY Z lf) (λg=>d0 g λa g=>VZ Z lf g) (λg=>As g λa a db cr C h=>(db rfl).de λa=>(cr rfl).de λa=>P.lt_int (h W.s.toks)) (λg=>As g λa a db cr C h=>(db rfl).de λa=>(cr rfl).de λa=>P.le_int (h W.s.toks)) (λg=>As g λa a db cr C h=>(db rfl).de λa=>(cr rfl).de λa=>P.gt_int (h W.s.toks)) (λg=>As g λa a db cr C h=>(db rfl).de λa=>(cr rfl).de λa=>P.ge_int (h W.s.toks)) (λg=>LN (P:=λI=>l5 d W A a1 .Is e b c I t) g λg db cr C h=>(cr rfl).xd (is_none_gen ((LR db g).symm▸h W.s.toks))) (λg=>d0 g λt g=>LN (P:=λI=>l5 d W A a1 .IsNot e b c I (!t)) g λg db cr C h=>(cr rfl).xd (isnot_none_gen ((LR db g).symm▸h W.s.toks))) (V0 Z lf) λg=>d0 g λa g=>V1 Z lf g
theorem LV(Z:W.ab d){z:E}(lf:zs z A){po:lH}{t:ga}(db:c' d W e c)(cr:c' d W b I)(g:ci po c I=j t)(h:∀u,C (.bool t) {W.s with toks:=u}):f4 d.M A (JR po e b) C a1 W.s:=V2 Z lf g db cr C h
noncomputable def xk(n:p R)(i:m0):Y R:=pp (fu i&&H1 n.length)<|b9 (r0 i n.length) λev=>n[ev]?
noncomputable def gM(c I:R):Y R:=oi c (λn=>hA I (xk n))<|uH c (λn=>hA I (xk n))<|uI c (λn=>h2 I λk=>n.lookup k)<|h2 c λc=>hA I λi=>pp (fu i)<|b9 (r0 i c.length) λev=>(c.cps[ev]?).map λt=>.str ⟨#[t]⟩
theorem LW{P:Prop}{i:m0}(g:xk n i=j r)(a2:∀ev,fu i=V->H1 n.length=V->r0 i n.length=j ev->n[ev]?=j r->P):P:=og g λq U g=>dd g λev s3 hd=>a2 ev q U s3 hd
theorem LX{x:Prop}[SP x]{e b:t0}(h:(if x then j e else bn)=j b):x/\e=b:=if q:x then⟨q,aO ((tt q).symm.trans h)⟩else nomatch (ss q).symm.trans h
theorem V3{i:m0}{z:E}(h:r0 i z=j ev):(i<0/\i+z=ev/\ev<z)\/(i=ev/\ev<z):=by
 unfold r0 at h;by_cases JG:i<0;·rw[tt JG]at h;obtain⟨ex,h3⟩:=LX h;obtain⟨aS,dT⟩:=f3.mp ex;have g:i+(z:m0)=ev:=h3▸(S1 (mQ aS)).symm;exact .inl ⟨JG,g,S2.mp (g▸mQ dT)⟩
 ·rw[ss JG]at h;obtain⟨ex,h3⟩:=LX h;obtain⟨aS,dT⟩:=f3.mp ex;have g:i=ev:=h3▸(S1 (mQ aS)).symm;exact .inr ⟨g,S2.mp (g▸mQ dT)⟩
theorem V4{i:m0}{z:E}(h:i+z=ev): -(z:m0)≤i:=by left
theorem uW{i:m0}(h:fu i=V): -(2^63)≤i/\i<2^63:=⟨Int.le_trans (by decide) (qP h).1,Int.lt_of_le_of_lt (qP h).2 (by decide)⟩
theorem V5{i:m0}(h:fu i=V):(decide (i< -(2^63:m0)) ||decide (i≥2^63))=G:=by rw[lL (Int.not_lt.mpr (uW h).1),lL (SX.mpr (uW h).2)];rfl
def uX(d:sw)(W:nb)(A:xs)(a1:cd->nl->Prop)(value n1:bv)(e b:cd)(c I r:R):Prop:=c' d W e c->c' d W b I->JS n1 G e b=JT [e,b] (JU e b)->∀C:cd->nl->Prop,(∀v u,x0 d W.B v r->C v {W.s with toks:=u})->f4 d.M A (subscriptTail value n1 e b) C a1 W.s
theorem V6{i:m0}(g:xk n i=j r):uX d W A a1 value n1 e b (.ah n) (.int i) r:=λdb cr fd C h=>(db rfl).hG (λe L z ae l=>(cr rfl).de λu fd=>LW g λev np pi s3 hd=>(l.get hd).elim λv q=>
 have ES:W.s.heap.IsList e L.toArray:=⟨_,ae,rfl,_,rfl⟩
 have FB:L.toArray[ev]?=j v:=by rw[t9];exact q.1
 JV ES.typeIs slot_list_getitem.lookup (by have U:L.toArray.size=n.length:=(jj ..).trans l.length;exact(V3 s3).elim (λx=>wpAny_getItem_list_neg ES x.1 (by rw[U];exact V4 x.2.1) (uW np).1 (by rw[U,x.2.1];exact FB) (h _ W.s.toks q.2)) λx=>wpAny_getItem_list ES (x.1▸Int.natCast_nonneg ev) (uW np).2 (by rw[x.1];exact FB) (h _ W.s.toks q.2)) fd) fd
theorem aeu{i:m0}(g:xk n i=j r):uX d W A a1 value n1 e b (.tup n) (.int i) r:=λdb cr fd C h=>(db rfl).pF (λe L z ae l=>(cr rfl).de λu fd=>LW g λev np pi s3 hd=>(l.get hd).elim λv q=>
 have LY:IsTup W.s.heap e L.toArray:=⟨_,ae,rfl,_,rfl⟩
 JV LY.typeIs slot_tuple_getitem.lookup (aiH LY (uW np).1 (uW np).2 (by rw[jj,l.length];exact s3) (by rw[t9];exact q.1) (h _ W.s.toks q.2)) fd) fd
theorem V7(g:gM c I=j r):uX d W A a1 value n1 e b c I r:=sy (P:=λc=>uX d W A a1 value n1 e b c I r) g (λn g=>m6 g λi g=>V6 g) λg=>Af (P:=λc=>uX d W A a1 value n1 e b c I r) g (λn g=>m6 g λi g=>aeu g) λg=>Ag (P:=λc=>uX d W A a1 value n1 e b c I r) g (λn g=>lX g λk g db cr fd C h=>(db rfl).ov (λe bd z xj ae l=>(cr rfl).e_ λu fd=>(l.find k g).elim λv q=>JV (l.mapOf ae).typeIs slot_dict_getitem.lookup (wpAny_getItem_of (gI _ _ _ _) (l.mapOf ae) q.1 (h _ _ q.2)) fd) fd) λg=>lX g λc g=>m6 g λi g=>Gt g λq g=>dd g λev s3 g=>d0 g λt f0 db cr fd C h=>(db rfl).e_ (λg2=>(cr rfl).de λu fd=>JV (t' _ _ _) F.slot_str_getitem.lookup (P.getItem_str (V5 q) (by rw[s3];exact f0) (h _ _ (.str _ _))) fd) fd
theorem V8(db:c' d W e c)(cr:c' d W b I)(g:gM c I=j r)(fd:JS n1 G e b=JT [e,b] (JU e b))(h:∀v u,x0 d W.B v r->C v {W.s with toks:=u}):f4 d.M A (subscriptTail value n1 e b) C a1 W.s:=V7 g db cr fd C h
end
set_option genInjectivity false in
set_option genSizeOf false in
structure Sc where
  fn:X->Y (p R->Y R)
  i1:X->X->Y R
  fs:X->Y R
  fld:kt->X->ga
  gN:kt->X->Y (p R->Y R)
  fv:kt->X->Y (p R->p ca->Y (R×p ca))
  hH:kt->ga
  gen:X->Y (R->Y (p R))
  hI:KT->bv->Y (hf->p ca->Y (p R×p ca))
  ext:KT->wP->Y (hf->p ca->Y (hf×p ca))
  au:E
  turns:E
noncomputable def l6(r:R):ga:=Aj r (λa=>G) V
noncomputable def d_(r:R):ga:=oj r (λa=>G)<|Ah r (λa=>G)<|Ai r (λa a=>G) V
noncomputable def LZ(i:E)(o:p ca)(t:ca):Y (R×p ca):=t.casesOn (λn=>j (.ah n,o.set i (.aq (.ah n)))) (λt s1=>pp (s1.all λx=>d_ x.2)<|j (.inst t s1,o.set i (.aq (.inst t s1)))) (λa=>bn) λr=>j (r,o)
noncomputable def d4(r:R)(o:p ca):Y (R×p ca):=oj r (λi=>b9 o[i]? (LZ i o))<|pp (d_ r)<|j (r,o)
theorem uY:d_ r=V->d4 r o=j (r,o):=r.casesOn (motive_1:=λr=>d_ r=V->d4 r o=j (r,o)) (λa=>rfl) (λa a=>rfl) (λa a=>rfl) (λa a=>rfl) (λa a=>rfl) (λa a=>rfl) (λa a=>rfl) (λa a=>rfl) (λa a=>rfl) (λa=>dN) (λa a a=>rfl) (λa=>dN) (λa a=>dN) (λa a=>rfl)
noncomputable def fa(n:p R):p ca->Y (p R×p ca):=n.rec (λo=>j ([],o)) λr a ih o=>s4 (d4 r o) λaR wE=>s4 (ih wE) λbo uZ=>j (aR::bo,uZ)
theorem Ax:fa (r::n) o=s4 (d4 r o) λaR wE=>s4 (fa n wE) λbo uZ=>j (aR::bo,uZ):=rfl
noncomputable def u0(t:iv):Y R:=t.casesOn (j .none) (λb=>j (.bool b)) (λi=>j (.int i)) (λa=>bn) (λa a=>bn) (λs=>j (.str s)) (λa=>bn) bn
noncomputable def lb(e b:m0):p R:=(bE (b - e).toNat).map λi=>.int (e+(i:E))
noncomputable def gn(c:X):p R:=c.cps.toList.map λt=>.str ⟨#[t]⟩
noncomputable def ku(n:p R):p R->p R:=n.rec (λa=>[]) λe a ih k=>k.rec [] λb k a=>.tup [e,b]::ih k
noncomputable def L0(r:R):Y R:=lW r (λc=>pp (H1 c.length)<|j (.int c.length))<|oi r (λn=>pp (H1 n.length)<|j (.int n.length))<|w9 r λn=>pp (H1 n.length)<|j (.int n.length)
noncomputable def qR(f:X)(g3:p R):Y R:=dZ (b' f "len"<|bY g3 L0)<|dZ (b' f "max"<|eT g3 λe b=>hA e λe=>hA b λb=>j (.int (if b>e then b else e)))<|dZ (b' f "list"<|bY g3 λr=>h4 r λn=>pp (H1 n.length)<|j (.ah n))<|b' f "tuple"<|bY g3 λr=>h4 r λn=>pp (H1 n.length)<|j (.tup n)
noncomputable def pG(n:p R):Y (p X):=n.rec (j []) λr a ih=>h2 r λc=>ih.map (c::·)
noncomputable def xl(n:p R):Y (p m0):=n.rec (j []) λr a ih=>hA r λc=>ih.map (c::·)
noncomputable def xm(c:X)(r:R):Y R:=h4 r λn=>b9 (pG n) λf1=>pp (mR c f1)<|j (.str (jk c f1))
noncomputable def L1(T:R)(g3:p R):Y R:=h2 T λc=>bY g3 (xm c)
noncomputable def Sv(c:X)(r:R):Y R:=h2 r λI=>pp (H1 c.length&&!(I.length==0))<|j (.ah ((Txt.split c I).map .str))
noncomputable def L2(T:R)(g3:p R):Y R:=h2 T λc=>bY g3 (Sv c)
noncomputable def L3(n:p R)(r:R):Y R:=hA r λk=>b9 (xl n) λns=>pp (ns.contains k&&Dd (.list (ns.map .int)))<|j (.int (ns.idxOf k:E))
noncomputable def L4(T:R)(g3:p R):Y R:=h4 T λn=>bY g3 (L3 n)
noncomputable def L5(n:p (X×R))(r:R):Y R:=h2 r λk=>j ((n.lookup k).getD .none)
noncomputable def L6(T:R)(g3:p R):Y R:=Lo T λn=>bY g3 (L5 n)
noncomputable def sG:p (X×(R->p R->Y R)):=[("join",L1),("split",L2),("index",L4),("get",L6)]
noncomputable def xn(T:R)(m:X)(g3:p R):Y R:=b9 (look m sG) λF=>F T g3
noncomputable def bV(bs:KT)(c:X):ga:=bs.names.lookup c==j .local ||bs.names.lookup c==j .cell
noncomputable def bindAll(bs:KT)(Rs:p bv):p R->hf->Y hf:=Rs.rec (λg3 H=>dS g3 (j H)) λu a ih g3 H=>cZ u λc a=>qJ g3 λr g3=>pp (bV bs c)<|ih g3 (Pv H c r)
theorem ET{bs:KT}{H:hf}:bindAll bs (u::Rs) g3 H=cZ u λc a=>qJ g3 λr g3=>pp (bV bs c)<|bindAll bs Rs g3 (Pv H c r):=rfl
noncomputable def d5(bs:KT)(u:bv)(r:R)(H:hf):Y hf:=lV u (λc a=>pp (bV bs c)<|j (Pv H c r))<|K7 u λRs a a=>w9 r λg3=>bindAll bs Rs g3 H
noncomputable def sH(Rs:p bv):p X:=Rs.filterMap λu=>cZ u λc a=>j c
noncomputable def qh(u:bv):p X:=lV u (λc a=>[c])<|m3 u (λRs a a=>sH Rs) []
noncomputable def h8(bs inner:KT)(u:bv):ga:=!bs.isGenerator&&(inner.kind==.function&&decide (inner.names.map (·.1)).Nodup&&inner.names.all (λx=>x.2 !=.free ||bs.names.lookup x.1==j .cell ||bs.names.lookup x.1==j .free)&&(qh u).all λc=>inner.names.lookup c==j .local ||inner.names.lookup c==j .cell)
noncomputable def qi(g:bv):ga:=m3 g (λa a a=>V) G
noncomputable def d6(bs inner:KT):KT:={inner with names:=inner.names.map λ(z,k)=>if(k==.free&&bs.kind==.function&&bs.names.lookup z==j .cell)then(z,.cell)else(z,k)}
noncomputable def dU(inner:KT)(H:hf):hf:=H.filter λx=>inner.names.lookup x.1==j .free
noncomputable def bb(c:X):ga:=!(c=="__debug__" ||c=="__classdict__" ||c=="__name__" ||c=="super")
noncomputable def df(bs:KT)(c:X):ga:=bs.names.lookup c==j .globalImplicit
noncomputable def ea:E->ga->p E->p R|h0,V,[]=>[.tup [.int (h0 - 1:E),.str ⟨#[92]⟩]]|_,G,[]=>[]|h0,V,t::l=>.tup [.int h0,.str ⟨#[92,t]⟩]::ea (h0+1) G l|h0,G,t::l=>if t==92 then ea (h0+1) V l else .tup [.int h0,.str ⟨#[t]⟩]::ea (h0+1) G l
noncomputable def m'(c:X):p R:=ea 0 G c.cps.toList
noncomputable def jy(po:n3)(e b:R):Y (p R):=h4 e λx=>dZ (b' po .Add<|h4 b λq=>pp (H1 (x.length+q.length))<|j (x++q))<|b' po .Mult<|hA b λi=>pp (fu i&&H1 (x.length*i.toNat))<|j (n8 i.toNat x).flatten
noncomputable def m_(n h:Y m0)(k:p R):p R:=(sliceRange (wB n h bn k.length).1 (wB n h bn k.length).2.1 (wB n h bn k.length).2.2).filterMap (k[·]?)
noncomputable def rT(i:E)(r:R)(o:p ca):Y (R×p ca):=s4 (d4 r o) λaR wE=>k_ wE[i]? λn=>pp (H1 n.length)<|j (.none,wE.set i (.list (n++[aR])))
noncomputable def qS(J:Sc)(f:R)(g3:p R)(o:p ca):Y (R×p ca):=bY g3 λr=>Ah f (λi=>rT i r o)<|Lw f λv=>Le v λe=>pp (J.hH e)<|(xm ⟨#[]⟩ (view o r)).map λl=>(l,o)
inductive u1 where
 |app
 |pop
 |fld (f:R)
 |ar (t:kt) (xL:p R->p ca->Y (R×p ca))
 |qT (t:kt) (xL:p R->Y R)
 |val
noncomputable def Sw(r:R):ga:=lW r (λa=>V)<|uI r (λa=>V)<|oi r (λa=>V) G
theorem V9(h:Sw r=V):d_ r=V:=sx (P:=λr=>d_ r=V) h (λa a=>rfl) λh=>Ag (P:=λr=>d_ r=V) h (λa a=>rfl) λh=>sy (P:=λr=>d_ r=V) h (λa a=>rfl) dN
noncomputable def L7(J:Sc)(m:X)(t:ca):Y u1:=t.casesOn (λa=>dZ (b' m "append"<|j .app) (b' m "pop"<|j .pop)) (λt s1=>eF (s1.lookup m) (λf=>pp (J.fld t m&&l6 f)<|j (.fld f))<|(J.fv t m).map (.ar t)) (λa=>bn) λa=>bn
noncomputable def ow(J:Sc)(r:R)(m:X)(o:p ca):Y u1:=oj r (λi=>b9 o[i]? (L7 J m))<|uL r (λt s1=>kq (s1.lookup m)<|(J.gN t m).map (.qT t))<|pp (Sw r) (j .val)
noncomputable def EU(i:E)(o:p ca):Y (R×p ca):=k_ o[i]? λn=>pp (H1 n.length)<|n.getLast?.map λr=>(r,o.set i (.list n.dropLast))
noncomputable def fb(J:Sc)(k:u1)(r:R)(m:X)(g3:p R)(o:p ca):Y (R×p ca):=k.casesOn (uK r λi=>bY g3 λc=>rT i c o) (uK r λi=>dS g3<|EU i o) (λf=>qS J f g3 o) (λa xL=>s4 (fa g3 o) λbQ wE=>xL (r::bQ) wE) (λa xL=>s4 (fa g3 o) λbQ wE=>(xL (r::bQ)).map λl=>(l,wE)) ((xn r m (g3.map (view o))).map λl=>(l,o))
noncomputable def sI(J:Sc)(f:X)(g3:p R)(o:p ca):Y (R×p ca):=eF (J.fn f) (λxL=>s4 (fa g3 o) λbQ f2=>(xL bQ).map λr=>(r,f2))<|(qR f (g3.map (view o))).map λr=>(r,o)
abbrev aN:=bv->p ca->Y (R×p ca)
abbrev c6:=bv->p ca->Y (ga×p ca)
noncomputable def jz(g:bv):ga:=m1 g (λa a a a=>G) V
noncomputable def jU(g:bv):ga:=z_ g (λa a=>G) V
noncomputable def c3(af:aN)(bd:p bv):p ca->Y (p R×p ca):=bd.rec (λo=>j ([],o)) λg a ih o=>pp (jU g)<|s4 (af g o) λr al=>s4 (ih al) λg3 f2=>j (r::g3,f2)
noncomputable def Ay(af:aN)(bd:p bv):X->p ca->Y (X×p ca):=bd.rec (λout o=>pp (H1 out.length)<|j (out,o)) λg a ih out o=>so g (λt a a=>w6 t λc=>pp (H1 (out.length+c.length))<|ih (out++c) o)<|K4 g λv ax xL a=>b' ax (-1)<|kq xL<|s4 (af v o) λr al=>h2 r λc=>pp (H1 (out.length+c.length))<|ih (out++c) al
noncomputable def lc(af:aN)(g:Y bv)(o:p ca):Y (Y m0×p ca):=eF g (λg=>s4 (af g o) λr al=>hA r λi=>j (j i,al)) (j (bn,o))
theorem L8{af:aN}:lc af (j g) o=s4 (af g o) λr al=>hA r λi=>j (j i,al):=rfl
noncomputable def h9(ax:c6)(po:pf)(bd:p bv):p ca->Y (ga×p ca):=bd.rec (λo=>j (po==.And,o)) λe a ih o=>s4 (ax e o) λu al=>c9 (u==(po==.And)) (ih al) (j (u,al))
theorem ox{ax:c6}{po:pf}{e:bv}{bd:p bv}:h9 ax po (e::bd) o=s4 (ax e o) λu al=>c9 (u==(po==.And)) (h9 ax po bd al) (j (u,al)):=rfl
noncomputable def h'(ax:c6)(bd:p bv):p ca->Y (ga×p ca):=bd.rec (λo=>j (V,o)) λe a ih o=>s4 (ax e o) λu al=>c9 u (ih al) (j (G,al))
theorem EV{ax:c6}{e:bv}{bd:p bv}:h' ax (e::bd) o=s4 (ax e o) λu al=>c9 u (h' ax bd al) (j (G,al)):=rfl
noncomputable def kv(step:R->p ca->Y (Y R×p ca))(n:p R):p ca->Y (p R×p ca):=n.rec (λo=>j ([],o)) λr a ih o=>s4 (step r o) λc al=>s4 (ih al) λf1 f2=>j (c.toList++f1,f2)
theorem L9{step:R->p ca->Y (Y R×p ca)}:kv step (r::n) o=s4 (step r o) λc al=>s4 (kv step n al) λf1 f2=>j (c.toList++f1,f2):=rfl
noncomputable def i2(Az:ga)(bs:KT)(u:bv)(H:hf)(fM:hf->aN)(gb:hf->c6)(aI:p bv)(bj:bv)(r:R)(o:p ca):Y (Y R×p ca):=b9 (d5 bs u r H) λo0=>s4 (h' (gb o0) aI o) λt al=>c9 t (s4 (fM o0 bj al) λc f2=>pp (!(Az&&!d_ c))<|s4 (d4 c f2) λnc ew=>j (j nc,ew)) (j (bn,al))
noncomputable def AA(z:E):bv->ga:=z.rec (λa=>G) λa s g=>so g (λa a a=>V)<|lV g (λa a=>V)<|uA g (λn a l a=>s n&&s l)<|qF g (λn a No a=>s n&&No.all s)<|w3 g (λv i a=>sq i (λa a a a=>G) (s v&&s i)) G
noncomputable def gc:bv->ga:=AA 9
inductive bz where
 |next
 |brk
 |cont
 |ret (r:R)
noncomputable def AB(H:hf)(ai:bv)(o:p ca)(aa:ga)(l:Y (p R×E×p ca)):Y (p R×E×p ca):=js l λn cb al=>c9 (cb==1&&!aa) (cZ ai λc a=>pp (bb c)<|lY (H.lookup c) λi=>s4 (d4 (.am i) o) λr f2=>h4 r λbo=>pp (H1 bo.length)<|j (bo,0,f2)) (j (n,cb,al))
noncomputable def EW(J:Sc)(bs:KT)(H:hf)(c:X)(o:p ca):Y (R×p ca):=pp (bb c)<|eF (H.lookup c) (λr=>j (r,o))<|pp (df bs c)<|(J.fs c).map λr=>(r,o)
section
variable(af:aN)(ax:c6)
noncomputable def AC(n:bv)(po:n3)(l:bv)(o:p ca):Y (R×p ca):=s4 (af n o) λe al=>s4 (af l al) λb f2=>eF (jy po (view f2 e) (view f2 b)) (λk=>j (.ah k,f2))<|(iB po (view f2 e) (view f2 b)).map λr=>(r,f2)
noncomputable def EX(po:JN)(c:bv)(o:p ca):Y (R×p ca):=po.casesOn bn (s4 (af c o) λr al=>(gu (view al r)).map λb=>(.bool (!b),al)) bn (sp c λt a a=>Ld t λi=>j (.int (-i),o))
noncomputable def EY(po:pf)(L:p bv)(o:p ca):Y (R×p ca):=eT L λe b=>s4 (af e o) λr al=>b9 (gu (view al r)) λu=>c9 (u==(po==.And)) (af b al) (j (r,al))
noncomputable def qU(n:bv)(iq:p lH)(No:p bv)(o:p ca):Y (ga×p ca):=bY iq λpo=>bY No λl=>pp (!De po l)<|s4 (af n o) λe al=>s4 (af l al) λb f2=>(ci po (view f2 e) (view f2 b)).map λt=>(t,f2)
noncomputable def AD(u e b:bv)(o:p ca):Y (R×p ca):=s4 (ax u o) λt al=>af (c9 t e b) al
noncomputable def sJ(mk:p R->R)(bd:p bv)(o:p ca):Y (R×p ca):=s4 (c3 af bd o) λg3 al=>s4 (fa g3 al) λbQ f2=>pp (H1 bQ.length)<|j (mk bQ,f2)
noncomputable def EZ(t3:p (Y bv))(L:p bv)(o:p ca):Y (R×p ca):=dZ (dS t3<|dS L<|j (.cF [],o))<|bY t3 λk=>bY L λv=>b9 k λk=>sp k λt a a=>w6 t λk=>s4 (af v o) λr al=>s4 (d4 r al) λaR f2=>j (.cF [(k,aR)],f2)
noncomputable def E0(J:Sc)(bs:KT)(H:hf)(T:bv)(e:X)(o:p ca):Y (R×p ca):=cZ T λc a=>pp (bb c)<|eF (H.lookup c) (λr=>Lu (view o r) λt s1=>b9 (s1.lookup e) λc=>pp (J.fld t e&&l6 c)<|j (c,o))<|pp (df bs c)<|(J.i1 c e).map λr=>(r,o)
noncomputable def xo(v:bv)(lo np:Y bv)(o:p ca):Y (R×p ca):=s4 (af v o) λT al=>s4 (lc af lo al) λn f2=>s4 (lc af np f2) λh ew=>lW (view ew T) (λc=>pp (H1 c.length)<|j (.str (ph c n h),ew))<|h4 (view ew T) λk=>pp (H1 k.length)<|j (.ah (m_ n h k),ew)
noncomputable def E1(v s:bv)(o:p ca):Y (R×p ca):=s4 (af v o) λT al=>s4 (af s al) λi f2=>(gM (view f2 T) (view f2 i)).map λr=>(r,f2)
noncomputable def E2(v s:bv)(o:p ca):Y (R×p ca):=sq s (λlo np aa a=>cZ v λc x=>kq aa<|xo af (.Name c x) lo np o)<|E1 af v s o
noncomputable def L'(T:bv)(TE:p bv)(bX h0:wS)(o:p ca):Y (R×p ca):=eT TE λe b=>sp e λt a a=>w6 t λI=>sp b λt a a=>w6 t λU=>s4 (af T o) λr al=>h2 r λc=>pp (bX.endLine==h0.line)<|pp (jz T)<|pp (!(I==U))<|pp (lK (c.length+(c.length+1)*U.length) 16777216)<|j (.str (Txt.replace c I U),al)
noncomputable def methP(J:Sc)(bs:KT)(T:bv)(m:X)(TE:p bv)(bX h0:wS)(o:p ca):Y (R×p ca):=pp (bX.endLine==h0.line)<|pp (decide (TE.length<30))<|pp (jz T)<|pp (!bs.isGenerator)<|s4 (af T o) λr al=>b9 (ow J r m al) λk=>s4 (c3 af TE al) λg3 f2=>fb J k r m g3 f2
noncomputable def aev(J:Sc)(bs:KT)(H:hf)(f:X)(TE:p bv)(o:p ca):Y (R×p ca):=pp (bb f)<|eF (H.lookup f) (λr=>s4 (c3 af TE o) (qS J r))<|pp (df bs f&&!bs.isGenerator)<|s4 (c3 af TE o) (sI J f)
noncomputable def E3(J:Sc)(bs:KT)(H:hf)(f:bv)(TE:p bv)(kx:p n4)(h0:wS)(o:p ca):Y (R×p ca):=dS kx<|lV f (λf a=>aev af J bs H f TE o)<|lU f λT m bX=>c9 (m=="replace") (L' af T TE bX h0 o) (methP af J bs T m TE bX h0 o)
noncomputable def L_(L:p bv)(o:p ca):Y (R×p ca):=pp (lK 2 L.length)<|(Ay af L Str.empty o).map λx=>(.str x.1,x.2)
end
set_option genInjectivity false in
set_option genSizeOf false in
structure xp where
 af:KT->bv->hf->p ca->Y (R×p ca)
 ax:KT->bv->hf->p ca->Y (ga×p ca)
 Ma:KT->bv->hf->p ca->Y (p R×E×p ca)
noncomputable def AE(lv:xp)(bs inner:KT)(H:hf)(bj:bv)(gens:p iS)(o:p ca):Y (R×p ca):=bY gens λd=>Li d λu ai aI=>js (AB H ai o (gc bj&&aI.all gc) (lv.Ma bs ai H o)) λn cb al=>pp (!((cb==1&&!(gc bj&&aI.all gc)) ||(cb==2&&!qi u)))<|pp (h8 bs inner u)<|s4 (kv (i2 (cb==1) (d6 bs inner) u (dU inner H) (λH g o=>lv.af (d6 bs inner) g H o) (λH g o=>lv.ax (d6 bs inner) g H o) aI bj) n al) λf1 f2=>pp (H1 n.length)<|j (.ah f1,f2)
noncomputable def V'(J:Sc)(lv:xp)(bs:KT)(g:bv)(H:hf)(o:p ca):Y (R×p ca):=
 let af:aN:=λg o=>lv.af bs g H o
 so g (λt a a=>(u0 t).map λr=>(r,o))<|lV g (λc a=>EW J bs H c o)<|uA g (λn po l a=>AC af n po l o)<|z6 g (λpo c a=>EX af po c o)<|sm g (λpo L a=>EY af po L o)<|
 qF g (λn iq No a=>(qU af n iq No o).map λx=>(.bool x.1,x.2))<|z7 g (λu e b a=>AD af (λg o=>lv.ax bs g H o) u e b o)<|w4 g (λbd a=>sJ af .ah bd o)<|m3 g (λbd a a=>sJ af .tup bd o)<|DW g (λt3 L a=>EZ af t3 L o)<|
 w2 g (λT e a=>E0 J bs H T e o)<|w3 g (λv s a=>E2 af v s o)<|m1 g (λf s5 t3 h0=>E3 af J bs H f s5 t3 h0 o)<|D1 g (λL a=>L_ af L o)<|K0 g λbj gens inner a=>AE lv bs inner H bj gens o
noncomputable def Mb(g3:p R):Y (p R):=dZ (bY g3 λr=>hA r λb=>pp (fu b)<|j (lb 0 b))<|eT g3 λe b=>hA e λe=>hA b λb=>pp (fu e&&fu b)<|j (lb e b)
noncomputable def Mc(g3:p R)(o:p ca):Y (p R×E×p ca):=s4 (fa g3 o) λbQ f2=>eT bQ λe b=>h4 e λn=>h4 b λk=>pp (H1 n.length&&H1 k.length)<|j (ku n k,2,f2)
noncomputable def xq(J:Sc)(f:X)(g3:p R)(o:p ca):Y (p R×E×p ca):=eF (J.gen f) (λxL=>bY g3 λr=>(xL r).map λn=>(n,0,o))<|dZ (b' f "range"<|(Mb g3).map λn=>(n,0,o))<|b' f "zip"<|Mc g3 o
noncomputable def xr(r:R)(o:p ca):Y (p R×E×p ca):=oj r (λi=>k_ o[i]? λn=>pp (H1 n.length)<|j (n,1,o))<|oi r (λn=>pp (H1 n.length)<|j (n,0,o))<|h2 r λc=>pp (H1 c.length)<|j (gn c,0,o)
noncomputable def V_(J:Sc)(lv:xp)(bs:KT)(g:bv)(H:hf)(o:p ca):Y (p R×E×p ca):=
 let af:aN:=λg o=>lv.af bs g H o
 m1 g (λf s5 t3 a=>dS t3<|cZ f λf a=>pp (df bs f&&(H.lookup f).isNone&&bb f)<|s4 (c3 af s5 o) (xq J f))<|s4 (af g o) xr
noncomputable def AF(g:bv):ga:=Ej g (λa=>G)<|sm g (λa a a=>G)<|z7 g (λa a a a=>G)<|qF g (λa a a a=>G) V
noncomputable def condB(lv:xp)(bs:KT)(g:bv)(H:hf)(o:p ca):Y (ga×p ca):=
 let af:aN:=λg o=>lv.af bs g H o
 let ax:c6:=λg o=>lv.ax bs g H o
 c9 (AF g) (s4 (af g o) λr al=>(gu (view al r)).map λb=>(b,al))<|Ej g (λc=>(ax c o).map λx=>(!x.1,x.2))<|sm g (λpo L a=>h9 ax po L o)<|K2 g λn iq No a=>qU af n iq No o
noncomputable def u2(J:Sc)(z:E):xp:=z.rec ⟨λa a a a=>bn,λa a a a=>bn,λa a a a=>bn⟩ λa lv=>⟨V' J lv,condB lv,V_ J lv⟩
noncomputable def sB(J:Sc)(z:E):KT->bv->hf->p ca->Y (R×p ca):=(u2 J z).af
noncomputable def cx(J:Sc)(z:E):KT->bv->hf->p ca->Y (ga×p ca):=(u2 J z).ax
noncomputable def iC(J:Sc)(z:E):KT->bv->hf->p ca->Y (p R×E×p ca):=(u2 J z).Ma
section
variable{J:Sc}{z:E}{bs:KT}{H:hf}
theorem Wa{t:iv}{k:E}:sB J (z+1) bs (.Constant t k x) H o=(u0 t).map λr=>(r,o):=rfl
theorem Md:sB J (z+1) bs (.Name c x) H o=EW J bs H c o:=rfl
theorem AG{n l:bv}:sB J (z+1) bs (.BinOp n po l x) H o=AC (λg o=>sB J z bs g H o) n po l o:=rfl
theorem Wb{po:pf}{L:p bv}:sB J (z+1) bs (.BoolOp po L x) H o=EY (λg o=>sB J z bs g H o) po L o:=rfl
theorem Wc{n:bv}:sB J (z+1) bs (.Compare n iq No x) H o=(qU (λg o=>sB J z bs g H o) n iq No o).map λx=>(.bool x.1,x.2):=rfl
theorem Me{e b:bv}:sB J (z+1) bs (.IfExp u e b x) H o=AD (λg o=>sB J z bs g H o) (λg o=>cx J z bs g H o) u e b o:=rfl
theorem Wd{bd:p bv}:sB J (z+1) bs (.List bd x) H o=sJ (λg o=>sB J z bs g H o) .ah bd o:=rfl
theorem Mf{bd:p bv}{k:E}:sB J (z+1) bs (.Tuple bd k x) H o=sJ (λg o=>sB J z bs g H o) .tup bd o:=rfl
theorem We{t3:p (Y bv)}{L:p bv}:sB J (z+1) bs (.Dict t3 L x) H o=EZ (λg o=>sB J z bs g H o) t3 L o:=rfl
theorem Mg{T:bv}{e:X}:sB J (z+1) bs (.Attribute T e x) H o=E0 J bs H T e o:=rfl
theorem AH{v s:bv}:sB J (z+1) bs (.Subscript v s x) H o=E2 (λg o=>sB J z bs g H o) v s o:=rfl
theorem AI{f:bv}{t3:p n4}:sB J (z+1) bs (.Call f s5 t3 x) H o=E3 (λg o=>sB J z bs g H o) J bs H f s5 t3 x o:=rfl
theorem Mh:cx J (z+1) bs (.Name c x) H o=s4 (sB J z bs (.Name c x) H o) λr al=>(gu (view al r)).map λb=>(b,al):=rfl
theorem Wf{T:bv}{e:X}:cx J (z+1) bs (.Attribute T e x) H o=s4 (sB J z bs (.Attribute T e x) H o) λr al=>(gu (view al r)).map λb=>(b,al):=rfl
theorem Wg{f:bv}{t3:p n4}:cx J (z+1) bs (.Call f s5 t3 x) H o=s4 (sB J z bs (.Call f s5 t3 x) H o) λr al=>(gu (view al r)).map λb=>(b,al):=rfl
theorem Wh{n:bv}:cx J (z+1) bs (.Compare n iq No x) H o=qU (λg o=>sB J z bs g H o) n iq No o:=rfl
theorem Wi{c:bv}:cx J (z+1) bs (.UnaryOp .Not c x) H o=(cx J z bs c H o).map λx=>(!x.1,x.2):=rfl
theorem Mi{gens:p iS}:sB J (z+1) bs (.ListComp bj gens inner x) H o=AE (u2 J z) bs inner H bj gens o:=rfl
end
variable{fM:hf->aN}
variable{gb:hf->c6}
theorem nb.ab.l7{d:sw}(ds:d.ab)(Z:W.ab d):d.K.In W.h:=λe T g=>Z.bw _ _ (Z.base _ _ (ds.K e T g))
theorem nb.ab.old{d:sw}(Z:W.ab d)(g:d.az.get? e=j T):W.h.get? e=j T:=Z.bw _ _ (Z.base _ _ g)
theorem nb.ab.fs{d:sw}(ds:d.ab)(Z:W.ab d):W.h.Ns k0 d.mg:=ds.fs.at' λa g=>Z.old g
theorem nb.ab.j4{d:sw}(ds:d.ab)(Z:W.ab d):W.h.Ns C9 d.mb:=ds.j4.at' λa g=>Z.old g
section
variable(d:sw)(A:xs)(O:IN)(H:hf)
def bH(u:aP cd)(o:p ca)(l:R×p ca):Prop:=∀(a1:cd->nl->Prop) (C:cd->nl->Prop) (W:nb),W.ab d->Tl d O H W->W.o=o->(∀v y,y.ab d->kw d [] W y->y.o=l.2->wp d y.B y.ag v l.1->C v y.s)->f4 d.M A u C a1 W.s
def nd(u:aP ga)(o:p ca)(l:ga×p ca):Prop:=∀(a1:cd->nl->Prop) (C:ga->nl->Prop) (W:nb),W.ab d->Tl d O H W->W.o=o->(∀y,y.ab d->kw d [] W y->y.o=l.2->C l.1 y.s)->f4 d.M A u C a1 W.s
def Mj(u:aP (p cd))(o:p ca)(l:p R×p ca):Prop:=∀(a1:cd->nl->Prop) (C:p cd->nl->Prop) (W:nb),W.ab d->Tl d O H W->W.o=o->(∀L y,y.ab d->kw d [] W y->y.o=l.2->cn d y.B y.ag L l.1->C L y.s)->f4 d.M A u C a1 W.s
def a0(af:aN):Prop:=∀g o l,af g o=j l->bH d A O H (eval g O) o l
def nf(ax:c6):Prop:=∀g o l,ax g o=j l->nd d A O H (g8 g O (eval g O)) o l
end
section
variable{d:sw}{A:xs}{O:IN}{H:hf}
theorem xt{u:aP cd}(Z:W.ab d)(h:∀ck:cd->nl->Prop,(∀v u,x0 d W.B v r->ck v {W.s with toks:=u})->f4 d.M A u ck a1 W.s)(hm:∀v y,y.ab d->kw d [] W y->y.o=W.o->wp d y.B y.ag v r->C v y.s):f4 d.M A u C a1 W.s:=by refine S3 (Da _) (cJ (h (λv it=>W.s.toks≤it.toks->C v it) λv u l le=>?_) (λa a c=>c) λa a c a=>c);exact hm v (W.to {W.s with toks:=u}) (Z.ao le) (kw.refl.ao le) rfl (.aq l)
theorem Wj{u:aP ga}{t:ga}(Z:W.ab d){C:ga->nl->Prop}(h:∀ck:ga->nl->Prop,(∀u,ck t {W.s with toks:=u})->f4 d.M A u ck a1 W.s)(hm:∀y,y.ab d->kw d [] W y->y.o=W.o->C t y.s):f4 d.M A u C a1 W.s:=by refine S3 (Da _) (cJ (h (λv it=>W.s.toks≤it.toks->C v it) λu le=>?_) (λa a c=>c) λa a c a=>c);exact hm (W.to {W.s with toks:=u}) (Z.ao le) (kw.refl.ao le) rfl
structure bO(d:sw)(O:IN)(H:hf)(W y:nb):Prop where
 ok:y.ab d
 aj:Tl d O H y
 le:kw d [] W y
variable{l:R×p ca}{N:Type}
theorem bO.step(ds:bO d O H un W)(Z:y.ab d)(le:kw d [] W y):bO d O H un y:=⟨Z,ds.aj.f' le,ds.le.trans le⟩
def l8(d:sw)(O:IN)(H:hf)(W:nb)(l:R×p ca)(C:cd->nl->Prop):Prop:=∀v r y,bO d O H W y->wp d y.B y.ag v r->j (r,y.o)=j l->C v y.s
theorem hJ{F:p ca->Prop}{u:aP cd}(az:F o)(h:∀a1 C W,F W.o->bO d O H W W->l8 d O H W l C->f4 d.M A u C a1 W.s):bH d A O H u o l:=λa1 C W Z aj ap hm=>h a1 C W (ap.symm▸az) ⟨Z,aj,kw.refl⟩ λv r y ds ay g=>hm v y ds.ok ds.le (GT ko (aO g)) (GT k1 (aO g)▸ay)
def Wk(d:sw)(O:IN)(H:hf)(W:nb)(l:ga×p ca)(C:ga->nl->Prop):Prop:=∀t y,bO d O H W y->j (t,y.o)=j l->C t y.s
theorem Mk{F:p ca->Prop}{u:aP ga}{l:ga×p ca}(az:F o)(h:∀a1 C W,F W.o->bO d O H W W->Wk d O H W l C->f4 d.M A u C a1 W.s):nd d A O H u o l:=λa1 C W Z aj ap hm=>h a1 C W (ap.symm▸az) ⟨Z,aj,kw.refl⟩ λt y ds g=>(show t=l.1 from GT k1 (aO g))▸hm y ds.ok ds.le (GT ko (aO g))
theorem bH.go{u:aP cd}{e:R×p ca}(a7:bH d A O H u W.o e){k:R->p ca->Y N}{c:N}(h:k e.1 e.2=j c)(ds:bO d O H un W)(hm:∀v r y,bO d O H un y->kw d [] W y->wp d y.B y.ag v r->k r y.o=j c->C v y.s):f4 d.M A u C a1 W.s:=a7 _ _ _ ds.ok ds.aj rfl λv y Z le ap l=>hm v _ y (ds.step Z le) le l (ap.symm▸h)
theorem a0.go{af:aN}(a2:a0 d A O H af){k:R->p ca->Y N}{c:N}(h:s4 (af g W.o) k=j c)(ds:bO d O H un W)(hm:∀v r y,bO d O H un y->kw d [] W y->wp d y.B y.ag v r->k r y.o=j c->C v y.s):f4 d.M A (eval g O) C a1 W.s:=b8 h λe b g h=>(a2 _ _ _ g).go h ds hm
theorem nf.go{ax:c6}(a2:nf d A O H ax){k:ga->p ca->Y N}{c:N}(h:s4 (ax g W.o) k=j c)(ds:bO d O H un W){C:ga->nl->Prop}(hm:∀t y,bO d O H un y->kw d [] W y->k t y.o=j c->C t y.s):f4 d.M A (g8 g O (eval g O)) C a1 W.s:=b8 h λe b g h=>a2 _ _ _ g _ _ _ ds.ok ds.aj rfl λy Z le ap=>hm _ y (ds.step Z le) le (ap.symm▸h)
theorem a0.two{af:aN}(a2:a0 d A O H af){f:bv}{k:R->R->p ca->Y N}{c:N}(h:(s4 (af g W.o) λe o=>s4 (af f o) (k e))=j c)(ds:bO d O H un W){C:cd->cd->nl->Prop}(hm:∀v g2 e b y,bO d O H un y->wp d y.B y.ag v e->wp d y.B y.ag g2 b->k e b y.o=j c->C v g2 y.s):f4 d.M A (eval g O) (λv s=>f4 d.M A (eval f O) (C v) a1 s) a1 W.s:=a2.go h ds λv e nn aU a Pi h=>a2.go h aU λg2 b u8 bh le eI h=>hm v g2 e b u8 bh (le.ay Pi) eI h
theorem l8.leaf(K:l8 d O H un l C)(ds:bO d O H un W){u:aP cd}(g:j (r,W.o)=j l)(h:∀ck:cd->nl->Prop,(∀v u,x0 d W.B v r->ck v {W.s with toks:=u})->f4 d.M A u ck a1 W.s):f4 d.M A u C a1 W.s:=xt ds.ok h λv y Z le ap l=>K v r y (ds.step Z le) l (ap.symm▸g)
theorem l8.at(K:l8 d O H un l C)(ds:bO d O H un W)(g:j (r,W.o)=j l)(h:x0 d W.B v r):C v W.s:=K v r W ds (.aq h) g
theorem l8.ao(K:l8 d O H un l C)(ds:bO d O H un W)(g:j (r,W.o)=j l)(h:wp d W.B W.ag v r){u:E}(ty:W.s.toks≤u):C v {W.s with toks:=u}:=K v r (W.to {W.s with toks:=u}) (ds.step (ds.ok.ao ty) (kw.refl.ao ty)) h g
theorem l8.new(K:l8 d O H un l C)(ds:bO d O H un W)(wn:T.isFreed=G)(g:j (r,W.o)=j l)(h:∀B:aX,B W.h.objs.size=j T->(∀e T,W.B e=j T->B e=j T)->x0 d B (.ref W.h.objs.size) r):C (.ref W.h.objs.size) {W.s with heap:=W.h.push T}:=K _ r (W.new T) (ds.step (ds.ok.new wn) (kw.refl.new ds.ok T)) (.aq (h _ (nb.uO T) (kw.refl (sK:=[]).new ds.ok T).B)) g
theorem Wl{t:iv}{k:E}(g:(u0 t).map (λr=>(r,o))=j l):bH d A O H (eval (.Constant t k h0) O) o l:=hJ (F:=λo=>(u0 t).map (λr=>(r,o))=j l) g λa1 C W g ds K=>gK g λr hd g=>t.casesOn (motive:=λt=>u0 t=j r->f4 d.M A (eval (.Constant t k h0) O) C a1 W.s) (λh=>Constant_none (K.at ds g (aO h▸.none))) (λb h=>Constant_bool (K.at ds g (aO h▸.bool b))) (λi h=>S4 (K.ao ds g (.aq (aO h▸.int i _)) (cu _))) (λa=>a') (λa a=>a') (λc h=>zB (K.ao ds g (.aq (aO h▸.str c _)) (cu _))) (λa=>a') a' hd
theorem AJ(f8:H.lookup c=j r)(hd:(c==("__debug__":X))=G)(pi:(c==("__classdict__":X))=G):bH d A O H (eval (.Name c h0) O) o (r,o):=λa1 C W Z aj ap hm=>jY (aj.load f8 pi λv l=>hm v W Z kw.refl ap l) hd
def E4(d:sw)(c:X)(r:R):Prop:=∃v,d.mg c=j v/\∀B:aX,(∀e T,d.az.get? e=j T->B e=j T)->x0 d B v r
theorem sL{ds:d.ab}(Z:W.ab d)(af:Tl d O H W)(hd:(c==("__debug__":X))=G)(gl:df O.scope c=V)(FB:d.mg c=j v)(h:C v W.s):f4 d.M A (eval (.Name c h0) O) C a1 W.s:=by refine ae8 af.kind (bt.mp gl) (loadGlobal_global (mg:=d.mg) ?_ FB h) hd;rw[af.glob];exact Z.fs ds
theorem qV{ds:d.ab}(Z:W.ab d)(af:Tl d O H W)(hd:(c==("__debug__":X))=G)(gl:df O.scope c=V)(FB:d.mg c=bn)(cr:mM c=j v)(f8:c≠"__name__")(h:C v W.s):f4 d.M A (eval (.Name c h0) O) C a1 W.s:=by
 refine ae8 af.kind (bt.mp gl) (loadGlobal_builtin (mg:=d.mg) (mb:=d.mb) ?_ FB ?_ (by rw[ds.builtins c f8];exact cr) h) hd;·rw[af.glob];exact Z.fs ds
 ·rw[af.j4];exact Z.j4 ds
theorem bH.seq{u:aP cd}{l:R×p ca}(h:bH d A O H u o l)(Z:W.ab d)(af:Tl d O H W)(ap:W.o=o)(hm:∀v y,y.ab d->Tl d O H y->kw d [] W y->y.o=l.2->wp d y.B y.ag v l.1->C v y.s):f4 d.M A u C a1 W.s:=h _ _ _ Z af ap λv y xz le bG ay=>hm v y xz (af.f' le) le bG ay
theorem nd.seq{u:aP ga}{l:ga×p ca}(h:nd d A O H u o l){C:ga->nl->Prop}(Z:W.ab d)(af:Tl d O H W)(ap:W.o=o)(hm:∀y,y.ab d->Tl d O H y->kw d [] W y->y.o=l.2->C l.1 y.s):f4 d.M A u C a1 W.s:=h _ _ _ Z af ap λy xz le bG=>hm y xz (af.f' le) le bG
theorem Wm{af:aN}(a2:a0 d A O H af){z:E}(lf:zs z A){n:bv}(h:(qU af n iq No o).map (λx=>(R.bool x.1,x.2))=j l):bH d A O H (eval (.Compare n iq No h0) O) o l:=gK h λx h g=>d2 h λpo h=>d2 h λeb h=>iX h λpc h=>hJ (F:=λo=>(s4 (af n o) λe al=>s4 (af eb al) λb f2=>(ci po (view f2 e) (view f2 b)).map λt=>(t,f2))=j x) h λa1 C W h ds K=>wpAny_Compare1 (a2.two h ds λv g2 e b u8 bh Pi eI h=>gK h λt f0 h=>K.leaf bh ((GT (n7 λx:ga×p ca=>(R.bool x.1,x.2)) h).trans g) λck h=>LV bh.ok lf (jx bh.ok Pi) (jx bh.ok eI) f0 λu=>h _ _ (.bool t)) pc
theorem Wn{af:aN}(a2:a0 d A O H af){z:E}(lf:zs z A){n:bv}{eE:aP cd}{l:ga×p ca}(h:qU af n iq No o=j l):nd d A O H (g8 (.Compare n iq No h0) O eE) o l:=d2 h λpo h=>d2 h λeb h=>iX h λpc h=>Mk (F:=λo=>(s4 (af n o) λe al=>s4 (af eb al) λb f2=>(ci po (view f2 e) (view f2 b)).map λt=>(t,f2))=j l) h λa1 C W h ds K=>wpAny_isTrue_Compare1 (a2.two h ds λv g2 e b u8 bh Pi eI h=>gK h λt f0 h=>xt (r:=.bool t) bh.ok (λck h=>LV bh.ok lf (jx bh.ok Pi) (jx bh.ok eI) f0 λu=>h _ _ (.bool t)) λv y xz le ap eb=>(show v=.bool t from eb.i.i)▸SY (K t y (bh.step xz le) (ap.symm▸h))) pc
theorem Ml{af:aN}(a2:a0 d A O H af){n f:bv}(h:(s4 (af n o) λe al=>s4 (af f al) λb f2=>(iB po (view f2 e) (view f2 b)).map λr=>(r,f2))=j l):bH d A O H (eval (.BinOp n po f h0) O) o l:=hJ (F:=λo=>(s4 (af n o) λe al=>s4 (af f al) λb f2=>(iB po (view f2 e) (view f2 b)).map λr=>(r,f2))=j l) h λa1 C W h ds K=>wpAny_BinOp (a2.two h ds λv g2 e b u8 bh Pi eI h=>gK h λr hd g=>K.leaf bh g λck h=>VO (jx bh.ok Pi) (jx bh.ok eI) hd h)
theorem Wo{t:ga}(Z:W.ab d)(l:wp d W.B W.ag v r)(h:gu (view W.o r)=j t){C:ga->nl->Prop}(hm:∀y,y.ab d->kw d [] W y->y.o=W.o->C t y.s):f4 d.M A (Dc v) C a1 W.s:=Wj Z (λa eg=>VU Z (jx Z l) h eg) hm
theorem AK{t:ga}(ds:bO d O H un W)(l:wp d W.B W.ag v r)(h:gu (view W.o r)=j t){k:p ca->Y N}{c:N}(g:k W.o=j c){C:ga->nl->Prop}(hm:∀y,bO d O H un y->kw d [] W y->k y.o=j c->C t y.s):f4 d.M A (Dc v) C a1 W.s:=Wo ds.ok l h λy Z le ap=>hm y (ds.step Z le) le (ap.symm▸g)
theorem Wp{af:aN}(a2:a0 d A O H af){c:bv}(h:(s4 (af c o) λr al=>(gu (view al r)).map λb=>(R.bool (!b),al))=j l):bH d A O H (eval (.UnaryOp .Not c h0) O) o l:=hJ (F:=λo=>(s4 (af c o) λr al=>(gu (view al r)).map λb=>(R.bool (!b),al))=j l) h λa1 C W h ds K=>UnaryOp_ (a2.go h ds λv r nn aU a Pi h=>gK h λb cr g=>not_of (AK (k:=λo=>j (R.bool (!b),o)) aU Pi cr g λy bi a g=>K.at bi g (.bool _)))
theorem Wq{af:aN}(a2:a0 d A O H af){po:pf}{L:p bv}(h:EY af po L o=j l):bH d A O H (eval (.BoolOp po L h0) O) o l:=pA h λe b h=>hJ (F:=λo=>(s4 (af e o) λr al=>b9 (gu (view al r)) λu=>c9 (u==(po==.And)) (af b al) (j (r,al)))=j l) h λa1 C W h ds K=>
  have lg:∀nn,bO d O H W nn->af b nn.o=j l->f4 d.M A (eval b O) C a1 nn.s:=λnn aU h=>(a2 _ _ _ h).go (k:=λe b=>j (e,b)) (c:=l) rfl aU λv r y bi a eb g=>K v r y bi eb g
  po.casesOn (motive:=λpo=>(s4 (af e W.o) λr al=>b9 (gu (view al r)) λu=>c9 (u==(po==.And)) (af b al) (j (r,al)))=j l->f4 d.M A (eval (.BoolOp po [e,b] h0) O) C a1 W.s)
   (λh=>BoolOp_and (a2.go h ds λv r nn aU a Pi h=>dd h λu ty h=>AK (k:=λo=>c9 (u==V) (af b o) (j (r,o))) aU Pi ty h λy bi le h=>
    u.casesOn (motive:=λu=>c9 (u==V) (af b y.o) (j (r,y.o))=j l->if u=V then _ else _) (λh=>K v r y bi (le.ay Pi) h) (λh=>BoolOp_one (lg y bi h)) h))
   (λh=>BoolOp_or (a2.go h ds λv r nn aU a Pi h=>dd h λu ty h=>AK (k:=λo=>c9 (u==G) (af b o) (j (r,o))) aU Pi ty h λy bi le h=>
    u.casesOn (motive:=λu=>c9 (u==G) (af b y.o) (j (r,y.o))=j l->if u=V then _ else _) (λh=>BoolOp_one (lg y bi h)) (λh=>K v r y bi (le.ay Pi) h) h)) h
theorem Wr{af:aN}{ax:c6}(a2:a0 d A O H af)(xu:nf d A O H ax){e b:bv}(h:AD af ax u e b o=j l):bH d A O H (eval (.IfExp u e b h0) O) o l:=hJ (F:=λo=>AD af ax u e b o=j l) h λa1 C W h ds K=>IfExp_ (xu.go h ds λt nn aU a h=>
  have lg:∀g,af g nn.o=j l->f4 d.M A (eval g O) C a1 nn.s:=λg h=>(a2 _ _ _ h).go (k:=λe b=>j (e,b)) (c:=l) rfl aU λv r y bi a eb g=>K v r y bi eb g
  t.casesOn (motive:=λt=>af (c9 t e b) nn.o=j l->if t=V then f4 d.M A (eval e O) C a1 nn.s else f4 d.M A (eval b O) C a1 nn.s) (lg b) (lg e) h)
theorem E5{l:p bv}(h:jU g=V):ht (g::l) O=(G,eval g O)::ht l O:=g.casesOn (motive_1:=λg=>jU g=V->ht (g::l) O=(G,eval g O)::ht l O) (λa a a a=>rfl) (λa a a a=>rfl) (λa a a a a=>rfl) (λa a a a=>rfl) (λa a a a a=>rfl) (λa a a a a=>rfl) (λa a a a=>rfl) (λa a a a=>rfl) (λa a a a a=>rfl) (λa a a a a=>rfl) (λa a a a a a=>rfl) (λa a a a a=>rfl) (λa a a=>rfl) (λa a a=>rfl) (λa a a=>rfl) (λa a a a a=>rfl) (λa a a a a=>rfl) (λa a a a a=>rfl) (λa a a=>rfl) (λa a a a=>rfl) (λa a a a=>rfl) (λa a a a=>rfl) (λa a h=>nomatch h) (λa a a=>rfl) (λa a a=>rfl) (λa a a a=>rfl) (λa a a a a=>rfl) h
theorem E6{u:aP cd}{l:p (ga×aP cd)}:iy h0 ((G,u)::l)=(G,u)::iy h0 l:=rfl
theorem AL{af:aN}(a2:a0 d A O H af){bd:p bv}:∀{o:p ca} {l:p R×p ca},c3 af bd o=j l->Mj d A O H (r1 (iy h0 (ht bd O))) o l/\(iy h0 (ht bd O)).any (·.1)=G:=bd.rec (motive:=λbd=>∀{o:p ca} {l:p R×p ca},c3 af bd o=j l->Mj d A O H (r1 (iy h0 (ht bd O))) o l/\(iy h0 (ht bd O)).any (·.1)=G) (λh=>aQ h ⟨λa a a Z aj ap hm=>Df (hm _ _ Z kw.refl ap .nil),rfl⟩) λg bd ih {o l} h=>Gt h λfd h=>by rw[E5 fd,E6];exact b8 h λr al h1 h=>b8 h λg3 f2 ex h=>aQ h ⟨λa a a Z aj ap hm=>JW ((a2 _ _ _ h1).seq Z aj ap λv nn Db cS Ok cm Pi=>(ih ex).1 _ _ _ Db cS cm λL u8 P3 Ix bI eI=>hm _ _ P3 (Ok.trans Ix) bI (.cons (Ix.ay Pi) eI)),(JX).trans (ih ex).2⟩
theorem a0.Ws{af:aN}(a2:a0 d A O H af){bd:p bv}{k:p R->p ca->Y N}{c:N}(h:s4 (c3 af bd W.o) k=j c)(ds:bO d O H un W){C:p cd->nl->Prop}(hm:∀L g3 y,bO d O H un y->kw d [] W y->cn d y.B y.ag L g3->k g3 y.o=j c->C L y.s):f4 d.M A (r1 (iy h0 (ht bd O))) C a1 W.s:=b8 h λe b g h=>(AL a2 g).1 _ _ _ ds.ok ds.aj rfl λv y Z le ap l=>hm v _ y (ds.step Z le) le l (ap.symm▸h)
theorem a0.any{af:aN}(a2:a0 d A O H af){bd:p bv}{k:p R->p ca->Y N}{c:N}(h:s4 (c3 af bd o) k=j c):(iy h0 (ht bd O)).any (·.1)=G:=b8 h λa a g a=>(AL a2 g).2
theorem l9{Ch:iw}{f:cd}{TE:p (ga×aP cd)}{C:t_->nl->Prop}(ln:TE.any (·.1)=G)(h:f4 Ch A (r1 TE) (λL it=>C ⟨L,[]⟩ it) a1 s):f4 Ch A (JY f V TE []) C a1 s:=by
 cases TE with
 |nil=>unfold JY;show f4 Ch A (r1 []>>=_) C a1 s;refine g1 (cJ h (λL it eg=>?_) λa a c=>c);refine dF ?_;exact g1 (s2 (g1 (s2 (s2 eg))))
 |cons c rest=>
  obtain⟨aa,u⟩:=c;have dk:aa=G:=by cases aa<;>simp_all
  subst dk;exact evalArgs_plain h
end
section
variable{d:sw}{A:xs}{O:IN}{H:hf}
theorem x0.xv{B:aX}(l:wp d B ag v r)(h:d_ r=V):x0 d B v r:=l.casesOn (motive:=λv r a=>d_ r=V->x0 d B v r) (λv a=>v) (λa=>dN) (λa a=>dN) (λa a=>dN) h
theorem f9.frozen{B:aX}(l:f9 d B ag bd s1):s1.all (λx=>d_ x.2)=V->cG d B bd s1:=l.rec (motive:=λbd s1 a=>s1.all (λx=>d_ x.2)=V->cG d B bd s1) (λa=>.nil) λk t1 v a ih h=>have h:=f3.mp (S5.symm.trans h);.cons k t1 (x0.xv v h.1) (ih h.2)
def AM(d:sw)(W:nb)(v:cd)(r:R)(o:p ca):Prop:=∃y,y.ab d/\kw d [] W y/\y.o=o/\y.s=W.s/\x0 d y.B v r
theorem Mm(Z:W.ab d){i:E}{m:kt}{t:ca}(g:W.o[i]?=j t)(nw:W.ag[i]?=j (e,m))(ae:t.live=V)(gt:W.h.get? m=j T)(hd:∀B:aX,(∀b q,W.B b=j q->B b=j q)->B m=j T->x0 d B (.ref e) r):AM d W (.ref e) r (W.o.set i (.aq r)):=
 have hd:=hd (W.oq i r m T).B (nb.g_ (W:=W) (.inl (Z.off _ (j5 nw g ae)).1)) (nb.hD (W:=W) ..)
 ⟨_,Z.oq g nw ae gt hd,kw.refl.oq Z g nw ae,rfl,rfl,hd⟩
theorem oy(Z:W.ab d)(l:wp d W.B W.ag v r)(h:d4 r W.o=j (aR,wE)):AM d W v aR wE:=uJ (P:=λr=>wp d W.B W.ag v r->AM d W v aR wE) h (λi h l=>dd h λt g h=>by
   obtain⟨e,m,rfl,nw⟩:=l.i;obtain⟨x,ln,q⟩:=Z.cells i t g;exact t.casesOn (motive:=λt=>W.o[i]?=j t->om d W (e,m) t->LZ i W.o t=j (aR,wE)->AM d W (.ref e) aR wE) (λn g q h=>kr h (q.2.elim λL es=>es.elim λz es=>have E7:e=m:=q.1;Mm Z g nw rfl es.1 λB AT gt=>.ah (E7▸gt) (es.2.mono AT)))
    (λJ s1 g q h=>Gt h λwn h=>kr h (q.2.elim λbd es=>es.elim λz es=>Mm Z g nw rfl es.1 λB AT gt=>.inst (AT _ _ q.1) gt ((es.2.frozen wn).mono AT)))
    (λa a a=>a') (λr g q h=>kr h ⟨W,Z,kw.refl,rfl,rfl,q⟩) g (aO (ln.symm.trans nw)▸q) h)
  (λh l=>Gt h λq h=>kr h ⟨W,Z,kw.refl,rfl,rfl,x0.xv l q⟩) l
theorem AN:∀{W:nb} {L:p cd} {bQ:p R} {wE:p ca},W.ab d->cn d W.B W.ag L g3->fa g3 W.o=j (bQ,wE)->∃y,y.ab d/\kw d [] W y/\y.o=wE/\y.s=W.s/\Is d y.B L bQ:=g3.rec (motive:=λg3=>∀{W:nb} {L:p cd} {bQ:p R} {wE:p ca},W.ab d->cn d W.B W.ag L g3->fa g3 W.o=j (bQ,wE)->∃y,y.ab d/\kw d [] W y/\y.o=wE/\y.s=W.s/\Is d y.B L bQ) (λ{W _ _ _} Z l h=>kr h ⟨W,Z,kw.refl,rfl,rfl,(show _=[]from l.i)▸.nil⟩) λr n ih {W _ _ _} Z l h=>by obtain⟨v,b7,rfl,l,No⟩:=l.i;exact b8 (Ax.symm.trans h) λaR al h1 h=>b8 h λbo f2 ex h=>kr h (by obtain⟨nn,Db,Ok,rfl,qW,E8⟩:=oy Z l h1;obtain⟨u8,P3,Ix,bI,fN,pH⟩:=ih Db (Ok.VC No) ex;exact⟨u8,P3,Ok.trans Ix,bI,fN.trans qW,.cons (Ix.bZ E8) pH⟩)
variable{l:R×p ca}{N:Type}{c:N}
theorem bO.aq(ds:bO d O H un W)(l:wp d W.B W.ag v r){k:R->p ca->Y N}(h:s4 (d4 r W.o) k=j c){P:Prop}(a2:∀aR y,bO d O H un y->kw d [] W y->y.s=W.s->x0 d y.B v aR->k aR y.o=j c->P):P:=b8 h λe b g h=>(oy ds.ok l g).elim λy q=>a2 e y (ds.step q.1 q.2.1) q.2.1 q.2.2.2.1 q.2.2.2.2 (q.2.2.1.symm▸h)
theorem bO.Mn(ds:bO d O H un W){v:p cd}{r:p R}(l:cn d W.B W.ag v r){k:p R->p ca->Y N}(h:s4 (fa r W.o) k=j c){P:Prop}(a2:∀aR y,bO d O H un y->kw d [] W y->y.s=W.s->Is d y.B v aR->k aR y.o=j c->P):P:=b8 h λe b g h=>(AN ds.ok l g).elim λy q=>a2 e y (ds.step q.1 q.2.1) q.2.1 q.2.2.2.1 q.2.2.2.2 (q.2.2.1.symm▸h)
theorem j6{z:E}(h:H1 z=V):z≤gH:=aJ (uS h) LF
noncomputable def pI(af:aN)(bd:p bv)(o:p ca)(k:p R->p ca->Y N):Y N:=s4 (c3 af bd o) λg3 al=>s4 (fa g3 al) λbQ f2=>pp (H1 bQ.length)<|k bQ f2
theorem a0.seq{af:aN}(a2:a0 d A O H af){bd:p bv}{k:p R->p ca->Y N}(h:pI af bd W.o k=j c)(ds:bO d O H un W){C:p cd->nl->Prop}(hm:∀L g3 y,bO d O H un y->Is d y.B L g3->L.toArray.size≤gH->k g3 y.o=j c->C L y.s):f4 d.M A (r1 (iy h0 (ht bd O))) C a1 W.s:=a2.Ws h ds λL g3 nn aU a Pi h=>aU.Mn Pi h λbQ u8 bh a fd f h=>Gt h λq h=>fd▸hm L bQ u8 bh f (show L.length≤gH from f.length.symm▸j6 q) h
theorem E9{af:aN}(a2:a0 d A O H af){bd:p bv}{k:p R->p ca->Y N}(h:pI af bd W.o k=j c)(ds:bO d O H un W)(hm:∀L g3 y,bO d O H un y->Is d y.B L g3->k g3 y.o=j c->C (.ref y.h.objs.size) {y.s with heap:=y.h.push (SL L.toArray 0)}):f4 d.M A (eval (.List bd h0) O) C a1 W.s:=show f4 d.M A (do lM h0;newList (<- r1 (iy h0 (ht bd O)))) C a1 W.s from g1 (fF (g1 (a2.seq h ds λL g3 y bi f sc h=>k2 (hm L g3 y bi f h) sc)))
theorem Wt{af:aN}(a2:a0 d A O H af){bd:p bv}(h:sJ af .ah bd o=j l):bH d A O H (eval (.List bd h0) O) o l:=hJ (F:=λo=>pI af bd o (λg3 o=>j (R.ah g3,o))=j l) h λa1 C W h ds K=>E9 a2 h ds λL g3 y bi f g=>K.new bi rfl g λB gt AT=>.ah gt (f.mono AT)
theorem Wu{af:aN}(a2:a0 d A O H af){bd:p bv}{t:E}(h:sJ af .tup bd o=j l):bH d A O H (eval (.Tuple bd t h0) O) o l:=hJ (F:=λo=>pI af bd o (λg3 o=>j (R.tup g3,o))=j l) h λa1 C W h ds K=>show f4 d.M A (do lM h0;Dg (<- r1 (iy h0 (ht bd O)))) C a1 W.s from g1 (fF (g1 (a2.seq h ds λL g3 y bi f sc g=>k2 (K.new bi (T:=d3 L.toArray 0) rfl g λB gt AT=>.tup gt (f.mono AT)) sc)))
theorem Wv{s:bv}{e b:cd}(h:s.ctorIdx≠26):JS s G e b=JT [e,b] (JU e b):=s.casesOn (motive_1:=λs=>s.ctorIdx≠26->JS s G e b=JT [e,b] (JU e b)) (λa a a a=>rfl) (λa a a a=>rfl) (λa a a a a=>rfl) (λa a a a=>rfl) (λa a a a a=>rfl) (λa a a a a=>rfl) (λa a a a=>rfl) (λa a a a=>rfl) (λa a a a a=>rfl) (λa a a a a=>rfl) (λa a a a a a=>rfl) (λa a a a a=>rfl) (λa a a=>rfl) (λa a a=>rfl) (λa a a=>rfl) (λa a a a a=>rfl) (λa a a a a=>rfl) (λa a a a a=>rfl) (λa a a=>rfl) (λa a a a=>rfl) (λa a a a=>rfl) (λa a a a=>rfl) (λa a a=>rfl) (λa a a=>rfl) (λa a a=>rfl) (λa a a a=>rfl) (λa a a a h=>aB rfl h) h
theorem Ww{P:bv->Prop}{c:bv}{k:Y bv->Y bv->Y bv->wS->N}{U l:N}(h:sq c k U=l)(a2:∀e b t r,k e b t r=l->P (.Slice e b t r))(Fa:c.ctorIdx≠26->U=l->P c):P c:=if q:c.ctorIdx=26 then @Expr.Slice.elim (λc=>sq c k U=l->P c) c q a2 h else Fa q (b4 q h)
theorem Wx{af:aN}(a2:a0 d A O H af){v s:bv}(fd:s.ctorIdx≠26)(h:E1 af v s o=j l):bH d A O H (eval (.Subscript v s h0) O) o l:=hJ (F:=λo=>E1 af v s o=j l) h λa1 C W h ds K=>Subscript_ (a2.two h ds λv g2 e b u8 bh Pi eI h=>gK h λr hd g=>K.leaf bh g λck h=>V8 (jx bh.ok Pi) (jx bh.ok eI) hd (Wv fd) h)
theorem Mo{af:aN}(a2:a0 d A O H af){g:Y bv}{k:Y m0->p ca->Y N}(h:s4 (lc af g W.o) k=j c)(ds:bO d O H un W)(hm:∀(x:Y (m0×be)) y,bO d O H un y->kw d [] W y->k (x.map (·.1)) y.o=j c->C (qu x) y.s):f4 d.M A (JZ g O) C a1 W.s:=g.casesOn (motive:=λg=>s4 (lc af g W.o) k=j c->f4 d.M A (JZ g O) C a1 W.s) (λh=>s2 (hm bn W ds kw.refl h)) (λg h=>(evalPart_some g O).symm▸b8 h λe b g h=>a2.go (L8.symm.trans g) ds λv r y bi le l g=>m6 (P:=λr=>wp d y.B y.ag v r->C v y.s) g (λi g l=>(show∃u,v=.int i u from l.i.i).elim λu q=>q▸hm (j (i,u)) y bi le (by cases g;exact h)) l) h
theorem Wy{t:Prop}[SP t]{U:X}{u:be}(h:(if t then I else U).length≤gH/\∀eP k,s.toks≤k->C (.str (if t then I else U) eP) {s with toks:=k}):(if t then Made.val (.str I u)else Made.str U).post C s:=by
 by_cases f0:t;·rw[tt f0];have eg:=h.2 u s.toks (Da _);rw[tt f0]at eg;exact eg
 ·rw[ss f0];have eg:=h.2 s.toks (s.toks+1) (cu _);have h1:=h.1;rw[ss f0]at eg h1;exact⟨h1,eg⟩
theorem Wz{c:X}{u:be}{n g2:Y (m0×be)}(f8:H1 c.length=V)(h:∀eP k,s.toks≤k->C (.str (ph c (n.map (·.1)) (g2.map (·.1))) eP) {s with toks:=k}):(sliceMade c u n g2 bn).post C s:=Wy ⟨aJ (Txt.slice_le c _ _) (j6 f8),h⟩
theorem WA{B:aX}(l:Is d B L n)(lo np:Y m0):Is d B (S6 L.toArray lo np bn).toList (m_ lo np n):=by
 unfold S6 m_;rw[ae9,jj,l.length];generalize sliceRange _ _ _=Mp;induction Mp with
 |nil=>exact .nil
 |cons i Mp ih=>
  rw[r2,r2];cases g:n[i]? with
  |none=>
   have:L.toArray[i]?=bn:=by rw[t9,zC,l.length];exact zC.mp g
   rw[this];exact ih
  |some r=>
   obtain⟨v,FB,q⟩:=l.get g;have:L.toArray[i]?=j v:=by rw[t9];exact FB
   rw[this];exact .cons q ih
theorem Mq{c:X}(T l:cd):J0 (.Name c x) T l=pure ():=rfl
theorem Mr(x:Y (m0×be)):IsPart (qu x) (x.map (·.1)):=by cases x with|none=>exact .none|some x=>exact .int _ _
noncomputable def zp(af:aN)(v:bv)(lo np:Y bv)(k:R->Y m0->Y m0->p ca->Y N)(o:p ca):Y N:=s4 (af v o) λT al=>s4 (lc af lo al) λn f2=>s4 (lc af np f2) (k T n)
theorem a0.three{af:aN}(a2:a0 d A O H af){v:bv}{lo:Y bv}{k:R->Y m0->Y m0->p ca->Y N}(h:zp af v lo np k W.o=j c)(ds:bO d O H un W){C:cd->cd->cd->nl->Prop}(hm:∀e T x q y,bO d O H un y->wp d y.B y.ag e T->k T (x.map (·.1)) (q.map (·.1)) y.o=j c->C e (qu x) (qu q) y.s):f4 d.M A (eval v O) (λe s=>f4 d.M A (JZ lo O) (λn s=>f4 d.M A (JZ np O) (C e n) a1 s) a1 s) a1 W.s:=a2.go h ds λe T nn aU a Pi h=>Mo a2 h aU λx u8 bh Ix h=>Mo a2 h bh λq ZB fO bL h=>hm e T x q ZB fO (bL.ay (Ix.ay Pi)) h
noncomputable def dV(T:R)(n h:Y m0)(o:p ca):Y (R×p ca):=h2 (view o T) λc=>pp (H1 c.length)<|j (.str (ph c n h),o)
noncomputable def Ms(T:R)(n h:Y m0)(o:p ca):Y (R×p ca):=h4 (view o T) λc=>pp (H1 c.length)<|j (.ah (m_ n h c),o)
theorem WB{af:aN}{v:bv}{lo:Y bv}(h:xo af v lo np o=j l):zp af v lo np dV o=j l\/zp af v lo np Ms o=j l:=b8 h λT al h1 h=>b8 h λn f2 ex h=>b8 h λg2 ew h3 h=>Ek h (λI FB h=>.inl ((Op h1).trans ((Op ex).trans ((Op h3).trans ((Vf FB).trans h))))) λh=>.inr ((Op h1).trans ((Op ex).trans ((Op h3).trans h)))
theorem AO{P:Prop}{c:R}{k:X->Y N}{l:N}(h:h2 c k=j l)(a2:∀e,c=.str e->k e=j l->P):P:=Ek h a2 a'
theorem AP{P:Prop}{c:R}{k:p R->Y N}{l:N}(h:h4 c k=j l)(a2:∀e,c=.ah e->k e=j l->P):P:=Ln h a2 a'
theorem jA(Z:W.ab d){I:R}(l:wp d W.B W.ag v r)(g:view W.o r=I)(h:sE I=G):cw d W v I:=g▸jx Z l (g▸h)
theorem WC{af:aN}(a2:a0 d A O H af){lo:Y bv}{xL:wS}(h:xo af (.Name I KB) lo np o=j l):bH d A O H (eval (.Subscript (.Name I KB) (.Slice lo np bn xL) h0) O) o l:=(WB h).elim (λh=>hJ (F:=λo=>zp af (.Name I KB) lo np dV o=j l) h λa1 C W h ds K=>wpAny_Subscript_str_slice (a2.three h ds λe T x q y bi eb h=>AO h λc FB h=>Gt h λsc h=>(jA bi.ok eb FB rfl).e_ λu=>⟨c,u,x,q,rfl,rfl,rfl,Wz sc λeP k gl=>K.ao (W:=y.to {y.s with heap:=y.h.push {cls:=.type "slice",data:=.fields #[qu x,qu q,.none]}}) (bi.step (bi.ok.push _) (kw.refl.push _)) h (.aq (.str _ _)) gl⟩) Mq) λh=>hJ (F:=λo=>zp af (.Name I KB) lo np Ms o=j l) h λa1 C W h ds K=>wpAny_Subscript_list_slice (a2.three h ds λe T x q y bi eb h=>AP h λn FB h=>Gt h λsc h=>(jA bi.ok eb FB rfl).hG λe L z gt f=>⟨e,L.toArray,x.map (·.1),q.map (·.1),rfl,⟨_,gt,rfl,_,rfl⟩,(f.length.symm▸j6 sc:L.length≤gH),Mr x,Mr q,by have bR:=K.new (W:=y.to {y.s with heap:=y.h.push {cls:=.type "slice",data:=.fields #[qu x,qu q,.none]}}) (bi.step (bi.ok.push _) (kw.refl.push _)) (T:=SL (S6 L.toArray (x.map (·.1)) (q.map (·.1)) bn).toList.toArray 0) rfl h λB gt AT=>.ah gt ((WA f _ _).mono AT);rw[show(y.to {y.s with heap:=y.h.push {cls:=.type "slice",data:=.fields #[qu x,qu q,.none]}}).h.objs.size=y.h.objs.size+1 from f6 ..]at bR;exact bR⟩) Mq
theorem WD{af:aN}(a2:a0 d A O H af){bd:p bv}:∀{out:X} {W:nb} {x:X×p ca} {C:cd->nl->Prop},Ay af bd out W.o=j x->bO d O H un W->(∀v y,bO d O H un y->wp d y.B y.ag v (.str x.1)->j (x.1,y.o)=j x->C v y.s)->f4 d.M A (zD out (zE bd O)) C a1 W.s:=bd.rec (motive:=λbd=>∀{out:X} {W:nb} {x:X×p ca} {C:cd->nl->Prop},Ay af bd out W.o=j x->bO d O H un W->(∀v y,bO d O H un y->wp d y.B y.ag v (.str x.1)->j (x.1,y.o)=j x->C v y.s)->f4 d.M A (zD out (zE bd O)) C a1 W.s) (λ{out W x C} h ds K=>Gt h λq h=>joinParts_nil (aQ (P:=λx=>(∀v y,bO d O H un y->wp d y.B y.ag v (.str x.1)->j (x.1,y.o)=j x->C v y.s)->C _ _) h (λK=>K _ (W.to {W.s with toks:=W.s.toks+1}) (ds.step (ds.ok.ao (cu _)) (kw.refl.ao (cu _))) (.aq (.str out _)) rfl) K) (j6 q)) λg bd ih {out W x C} h ds K=>z' (P:=λg=>f4 d.M A (zD out (zE (g::bd) O)) C a1 W.s) h (λt k x h=>Ac (P:=λt=>f4 d.M A (zD out (zE (.Constant t k x::bd) O)) C a1 W.s) h λI h=>Gt h λq h=>joinParts_cons (zB ⟨Ao out I▸j6 q,ih (W:=W.to {W.s with toks:=W.s.toks+1}) h (ds.step (ds.ok.ao (cu _)) (kw.refl.ao (cu _))) K⟩)) λh=>UQ h λv ax xL wq h=>b5 (P:=λax=>f4 d.M A (zD out (zE (.FormattedValue v ax xL wq::bd) O)) C a1 W.s) h λh=>qL (P:=λxL=>f4 d.M A (zD out (zE (.FormattedValue v (-1) xL wq::bd) O)) C a1 W.s) h λh=>joinParts_cons (FormattedValue_plain (a2.go h ds λg2 r nn aU a Pi h=>lX (P:=λr=>wp d nn.B nn.ag g2 r->_) h (λI h Pi=>Gt h λq h=>(show∃u,g2=.str I u from Pi.i.i).elim λu g=>g▸S3 (Da _) (formatField_str (λeP ao le=>⟨Ao out I▸j6 q,ih (W:=nn.to {nn.s with toks:=ao}) h (aU.step (aU.ok.ao le) (kw.refl.ao le)) K⟩) (aJ (Nat.le_add_left _ _) (j6 q)))) Pi))
theorem WE{af:aN}(a2:a0 d A O H af){L:p bv}(h:L_ af L o=j l):bH d A O H (eval (.JoinedStr L h0) O) o l:=Gt h λae h=>gK h λx h g=>hJ (F:=λo=>Ay af L Str.empty o=j x) h λa1 C W h ds K=>match L,ae,h with|_::_::_,_,h=>JoinedStr_many (WD a2 h ds λv y bi l q=>K v _ y bi l ((GT (n7 λx:X×p ca=>(R.str x.1,x.2)) q).trans g))
end
theorem Mt(h:bl)(e:kt)(f:cE->cE):(h.update e f).objs.size=h.objs.size:=(lN (a:=e) (h:=h) (f:=f)).1
theorem E'{Ch:iw}{pJ:Ctx}{u:aP Fin}{s1:p wC}{g:End}(h:Runs Ch pJ x u s1 s g it):s.heap.objs.size≤it.heap.objs.size:=by induction h<;>(try simp only[Shared.setGen,Mt,f6]at*)<;>left
theorem WG{Ch:iw}{pJ:Ctx}{d:E}{l:Resume}{CR:GenResult}(h:Wakes Ch pJ x d l s CR it):s.heap.objs.size≤it.heap.objs.size:=by
 unfold Wakes at h;split at h;·exact h.elim
 ·split at h;·obtain⟨g',s0,nw,_,_,rfl⟩:=h;exact(E' nw:(s.setGen d .running).heap.objs.size≤s0.heap.objs.size)
  ·rw[h.2];exact Da _
  ·rw[h.2];exact Da _
 ·obtain⟨g',s0,nw,_,_,rfl⟩:=h;exact(E' nw:(s.setGen d .running).heap.objs.size≤s0.heap.objs.size)
 ·rw[h.2];exact Da _
 ·rw[h.2];exact Da _
theorem wp_size(Ch:iw)(pJ:Ctx)(z:E)(u:aP t0):∀(C:t0->wS->nl->Prop) (a1:cd->wS->nl->Prop) (x:wS) (s:nl),z≤s.heap.objs.size->Sem.wp Ch pJ u C a1 x s->Sem.wp Ch pJ u (λe d' it=>z≤it.heap.objs.size/\C e d' it) (λg d' it=>z≤it.heap.objs.size/\a1 g d' it) x s:=by induction u with|pure e=>intro C a1 x s pi h;exact⟨pi,h⟩|raise g=>intro C a1 x s pi h;exact⟨pi,h⟩|unsupported _=>intro C a1 x s _ h;exact h|finish _=>intro C a1 x s _ h;exact h|rule _ k ih=>intro C a1 x s pi h;exact ih () C a1 x s pi h|«at» d' k ih=>intro C a1 x s pi h;exact ih () C a1 d' s pi h|load e _ k ih=>intro C a1 x s pi h;obtain⟨T,gt,h⟩:=h;exact⟨T,gt,ih T C a1 x s pi h⟩|update e _ f k ih=>intro C a1 x s pi h;exact⟨h.1,ih () C a1 x _ (by rw[Mt];exact pi) h.2⟩|loadIfAlive e k ih=>intro C a1 x s pi h;exact ih _ C a1 x s pi h|point _ k ih=>intro C a1 x s pi h;exact ih () C a1 x s pi h|register _ _=>intro C a1 x s _ h;exact h|alloc T k ih=>intro C a1 x s pi h;exact ih _ C a1 x _ (by rw[f6];left) h|fresh k ih=>intro C a1 x s pi h;exact ih _ C a1 x _ pi h|ask k ih=>intro C a1 x s pi h;exact ih _ C a1 x s pi h|choose JH m k ih=>intro C a1 x s pi h;exact⟨h.1,ih _ C a1 x _ pi h.2⟩|os q _ k ih=>intro C a1 x s pi h;exact ih _ C a1 x _ pi h|call t hd _ _ k ih=>intro C a1 x s pi h;obtain⟨l,it,nw,h⟩:=h;exact⟨l,it,nw,ih l C a1 x it (aJ pi (E' nw)) h⟩|handled ar k ih=>intro C a1 x s pi h;exact ih _ C a1 x s pi h|genState d k ih=>intro C a1 x s pi h;obtain⟨aa,fd,h⟩:=h;exact⟨aa,fd,ih _ C a1 x s pi h⟩|newGen t k ih=>intro C a1 x s pi h;exact ih _ C a1 x _ pi h|resume d l _ k ih=>intro C a1 x s pi h;obtain⟨CR,it,d8,h⟩:=h;exact⟨CR,it,d8,ih CR C a1 x it (aJ pi (WG d8)) h⟩|yield _ _ _ _=>intro C a1 x s _ h;exact h|stack k ih=>intro C a1 x s pi h;exact ih _ C a1 x s pi h|fork _ _=>intro C a1 x s _ h;exact h|thread k ih=>intro C a1 x s pi h;exact ih _ C a1 x s pi h|await _ _ _ _ _=>intro C a1 x s _ h;exact h
section
variable{Ch:iw}{A:xs}
theorem fc{u:aP t0}{C:t0->nl->Prop}(h:f4 Ch A u (λe it=>s.heap.objs.size≤it.heap.objs.size->s.toks≤it.toks->C e it) a1 s):f4 Ch A u C a1 s:=by have h1:=wpAny_toks_of (Da _) h;have ex:f4 Ch A u (λe it=>s.heap.objs.size≤it.heap.objs.size/\s.toks≤it.toks/\(s.heap.objs.size≤it.heap.objs.size->s.toks≤it.toks->C e it)) (λg it=>s.heap.objs.size≤it.heap.objs.size/\s.toks≤it.toks/\a1 g it) s:=λpJ x WH=>wp_size Ch pJ _ u _ _ x s (Da _) (h1 pJ x WH);exact cJ ex (λa a c=>c.2.2 c.1 c.2.1) λa a c=>c.2.2
end
section
variable{d:sw}{A:xs}
theorem WI{u:aP cd}(Z:W.ab d)(P:cd->nl->Prop)(h:∀ck:cd->nl->Prop,(∀v eg ao,(∀e T,W.h.get? e=j T->eg.get? e=j T)->P v {W.s with heap:=eg,toks:=ao}->ck v {W.s with heap:=eg,toks:=ao})->f4 d.M A u ck a1 W.s)(hm:∀v it,(W.to it).ab d->kw d [] W (W.to it)->P v it->C v it):f4 d.M A u C a1 W.s:=by refine fc (h _ λv eg ao k x fd ty=>?_);have m:Mv [] W.s {W.s with heap:=eg,toks:=ao}:=⟨fd,λe T g a=>k e T g,λa a g=>g,rfl,ty⟩;exact hm v _ (Z.av m (cR) Z.bare) (kw.refl.av m cR) x
end
def AQ(d:sw)(t:kt)(e:X):Prop:=zF d.K t e=V/\J1 d.K t=V/\pj d.K (.ref t) e=j bn
def u3(d:sw)(c e:X)(r:R):Prop:=∃(t:kt) (xw v:cd),d.mg c=j (.ref t)/\readsIn d.K t xw=V/\findCls d.K (.ref t) xw e=j (.val v)/\J2 v=V/\∀B:aX,(∀e T,d.az.get? e=j T->B e=j T)->x0 d B v r
section
variable{d:sw}{A:xs}{O:IN}{H:hf}
theorem isStr_of{e:X}{u:be}(k:v=.str c u):v.isStr e=(e==c):=by rw[k,Value.isStr];exact(ae5 (e==c)).elim (λq=>by rw[q,eq_of_beq q];exact jl _) λq=>by rw[q];exact eo.mpr (Ne.symm (eo.mp q))
theorem WJ{g:f5}{e:X}{u:be}(k:g.key=.str c u):qv e (g::bd)=c9 (e==c) (j (j g.val)) (qv e bd):=by unfold W.getL;rw[ae4,isStr_of k,JX,show g.refKey=G from by rw[DictEntry.refKey,k]];cases e==c<;>rfl
theorem f9.both{B:aX}(l:f9 d B ag bd s1)(e:X):(∃v r,s1.lookup e=j r/\qv e bd=j (j v)/\wp d B ag v r)\/(s1.lookup e=bn/\qv e bd=j bn):=l.rec (motive:=λbd s1 a=>(∃v r,s1.lookup e=j r/\qv e bd=j (j v)/\wp d B ag v r)\/(s1.lookup e=bn/\qv e bd=j bn)) (.inr ⟨rfl,rfl⟩) λ{g c u r bd n} k a v a ih=>by rw[Ap,WJ k];cases e==c with|true=>exact .inl ⟨_,_,rfl,rfl,v⟩|false=>exact ih
theorem f9.look{B:aX}(l:f9 d B ag bd s1)(e:X):(∀r,s1.lookup e=j r->∃v,qv e bd=j (j v)/\wp d B ag v r)/\(s1.lookup e=bn->qv e bd=j bn):=(l.both e).elim (λ⟨v,_,g,q⟩=>⟨λa h=>⟨v,aO (g.symm.trans h)▸q⟩,λh=>nomatch g.symm.trans h⟩) λq=>⟨λa h=>(nomatch q.1.symm.trans h),λa=>q.2⟩
theorem WK{B:aX}(l:wp d B ag v r):l6 r=V->J2 v=V:=l.casesOn (motive:=λv r a=>l6 r=V->J2 v=V) (λl=>l.casesOn (motive_1:=λv r a=>l6 r=V->J2 v=V) (λa=>rfl) (λa a=>rfl) (λa a a=>rfl) (λa a a=>rfl) (λa a a=>rfl) (λa a a=>rfl) (λa a a a=>rfl) (λa a a=>rfl) (λa a a=>rfl) (λa a a a=>rfl) (λa=>dN)) (λa a=>rfl) (λa a a=>rfl) λa a a=>rfl
theorem xx{c r J:kt}{z:E}{h:bl}(f8:h.get? c=j (h6 J r))(hd:h.get? r=j (fJ bd.toArray z)):S7 h c (h6 J r) J (j (Dh bd z)):=⟨f8,rfl,rfl,hd⟩
theorem E_(ds:d.ab)(Z:W.ab d){e:X}(l:wp d W.B W.ag v r)(FB:view W.o r=.inst t s1)(F:AQ d t e)(hd:s1.lookup e=j aR)(pi:l6 aR=V){aew:ga}(hm:∀g2 y,y.ab d->kw d [] W y->y.o=W.o->wp d y.B y.ag g2 aR->C g2 y.s):f4 d.M A (wD v e aew) C a1 W.s:=(jA Z l FB rfl).EN λc cK bd z h1 ex f=>((f.look e).1 aR hd).elim λg2 q=>get_value (Z.l7 ds) (xx h1 ex) (wF F.1).1 (findObj_own F.2.1 F.2.2 rfl (by rw[S8];exact q.1)) (WK q.2 pi) (hm g2 (W.to {W.s with toks:=W.s.toks+1}) (Z.ao (cu _)) (kw.refl.ao (cu _)) rfl q.2)
theorem Mu{e:X}(h:f4 d.M A (eval (.Name c KB) O) (λT s=>f4 d.M A (wD T e V) C a1 s) a1 s):f4 d.M A (eval (.Attribute (.Name c KB) e h0) O) C a1 s:=show f4 d.M A (do
  let T <- eval (.Name c KB) O
  lM h0.atName
  let l <- pk [T] (wD T e V)
  J0 (.Name c KB) T l
  pure l) C a1 s from g1 (cJ h (λT s h=>g1 (fF (g1 (dF (cJ h (λl s h=>g1 (s2 (s2 h))) λa a h=>h))))) λa a h=>h)
theorem WL{ds:d.ab}{e:X}(h1:bH d A O H (eval (.Name c KB) O) o (r,al))(FB:view al r=.inst t s1)(F:AQ d t e)(hd:s1.lookup e=j aR)(pi:l6 aR=V):bH d A O H (eval (.Attribute (.Name c KB) e h0) O) o (aR,al):=λa1 C W Z aj ap hm=>Mu (h1.seq Z aj ap λv nn Db cS Ok cm Pi=>E_ ds Db Pi (cm▸FB) F hd pi λg2 u8 P3 Ix bI eI=>hm g2 u8 P3 (Ok.trans Ix) (bI.trans cm) eI)
theorem WM{ds:d.ab}{e:X}(f8:df O.scope c=V)(h_:(c==("__debug__":X))=G)(a2:u3 d c e r):bH d A O H (eval (.Attribute (.Name c KB) e h0) O) o (r,o):=λa1 C W Z aj ap hm=>by obtain⟨t,xw,v,pc,nw,wn,t1,bZ⟩:=a2;exact Mu (sL (ds:=ds) Z aj h_ f8 pc (cls_value (Z.l7 ds) nw wn t1 (hm v (W.to {W.s with toks:=W.s.toks+1}) (Z.ao (cu _)) (kw.refl.ao (cu _)) ap (.aq (bZ _ Z.base)))))
theorem Is.rep{B:aX}(l:Is d B L n)(z:E):Is d B (n8 z L).flatten (n8 z n).flatten:=z.rec .nil λz ih=>by rw[afa,afa,afb,afb];exact l.append ih
theorem WN(Z:W.ab d){e b:cd}{x q:p R}(db:c' d W e (.ah x))(cr:c' d W b (.ah q))(sc:H1 (x.length+q.length)=V)(hm:∀L,Is d W.B L (x++q)->C (.ref W.h.objs.size) {W.s with heap:=W.h.push (SL L.toArray 0)}):f4 d.M A (mP .Add e b) C a1 W.s:=(db rfl).hG λe L z gt f=>(cr rfl).hG λb b7 m oz jB=>concat_meets ⟨_,gt,rfl⟩ ⟨_,oz,rfl⟩ noFill_list_add seq_list_add PySem.F.slot_list_add PySem.F.entry_list_add (PySem.F.args_list_add_2 _ _) (list_addW e b L.toArray b7.toArray z m bn bn #[] #[] (by rw[jj,jj,f.length,jB.length];exact j6 sc)) ⟨gt,oz,by rw[List.append_toArray];exact hm _ (f.append jB)⟩
theorem WO(Z:W.ab d){e b:cd}{x:p R}{i:m0}(db:c' d W e (.ah x))(cr:c' d W b (.int i))(np:fu i=V)(sc:H1 (x.length*i.toNat)=V)(hm:∀L,Is d W.B L (n8 i.toNat x).flatten->C (.ref W.h.objs.size) {W.s with heap:=W.h.push (SL L.toArray 0)}):f4 d.M A (mP .Mult e b) C a1 W.s:=(db rfl).hG λe L z gt f=>(cr rfl).de λu=>by
  have np:=qP np;have sc:=uS sc;have ae:L.toArray.size*i.toNat≤1000000:=by rw[jj,f.length];exact sc
  have l1:L.length*i.toNat≤1000000:=ae;refine wpAny_binaryOp_repeat_ref (T:="list") (U:="int") (by decide) ⟨_,gt,rfl⟩ (λit=>typeIs_int it i u) noFill_list_mul F.fills_int_mul afc repeat_list F.slot_int_index.lookup (r3 afc (typeIs_int _ i u) F.entry_int_rmul (F.args_int_rmul_2 _ _) (int___rmul___int_list i u e L.toArray z) ⟨gt,rfl,⟨_,gt,rfl⟩,r3 F.slot_list_mul ⟨_,gt,rfl⟩ F.entry_list_mul (F.args_list_mul_2 _ _) (AutoListH.list___mul___list_int_3 e L.toArray z i u (by simp[aiI];left) (by left) (by simp[aiJ,gH];left)) ⟨gt,?_⟩⟩);have g:(List.foldl (λu4 Fb=>u4++Fb) #[] (n8 (if L.toArray.isEmpty=V then 0 else i.toNat) L.toArray))=(n8 i.toNat L).flatten.toArray:=by rw[listMul_foldl];cases L with|nil=>simp|cons v L=>simp
  rw[g];exact hm _ (f.rep _)
theorem WP(Z:W.ab d){e b:cd}{c I:R}{k:p R}(db:c' d W e c)(cr:c' d W b I)(g:jy po c I=j k)(hm:∀L,Is d W.B L k->C (.ref W.h.objs.size) {W.s with heap:=W.h.push (SL L.toArray 0)}):f4 d.M A (mP po e b) C a1 W.s:=qN (P:=λc=>c' d W e c->f4 d.M A (mP po e b) C a1 W.s) g (λx g db=>fq g (λg=>b5 (P:=λpo=>f4 d.M A (mP po e b) C a1 W.s) g λg=>qN (P:=λI=>c' d W b I->f4 d.M A (mP .Add e b) C a1 W.s) g (λq g cr=>Gt g λsc g=>WN Z db cr sc (aO g▸hm)) cr) λg=>b5 (P:=λpo=>f4 d.M A (mP po e b) C a1 W.s) g λg=>m6 (P:=λI=>c' d W b I->f4 d.M A (mP .Mult e b) C a1 W.s) g (λq g cr=>og g λnp sc g=>WO Z db cr np sc (aO g▸hm)) cr) db
theorem Mw{af:aN}(a2:a0 d A O H af){N:Type}{U:N}{n l:bv}{k:p R->p ca->Y N}(h:(s4 (af n W.o) λe al=>s4 (af l al) λb f2=>b9 (jy po (view f2 e) (view f2 b)) λc=>k c f2)=j U)(ds:bO d O H un W)(hm:∀L n y,bO d O H un y->Is d y.B L n->k n y.o=j U->C (.ref y.h.objs.size) {y.s with heap:=y.h.push (SL L.toArray 0)}):f4 d.M A (eval (.BinOp n po l h0) O) C a1 W.s:=wpAny_BinOp (a2.two h ds λv g2 e b u8 bh Pi eI h=>dd h λc f8 h=>WP bh.ok (jx bh.ok Pi) (jx bh.ok eI) f8 λL f=>hm L c u8 bh f h)
theorem WQ{af:aN}{n f:bv}{l:R×p ca}(h:AC af n po f o=j l):(s4 (af n o) λe al=>s4 (af f al) λb f2=>b9 (jy po (view f2 e) (view f2 b)) λk=>j (.ah k,f2))=j l\/(s4 (af n o) λe al=>s4 (af f al) λb f2=>(iB po (view f2 e) (view f2 b)).map λr=>(r,f2))=j l:=b8 h λe al h1 h=>b8 h λb f2 ex h=>j2 h (λk gl h=>.inl ((Op h1).trans ((Op ex).trans ((eS gl).trans h)))) λa h=>.inr ((Op h1).trans ((Op ex).trans h))
theorem WR{af:aN}(a2:a0 d A O H af){n f:bv}{l:R×p ca}(h:AC af n po f o=j l):bH d A O H (eval (.BinOp n po f h0) O) o l:=(WQ h).elim (λh=>hJ (F:=λo=>(s4 (af n o) λe al=>s4 (af f al) λb f2=>b9 (jy po (view f2 e) (view f2 b)) λk=>j (.ah k,f2))=j l) h λa1 C W h ds K=>Mw (k:=λn o=>j (R.ah n,o)) a2 h ds λL n y bi f g=>K.new bi rfl g λB gt AT=>.ah gt (f.mono AT)) (Ml a2)
end
theorem WS{c I:cd}:(match afd "list.append" with|some Sx=>Bind.checkArgs "list.append" {Sx with full:=s!"{Bind.lastOf "list"}.{Bind.lastOf "list.append"}"} ⟨[c,I],[]⟩|none=>pure ())=pure ():=by kernel_rfl
theorem WT:S9 (.type "list") (.type "module")=pure G:=by rw[ua];kernel_rfl
theorem WU{u:be}:S' "str.join" ⟨[.str ⟨#[]⟩ u,v],[]⟩=pure ():=by kernel_rfl
theorem WV{s5:t_}:(zG "str.join" s5).quiet=V:=J3 _ (by decide+kernel)
theorem WW{s5:t_}:(zG "list.append" s5).quiet=V:=J3 _ (by decide+kernel)
theorem WX:builtinKind "list.append"=j .method:=by kernel_rfl
theorem WY:Manifest.varargsMethods.contains "list.append"=G:=by kernel_rfl
section
variable{d:sw}{A:xs}{O:IN}{H:hf}
theorem WZ{Ch:iw}{C:g7->nl->Prop}(gt:s.heap.get? e=j T)(f0:T.cls=.type "list")(hd:∃L z,T.data=.seq L z)(h:C () s):f4 Ch A (S' "list.append" ⟨[.ref e,v],[]⟩) C a1 s:=by have fd:=WS (c:=.ref e) (I:=v);unfold S';cases g:afd "list.append" with|none=>exact s2 h|some Sx=>rw[g]at fd;dsimp only at fd⊢;rw[WX];dsimp only;rw[ss (by decide)];refine g1 (wG (T:="list") ⟨T,gt,f0⟩ WT ?_);rw[WY];simp only[Bool.or_self,pg,n5];refine g1 ?_;unfold isType;refine g1 (g1 (S_ gt (s2 ?_)));obtain⟨L,z,hd⟩:=hd;rw[hd];refine s2 ?_;dsimp only;rw[ss hW];refine g1 (r4 (T:="list") ⟨T,gt,f0⟩ ?_);dsimp only;rw[fd];exact s2 h
theorem u5(Z:W.ab d){i:E}{m:kt}(bf:W.ag[i]?=j (e,m))(g:W.o[i]?=j (.list n)):e=m/\∃L z,W.h.get? m=j (SL L.toArray z)/\Is d W.B L n:=(Z.cells i _ g).elim λx q=>(aO (q.1.symm.trans bf)▸q.2:om d W (e,m) (.list n))
theorem CS(Z:W.ab d){i:E}{m:kt}{bo:p R}{z:E}(bf:W.ag[i]?=j (e,m))(g:e=m)(ex:W.o[i]?=j (.list n))(gO:lJ m W.h eg)(pi:eg.get? m=j (SL L.toArray z))(f:Is d W.B L bo):((W.put i (.list bo)).to {W.s with heap:=eg}).ab d/\kw d [] W ((W.put i (.list bo)).to {W.s with heap:=eg}):=
 have av:Mv [m] W.s {W.s with heap:=eg}:=Mv.same gO
 ⟨Z.set ex bf rfl rfl av Z.bare (aL:=.list bo) ⟨g,L,z,pi,f⟩,kw.refl.set ex bf rfl rfl av⟩
theorem Mx(Z:W.ab d){i:E}{m:kt}{l:R×p ca}(bf:W.ag[i]?=j (e,m))(ay:wp d W.B W.ag v r)(h:rT i r W.o=j l):∃(L:p cd) (z:E),W.h.get? e=j (SL L.toArray z)/\L.toArray.size≤gH/\∀(eg:bl) (C:cd->nl->Prop),lJ e W.h eg->eg.get? e=j (SL (L.toArray.push v) (z+1))->(∀g2 y,y.ab d->kw d [] W y->y.o=l.2->wp d y.B y.ag g2 l.1->C g2 y.s)->C .none {W.s with heap:=eg}:=b8 h λaR al h1 h=>sz h λn ex h=>Gt h λsc h=>aQ h (by obtain⟨nn,Db,Ok,rfl,qW,E8⟩:=oy Z ay h1;have xy:nn.ag[i]?=j (e,m):=m7 Ok.ag bf;obtain⟨rfl,L,z,gt,cD⟩:=u5 Db xy ex;have t1:nn.h=W.h:=GT Shared.heap qW;refine⟨L,z,t1▸gt,(cD.length.symm▸j6 sc:L.length≤gH),λeg C gO pi hm=>?_⟩;rw[<- t1]at gO;rw[<- qW];have bR:=CS Db xy rfl ex gO (L:=L++[v]) (pi.trans (by rw[Ta])) (cD.append (.one E8));exact hm .none _ bR.1 (Ok.trans bR.2) rfl (.aq .none))
theorem W0(Z:W.ab d){i:E}{m:kt}{l:R×p ca}(bf:W.ag[i]?=j (e,m))(ay:wp d W.B W.ag v r)(h:rT i r W.o=j l)(hm:∀g2 y,y.ab d->kw d [] W y->y.o=l.2->wp d y.B y.ag g2 l.1->C g2 y.s):f4 d.M A (call (.builtin "list.append") [.ref e,v]) C a1 W.s:=(Mx Z bf ay h).elim λL q=>q.elim λz q=>append_at q.1 (λeg fd pi=>q.2.2 eg C fd pi hm) q.2.1
theorem W1(Z:W.ab d){i:E}{q:cd}{l:R×p ca}(wT:wp d W.B W.ag q (.app i))(ay:wp d W.B W.ag v r)(h:rT i r W.o=j l)(hm:∀g2 y,y.ab d->kw d [] W y->y.o=l.2->wp d y.B y.ag g2 l.1->C g2 y.s):f4 d.M A (call q [v]) C a1 W.s:=by obtain⟨q,e,m,rfl,bf,AT⟩:=wT.i;obtain⟨L,z,gt,sc,bR⟩:=Mx Z bf ay h;refine n9 (Tb ?_);show f4 _ A.in1 (Di (.ref q) ⟨[v],[]⟩) _ _ W.s;rw[Di];refine g1 (Dj (Z.bw _ _ AT) (KFB.if_so rfl (g1 (WZ gt rfl ⟨_,_,rfl⟩ (g1 (s2 (s2 ⟨WW,n' entry_list_append ?_⟩)))))));show f4 _ _ (J4 e (·.push v)>>=λa=>ret .none) _ _ W.s;exact g1 (J5 gt rfl (s2 (bR (W.h.update e (dR (·.push v))) C (lN ..) (by rw[mS _ gt (by rw[mapSeq_push];rfl),mapSeq_push]) hm)) sc (by rw[Tc];exact r5 sc))
end
section
open PySem.Builtin PySem.Builtin.Str
section
variable{d:sw}{A:xs}{O:IN}{H:hf}
theorem Fc{B:aX}:∀{L:p cd} {f1:p X},Is d B L n->pG n=j f1->∃he:p (X×be),L=ub he/\he.map (·.1)=f1:=n.rec (motive:=λn=>∀{L:p cd} {f1:p X},Is d B L n->pG n=j f1->∃he:p (X×be),L=ub he/\he.map (·.1)=f1) (λl h=>aQ h ⟨[],l.i,rfl⟩) λr n ih {L f1} l h=>by obtain⟨v,b7,rfl,l,No⟩:=l.i;exact lX (P:=λr=>x0 d B v r->∃he:p (X×be),v::b7=ub he/\he.map (·.1)=f1) h (λc h l=>d0 h λb0 KM=>(ih No KM).elim λhe q=>(show∃u,v=.str c u from l.i).elim λu g=>⟨(c,u)::he,g▸q.1▸rfl,q.2▸rfl⟩) l
theorem W2{B:aX}:∀{L:p cd} {f1:p m0},Is d B L n->xl n=j f1->wH L f1:=n.rec (motive:=λn=>∀{L:p cd} {f1:p m0},Is d B L n->xl n=j f1->wH L f1) (λl h=>aQ h ((show _=[]from l.i)▸.nil)) λr n ih {L f1} l h=>by obtain⟨v,b7,rfl,l,No⟩:=l.i;exact m6 (P:=λr=>x0 d B v r->wH (v::b7) f1) h (λc h l=>d0 h λb0 KM=>(show∃u,v=.int c u from l.i).elim λu g=>g▸.cons c u (ih No KM)) l
theorem W3{B:aX}(he:p (X×be)):Is d B (ub he) (he.map λx=>.str x.1):=he.rec .nil λa a ih=>.cons (.str _ _) ih
theorem W4(Z:W.ab d){u:be}{f1:p X}(FB:cw d W v (.ah n))(fd:pG n=j f1)(s3:mR c f1=V)(h:∀eP k,C (.str (jk c f1) eP) {W.s with toks:=k}):f4 d.M A (call (.builtin "str.join") [.str c u,v]) C a1 W.s:=FB.hG λe L z gt f=>(Fc f fd).elim λhe q=>SC.join (l:=he) ⟨_,gt,rfl,_,GT (λL=>Data.seq (List.toArray L) z) q.1⟩ q.2 s3 h
theorem W5(Z:W.ab d){q:kt}{u:be}{f1:p X}(wT:W.h.get? q=j (lZ (.builtin "str.join") (.str ⟨#[]⟩ u)))(FB:cw d W v (.ah n))(fd:pG n=j f1)(s3:mR ⟨#[]⟩ f1=V)(h:∀eP k,C (.str (jk ⟨#[]⟩ f1) eP) {W.s with toks:=k}):f4 d.M A (call (.ref q) [v]) C a1 W.s:=FB.hG λe L z gt f=>by obtain⟨he,rfl,rfl⟩:=Fc f fd;have ky:=s3;unfold mR at ky;rw[uc]at ky;refine n9 (Tb ?_);show f4 _ A.in1 (Di (.ref q) ⟨[.ref e],[]⟩) _ _ W.s;rw[Di];refine g1 (Dj wT (KFB.if_so rfl (g1 (qw (a:=()) WU (g1 (s2 (s2 ⟨WV,n' F.entry_str_join ?_⟩)))))));rw[r6 F.slot_str_join.plain];exact meets_str_join_list ⟨#[]⟩ u e he ky d.prog d.w _ (wants C a1) W.s ⟨⟨_,gt,rfl,_,rfl⟩,post_join he ⟨joinFit_length ky,h⟩⟩
theorem W6{u g2:be}(KM:(I.length==0)=G)(f8:H1 c.length=V)(h:∀(he:p (X×be)) k,W.s.toks≤k->he.map (·.1)=Txt.split c I->C (.ref W.h.objs.size) {W.s with heap:=W.h.push (SL (ub he).toArray 0),toks:=k}):f4 d.M A (call (.builtin "str.split") [.str c u,.str I g2]) C a1 W.s:=by
 have cO:=j6 f8;have W7:(Td c (qt c I 0 c.length (c.length+1)) I.length).length≤gH:=by
  rw[len_partsBetween];have:=StrLaws.occ_length_le c I 0 c.length (c.length+1);have:=uS f8;have:gH=16777216:=by decide
  left
 cases h1:(decide (c.length<I.length) ||decide (strKind c<strKind I))
 ·cases wn:(qt c I 0 c.length (c.length+1)).isEmpty;·refine r3 Dk (t' _ _ _) Dl (Te _ _) (meets_str_split_sep c I u g2 h1 KM wn cO W7) ?_;have:=h (numbered W.s.toks (Td c (qt c I 0 c.length (c.length+1)) I.length)) (W.s.toks+(Td c (qt c I 0 c.length (c.length+1)) I.length).length) (by left) ((numbered_texts _ _).trans ((ss (Tf h1)).trans (ss (Tf wn))).symm);rw[<- strsFrom_eq]at this;exact this
  ·exact r3 Dk (t' _ _ _) Dl (Te _ _) (meets_str_split_not_found c I u g2 h1 KM wn) (h [(c,u)] W.s.toks (Da _) ((ss (Tf h1)).trans (tt wn)).symm)
 ·exact r3 Dk (t' _ _ _) Dl (Te _ _) (meets_str_split_cannot_occur c I u g2 h1) (h [(c,u)] W.s.toks (Da _) (tt h1).symm)
theorem W8(Z:W.ab d){n:p (X×R)}{k:X}(FB:cw d W v (.cF n))(fe:cw d W g2 (.str k))(h:∀v u,x0 d W.B v ((n.lookup k).getD .none)->C v {W.s with toks:=u}):f4 d.M A (call (.builtin "dict.get") [v,g2]) C a1 W.s:=FB.ov λe bd z xj gt f=>fe.e_ λu=>by
 have pc:=f.mapOf gt;refine Tg afe pc.typeIs PySem.F.entry_dict_get (PySem.F.args_dict_get_2 _ _) (meets_dict_get (aG d.prog d.w) e (gI d.prog d.w k u) xj) ⟨_,pc,?_⟩;rcases f.both k with⟨v,r,g,q⟩|q
 ·rw[q.1];rw[g]at h;exact h _ _ q.2
 ·rw[q.2];rw[q.1]at h;exact h _ _ .none
theorem W9(Z:W.ab d){i:E}{m:kt}{l:R×p ca}(bf:W.ag[i]?=j (e,m))(h:EU i W.o=j l)(hm:∀g2 y,y.ab d->kw d [] W y->y.o=l.2->wp d y.B y.ag g2 l.1->C g2 y.s):f4 d.M A (call (.builtin "list.pop") [.ref e]) C a1 W.s:=sz h λn ex h=>Gt h λsc h=>gK h λr hd h=>by obtain⟨rfl,L,z,gt,cD⟩:=u5 Z bf ex;obtain⟨v,FB,q⟩:=cD.get (i:=n.length - 1) (List.getLast?_eq_getElem?.symm.trans hd);have SZ:=GT k1 (aO h);have bu:=GT ko (aO h);refine Copied.pop_at gt (y:=v) (by rw[jj,cD.length,t9];exact FB) (λeg fd pi=>?_) (cD.length.symm▸j6 sc:L.length≤gH);have bR:=CS Z bf rfl ex fd (L:=L.dropLast) (bo:=n.dropLast) (pi.trans (by congr 2)) (by rw[aff,aff,cD.length];exact cD.take _);exact hm _ _ bR.1 bR.2 bu (SZ▸.aq q)
theorem W'(Z:W.ab d){ns:p m0}{k:m0}(FB:cw d W v (.ah n))(fe:cw d W g2 (.int k))(fd:xl n=j ns)(gl:ns.contains k=V)(sM:Dd (.list (ns.map .int))=V)(h:∀v u,x0 d W.B v (.int (ns.idxOf k:E))->C v {W.s with toks:=u}):f4 d.M A (call (.builtin "list.index") [v,g2]) C a1 W.s:=FB.hG λe L z gt f=>fe.de λu=>index_list_ints ⟨_,gt,rfl,_,rfl⟩ (W2 f fd) sM (wI.mp gl) (h _ _ (.int _ _))
end
end
section
open PySem.Builtin PySem.Builtin.Str
section
variable{Ch:iw}{A:xs}
theorem W_{C:p cd->nl->Prop}(ai:kt){UF:bD cd}{z:E}(gt:s.heap.get? ai=j T)(f0:T.cls=.type "list")(hd:T.data=.seq UF z)(cO:UF.size≤gH)(hm:∀eg:bl,s.heap.objs.size≤eg.objs.size->(∀b ey,s.heap.get? b=j ey->eg.get? b=j ey)->C UF.toList {s with heap:=eg}):f4 (aE prog w) A (collect (.ref ai)) C a1 s:=fc (wpAny_collect_seq (hsz:=cO) ai (.inl rfl) gt f0 hd λeg gl fd a=>hm eg fd gl)
theorem Xa(n:kt)(T:cE)(UF:bD cd)(z:E)(f0:T.cls=.type "list")(hd:T.data=.seq UF z)(cO:UF.size≤gH):Dm (Builtin.«tuple.__new__» ⟨[.type "tuple",.ref n],[]⟩) (λa wf s=>s.heap.get? n=j T/\∀eg:bl,s.heap.objs.size≤eg.objs.size->(∀b ey,s.heap.get? b=j ey->eg.get? b=j ey)->wf (.ok (.ret (.ref eg.objs.size))) {s with heap:=eg.push {cls:=.type "tuple",data:=.seq UF}}):=.of_wp λprog w A wf s h=>by
  obtain⟨ln,d,r,ao,os⟩:=s;obtain⟨ty,h⟩:=h;have Xb:=sub_tuple_self;have ag7:=init_tuple_lookup;have ag8:=madeHere_tuple;have bM:Th ⟨ln,d,r,ao,os⟩ (.ref n) "list":=⟨T,ty,f0⟩;wp_walk using wJ ty,r4 bM,W_ n ty f0 hd cO;intro eg fd gl;show f4 _ _ (afg UF.toList.toArray>>=λv=>ret v) _ _ _;unfold afg;refine g1 (k2 ?_ (by show UF.toList.toArray.size≤gH;simpa using cO));refine s2 ⟨_,rfl,?_⟩;have g:UF.toList.toArray=UF:=by simp
  rw[g];exact h eg fd gl
end
section
variable{d:sw}{A:xs}{O:IN}{H:hf}
theorem Mv.fr{u:E}(fd:s.heap.objs.size≤eg.objs.size)(gl:∀b T,s.heap.get? b=j T->eg.get? b=j T)(ty:s.toks≤u):Mv [] s {s with heap:=eg,toks:=u}:=⟨fd,λe T g a=>gl e T g,λa a g=>g,rfl,ty⟩
theorem Xc(Z:W.ab d)(FB:cw d W v (.ah n))(sc:H1 n.length=V)(hm:∀g2 y,y.ab d->kw d [] W y->y.o=W.o->wp d y.B y.ag g2 (.tup n)->C g2 y.s):f4 d.M A (call (.type "tuple") [v]) C a1 W.s:=FB.hG λe L z gt f=>callType_new F.called_tuple (by decide) (F.typeCall_tuple_1 _) (F.newCall_tuple_1 _) (λCT=>F.args_object_init_2 CT _) F.entry_tuple_new (Xa e _ L.toArray z rfl rfl (f.length.symm▸j6 sc:L.length≤gH)) ⟨gt,λeg fd gl=>⟨⟨_,dK _ rfl,rfl⟩,
   have m:Mv [] W.s {W.s with heap:=eg,toks:=W.s.toks}:=Mv.fr fd gl (Da _)
   have Db:=Z.av m (cR) Z.bare
   hm _ ((W.to {W.s with heap:=eg,toks:=W.s.toks}).new (d3 L.toArray 0)) (Db.new rfl) ((kw.refl.av m cR).new Db _) rfl (.aq (.tup (nb.uO _) (((kw.refl (sK:=[])).new Db _).oo f)))⟩⟩
theorem Xd(Z:W.ab d)(FB:cw d W v (.ah n))(sc:H1 n.length=V)(hm:∀g2 y,y.ab d->kw d [] W y->y.o=W.o->wp d y.B y.ag g2 (.ah n)->C g2 y.s):f4 d.M A (call (.type "list") [v]) C a1 W.s:=FB.hG λe L z gt f=>fc (call_list_seq e (T:="list") (.inl rfl) gt rfl rfl (λeg t gl pi fd ty=>
  have m:Mv [] W.s {W.s with heap:=eg,toks:=W.s.toks}:=Mv.fr fd gl (Da _)
  have Db:=Z.av m (cR) Z.bare
  have ff:=Z.fresh (Da W.h.objs.size)
  have Ix:kw d [] W ((W.to {W.s with heap:=eg,toks:=W.s.toks}).aq W.h.objs.size (SL L.toArray t)):=(kw.refl.av m cR).aq (.inl ff.1) (Da _)
  hm _ _ (Db.aq pi ff.2.1 ff.2.2) Ix rfl (.aq (.ah (nb.hD ..) (Ix.oo f)))) (f.length.symm▸j6 sc:L.length≤gH))
def sN(d:sw)(W:nb)(A:xs)(b:cd)(L:p cd)(r:R):Prop:=∀(a1:cd->nl->Prop) (C:cd->nl->Prop),(∀g2 y,y.ab d->kw d [] W y->y.o=W.o->wp d y.B y.ag g2 r->C g2 y.s)->f4 d.M A (call b L) C a1 W.s
theorem cn.jC{B:aX}{P:p cd->Prop}(l:cn d B ag L [r])(a2:∀v,wp d B ag v r->P [v]):P L:=by obtain⟨v,b7,rfl,l,No⟩:=l.i;exact(show b7=[]from No.i)▸a2 v l
theorem cn.My{B:aX}{P:p cd->Prop}{g:R}(l:cn d B ag L [r,g])(a2:∀v g2,wp d B ag v r->wp d B ag g2 g->P [v,g2]):P L:=by obtain⟨v,b7,rfl,l,No⟩:=l.i;exact No.jC (P:=λb7=>P (v::b7)) λg2 eb=>a2 v g2 l eb
theorem AR{N:Type}{f:R->R}{k:R->Y N}{c:N}{P:p cd->Prop}{B:aX}(h:bY (g3.map f) k=j c)(No:cn d B ag L g3)(a2:∀v r,wp d B ag v r->k (f r)=j c->P [v]):P L:=match g3,h,No with|[r],h,No=>No.jC λv l=>a2 v r l h
theorem Xe{N:Type}{f:R->R}{k:R->R->Y N}{c:N}{P:p cd->Prop}{B:aX}(h:eT (g3.map f) k=j c)(No:cn d B ag L g3)(a2:∀v g2 r g,wp d B ag v r->wp d B ag g2 g->k (f r) (f g)=j c->P [v,g2]):P L:=match g3,h,No with|[r,g],h,No=>No.My λv g2 l eb=>a2 v g2 r g l eb h
theorem u6{N:Type}{P:Prop}{c:R}{k:m0->Y N}{l:N}(h:hA c k=j l)(a2:∀e,c=.int e->k e=j l->P):P:=Vd h a2 a'
theorem Xf(Z:W.ab d){l:R}(ay:wp d W.B W.ag v r)(h:L0 (view W.o r)=j l):sN d W A (.builtin "len") [v] l:=λa1 C hm=>
 have bN:∀z:E,.int z=l->∀u,C (.int z u) {W.s with toks:=W.s.toks+1+1}:=λz g u=>hm (.int z u) (W.to {W.s with toks:=W.s.toks+1+1}) (Z.ao (e7 _ 2)) (kw.refl.ao (e7 _ 2)) rfl (.aq (g▸.int _ _))
 Ek h (λc g h=>Gt h λsc h=>(jA Z ay g rfl).e_ λu=>len_str (SX.mpr (uT sc)) (bN _ (aO h) _)) λh=>
 Ln h (λc g h=>Gt h λsc h=>(jA Z ay g rfl).hG λe L z gt f=>call_len_list ⟨_,gt,rfl,_,rfl⟩ (f.length.symm▸uT sc:(L.length:m0)<2^63) (bN L.length (f.length.symm▸aO h) _)) λh=>
 Vh h (λc g h=>Gt h λsc h=>(jA Z ay g rfl).pF λe L z gt f=>aiK (items:=L.toArray) ⟨_,gt,rfl,_,rfl⟩ (f.length.symm▸uT sc:(L.length:m0)<2^63) (bN L.length (f.length.symm▸aO h) _)) a'
theorem Xg(Z:W.ab d){z:E}(lf:zs z A){g:R}{e b:m0}(l:wp d W.B W.ag v r)(eb:wp d W.B W.ag g2 g)(h1:view W.o r=.int e)(ex:view W.o g=.int b):sN d W A (.builtin "max") [v,g2] (.int (if b>e then b else e)):=λa1 C hm=>(jA Z l h1 rfl).de λu=>(jA Z eb ex rfl).de λeP=>fc (max_two_ints lf.handled λeg ao gl fd ty=>
  have m:Mv [] W.s {W.s with heap:=eg,toks:=ao}:=Mv.fr fd gl ty
  hm _ _ (Z.av m (cR) Z.bare) (kw.refl.av m cR) rfl (.aq (by split<;>exact .int _ _)))
def Xh(d:sw)(W:nb)(A:xs)(f:X)(L:p cd)(r:R):Prop:=∃b,mM f=j b/\(b=.builtin "len"\/b=.builtin "max"\/b=.type "list"\/b=.type "tuple")/\f≠"__name__"/\(f==("__debug__":X))=G/\sN d W A b L r
theorem Xi(ds:d.ab)(Z:W.ab d){z:E}(lf:zs z A){f:X}(No:cn d W.B W.ag L g3)(h:qR f (g3.map (view W.o))=j r):Xh d W A f L r:=fq h (λh=>b5 h λh=>⟨.builtin "len",boot_len,.inl rfl,by decide,by decide,AR (P:=λL=>sN d W A (.builtin "len") L r) h No λv r l h=>Xf Z l h⟩) λh=>fq h (λh=>b5 h λh=>⟨.builtin "max",by decide+kernel,.inr (.inl rfl),by decide,by decide,Xe (P:=λL=>sN d W A (.builtin "max") L r) h No λv g2 r g l eb h=>u6 h λe h1 h=>u6 h λb ex h=>aO h▸Xg Z lf l eb h1 ex⟩) λh=>fq h (λh=>b5 h λh=>⟨.type "list",by decide+kernel,.inr (.inr (.inl rfl)),by decide,by decide,AR (P:=λL=>sN d W A (.type "list") L r) h No λv r l h=>AP h λn g h=>Gt h λsc h=>aO h▸λa a=>Xd Z (jA Z l g rfl) sc⟩) λh=>b5 h λh=>⟨.type "tuple",by decide+kernel,.inr (.inr (.inr rfl)),by decide,by decide,AR (P:=λL=>sN d W A (.type "tuple") L r) h No λv r l h=>AP h λn g h=>Gt h λsc h=>aO h▸λa a=>Xc Z (jA Z l g rfl) sc⟩
end
end
abbrev ha(d:sw)(f:cd)(h:bl):Prop:=∃k,(k=Keeper.frame\/k=Keeper.machine\/k=Keeper.boundFrame)/\Looks d.M h (keeperOf f) k
structure j7(d:sw)(au:E)(v:cd)(xL:p R->Y R):Prop where
 keep:∀{W:nb},d.ab->W.ab d->ha d v W.h
 call:∀{A:xs},zs au A->∀{a1:cd->nl->Prop} {C:cd->nl->Prop} {W:nb} {L:p cd} {g3:p R} {r:R},W.ab d->W.ak=V->Is d W.B L g3->xL g3=j r->
  (∀eH y,y.ab d->kw d [] W y->y.o=W.o->x0 d y.B eH r->C eH y.s)->f4 d.M A (call v L) C a1 W.s
def qX(d:sw)(t:kt)(m:X)(f:kt):Prop:=zF d.K t m=V/\pj d.K (.ref t) m=j (j (.ref f))/\isFn d.K (.ref f)=V
structure qY(d:sw)(au:E)(v:cd)(xL:p R->p ca->Y (R×p ca)):Prop where
 keep:jm d.K v=V
 call:∀{A:xs},zs au A->∀{a1:cd->nl->Prop} {C:cd->nl->Prop} {W:nb} {c:cd} {i:E} {L:p cd} {g3:p R} {l:R×p ca},W.ab d->W.ak=V->wp d W.B W.ag c (.am i)->Is d W.B L g3->xL (.am i::g3) W.o=j l->
  (∀eH y,y.ab d->kw d [] W y->y.o=l.2->x0 d y.B eH l.1->C eH y.s)->f4 d.M A (call v (c::L)) C a1 W.s
structure CxOk(d:sw)(J:Sc):Prop where
 fs:∀c r,J.fs c=j r->E4 d c r
 i1:∀c e r,J.i1 c e=j r->u3 d c e r
 fld:∀t e,J.fld t e=V->AQ d t e
 fn:∀f xL,J.fn f=j xL->∃v,(d.mg f=j v\/(d.mg f=bn/\mM f=j v))/\j7 d J.au v xL
 blt:∀f b,J.fn f=bn->mM f=j b->(b=.builtin "len"\/b=.builtin "max"\/b=.type "list"\/b=.type "tuple"\/b=.type "range"\/b=.type "zip")->d.mg f=bn
 gN:∀t m xL,J.gN t m=j xL->∃f,qX d t m f/\j7 d J.au (.ref f) xL
 fv:∀t m xL,J.fv t m=j xL->∃f,qX d t m f/\qY d J.au (.ref f) xL
 hH:∀e,J.hH e=V->∃u,d.az.get? e=j (lZ (.builtin "str.join") (.str ⟨#[]⟩ u))
section
variable{d:sw}{J:Sc}{A:xs}{O:IN}{H:hf}
theorem qZ{id:wK}(h:bl):ha d (.builtin id) h:=⟨.machine,.inr (.inl rfl),afh rfl⟩
theorem q0{a7:wK}(h:bl):ha d (.type a7) h:=⟨.machine,.inr (.inl rfl),afh rfl⟩
theorem sO(ds:d.ab)(Z:W.ab d){f:cd}(h:jm d.K f=V):ha d f W.h:=by obtain⟨k,e,b⟩:=looks_keep (M:=d.M) h (Z.l7 ds);exact⟨k,e.elim .inl (λg=>.inr (.inl g)),b⟩
theorem Mz{q:kt}{f e:cd}(h:W.h.get? q=j (lZ f e)):ha d (.ref q) W.h:=⟨.machine,.inr (.inl rfl),(Ti (part:=bn) h).andThen .now⟩
theorem MA{af:aN}(a2:a0 d A O H af){bd:p bv}{l:p R×p ca}(h1:c3 af bd o=j l){f:cd}{first:p cd}(Z:W.ab d)(aj:Tl d O H W)(ap:W.o=o)(hm:∀L y,y.ab d->Tl d O H y->kw d [] W y->y.o=l.2->cn d y.B y.ag L l.1->ha d f y.h/\f4 d.M A (call f (first++L)) C a1 y.s):f4 d.M A (wL h0 f first (iy h0 (ht bd O)) []) C a1 W.s:=by obtain⟨ex,h3⟩:=AL a2 h1 (h0:=h0);refine qx (P:=λh=>ha d f h) (by rw[h3];rfl) (λh gl=>gl) (l9 h3 (ex _ _ _ Z aj ap λL y xz aw bG No=>?_));exact hm L y xz (aj.f' aw) aw bG No
theorem l'{f:X}:eval (.Call (.Name f x) TE [] h0) O=(do wL h0 (<- eval (.Name f x) O) [] (iy h0 (ht TE O)) (Tj h0 (Tn [] O))):=rfl
theorem a0.with{af:aN}(a2:a0 d A O H af){N:Type}{c:N}{k:p R->p ca->Y N}{bd:p bv}(h:s4 (c3 af bd W.o) k=j c)(ds:bO d O H un W){f:cd}{first:p cd}(hm:∀L g3 y,bO d O H un y->kw d [] W y->cn d y.B y.ag L g3->k g3 y.o=j c->ha d f y.h/\f4 d.M A (call f (first++L)) C a1 y.s):f4 d.M A (wL h0 f first (iy h0 (ht bd O)) []) C a1 W.s:=b8 h λe b g h=>MA a2 g ds.ok ds.aj rfl λL y Z aj le ap No=>hm L e y (ds.step Z le) le No (ap.symm▸h)
def AS(d:sw)(W:nb)(A:xs)(v:cd)(L:p cd)(l:R×p ca):Prop:=∀(a1:cd->nl->Prop) (C:cd->nl->Prop),(∀g2 y,y.ab d->kw d [] W y->y.o=l.2->wp d y.B y.ag g2 l.1->C g2 y.s)->f4 d.M A (call v L) C a1 W.s
def j8(d:sw)(W:nb)(A:xs)(v:cd)(L:p cd)(l:R×p ca):Prop:=ha d v W.h/\AS d W A v L l
theorem MB{f:cd}{l:R×p ca}(Z:W.ab d)(g:j (r,W.o)=j l)(h:∀(a1:cd->nl->Prop) (ck:cd->nl->Prop),(∀v u,x0 d W.B v r->ck v {W.s with toks:=u})->f4 d.M A (call f L) ck a1 W.s):AS d W A f L l:=aQ g λa a hm=>xt Z (h _) hm
theorem MC{P:Prop}{I l:R}(h:xm c I=j l)(a2:∀n f1,I=.ah n->pG n=j f1->mR c f1=V->.str (jk c f1)=l->P):P:=AP h λn g h=>dd h λf1 fd h=>Gt h λs3 h=>a2 n f1 g fd s3 (aO h)
theorem MD(ds:d.ab)(Ps:CxOk d J){f:R}{l:R×p ca}(Z:W.ab d)(i3:wp d W.B W.ag v f)(No:cn d W.B W.ag L g3)(h:qS J f g3 W.o=j l):j8 d W A v L l:=d2 (P:=λg3=>cn d W.B W.ag L g3->j8 d W A v L l) h (λr h No=>No.jC (P:=λL=>j8 d W A v L l) λg2 Pi=>Vr (P:=λf=>wp d W.B W.ag v f->j8 d W A v [g2] l) h (λi h i3=>⟨(cw.of Z i3 rfl).LH λq e m a AT=>Mz AT,λa a hm=>W1 Z i3 Pi h hm⟩)
  (λh=>Vu (P:=λf=>wp d W.B W.ag v f->j8 d W A v [g2] l) h λeH h=>U9 (P:=λeH=>wp d W.B W.ag v (.cg eH)->j8 d W A v [g2] l) h λe h i3=>Gt h λs3 h=>(Ps.hH e s3).elim λu ty=>(show v=.ref e from i3.i.i)▸⟨Mz (Z.old ty),gK h λc f8 g=>
   MC f8 λn f1 Fd fd xA cj=>MB Z g λa ck eg=>W5 Z (Z.old ty) (jA Z Pi Fd rfl) fd xA λeP k=>eg _ _ (cj▸.str _ _)⟩) i3) No
theorem l8.bN{l:R×p ca}(K:l8 d O H un l C)(ds:bO d O H un W):∀g2 y,y.ab d->kw d [] W y->y.o=l.2->wp d y.B y.ag g2 l.1->C g2 y.s:=λg2 y Z le ap ay=>K g2 l.1 y (ds.step Z le) ay (GT (λo=>j (l.1,o)) ap)
theorem j8.at{l:R×p ca}(k:j8 d W A v L l)(ds:bO d O H un W)(K:l8 d O H un l C):ha d v W.h/\f4 d.M A (call v L) C a1 W.s:=⟨k.1,k.2 a1 C (K.bN ds)⟩
theorem Xj{af:aN}(ds:d.ab)(Ps:CxOk d J)(a2:a0 d A O H af){f:X}{l:R×p ca}(wn:H.lookup f=j r)(h_:(f==("__debug__":X))=G)(q1:(f==("__classdict__":X))=G)(h:s4 (c3 af TE o) (qS J r)=j l):bH d A O H (eval (.Call (.Name f x) TE [] h0) O) o l:=hJ (F:=λo=>s4 (c3 af TE o) (qS J r)=j l) h λa1 C W h bi K=>by rw[l'];exact g1 (AJ wn h_ q1 a1 _ W bi.ok bi.aj rfl λv nn Db Ok cm Pi=>a2.with (cm.symm▸h) (bi.step Db Ok) λL g3 u8 bh Ix No h=>(MD ds Ps bh.ok (Ix.ay Pi) No h).at bh K)
theorem Xk(lf:zs (J.au+8) A)(ds:d.ab)(F:j7 d J.au v xL){l:R×p ca}(Z:y.ab d)(fg:y.ak=V)(No:cn d y.B y.ag L g3)(h:(s4 (fa g3 y.o) λbQ f2=>(xL bQ).map λr=>(r,f2))=j l):j8 d y A v L l:=⟨F.keep ds Z,λa1 C hm=>b8 h λbQ f2 wn h=>gK h λr hd g=>(AN Z No wn).elim λu8 q=>q.2.2.2.1▸F.call (lf.less (e7 _ _)) q.1 (q.2.1.gens.ak.trans fg) q.2.2.2.2 hd λg2 ZB cy bL eY sP=>hm g2 ZB cy (q.2.1.trans bL) (eY.trans (q.2.2.1.trans (GT ko (aO g)))) ((GT k1 (aO g))▸.aq sP)⟩
theorem Xl{f:X}(h:qR f g3=j r):∃b,mM f=j b/\(b=.builtin "len"\/b=.builtin "max"\/b=.type "list"\/b=.type "tuple"):=fq h (λh=>b5 h λa=>⟨_,boot_len,.inl rfl⟩) λh=>fq h (λh=>b5 h λa=>⟨.builtin "max",by decide+kernel,.inr (.inl rfl)⟩) λh=>fq h (λh=>b5 h λa=>⟨.type "list",by decide+kernel,.inr (.inr (.inl rfl))⟩) λh=>b5 h λa=>⟨.type "tuple",by decide+kernel,.inr (.inr (.inr rfl))⟩
theorem Xm{b:cd}(cr:b=.builtin "len"\/b=.builtin "max"\/b=.type "list"\/b=.type "tuple")(h:bl):ha d b h:=cr.elim (λg=>g▸qZ h) λcr=>cr.elim (λg=>g▸qZ h) λcr=>cr.elim (λg=>g▸q0 h) λg=>g▸q0 h
theorem Xn(ds:d.ab)(Z:W.ab d){z:E}(lf:zs z A){f:X}{b:cd}{l:R×p ca}(cr:mM f=j b)(No:cn d W.B W.ag L g3)(h:((qR f (g3.map (view W.o))).map λr=>(r,W.o))=j l):j8 d W A b L l:=gK h λr hd g=>(Xi ds Z lf No hd).elim λsv q=>aO (q.1.symm.trans cr)▸⟨Xm q.2.1 _,aQ g (q.2.2.2.2)⟩
theorem Xo{af:aN}(ds:d.ab)(Ps:CxOk d J)(lf:zs (J.au+8) A)(a2:a0 d A O H af){f:X}{l:R×p ca}(Os:df O.scope f=V)(cp:O.scope.isGenerator=G)(h_:(f==("__debug__":X))=G)(u7:f≠"__name__")(h:s4 (c3 af TE o) (sI J f)=j l):bH d A O H (eval (.Call (.Name f x) TE [] h0) O) o l:=by
 cases f0:J.fn f with
 |some xL=>obtain⟨v,pc,F⟩:=Ps.fn f xL f0;exact hJ (F:=λo=>s4 (c3 af TE o) (sI J f)=j l) h λa1 C W h bi K=>by rw[l'];refine g1 ?_;have Sy:=a2.with (A:=A) (a1:=a1) (h0:=h0) (f:=v) (first:=[]) (C:=C) h bi λL g3 u8 bh Ix No h=>(Xk lf ds F bh.ok (bh.aj.ak cp) No ((m5 f0).symm.trans h)).at bh K;exact pc.elim (λpc=>sL (ds:=ds) bi.ok bi.aj h_ Os pc Sy) λpc=>qV (ds:=ds) bi.ok bi.aj h_ Os pc.1 pc.2 u7 Sy
 |none=>obtain⟨b,cr,gl⟩:=b8 h λg3 al a h=>gK ((fH f0).symm.trans h) λr hd a=>Xl hd;have xB:d.mg f=bn:=Ps.blt f b f0 cr (gl.imp_right λh=>h.imp_right λh=>h.imp_right λh=>.inl h);exact hJ (F:=λo=>s4 (c3 af TE o) (sI J f)=j l) h λa1 C W h bi K=>by rw[l'];exact g1 (qV (ds:=ds) bi.ok bi.aj h_ Os xB cr u7 (a2.with h bi λL g3 u8 bh Ix No h=>(Xn ds bh.ok lf cr No ((fH f0).symm.trans h)).at bh K))
end
section
variable{d:sw}{J:Sc}{A:xs}{O:IN}{H:hf}
theorem Xp{z:E}{TE:p (ga×aP cd)}(h:TE.any (·.1)=G)(pi:z<30):methodCallForm (z+0) TE []=V:=by unfold methodCallForm;rw[show TE.all (λc=>!c.1)=V from lO.mpr λc f8=>by rw[uc];exact lP.mpr (afi.mp h c f8)];simp[pi]
theorem Xq{T:bv}{m:X}{u:aP cd}(h:jz T=V):To T m O u=u:=T.casesOn (motive_1:=λT=>jz T=V->To T m O u=u) (λa a a a=>rfl) (λa a a a=>rfl) (λa a a a a=>rfl) (λa a a a=>rfl) (λa a a a a=>rfl) (λa a a a a=>rfl) (λa a a a=>rfl) (λa a a a=>rfl) (λa a a a a=>rfl) (λa a a a a=>rfl) (λa a a a a a=>rfl) (λa a a a a=>rfl) (λa a a=>rfl) (λa a a=>rfl) (λa a a=>rfl) (λa a a a a=>rfl) (λa a a a h=>nomatch h) (λa a a a a=>rfl) (λa a a=>rfl) (λa a a a=>rfl) (λa a a a=>rfl) (λa a a a=>rfl) (λa a a=>rfl) (λa a a=>rfl) (λa a a=>rfl) (λa a a a=>rfl) (λa a a a a=>rfl) h
theorem sQ{T:bv}{m:X}(pi:jz T=V)(ae:(bX.endLine==h0.line)=V)(aV:TE.length<30)(ln:(iy h0 (ht TE O)).any (·.1)=G)(h:f4 d.M A (eval T O) (λi4 s0=>f4 d.M A (wM i4 m (do return (<- importBound T O).getD V)) (λeZ aD=>f4 d.M A (wL h0 eZ.1 eZ.2 (iy h0 (ht TE O)) []) C a1 aD) a1 s0) a1 s):f4 d.M A (eval (.Call (.Attribute T m bX) TE [] h0) O) C a1 s:=by
 show f4 d.M A (do
  let i4 <- To T m O (eval T O)
  lM bX.atName
  methodCall T m bX h0 O i4 (TE.length+0) (iy h0 (ht TE O)) []) C a1 s
 rw[Xq pi];refine g1 (cJ h (λi4 s0 a3=>g1 (fF ?_)) λa a c=>c);unfold methodCall;rw[Xp ln aV];refine g1 (dF ?_);show f4 d.M A (wM i4 m (do return (<- importBound T O).getD V)) _ a1 s0;refine cJ a3 (λeZ aD gd=>?_) λa a c=>c;have g:methodCallPos V T O bX h0=pure h0:=by unfold methodCallPos;rw[ae];rfl
 rw[g];exact g1 (s2 gd)
theorem Fe(Z:W.ab d){i:E}(l:wp d W.B W.ag v (.am i))(h:W.o[i]?=j (.list n)):∃(e:kt) (L:p cd) (z:E),v=.ref e/\W.ag[i]?=j (e,e)/\W.h.get? e=j (SL L.toArray z):=by obtain⟨e,m,rfl,nw⟩:=l.i;obtain⟨rfl,L,z,gt,_⟩:=u5 Z nw h;exact⟨e,L,z,rfl,nw,gt⟩
theorem ME(Z:W.ab d)(l:wp d W.B W.ag v r)(h:view W.o r=.inst t s1):∃(c cK:kt) (bd:p f5) (z:E),v=.ref c/\S7 W.h c (h6 t cK) t (j (Dh bd z))/\f9 d W.B W.ag bd s1:=(jA Z l h rfl).EN λc cK bd z h1 ex f=>⟨c,cK,bd,z,rfl,xx h1 ex,f⟩
def MF(d:sw)(A:xs)(f:cd)(first:p cd)(F:p R->p ca->Y (R×p ca))(nn:nb):Prop:=∀y L g3 l,y.ab d->kw d [] nn y->y.ak=V->cn d y.B y.ag L g3->F g3 y.o=j l->j8 d y A f (first++L) l
def gP(d:sw)(J:Sc)(A:xs)(a1:cd->nl->Prop)(W:nb)(v:cd)(bK:aP ga)(m:X)(r:R)(k:u1):Prop:=∀C:cd×p cd->nl->Prop,(∀f first nn,nn.ab d->kw d [] W nn->nn.o=W.o->MF d A f first (fb J k r m) nn->C (f,first) nn.s)->f4 d.M A (wM v m bK) C a1 W.s
variable{bK:aP ga}{m:X}{k:u1}
theorem Ff(ds:d.ab)(Z:W.ab d)(ay:wp d W.B W.ag v r)(FB:view W.o r=.inst t s1)(ae:s1.lookup m=bn)(Ch:qX d t m f){C:cd×p cd->nl->Prop}(wT:C (.ref f,[v]) W.s):f4 d.M A (wM v m bK) C a1 W.s:=by obtain⟨c,cK,bd,z,rfl,lv,i3⟩:=ME Z ay FB;exact method_fn (Z.l7 ds) lv (wF Ch.1).1 (wF Ch.1).2 Ch.2.1 (bt.mp Ch.2.2) (by show(lookIn m (Dh bd z)).map _=_;rw[S8,(i3.look m).2 ae];rfl) wT
theorem Xr{i:E}:fb J .app (.am i) m g3 o=bY g3 λc=>rT i c o:=rfl
theorem Xs{i:E}:fb J .pop (.am i) m g3 o=dS g3 (EU i o):=rfl
theorem Xt{xL:p R->p ca->Y (R×p ca)}:fb J (.ar t xL) r m g3 o=s4 (fa g3 o) λbQ wE=>xL (r::bQ) wE:=rfl
theorem Xu:fb J (.qT t xL) r m g3 o=s4 (fa g3 o) λbQ wE=>(xL (r::bQ)).map λl=>(l,wE):=rfl
theorem MG:fb J .val r m g3 o=(xn r m (g3.map (view o))).map λl=>(l,o):=rfl
theorem Xv(Z:W.ab d){i:E}(ae:W.o[i]?=j (.list n))(ay:wp d W.B W.ag v (.am i)):gP d J A a1 W v bK "append" (.am i) .app:=λC hm=>by obtain⟨e,L,z,rfl,bf,gt⟩:=Fe Z ay ae;exact getMethod_list_append gt rfl rfl (hm _ _ W Z kw.refl rfl λy L g3 l xz aw a No h=>d2 (P:=λg3=>cn d y.B y.ag L g3->j8 d y A (.builtin "list.append") ([.ref e]++L) l) (Xr.symm.trans h) (λr h No=>No.jC (P:=λL=>j8 d y A (.builtin "list.append") ([.ref e]++L) l) λg2 Pi=>⟨qZ _,λa a hm=>W0 xz (m7 aw.ag bf) Pi h hm⟩) No)
theorem Xw(Z:W.ab d){i:E}(ae:W.o[i]?=j (.list n))(ay:wp d W.B W.ag v (.am i)):gP d J A a1 W v bK "pop" (.am i) .pop:=λC hm=>by obtain⟨e,L,z,rfl,bf,gt⟩:=Fe Z ay ae;exact Copied.getMethod_pop_at gt rfl rfl (hm _ _ W Z kw.refl rfl λy L g3 l xz aw a No h=>d1 (P:=λg3=>cn d y.B y.ag L g3->j8 d y A (.builtin "list.pop") ([.ref e]++L) l) (Xs.symm.trans h) (λh No=>by rw[show L=[]from No.i];exact⟨qZ _,λa a hm=>W9 xz (m7 aw.ag bf) h hm⟩) No)
theorem Xx(ds:d.ab)(Ps:CxOk d J)(Z:W.ab d){f:R}(FB:view W.o r=.inst t s1)(ay:wp d W.B W.ag v r)(wn:s1.lookup m=j f)(h1:J.fld t m=V)(ex:l6 f=V):gP d J A a1 W v bK m r (.fld f):=λC hm=>by have F:=Ps.fld t m h1;obtain⟨c,cK,bd,z,Xy,lv,i3⟩:=ME Z ay FB;subst Xy;exact method_usual (r:=bn) (Z.l7 ds) lv (wF F.1).1 (wF F.1).2 F.2.2 rfl (E_ ds Z ay FB F wn ex λg2 nn Db Ok cm Pi=>hm g2 [] nn Db Ok cm λy L g3 l xz aw a No h=>MD ds Ps xz (aw.ay Pi) No h)
theorem Xz(ds:d.ab)(Ps:CxOk d J)(lf:zs (J.au+8) A)(Z:W.ab d){i:E}{xL:p R->p ca->Y (R×p ca)}(FB:view W.o (.am i)=.inst t s1)(ay:wp d W.B W.ag v (.am i))(wn:s1.lookup m=bn)(pK:J.fv t m=j xL):gP d J A a1 W v bK m (.am i) (.ar t xL):=λC hm=>(Ps.fv t m xL pK).elim λf Ch=>Ff ds Z ay FB wn Ch.1 (hm _ _ W Z kw.refl rfl λy L g3 l xz aw fg No h=>⟨sO ds xz Ch.2.keep,λa1 C hm=>b8 (Xt.symm.trans h) λbQ f2 wn h=>(AN xz No wn).elim λu8 q=>q.2.2.2.1▸Ch.2.call (lf.less (e7 _ _)) q.1 (q.2.1.gens.ak.trans fg) (q.2.1.ay (aw.ay ay)) q.2.2.2.2 (q.2.2.1.symm▸h) λg2 ZB cy bL eY sP=>hm g2 ZB cy (q.2.1.trans bL) eY (.aq sP)⟩)
theorem XA(ds:d.ab)(Ps:CxOk d J)(lf:zs (J.au+8) A)(Z:W.ab d)(ay:wp d W.B W.ag v (.inst t s1))(wn:s1.lookup m=bn)(pK:J.gN t m=j xL):gP d J A a1 W v bK m (.inst t s1) (.qT t xL):=λC hm=>(Ps.gN t m xL pK).elim λf Ch=>Ff ds Z ay rfl wn Ch.1 (hm _ _ W Z kw.refl rfl λy L g3 l xz aw fg No h=>⟨Ch.2.keep ds xz,λa1 C hm=>b8 (Xu.symm.trans h) λbQ f2 wn h=>gK h λr hd g=>(AN xz No wn).elim λu8 q=>q.2.2.2.1▸Ch.2.call (lf.less (e7 _ _)) q.1 (q.2.1.gens.ak.trans fg) (.cons (q.2.1.bZ (aw.bZ ay.i)) q.2.2.2.2) hd λg2 ZB cy bL eY sP=>hm g2 ZB cy (q.2.1.trans bL) (eY.trans (q.2.2.1.trans (GT ko (aO g)))) ((GT k1 (aO g))▸.aq sP)⟩)
theorem CU{F:R->p R->Y R}{u9:R->Y R}(gf:look m sG=j F)(h1:∀g3,F r g3=bY g3 u9){id:wK}(a2:∀{y:nb} {w:cd} {g I:R},y.ab d->kw d [] W y->wp d y.B y.ag w g->u9 (view y.o g)=j I->AS d y A (.builtin id) [g2,w] (I,y.o)):MF d A (.builtin id) [g2] (fb J .val r m) W:=λy L g3 l xz aw a No h=>d0 (MG.symm.trans h) λI KM=>AR (P:=λL=>j8 d y A (.builtin id) ([g2]++L) (I,y.o)) ((h1 _).symm.trans ((eS gf).symm.trans KM)) No λw g Pi h=>⟨qZ _,a2 xz aw Pi h⟩
theorem Fg{f:cd}(Z:W.ab d)(h:∀(a1:cd->nl->Prop) (ck:cd->nl->Prop),(∀v u,x0 d W.B v r->ck v {W.s with toks:=u})->f4 d.M A (call f L) ck a1 W.s):AS d W A f L (r,W.o):=MB Z rfl h
theorem XB(Z:W.ab d){u:be}(gf:look "join" sG=j L1):gP d J A a1 W (.str c u) bK "join" (.str c) .val:=λC hm=>GM.join (hm _ _ W Z kw.refl rfl (CU (u9:=xm c) gf (λa=>rfl) λxz aw Pi h=>MC h λn f1 Fd fd xA cj=>cj▸Fg xz λa ck eg=>W4 xz (jA xz Pi Fd rfl) fd xA λeP k=>eg _ _ (.str _ _)))
theorem XC(Z:W.ab d){u:be}(gf:look "split" sG=j L2):gP d J A a1 W (.str c u) bK "split" (.str c) .val:=λC hm=>GM.split (hm _ _ W Z kw.refl rfl (CU (u9:=Sv c) gf (λa=>rfl) λ{y w g U} xz aw Pi h=>AO h λI XD h=>og h λsc KM h=>aO h▸λa1 C hm=>(jA xz Pi XD rfl).e_ λeP=>W6 (su KM) sc λhe k gl eJ=>
  have Db:=xz.ao (u:=k) gl
  hm _ ((y.to {y.s with toks:=k}).new (SL (ub he).toArray 0)) (Db.new rfl) ((kw.refl.ao gl).new Db _) rfl (.aq (.ah (nb.uO _) (by rw[<- eJ,dG];exact W3 he)))))
theorem XE(Z:W.ab d){n:p (X×R)}(eZ:x0 d W.B v (.cF n))(gf:look "get" sG=j L6):gP d J A a1 W v bK "get" (.cF n) .val:=λC hm=>(eZ.at Z).ov (P:=λv=>x0 d W.B v (.cF n)->_->f4 d.M A (wM v "get" bK) C a1 W.s) (λe bd z xj gt f eZ hm=>Tp (f.mapOf gt).typeIs Tq afe PySem.F.type_dict_get (λe g=>by cases g;exact⟨_,gt,rfl⟩) (hm _ _ W Z kw.refl rfl (CU (u9:=L5 n) gf (λa=>rfl) λxz aw Pi h=>AO h λk xC h=>aO h▸Fg xz λa ck eg=>W8 xz ((aw.bZ eZ).at xz) (jA xz Pi xC rfl) eg))) eZ hm
theorem XF(Z:W.ab d)(eZ:x0 d W.B v (.ah n))(gf:look "index" sG=j L4):gP d J A a1 W v bK "index" (.ah n) .val:=λC hm=>(eZ.at Z).hG (P:=λv=>x0 d W.B v (.ah n)->_->f4 d.M A (wM v "index" bK) C a1 W.s) (λe L z gt f eZ hm=>getMethod_list_of (l:=e) (items:=L.toArray) PySem.F.slot_list_index PySem.F.type_list_index ⟨_,gt,rfl,_,rfl⟩ ⟨_,gt,rfl⟩ (hm _ _ W Z kw.refl rfl (CU (u9:=L3 n) gf (λa=>rfl) λxz aw Pi h=>u6 h λk xC h=>dd h λns fd h=>og h λh1 ex h=>aO h▸Fg xz λa ck eg=>W' xz ((aw.bZ eZ).at xz) (jA xz Pi xC rfl) fd h1 ex eg))) eZ hm
theorem XG(Z:W.ab d)(eZ:x0 d W.B v r){I:R}(h:xn r m g3=j I):gP d J A a1 W v bK m r .val:=dd h λF gf h=>iY.look (P:=λm F=>look m sG=j F->F r g3=j I->gP d J A a1 W v bK m r .val) (.cons (λgf h=>lX (P:=λr=>x0 d W.B v r->gP d J A a1 W v bK "join" r .val) h (λc a eZ=>eZ.i.elim λu g=>g▸XB Z gf) eZ)<|.cons (λgf h=>lX (P:=λr=>x0 d W.B v r->gP d J A a1 W v bK "split" r .val) h (λc a eZ=>eZ.i.elim λu g=>g▸XC Z gf) eZ)<|.cons (λgf h=>qN (P:=λr=>x0 d W.B v r->gP d J A a1 W v bK "index" r .val) h (λn a eZ=>XF Z eZ gf) eZ)<|.cons (λgf h=>Vi (P:=λr=>x0 d W.B v r->gP d J A a1 W v bK "get" r .val) h (λn a eZ=>XE Z eZ gf) eZ) .nil) gf gf h
theorem xD{i:E}(h:o[i]?=j (.inst t s1)):view o (.am i)=.inst t s1:=GT (uU i) h
theorem XH(ds:d.ab)(Ps:CxOk d J)(lf:zs (J.au+8) A)(gl:ow J r m W.o=j k)(Z:W.ab d)(ay:wp d W.B W.ag v r){l:R×p ca}(nw:fb J k r m g3 o=j l):gP d J A a1 W v bK m r k:=uJ (P:=λr=>wp d W.B W.ag v r->fb J k r m g3 o=j l->gP d J A a1 W v bK m r k) gl (λi h ay a=>dd h λt f0 h=>t.casesOn (motive:=λt=>W.o[i]?=j t->L7 J m t=j k->gP d J A a1 W v bK m (.am i) k) (λn f0 h=>fq h (λh=>b5 (P:=λm=>gP d J A a1 W v bK m (.am i) k) h λh=>aQ h (Xv Z f0 ay)) λh=>b5 (P:=λm=>gP d J A a1 W v bK m (.am i) k) h λh=>aQ h (Xw Z f0 ay)) (λt s1 f0 h=>j2 h (λf wn h=>og h λh1 ex h=>aQ h (Xx ds Ps Z (xD f0) ay wn h1 ex)) λwn h=>d0 h λxL pK=>Xz ds Ps lf Z (xD f0) ay wn pK) (λa a=>a') (λa a=>a') f0 h)
  (λh=>Ls (P:=λr=>wp d W.B W.ag v r->fb J k r m g3 o=j l->gP d J A a1 W v bK m r k) h (λt s1 h ay a=>Eh h λwn h=>d0 h λxL pK=>XA ds Ps lf Z ay wn pK)
   λh ay nw=>Gt h λFB h=>aQ (P:=λk=>fb J k r m g3 o=j l->gP d J A a1 W v bK m r k) h (λnw=>gK (MG.symm.trans nw) λI KM a=>XG Z (x0.xv ay (V9 FB)) KM) nw) ay nw
theorem MH{af:aN}(ds:d.ab)(Ps:CxOk d J)(lf:zs (J.au+8) A)(a2:a0 d A O H af){T:bv}{l:R×p ca}(h:methP af J O.scope T m TE bX h0 o=j l):bH d A O H (eval (.Call (.Attribute T m bX) TE [] h0) O) o l:=Gt h λae h=>Gt h λaV h=>Gt h λpi h=>iX h λcp h=>hJ (F:=λo=>(s4 (af T o) λr al=>b9 (ow J r m al) λk=>s4 (c3 af TE al) λg3 f2=>fb J k r m g3 f2)=j l) h λa1 C W h bi K=>sQ pi ae (mQ aV) (b8 h λa a a h=>dd h λa a h=>a2.any h) (a2.go h bi λv r nn aU a Pi h=>dd h λk gl h=>b8 h λa a a nw=>XH ds Ps lf gl aU.ok Pi nw _ λf first u8 P3 Ix bI f0=>a2.with (k:=λg3 f2=>fb J k r m g3 f2) (bI.symm▸h) (aU.step P3 Ix) λL g3 ZB fO bL No h=>(f0 ZB L g3 l fO.ok bL (fO.aj.ak cp) No h).at fO K)
theorem XI{af:aN}(a2:a0 d A O H af){T:bv}{l:R×p ca}(h:L' af T TE bX h0 o=j l):bH d A O H (eval (.Call (.Attribute T "replace" bX) TE [] h0) O) o l:=pA h λe b h=>uB h λt hC Am h=>Ac h λI h=>uB h λt eX ks h=>Ac h λU h=>hJ (F:=λo=>(s4 (af T o) λr al=>h2 r λc=>pp (bX.endLine==h0.line)<|pp (jz T)<|pp (!(I==U))<|pp (lK (c.length+(c.length+1)*U.length) 16777216)<|j (R.str (Txt.replace c I U),al))=j l) h λa1 C W h ds K=>
  have kX:(bX.endLine==h0.line)=V/\jz T=V:=b8 h λa a a h=>AO h λa a h=>Gt h λh1 h=>Gt h λex a=>⟨h1,ex⟩
  sQ kX.2 kX.1 (by decide:2<30) rfl (a2.go h ds λv r nn aU a Pi h=>lX (P:=λr=>wp d nn.B nn.ag v r->_) h (λc h Pi=>Gt h λa h=>Gt h λa h=>iX h λxE h=>Gt h λcr g=>Pi.i.i.elim λu af=>af▸GM.replace (J7 rfl (l9 rfl (ud (zB (ud (zB (ue (
    have ex:nn.s.toks≤nn.s.toks+1+1:=e7 _ 2
    K.leaf (W:=nn.to {nn.s with toks:=nn.s.toks+1+1}) (aU.step (aU.ok.ao ex) (kw.refl.ao ex)) g λck h=>SC.replace (r7 aU.ok.toks) (afj _) (ep (gp _)) xE (qr cr) λeP k=>h _ _ (.str _ _)))))))))) Pi)
end
def bc(d:sw)(lv:p kt)(W:nb):Prop:=∀e∈lv,e<W.h.objs.size/\e∉W.aH/\W.B e=bn/\e≠d.tab
section
variable{d:sw}{sK:p kt}
theorem bc.aw(T:bc d lv W)(n:kw d sK W y):bc d lv y:=λe db=>⟨hs (T e db).1 n.size,λU=>(n.aH e U).elim (T e db).2.1 λU=>aB (T e db).1 (dJ.mpr U),afk.mpr λey Fh=>(n.eW e ey Fh).elim (λU=>a' ((T e db).2.2.1.symm.trans U)) λU=>U.elim (T e db).2.1 λU=>aB (T e db).1 (dJ.mpr U),(T e db).2.2.2⟩
theorem bc.le(T:bc d lv W)(n:kw d sK W y)(_:∀e∈lv,e∉sK):bc d lv y:=T.aw n
theorem bc.keep(T:bc d lv W)(n:kw d sK W y)(Tk:∀e∈lv,e∉sK)(db:e∈lv){l_:cE}(g:W.h.get? e=j l_):y.h.get? e=j l_:=n.keep e l_ g (T e db).2.1 (Tk e db) (λa=>(T e db).2.2.2)
theorem bc.new(Z:W.ab d)(gt:T.isFreed=G):bc d [W.h.objs.size] (W.to {W.s with heap:=W.h.push T}):=by intro e db;rw[a9.mp db];have f:=Z.fresh (Da W.h.objs.size);exact⟨b1 (dK _ gt),f.2.1,f.1,f.2.2⟩
theorem bc.av(Z:W.ab d)(T:bc d lv W)(m:Mv lv W.s it)(cr:rZ it.gens):(W.to it).ab d/\kw d lv W (W.to it):=⟨Z.av m (λe db=>⟨(T e db).2.2.1,(T e db).2.1,(T e db).2.2.2⟩) cr,kw.refl.av m λe db=>.inl db⟩
theorem bc.xF(T:bc d lv W)(h:∀e∈lv,∃T,it.heap.get? e=j T):bc d lv (W.to it):=λe db=>⟨by obtain⟨T,gt⟩:=h e db;exact b1 gt,(T e db).2⟩
theorem bc.sR(T:bc d lv W)(h:W.h.objs.size≤it.heap.objs.size):bc d lv (W.to it):=λe db=>⟨hs (T e db).1 h,(T e db).2⟩
theorem u'{u:E}(fd:s.heap.objs.size≤eg.objs.size)(gl:wN e s.heap eg)(ty:s.toks≤u):Mv [e] s {s with heap:=eg,toks:=u}:=⟨fd,λb T g q=>gl b T (λU=>q (U▸.head _)) g,λa a g=>g,rfl,ty⟩
end
section
variable{d:sw}{J:Sc}{A:xs}{O:IN}{H:hf}
theorem XJ{af:aN}(a2:a0 d A O H af){po:JN}{c:bv}{l:R×p ca}:EX af po c o=j l->bH d A O H (eval (.UnaryOp po c h0) O) o l:=po.casesOn (motive:=λpo=>EX af po c o=j l->bH d A O H (eval (.UnaryOp po c h0) O) o l) nofun (Wp a2) nofun λh=>uB h λt k x h=>U6 h λi g=>hJ (F:=λo=>j (R.int (-i),o)=j l) g λa1 C W g ds K=>
  have ex:W.s.toks≤W.s.toks+1+1:=e7 _ 2
  UnaryOp_ (S4 (P.neg_int (K.ao ds g (.aq (.int _ _)) ex)))
theorem MI(ds:d.ab)(Z:W.ab d):(W.h.objs.size==mL)=G:=by
 obtain⟨T,bd,WF,gt,_⟩:=Z.fs ds;have:=b1 gt;have h:mL≤k0:=by decide
 exact eo.mpr (by intro g;have:mL<mL:=zH h (g▸this);exact lQ _ this)
theorem XK(ds:d.ab){l:R×p ca}(g:j (R.cF [],o)=j l):bH d A O H (eval (.Dict [] [] h0) O) o l:=hJ (F:=λo=>j (R.cF [],o)=j l) g λa1 C W g bi K=>wpAny_Dict_empty (K.new (T:=fJ ([]:p f5).toArray 0) bi rfl g λB gt a=>.cF (MI ds bi.ok) gt .nil)
theorem XM{B:aX}{n:p f5}(ln:C_ (aG d.prog d.w) n ba):∀{g3:p R},(∀g∈n,∃k,(aG d.prog d.w).is k g.key=V/\g.hash=(aG d.prog d.w).hash k)->Is d B (ba.map (·.2)) g3->cG d B n ((ba.map (·.1)).zip g3):=by
 induction ln with
 |nil=>exactλa a=>.nil
 |@cons g sS n ba Av ER _ ih=>
  intro g3 gl f;cases g3 with
  |nil=>exact nomatch (show sS.2::ba.map (·.2)=[]from f.i)
  |cons r g3=>
  obtain⟨v,b7,FB,f,s1⟩:=f.i;obtain⟨rfl,rfl⟩:=J8 FB;obtain⟨k,hC,eX⟩:=gl g (.head _);have xC:k=sS.1:=(aG d.prog d.w).inj _ _ _ hC Av;rw[xC]at eX;exact(Value.isStrOf_shape (show Value.isStrOf sS.1 g.key=V from Av)).elim λu XN=>.cons XN eX (ER.symm▸f) (ih (λg rs=>gl g (.tail _ rs)) s1)
theorem MJ{h:bl}(c:h.DictOf (aG d.prog d.w) e ba){B:aX}(f:Is d B (ba.map (·.2)) g3):∃bd z,h.get? e=j (fJ bd.toArray z)/\cG d B bd ((ba.map (·.1)).zip g3):=by obtain⟨⟨e,b,t,r⟩,bd,WF,gt,⟨h1,ex,h3⟩,hd,gl,ln,pi⟩:=c;refine⟨bd.toList,WF,?_,XM ln (λg rs=>gl g (Array.mem_toList_iff.mp rs)) f⟩;rw[gt,show e=_ from h1,show b=_ from ex,show r=_ from h3,show t=_ from hd]
theorem XO(ds:d.ab){af:aN}(a2:a0 d A O H af){k:X}{Fi:E}{v:bv}(h1:af v o=j (r,al))(ex:d4 r al=j (aR,f2)):bH d A O H (eval (.Dict [j (.Constant (.str k) Fi ju)] [v] h0) O) o (.cF [(k,aR)],f2):=by intro a1 C W Z aj ap hm;refine wpAny_Dict_pairs (knd:=aG d.prog d.w) (pairs:=[(eval (.Constant (.str k) Fi ju) O,do let c <- eval v O;lM h0;pure c)]) rfl (List.cons_ne_nil _ _) (show 1≤15 by decide) ?_;let un:=W.to {W.s with heap:=W.h.push {cls:=.type "dict",data:=.dict #[]}};have XP:kw d [] W un:=kw.refl.push _;refine evalPairs_cons (zB ?_);have gl:un.s.toks≤un.s.toks+1:=cu _;have Ok:kw d [] W (un.to {un.s with toks:=un.s.toks+1}):=XP.ao gl;have q2:=(bc.new (T:={cls:=.type "dict",data:=.dict #[]}) Z rfl).le (kw.refl.ao gl (sK:=[])) jr;refine g1 ((a2 _ _ _ h1).seq (W:=un.to {un.s with toks:=un.s.toks+1}) ((Z.push _).ao gl) (aj.f' Ok) ap λg2 u8 P3 dO Ix bI eI=>g1 (fF (s2 ?_)));obtain⟨ZB,cy,bL,eY,oA,pL⟩:=oy P3 eI (show d4 r u8.o=j (aR,f2)from bI.symm▸ex);have AU:=(q2.le Ix jr).le bL jr;have hd:u8.h.DictOf (aG d.prog d.w) W.h.objs.size []:=(Heap.DictOf.new (knd:=aG d.prog d.w) W.s.heap).at λT g=>q2.keep Ix jr (.head _) g;refine s2 ⟨[(k,g2)],⟨gI _ _ _ _,rfl,trivial⟩,hd,λeg xG e0=>?_⟩;obtain⟨bd,z,gt,sT⟩:=MJ xG (B:=ZB.B) (g3:=[aR]) (.one pL);rw[<- oA]at e0⊢;have m:Mv [W.h.objs.size] ZB.s {ZB.s with heap:=eg,toks:=ZB.s.toks+1}:=Mv.sD e0 (cu _);have u_:=AU _ (.head _);have fh:=((Ok.trans Ix).trans bL).av m (λe q=>.inr (mT (a9.mp q).symm));exact hm (.ref W.h.objs.size) _ ((AU.av cy m cy.bare).1.aq (e:=W.h.objs.size) gt u_.2.1 u_.2.2.2) (fh.aq (e:=W.h.objs.size) (T:=fJ bd.toArray z) (.inl u_.2.2.1) (Da _)) eY (.aq (.cF (MI ds Z) (nb.hD ..) (sT.mono (nb.g_ (W:=ZB.to _) (.inl u_.2.2.1)))))
theorem XQ(ds:d.ab){af:aN}(a2:a0 d A O H af){t3:p (Y bv)}{L:p bv}{l:R×p ca}(h:EZ af t3 L o=j l):bH d A O H (eval (.Dict t3 L h0) O) o l:=fq h (λh=>d1 h λh=>d1 h (XK ds)) λh=>d2 h λk h=>d2 h λv h=>Lg h λk h=>uB h λt Fi ju h=>Ac h λk h=>b8 h λr al h1 h=>b8 h λaR f2 ex h=>aQ h (XO ds a2 h1 ex)
end
structure ng(d:sw)(A:xs)(ai:cd)(lv:p kt)(Inv:p R->nb->Prop)(tup dj:ga):Prop where
 next:∀{a1 bP:cd->nl->Prop} {C:cd->nl->Prop} {u:bv} {W:nb} {r:R} {l:p R},(tup=V->qi u=V)->W.ab d->Inv (r::l) W->
  (∀v y,y.ab d->kw d lv W y->y.o=W.o->x0 d y.B v r->Inv l y->C v y.s)->
  f4 d.M A (hu ai) (λT s0=>∃v,T=j v/\f4 d.M A (qy u ai v) (λa aD=>C v aD) bP s0) a1 W.s
 done:∀{a1:cd->nl->Prop} {C:nl->Prop} {W:nb},W.ab d->Inv [] W->(∀y,y.ab d->kw d lv W y->y.o=W.o->C y.s)->f4 d.M A (hu ai) (λT it=>T=bn/\C it) a1 W.s
 fP:∀{W y:nb} {sK:p kt} {l:p R},W.ab d->y.ab d->Inv l W->kw d sK W y->(∀e∈lv,e∉sK)->(dj=V->y.o=W.o)->Inv l y
 ar:∀{W:nb} {l:p R},Inv l W->bc d lv W
 again:∀{a1:cd->nl->Prop} {C:cd->nl->Prop} {W:nb} {l:p R},Inv l W->C ai W.s->f4 d.M A (d9 ai) C a1 W.s
section
variable{d:sw}
def XR(d:sw)(e:kt)(n:p R)(dj:ga)(W:nb):Prop:=(∃L z,W.B e=j (SL L z)/\Is d W.B L.toList n)\/(dj=V/\∃i:E,W.ag[i]?=j (e,e)/\W.o[i]?=j (.list n))
inductive q3(d:sw)(ai e:kt)(n:p R)(dj:ga)(l:p R)(W:nb):Prop|mk (k:E) (cI:W.h.IsListIter ai e k) (ar:bc d [ai] W) (g:l=n.drop k) (sc:H1 n.length=V) (q:XR d e n dj W):q3 d ai e n dj l W
theorem q3.at{l:p R}(Z:W.ab d)(h:q3 d ai e n dj l W):∃L z,W.h.get? e=j (SL L z)/\Is d W.B L.toList n:=by
 obtain⟨k,_,_,_,_,⟨L,z,AT,f⟩|⟨_,i,bf,ap⟩⟩:=h;·exact⟨L,z,Z.bw _ _ AT,f⟩
 ·obtain⟨x,ln,q⟩:=Z.cells i _ ap;rw[bf]at ln;cases ln;obtain⟨_,L,z,gt,f⟩:=q;exact⟨L.toArray,z,gt,by simpa using f⟩
theorem q3.le{l:p R}{sK:p kt}(h:q3 d ai e n dj l W)(le:kw d sK W y)(Tk:∀e∈[ai],e∉sK)(fd:dj=V->y.o=W.o):q3 d ai e n dj l y:=by
 obtain⟨k,cI,ar,g,sc,q⟩:=h;refine⟨k,cI.at λT g=>ar.keep le Tk (.head _) g,ar.le le Tk,g,sc,?_⟩;rcases q with⟨L,z,AT,f⟩|⟨ae,i,bf,ap⟩;·exact .inl ⟨L,z,le.B _ _ AT,f.mono le.B⟩
 ·exact .inr ⟨ae,i,m7 le.ag bf,by rw[fd ae];exact ap⟩
theorem XS{A:xs}(lf:zs au A):ng d A (.ref ai) [ai] (q3 d ai e n dj) G dj where
 next:=by
  intro a1 bP C u W r l _ Z Ns hm
  obtain⟨L,m,gt,f⟩:=Ns.at Z
  obtain⟨k,cI,ar,g,sc,q⟩:=id Ns
  have hd:n[k]?=j r:=by
   have:=GT List.head? g
   simpa using this.symm
  have nw:l=n.drop (k+1):=by
   have:=GT zI g
   simpa using this
  obtain⟨v,FB,bZ⟩:=f.get hd
  refine fc (wpAny_pyNext_list_item cI ⟨_,gt,rfl,_,rfl⟩ (x:=v) (by simpa using FB) λeg j9 fd cT gQ=>⟨v,rfl,?_⟩)
  have av:Mv [ai] W.s {W.s with heap:=eg}:=Mv.same fd
  have xH:bc d [ai] (W.to {W.s with heap:=eg}):=ar.xF λe db=>by rw[a9.mp db];obtain⟨T,gt,_⟩:=j9;exact⟨T,gt⟩
  obtain⟨xz,aw⟩:=ar.av Z av Z.bare
  have bN:C v {W.s with heap:=eg}:=hm v (W.to {W.s with heap:=eg}) xz aw rfl bZ ⟨k+1,j9,xH,nw,sc,q⟩
  cases u with
  |Tuple bd t x=>
   cases v with
   |ref b=>exact afl j9 bN
   |_=>exact s2 bN
  |List bd x=>
   cases v with
   |ref b=>
    show f4 d.M A (qy (.Tuple bd 0 x) (.ref ai) (.ref b)) _ _ _
    exact afl j9 bN
   |_=>exact s2 bN
  |_=>exact s2 bN
 done:=by
  intro a1 C W Z Ns hm
  obtain⟨L,m,gt,f⟩:=Ns.at Z
  obtain⟨k,cI,ar,g,sc,q⟩:=id Ns
  have gl:n.length≤k:=by
   have:=GT pl g
   simp at this;left
  have FB:L[k]?=bn:=by
   rw[Array.getElem?_eq_none_iff,<- qz,f.length];exact gl
  refine fc (wpAny_pyNext_list_end lf.handled cI ⟨_,gt,rfl,_,rfl⟩ FB λeg fd cT gQ=>⟨rfl,?_⟩)
  have av:Mv [ai] W.s {W.s with heap:=eg,toks:=W.s.toks}:=u' cT fd (Da _)
  obtain⟨xz,aw⟩:=ar.av Z av Z.bare
  exact hm _ xz aw rfl
 fP:=λa a Ns le Tk fd=>Ns.le le Tk fd
 ar:=λ⟨_,_,T,_,_,_⟩=>T
 again:=by
  intro a1 C W l Ns h
  obtain⟨k,cI,_⟩:=Ns
  exact wpAny_pyIter_listiter cI h
inductive Fj(d:sw)(ai:kt)(c:X)(St:E->bl->Prop)(l:p R)(W:nb):Prop|mk (k:E) (gl:k≤c.cps.size) (aa:St k W.h) (ar:bc d [ai] W) (g:l=(gn c).drop k):Fj d ai c St l W
theorem XT{A:xs}(lf:zs au A){St:E->bl->Prop}(ia:∀hb:xs,hb.handled=bn->r8 d.prog d.w hb ai [ai] [ai] c.cps.size (SignAt c) St)(hex:∀k h,St k h->∃T,h.get? ai=j T):ng d A (.ref ai) [ai] (Fj d ai c St) G G where
 next:=by
  intro a1 bP C u W r l _ Z Ns hm
  obtain⟨k,gl,aa,ar,g⟩:=Ns
  have hd:(gn c)[k]?=j r:=by
   have:=GT List.head? g
   simpa using this.symm
  have nw:l=(gn c).drop (k+1):=by
   have:=GT zI g
   simpa using this
  have bU:k<c.cps.size:=by
   have:=(rY.mp hd).1
   simpa[gn]using this
  refine fc ((ia A lf.handled).item k W.s _ _ bU aa λv eg ao iD c7 dz cT gQ=>?_)
  obtain⟨t,g2,f0,rfl⟩:=iD
  refine⟨_,rfl,?_⟩
  have XU:r=.str ⟨#[t]⟩:=by
   have:(gn c)[k]?=j (.str ⟨#[t]⟩):=by
    unfold gn
    rw[hX,zJ,f0];rfl
   rw[this]at hd;cases hd;rfl
  subst XU
  have av:Mv [ai] W.s {W.s with heap:=eg,toks:=ao}:=u' cT (λb T cr g=>dz b T (by simpa using cr) g) gQ
  have xH:bc d [ai] (W.to {W.s with heap:=eg,toks:=ao}):=ar.xF λe db=>by rw[a9.mp db];exact hex _ _ c7
  obtain⟨xz,aw⟩:=ar.av Z av Z.bare
  have bN:=hm (.str ⟨#[t]⟩ g2) _ xz aw rfl (.str _ _) ⟨k+1,bU,c7,xH,nw⟩
  cases u<;>exact s2 bN
 done:=by
  intro a1 C W Z Ns hm
  obtain⟨k,gl,aa,ar,g⟩:=Ns
  have dz:k=c.cps.size:=by
   have:=GT pl g
   simp[gn]at this;left
  subst dz
  refine fc ((ia A lf.handled).done W.s _ _ aa λeg ao dz cT gQ=>⟨rfl,?_⟩)
  have av:Mv [ai] W.s {W.s with heap:=eg,toks:=ao}:=u' cT (λb T cr g=>dz b T (by simpa using cr) g) gQ
  obtain⟨xz,aw⟩:=ar.av Z av Z.bare
  exact hm _ xz aw rfl
 fP:=λa a Ns le Tk a=>by
  obtain⟨k,gl,aa,ar,g⟩:=Ns
  exact⟨k,gl,(ia {handled:=bn,depth:=0,frames:=bn,guards:=bn,units:=0} rfl).frame k _ _ aa (λb cr T gt=>ar.keep le Tk (by simpa using cr) gt),ar.le le Tk,g⟩
 ar:=λ⟨_,_,_,T,_⟩=>T
 again:=by
  intro a1 C W l Ns h
  obtain⟨k,gl,aa,_⟩:=Ns
  exact(ia _ lf.handled).self k _ _ _ aa h
inductive Fk(d:sw)(ai:kt)(l:p R)(W:nb):Prop|mk (c left:m0) (cI:IsRangeIter W.h ai c left 1) (ar:bc d [ai] W) (g:l=lb c (c+left)):Fk d ai l W
theorem Fl{e b:m0}(h:b≤e):lb e b=[]:=by unfold lb;rw[show(b - e).toNat=0 by left];rfl
theorem MK{e b:m0}(h:e<b):lb e b=.int e::lb (e+1) b:=by
 unfold lb;obtain⟨z,pi⟩:∃z:E,(b - e).toNat=z+1:=⟨(b - e).toNat - 1,by left⟩;rw[pi,show(b - (e+1)).toNat=z by left,pm,cs,dG];congr 1;·simp
 ·apply pn;intro i _;simp only[Function.comp,R.int.injEq];left
theorem XW{A:xs}(lf:zs au A):ng d A (.ref ai) [ai] (Fk d ai) G G where
 next:=by
  intro a1 bP C u W r l _ Z Ns hm
  obtain⟨c,left,cI,ar,g⟩:=Ns
  have bU:0<left:=by
   rcases afm 0 left with h|h
   ·exact h
   ·rw[Fl (by left)]at g;cases g
  rw[MK (by left)]at g
  injection g with SZ bu
  subst SZ
  refine wpAny_pyNext_range_item cI bU λeg j9 fd=>⟨_,rfl,?_⟩
  have av:Mv [ai] W.s {W.s with heap:=eg,toks:=W.s.toks+1}:=Mv.sD fd (cu _)
  have xH:bc d [ai] (W.to {W.s with heap:=eg,toks:=W.s.toks+1}):=ar.xF λe db=>by rw[a9.mp db];exact⟨_,j9⟩
  obtain⟨xz,aw⟩:=ar.av Z av Z.bare
  have bN:=hm (.int c W.s.toks) _ xz aw rfl (.int _ _) ⟨c+1,left - 1,j9,xH,by rw[bu];congr 1;left⟩
  cases u<;>exact s2 bN
 done:=by
  intro a1 C W Z Ns hm
  obtain⟨c,left,cI,ar,g⟩:=Ns
  have bU:left≤0:=by
   rcases afm 0 left with h|h
   ·rw[MK (by left)]at g;cases g
   ·exact h
  refine fc (wpAny_pyNext_range_end lf.handled cI bU λeg fd cT gQ=>⟨rfl,?_⟩)
  have av:Mv [ai] W.s {W.s with heap:=eg,toks:=W.s.toks}:=u' cT fd (Da _)
  obtain⟨xz,aw⟩:=ar.av Z av Z.bare
  exact hm _ xz aw rfl
 fP:=λa a Ns le Tk a=>by
  obtain⟨c,left,cI,ar,g⟩:=Ns
  exact⟨c,left,ar.keep le Tk (.head _) cI,ar.le le Tk,g⟩
 ar:=λ⟨_,_,_,T,_⟩=>T
 again:=by
  intro a1 C W l Ns h
  obtain⟨c,left,cI,ar,g⟩:=Ns
  exact wpAny_pyIter_rangeiter cI h
end
theorem ML:∀{x q:p R} {k:E} {r:R},(ku x q)[k]?=j r->∃e b,x[k]?=j e/\q[k]?=j b/\r=.tup [e,b]
 |[],_,_,_,h=>nomatch (show bn=j _ from h)
 |_::_,[],_,_,h=>nomatch (show bn=j _ from h)
 |e::_,b::_,0,_,h=>⟨e,b,rfl,rfl,(aO h).symm⟩
 |_::x,_::q,k+1,r,h=>ML (x:=x) (q:=q) (k:=k) (r:=r) h
theorem MM:∀{x q:p R} {k:E},(ku x q)[k]?=bn->x[k]?=bn\/q[k]?=bn
 |[],_,_,_=>.inl rfl
 |_::_,[],_,_=>.inr rfl
 |_::_,_::_,0,h=>nomatch (show j _=bn from h)
 |_::x,_::q,k+1,h=>MM (x:=x) (q:=q) (k:=k) h
section
variable{d:sw}
inductive Fm(d:sw)(U TI oB jD jE bY eT:kt)(x q:p R)(l:p R)(W:nb):Prop|mk (k:E) (e b:cd) (L b7:p cd) (z m:E):IsZip W.h U TI oB .none->IsPair W.h TI (.ref jD) (.ref jE)->IsPair W.h oB e b->W.h.IsListIter jD bY k->W.h.IsListIter jE eT k->bc d [U,TI,oB,jD,jE] W->l=(ku x q).drop k->W.B bY=j (SL L.toArray z)->Is d W.B L x->W.B eT=j (SL b7.toArray m)->Is d W.B b7 q->Fm d U TI oB jD jE bY eT x q l W
@[elab_as_elim] theorem pF{P:bv->Prop}(h:qi u=V)(a2:∀bd t x,P (.Tuple bd t x)):P u:=Aa h (λbd t x a=>a2 bd t x) dN
theorem bc.MN(ar:bc d lv W)(pc:y.aH=W.aH)(AT:y.B=W.B)(h:W.h.objs.size≤y.h.objs.size):bc d lv (y.aq W.h.objs.size T):=λt f0=>⟨hs (ar t f0).1 h,pc▸(ar t f0).2.1,(ss (ep (ar t f0).1)).trans (AT▸(ar t f0).2.2.1),(ar t f0).2.2.2⟩
theorem pM{e b t r g c:t0}(h:c∉[e,b,t,r,g]):c≠e/\c≠t/\c≠r/\c≠g:=⟨λq=>h (q▸.head _),λq=>h (q▸.tail _ (.tail _ (.head _))),λq=>h (q▸.tail _ (.tail _ (.tail _ (.head _)))),λq=>h (q▸.tail _ (.tail _ (.tail _ (.tail _ (.head _)))))⟩
theorem XX{A:xs}(lf:zs au A){U TI oB jD jE bY eT:kt}{x q:p R}(R:ZipApart U TI oB jD jE bY eT):ng d A (.ref U) [U,TI,oB,jD,jE] (Fm d U TI oB jD jE bY eT x q) V G where
 next:=by
  intro a1 bP C u W r l ty Z Ns hm
  obtain⟨k,e,b,L,b7,z,m,sc,oC,pN,h1,ex,ar,g,lh,ir,pO,iu⟩:=Ns
  have hd:(ku x q)[k]?=j r:=by
   rw[<- afn,<- g];rfl
  have nw:l=(ku x q).drop (k+1):=by
   rw[<- List.tail_drop,<- g];rfl
  obtain⟨ag9,aix,db,cr,rfl⟩:=ML hd
  obtain⟨c,f8,eZ⟩:=ir.get db
  obtain⟨I,KM,XY⟩:=iu.get cr
  refine wpAny_pyNext_zip_item R sc oC pN h1 ex ⟨_,Z.bw _ _ lh,rfl,_,rfl⟩ ⟨_,Z.bw _ _ pO,rfl,_,rfl⟩ (by simpa using f8) (by simpa using KM) λeg i5 XZ xI X0 bM fd gl=>⟨_,rfl,?_⟩
  have q4:=ty rfl
  refine pF q4 λbd t h0=>?_
  refine wpAny_letOwnedTupleGo_zip i5 λgR X1 gO=>?_
  have ff:=Z.fresh (Da W.h.objs.size)
  have X2:U<W.h.objs.size:=b1 sc
  have oD:∀t T,t≠U->eg.get? t=j T->gR.get? t=j T:=λt T f0 g=>(gO.2 t f0).trans g
  have X3:IsPair eg TI (.ref jD) (.ref jE):=gl TI _ R.TIz R.TITO R.TIi1 R.TIi2 oC
  have av:Mv [U,TI,oB,jD,jE] W.s {W.s with heap:=gR}:=by
   exact⟨by show W.h.objs.size≤gR.objs.size;rw[gO.1,fd];exact cu _,λt T g f0=>oD t T (pM f0).1 (gl t T (pM f0).1 (pM f0).2.1 (pM f0).2.2.1 (pM f0).2.2.2 g),λa a g=>g,rfl,Da _⟩
  obtain⟨xz,aw⟩:=ar.av Z av Z.bare
  have Fn:gR.get? W.h.objs.size=j (d3 [c,I].toArray 0):=oD _ _ (r7 X2) bM
  have P3:=xz.aq (e:=W.h.objs.size) Fn ff.2.1 ff.2.2
  have Ix:=aw.aq (e:=W.h.objs.size) (T:=d3 [c,I].toArray 0) (.inl ff.1) (Da _)
  have X4:gR.IsListIter jD bY (k+1):=xI.at λT g=>oD _ _ R.i1z g
  have X5:gR.IsListIter jE eT (k+1):=X0.at λT g=>oD _ _ R.i2z g
  have sU:=ar.MN (y:=W.to {W.s with heap:=gR}) (T:=d3 [c,I].toArray 0) rfl rfl Ix.size
  exact hm _ _ P3 Ix rfl (.tup (nb.hD ..) (.two (Ix.bZ eZ) (Ix.bZ XY))) ⟨k+1,c,I,L,b7,z,m,X1,oD _ _ R.TIz X3,oD _ _ R.TOz XZ,X4,X5,sU,nw,Ix.B _ _ lh,Ix.oo ir,Ix.B _ _ pO,Ix.oo iu⟩
 done:=by
  intro a1 C W Z Ns hm
  obtain⟨k,e,b,L,b7,z,m,sc,oC,pN,h1,ex,ar,g,lh,ir,pO,iu⟩:=Ns
  have pi:(ku x q)[k]?=bn:=by
   rw[<- afn,<- g];rfl
  have xJ:L.toArray[k]?=bn\/b7.toArray[k]?=bn:=by
   rcases MM pi with h|h
   ·exact .inl (by rw[t9,zC,ir.length];exact zC.mp h)
   ·exact .inr (by rw[t9,zC,iu.length];exact zC.mp h)
  refine fc (wpAny_pyNext_zip_end lf.handled R sc oC pN h1 ex ⟨_,Z.bw _ _ lh,rfl,_,rfl⟩ ⟨_,Z.bw _ _ pO,rfl,_,rfl⟩ xJ λeg gl cT gQ=>⟨rfl,?_⟩)
  have av:Mv [U,TI,oB,jD,jE] W.s {W.s with heap:=eg}:=by
   exact⟨cT,λt T g f0=>gl t T (pM f0).1 (pM f0).2.1 (pM f0).2.2.1 (pM f0).2.2.2 g,λa a g=>g,rfl,Da _⟩
  obtain⟨xz,aw⟩:=ar.av Z av Z.bare
  exact hm _ xz aw rfl
 fP:=λa a Ns le Tk a=>by
  obtain⟨k,e,b,L,b7,z,m,sc,oC,pN,h1,ex,ar,g,lh,ir,pO,iu⟩:=Ns
  exact⟨k,e,b,L,b7,z,m,ar.keep le Tk (.head _) sc,ar.keep le Tk (.tail _ (.head _)) oC,ar.keep le Tk (.tail _ (.tail _ (.head _))) pN,h1.at λT g=>ar.keep le Tk (.tail _ (.tail _ (.tail _ (.head _)))) g,ex.at λT g=>ar.keep le Tk (.tail _ (.tail _ (.tail _ (.tail _ (.head _))))) g,ar.le le Tk,g,le.B _ _ lh,le.oo ir,le.B _ _ pO,le.oo iu⟩
 ar:=λNs=>by obtain⟨k,e,b,L,b7,z,m,sc,oC,pN,h1,ex,ar,_⟩:=Ns;exact ar
 again:=by
  intro a1 C W l Ns h
  obtain⟨k,e,b,L,b7,z,m,sc,_⟩:=Ns
  exact afo sc h
end
structure MO(d:sw)(au:E)(v:cd)(xL:R->Y (p R)):Prop where
 keep:jm d.K v=V
 aq:∀r n,xL r=j n->d_ r=V
 call:∀{A:xs},zs au A->∀{a1 bP:cd->nl->Prop} {C:cd->nl->Prop} {W:nb} {g2:cd} {r:R} {n:p R},W.ab d->x0 d W.B g2 r->xL r=j n->
  (∀ai lv Inv y,y.ab d->kw d [] W y->y.o=W.o->ng d A ai lv Inv G G->Inv n y->(∀e∈lv,W.h.objs.size≤e)->C ai y.s)->f4 d.M A (call v [g2]) (λc s0=>f4 d.M A (d9 c) C bP s0) a1 W.s
def nh(d:sw)(A:xs)(W:nb)(n:p R)(tup dj:ga)(o:p ca)(C:cd->nl->Prop):Prop:=∀ai lv Inv y,y.ab d->kw d [] W y->y.o=o->ng d A ai lv Inv tup dj->Inv n y->(∀e∈lv,W.h.objs.size≤e)->C ai y.s
section
variable(d:sw)(A:xs)(O:IN)(H:hf)
def ib(g:bv)(o:p ca)(l:p R×E×p ca):Prop:=(∀c,pq g O c=pure c)/\∀(a1 bP:cd->nl->Prop) (C:cd->nl->Prop) (W:nb),W.ab d->Tl d O H W->W.o=o->nh d A W l.1 (l.2.1==2) (l.2.1==1) l.2.2 C->f4 d.M A (eval g O) (λc s0=>f4 d.M A (d9 c) C bP s0) a1 W.s
end
section
variable{d:sw}{J:Sc}{A:xs}{O:IN}{H:hf}{tup:ga}
theorem nh.le(h:nh d A W n tup dj o C)(le:kw d [] W y)(g:y.o=o):nh d A y n tup dj y.o C:=λai lv Inv uN Z aw ap np Ns bg=>h ai lv Inv uN Z (le.trans aw) (ap.trans g) np Ns λe h=>aJ le.size (bg e h)
theorem AV{F:p ca->Prop}{l:p R×E×p ca}(aC:∀c,pq g O c=pure c)(az:F o)(h:∀a1 bP C W,F W.o->bO d O H W W->(∀n cb y,bO d O H W y->j (n,cb,y.o)=j l->nh d A y n (cb==2) (cb==1) y.o C)->f4 d.M A (eval g O) (λc s0=>f4 d.M A (d9 c) C bP s0) a1 W.s):ib d A O H g o l:=⟨aC,λa1 bP C W Z aj ap hm=>h a1 bP C W (ap.symm▸az) ⟨Z,aj,kw.refl⟩ λn cb y ds g=>by cases g;exact hm.le ds.le rfl⟩
theorem X6{e b:m0}:lb e b=lb e (e+zK e b 1):=by
 unfold zK;rw[tt (by decide)];by_cases h:e<b;·rw[tt h];congr 1;left
 ·rw[ss h,Fl (by left),Fl (by left)]
theorem X7{e b:m0}(db:fu e=V)(cr:fu b=V):afp e b 1=V:=by
 have db:=qP db;have cr:=qP cr;have cO:0≤zK e b 1/\zK e b 1≤2000000000:=by unfold zK;rw[tt (by decide)];split<;>left
 unfold afp aiL;simp only[iT,ps,decide_eq_true_eq,bt];refine⟨⟨⟨⟨?_,?_⟩,?_⟩,?_⟩,.inr ?_⟩;·left
 ·left
 ·left
 ·left
 ·rw[tt (by decide)];simp only[iT,decide_eq_true_eq];left
theorem JI{z:E}:∀e∈[z],z≤e:=λe h=>by rw[a9.mp h];exact Da _
theorem X8(lf:zs au A){l:kt}{e b:m0}{u g2 v:be}(Z:W.ab d)(nw:IsRange W.h l e b 1 u g2 v)(db:fu e=V)(cr:fu b=V)(hm:nh d A W (lb e b) G G W.o C):f4 d.M A (d9 (.ref l)) C a1 W.s:=wpAny_pyIter_range nw (X7 db cr) (hm _ [W.h.objs.size] (Fk d W.h.objs.size) (W.to {W.s with heap:=W.h.push _}) (Z.push _) (kw.refl.push _) rfl (XW lf) ⟨e,zK e b 1,dK _ rfl,bc.new Z rfl,X6⟩ JI)
theorem AW(lf:zs au A)(Z:W.ab d)(sc:H1 n.length=V)(h:(∃L z,W.B e=j (SL L z)/\Is d W.B L.toList n)\/(dj=V/\∃i:E,W.ag[i]?=j (e,e)/\W.o[i]?=j (.list n)))(hm:nh d A W n G dj W.o C):f4 d.M A (d9 (.ref e)) C a1 W.s:=
 have ae:∃L z,W.h.get? e=j (SL L z):=h.elim (λ⟨L,z,AT,_⟩=>⟨L,z,Z.bw _ _ AT⟩) λ⟨_,i,bf,ap⟩=>(u5 Z bf ap).2.elim λL q=>q.elim λz q=>⟨L.toArray,z,q.1⟩
 ae.elim λL q=>q.elim λz gt=>Tr ⟨_,gt,rfl,_,rfl⟩ (hm _ [W.h.objs.size] (q3 d W.h.objs.size e n dj) (W.to {W.s with heap:=W.h.push _}) (Z.push _) (kw.refl.push _) rfl (XS lf) ⟨0,⟨_,dK _ rfl,rfl,rfl⟩,bc.new Z rfl,rfl,sc,h⟩ JI)
theorem X9(lf:zs au A){u:be}(Z:W.ab d)(hm:nh d A W (gn c) G G W.o C):f4 d.M A (d9 (.str c u)) C a1 W.s:=by
 have bN:∀(a7:wK) (T:cE),T.isFreed=G->(∀hb:xs,hb.handled=bn->r8 d.prog d.w hb W.h.objs.size [W.h.objs.size] [W.h.objs.size] c.cps.size (SignAt c) (λi h=>h.IsStrIter W.h.objs.size a7 c u i))->(W.h.push T).IsStrIter W.h.objs.size a7 c u 0->C (.ref W.h.objs.size) {W.s with heap:=W.h.push T}:=λa7 T gt ia az=>hm _ [W.h.objs.size] (Fj d W.h.objs.size c (λi h=>h.IsStrIter W.h.objs.size a7 c u i)) (W.to {W.s with heap:=W.h.push T}) (Z.push _) (kw.refl.push _) rfl (XT lf ia (λk h aa=>by obtain⟨T,gt,_⟩:=aa;exact⟨T,gt⟩)) ⟨0,e6 _,az,bc.new Z gt,rfl⟩ JI;cases db:c.cps.all (·<128);·exact wpAny_pyIter_wide db (bN _ _ rfl (λhb bT=>Walks.strWide bT _ c u) ⟨_,dK _ rfl,rfl,rfl⟩)
 ·exact wpAny_pyIter_ascii db (bN _ _ rfl (λhb bT=>Walks.strAscii bT _ c u) ⟨_,dK _ rfl,rfl,rfl⟩)
theorem bc.X'(Z:W.ab d)(z:E)(h:∀k<z,∃T,eg.get? (W.h.objs.size+k)=j T)(bg:∀e∈lv,∃k<z,e=W.h.objs.size+k):bc d lv (W.to {W.s with heap:=eg}):=λe db=>by obtain⟨k,gl,rfl⟩:=bg e db;have f:=Z.fresh (e7 W.h.objs.size k);exact⟨(h k gl).elim λT gt=>b1 gt,f.2.1,f.1,f.2.2⟩
theorem xK{P:E->Prop}{z:E}(h:∀k<z,P k)(pi:P z):∀k<z+1,P k:=λk gl=>(Nat.lt_or_eq_of_le (afq gl)).elim (h k) λg=>g▸pi
theorem X_(lf:zs au A){e b:cd}{x q:p R}(Z:W.ab d)(db:x0 d W.B e (.ah x))(cr:x0 d W.B b (.ah q))(hm:nh d A W (ku x q) V G W.o C):f4 d.M A (call (.type "zip") [e,b]) (λc s0=>f4 d.M A (d9 c) C bP s0) a1 W.s:=by
 obtain⟨e,L,z,rfl,xM,ir⟩:=db.i;obtain⟨b,b7,m,rfl,MP,iu⟩:=cr.i;have va:=Z.bw _ _ xM;have oE:=Z.bw _ _ MP;refine call_zip_2 ⟨_,va,rfl,_,rfl⟩ ⟨_,oE,rfl,_,rfl⟩ λeg sc oC pN h1 ex fd gl=>afo sc ?_;have bY:@jn E _ e W.h.objs.size:=b1 va;have eT:@jn E _ b W.h.objs.size:=b1 oE;have ne:∀i ev:E,i≠ev->(W.h.objs.size+i:E)≠W.h.objs.size+ev:=λi ev h g=>h (Nat.add_left_cancel g);have CV:∀(i:E) {t:kt},@jn E _ t W.h.objs.size->(W.h.objs.size+i:E)≠t:=λi t h g=>lQ _ (hs (g▸h) (e7 _ _));have Ya:ZipApart (W.h.objs.size+4) (W.h.objs.size+2) (W.h.objs.size+3) W.h.objs.size (W.h.objs.size+1) e b:=by constructor<;>first|exact ne _ _ (by decide)|exact ne 0 _ (by decide)|exact ne _ 0 (by decide)|exact CV _ (by assumption)|exact CV 0 (by assumption)|exact(CV _ (by assumption)).symm|exact(CV 0 (by assumption)).symm
 have av:Mv [] W.s {W.s with heap:=eg,toks:=W.s.toks}:=Mv.fr (by rw[fd];exact e7 _ _) gl (Da _);have bg:∀t∈[W.h.objs.size+4,W.h.objs.size+2,W.h.objs.size+3,W.h.objs.size,W.h.objs.size+1],∃k<5,t=W.h.objs.size+k:=mU.mpr ⟨⟨4,by decide,rfl⟩,mU.mpr ⟨⟨2,by decide,rfl⟩,mU.mpr ⟨⟨3,by decide,rfl⟩,mU.mpr ⟨⟨0,by decide,rfl⟩,uf.mpr ⟨1,by decide,rfl⟩⟩⟩⟩⟩;exact hm _ _ (Fm d (W.h.objs.size+4) (W.h.objs.size+2) (W.h.objs.size+3) W.h.objs.size (W.h.objs.size+1) e b x q) (W.to {W.s with heap:=eg,toks:=W.s.toks}) (Z.av av (cR) Z.bare) (kw.refl.av av cR) rfl (XX lf Ya) ⟨0,_,_,L,b7,z,m,sc,oC,pN,h1,ex,bc.X' Z 5 (xK (xK (xK (xK (xK (λa h=>aB h (J9 _)) (h1.elim λT q=>⟨T,q.1⟩)) (ex.elim λT q=>⟨T,q.1⟩)) ⟨_,oC⟩) ⟨_,pN⟩) ⟨_,sc⟩) bg,rfl,xM,ir,MP,iu⟩ λt f0=>(bg t f0).elim λk q=>q.2▸e7 _ _
theorem Yb(lf:zs au A){af:aN}(a2:a0 d A O H af){l:p R×E×p ca}(aC:∀c,pq g O c=pure c)(h:s4 (af g o) xr=j l):ib d A O H g o l:=AV (F:=λo=>s4 (af g o) xr=j l) aC h λa1 bP C W h ds K=>a2.go h ds λv r nn aU a Pi h=>uJ (P:=λr=>wp d nn.B nn.ag v r->f4 d.M A (d9 v) C bP nn.s) h (λi h Pi=>sz h λn ae h=>Gt h λsc h=>(Fe aU.ok Pi ae).elim λe q=>q.elim λL q=>q.elim λz q=>q.1▸AW lf (dj:=V) aU.ok sc (.inr ⟨rfl,i,q.2.1,ae⟩) (K _ _ nn aU h))
  (λh=>sy (P:=λr=>wp d nn.B nn.ag v r->f4 d.M A (d9 v) C bP nn.s) h (λn h Pi=>Gt h λsc h=>Pi.i.i.elim λe q=>q.elim λL q=>q.elim λz q=>q.1▸AW lf (dj:=G) aU.ok sc (.inl ⟨_,_,q.2.1,q.2.2⟩) (K _ _ nn aU h))
   λh=>lX (P:=λr=>wp d nn.B nn.ag v r->f4 d.M A (d9 v) C bP nn.s) h λc h Pi=>Gt h λa h=>Pi.i.i.elim λu q=>q▸X9 lf aU.ok (K _ _ nn aU h)) Pi
theorem MQ(lf:zs au A){e b:m0}{u g2 v:be}{ao:E}(ds:bO d O H un W)(ty:W.s.toks≤ao)(gt:T={cls:=.type "range",data:=.fields #[.int e u,.int b g2,.int 1 v]})(db:fu e=V)(cr:fu b=V)(K:∀y,bO d O H un y->y.o=W.o->nh d A y (lb e b) G G y.o C):f4 d.M A (d9 (.ref W.h.objs.size)) C a1 {W.s with heap:=W.h.push T,toks:=ao}:=gt▸
 have bh:=(ds.step (ds.ok.push {cls:=.type "range",data:=.fields #[.int e u,.int b g2,.int 1 v]}) (kw.refl.push _)).step (nb.ab.ao (ds.ok.push _) (u:=ao) ty) (kw.refl.ao ty)
 X8 lf (W:=(W.to {W.s with heap:=W.h.push {cls:=.type "range",data:=.fields #[.int e u,.int b g2,.int 1 v]}}).to {W.s with heap:=W.h.push {cls:=.type "range",data:=.fields #[.int e u,.int b g2,.int 1 v]},toks:=ao}) bh.ok (dK _ rfl) db cr (K _ bh rfl)
theorem MR{af:aN}(ds:d.ab)(Ps:CxOk d J){f:X}(wn:J.fn f=bn){a7:wK}(cr:mM f=j (.type a7))(bM:k3 a7=.type "range"\/k3 a7=.type "zip")(h_:(f==("__debug__":X))=G)(u7:f≠"__name__")(a2:a0 d A O H af){l:p R×E×p ca}(Os:df O.scope f=V){k:p R->p ca->Y (p R×E×p ca)}(h:s4 (c3 af TE o) k=j l)(gl:∀a1 bP C un W L g3,bO d O H un W->cn d W.B W.ag L g3->k g3 W.o=j l->(∀n cb y,bO d O H un y->j (n,cb,y.o)=j l->nh d A y n (cb==2) (cb==1) y.o C)->f4 d.M A (call (.type a7) L) (λc s0=>f4 d.M A (d9 c) C bP s0) a1 W.s):ib d A O H (.Call (.Name f x) TE [] h0) o l:=AV (F:=λo=>s4 (c3 af TE o) k=j l) (λa=>rfl) h λa1 bP C W h bi K=>by rw[l'];exact g1 (qV (ds:=ds) bi.ok bi.aj h_ Os (Ps.blt _ _ wn cr (.inr (.inr (.inr (.inr bM))))) cr u7 (a2.with h bi λL g3 nn aU a No h=>⟨q0 _,gl a1 bP C W nn L g3 aU No h K⟩))
theorem Yc(lf:zs au A){af:aN}(ds:d.ab)(Ps:CxOk d J)(wn:J.fn "range"=bn)(a2:a0 d A O H af){l:p R×E×p ca}(Os:df O.scope "range"=V)(h:(s4 (c3 af TE o) λg3 o=>(Mb g3).map λn=>(n,0,o))=j l):ib d A O H (.Call (.Name "range" x) TE [] h0) o l:=MR ds Ps wn boot_range (.inl rfl) (by decide) (by decide) a2 Os h λa1 bP C un W L g3 ds No h K=>gK h λn ae g=>fq ae
  (λh=>d2 (P:=λg3=>cn d W.B W.ag L g3->f4 d.M A (call (.type "range") L) (λc s0=>f4 d.M A (d9 c) C bP s0) a1 W.s) h (λr h No=>No.jC (P:=λL=>f4 d.M A (call (.type "range") L) (λc s0=>f4 d.M A (d9 c) C bP s0) a1 W.s) λv ay=>u6 h λb cr h=>Gt h λsc h=>(show∃u,v=.int b u from(cr▸ay).i.i).elim λu q=>q▸
   call_range_1 (MQ lf ds (e7 _ 2) rfl (by decide) sc λy bi ap=>K _ 0 y bi (ap.symm▸aO h▸g))) No)
  λh=>pA (P:=λg3=>cn d W.B W.ag L g3->f4 d.M A (call (.type "range") L) (λc s0=>f4 d.M A (d9 c) C bP s0) a1 W.s) h (λr aR h No=>No.My (P:=λL=>f4 d.M A (call (.type "range") L) (λc s0=>f4 d.M A (d9 c) C bP s0) a1 W.s) λv g2 ay ma=>u6 h λe db h=>u6 h λb cr h=>og h λsc i5 h=>(show∃u,v=.int e u from(db▸ay).i.i).elim λu q=>(show∃u,g2=.int b u from(cr▸ma).i.i).elim λeP es=>q▸es▸call_range_2 (MQ lf ds (cu _) rfl sc i5 λy bi ap=>K _ 0 y bi (ap.symm▸aO h▸g))) No
theorem Yd(lf:zs au A){af:aN}(ds:d.ab)(Ps:CxOk d J)(wn:J.fn "zip"=bn)(a2:a0 d A O H af){wq:wS}{l:p R×E×p ca}(Os:df O.scope "zip"=V)(h:s4 (c3 af TE o) Mc=j l):ib d A O H (.Call (.Name "zip" wq) TE [] h0) o l:=MR ds Ps wn boot_zip (.inr rfl) (by decide) (by decide) a2 Os h λa1 bP C un W L g3 ds No h K=>ds.Mn No h λbQ u8 bh a fd f h=>fd▸pA (P:=λbQ=>Is d u8.B L bQ->f4 d.M A (call (.type "zip") L) (λc s0=>f4 d.M A (d9 c) C bP s0) a1 u8.s) h (λe b h f=>by obtain⟨v,b7,rfl,mc,f⟩:=f.i;obtain⟨g2,b7,rfl,Fo,f⟩:=f.i;rw[show b7=[]from f.i];exact qN (P:=λe=>x0 d u8.B v e->f4 d.M A (call (.type "zip") [v,g2]) (λc s0=>f4 d.M A (d9 c) C bP s0) a1 u8.s) h (λn h mc=>qN (P:=λb=>x0 d u8.B g2 b->f4 d.M A (call (.type "zip") [v,g2]) (λc s0=>f4 d.M A (d9 c) C bP s0) a1 u8.s) h (λk h Fo=>Gt h λa h=>X_ lf bh.ok mc Fo (K _ 2 u8 bh h)) Fo) mc) f
theorem Ye{af:aN}(ds:d.ab){xL:R->Y (p R)}(F:MO d au v xL)(lf:zs au A)(a2:a0 d A O H af){f:X}{wq:wS}{l:p R×E×p ca}(Os:df O.scope f=V)(pc:d.mg f=j v)(h_:(f==("__debug__":X))=G)(h:(s4 (c3 af TE o) λg3 o=>bY g3 λr=>(xL r).map λn=>(n,0,o))=j l):ib d A O H (.Call (.Name f wq) TE [] h0) o l:=AV (F:=λo=>(s4 (c3 af TE o) λg3 o=>bY g3 λr=>(xL r).map λn=>(n,0,o))=j l) (λa=>rfl) h λa1 bP C W h bi K=>by rw[l'];exact g1 (sL (ds:=ds) bi.ok bi.aj h_ Os pc (a2.with h bi λL g3 nn aU a No h=>⟨sO ds aU.ok F.keep,d2 (P:=λg3=>cn d nn.B nn.ag L g3->f4 d.M A (call v L) (λc s0=>f4 d.M A (d9 c) C bP s0) a1 nn.s) h (λr h No=>No.jC (P:=λL=>f4 d.M A (call v L) (λc s0=>f4 d.M A (d9 c) C bP s0) a1 nn.s) λg2 ma=>gK h λn ae g=>F.call lf aU.ok (x0.xv ma (F.aq _ _ ae)) ae (K n 0 nn aU g)) No⟩))
end
section
variable{d:sw}{J:Sc}{A:xs}{O:IN}{H:hf}
theorem xN(h:bV O.scope c=V):O.kindOf c=j .local\/O.kindOf c=j .cell:=by unfold bV at h;rw[ps]at h;exact h.elim (λh=>.inl (bt.mp h)) λh=>.inr (bt.mp h)
theorem xO(f8:bV O.scope c=V)(Z:W.ab d)(aj:Tl d O H W)(l:wp d W.B W.ag v r){C:g7->nl->Prop}(hm:∀y,y.ab d->Tl d O (Pv H c r) y->kw d (T0 O) W y->(∀sK,xc O c sK->kw d sK W y)->y.o=W.o->C () y.s):f4 d.M A (zA O c v) C a1 W.s:=Tl.store Z aj (xN f8) (λh=>aj.full c (.inl h)) l λy xz hc lF ap bf AT kz ty a a pc=>hm y xz hc (lF W (T0 O) kw.refl λe h=>.inl h) (λsK k=>by
  have g:y=W.to y.s:=by cases y;cases W;simp only at ap bf AT kz ty;subst ap bf AT kz ty;rfl
  rw[g];exact kw.refl.av (pc sK k) λe h=>.inl h) ap
theorem Fp(f8:bV O.scope c=V)(Z:W.ab d)(aj:Tl d O H W)(l:wp d W.B W.ag v r){C:g7->nl->Prop}(hm:∀y,y.ab d->Tl d O (Pv H c r) y->kw d (T0 O) W y->(∀sK,xc O c sK->kw d sK W y)->y.o=W.o->C () y.s):f4 d.M A (iU (.Name c x) O v) C a1 W.s:=zL (xO f8 Z aj l hm)
theorem Yf{bs:KT}:∀{g3:p R} {H o0:hf},bindAll bs Rs g3 H=j o0->Rs.length=g3.length/\(r9 Rs O).length=Rs.length/\(r9 Rs O).findIdx? (·.1)=bn/\(r9 Rs O).map (·.2)=Rs.map λu=>iU u O:=Rs.rec (motive:=λRs=>∀{g3:p R} {H o0:hf},bindAll bs Rs g3 H=j o0->Rs.length=g3.length/\(r9 Rs O).length=Rs.length/\(r9 Rs O).findIdx? (·.1)=bn/\(r9 Rs O).map (·.2)=Rs.map λu=>iU u O) (λh=>d1 h λa=>⟨rfl,rfl,rfl,rfl⟩) λu Rs ih {g3 H o0} h=>c5 (ET.symm.trans h) λc x h=>qK h λr g3 h=>Gt h λa h=>(ih h).elim λh1 h=>⟨GT zy h1,GT zy h.1,by rw[show r9 (.Name c x::Rs) O=(G,iU (.Name c x) O)::r9 Rs O from rfl,afr,h.2.1];rfl,GT (List.cons _) h.2.2⟩
def vb(d:sw)(O:IN)(H:hf)(W:nb)(S:p X)(C:g7->nl->Prop):Prop:=∀y,y.ab d->Tl d O H y->kw d (T0 O) W y->(∀sK,(∀c∈S,xc O c sK)->kw d sK W y)->y.o=W.o->C () y.s
theorem Yg:∀{g3:p R} {H o0:hf} {L:p cd} {W:nb},bindAll O.scope Rs g3 H=j o0->W.ab d->Tl d O H W->Is d W.B L g3->∀{C:g7->nl->Prop},vb d O o0 W (sH Rs) C->f4 d.M A (ug (Rs.map λu=>iU u O) L) C a1 W.s:=Rs.rec (motive:=λRs=>∀{g3:p R} {H o0:hf} {L:p cd} {W:nb},bindAll O.scope Rs g3 H=j o0->W.ab d->Tl d O H W->Is d W.B L g3->∀{C:g7->nl->Prop},vb d O o0 W (sH Rs) C->f4 d.M A (ug (Rs.map λu=>iU u O) L) C a1 W.s)
  (λ{g3 H o0 L W} h Z aj l C hm=>d1 (P:=λg3=>Is d W.B L g3->f4 d.M A (ug [] L) C a1 W.s) h (λh l=>by
   rw[show L=[]from l.i]
   exact s2 (hm W Z (aO h▸aj) kw.refl (λa a=>kw.refl) rfl)) l)
  λu Rs ih {g3 H o0 L W} h Z aj l C hm=>c5 (P:=λu=>vb d O o0 W (sH (u::Rs)) C->f4 d.M A (ug ((u::Rs).map λu=>iU u O) L) C a1 W.s) (ET.symm.trans h) (λc x h hm=>qK (P:=λg3=>Is d W.B L g3->_) h (λr g3 h l=>Gt h λf8 h=>by obtain⟨v,b7,rfl,l,No⟩:=l.i;show f4 d.M A (do pk b7 (iU (.Name c x) O v);ug (Rs.map λu=>iU u O) b7) C a1 W.s;exact g1 (dF (Fp f8 Z aj (.aq l) λnn Db cS Ok Yh cm=>ih h Db cS (Ok.oo No) λu8 P3 dO Ix Fq bI=>hm u8 P3 dO (Ok.trans Ix) (λsK ae=>(Yh sK (ae c (.head _))).trans (Fq sK λI KM=>ae I (.tail _ KM))) (bI.trans cm)))) l) hm
theorem AX{z:E}(lf:zs z A)(h:d5 O.scope u r H=j o0)(Z:W.ab d)(aj:Tl d O H W)(l:wp d W.B W.ag v r){C:g7->nl->Prop}(hm:vb d O o0 W (qh u) C):f4 d.M A (iU u O v) C a1 W.s:=qG (P:=λu=>vb d O o0 W (qh u) C->f4 d.M A (iU u O v) C a1 W.s) h (λc x h hm=>Gt h λf8 h=>Fp f8 Z aj l λy xz hc aw Fs bG=>hm y xz (aO h▸hc) aw (λsK ae=>Fs sK (ae _ (.head _))) bG)
  (λh=>K8 (P:=λu=>vb d O o0 W (qh u) C->f4 d.M A (iU u O v) C a1 W.s) h λRs k x h hm=>El (P:=λr=>wp d W.B W.ag v r->_) h (λg3 h l=>by
   obtain⟨e,L,z,rfl,AT,f⟩:=l.i.i
   obtain⟨h1,ex,h3,aS⟩:=Yf (O:=O) h
   show f4 d.M A (do lM x;unpack (.ref e) (r9 Rs O)) C a1 W.s
   refine g1 (fF ?_)
   unfold unpack
   rw[ex,h3,aS,show Rs.length=L.toArray.size from h1.trans f.length.symm]
   refine g1 (dF (fc (afs lf.handled ⟨_,Z.bw _ _ AT,rfl,_,rfl⟩ λeg gl fd ty=>?_)))
   have av:Mv [] W.s {W.s with heap:=eg,toks:=W.s.toks}:=Mv.fr fd (λb T g=>gl b T (ep (b1 g)) g) (Da _)
   have le:kw d [] W (W.to {W.s with heap:=eg,toks:=W.s.toks}):=kw.refl.av av cR
   exact Yg (W:=W.to {W.s with heap:=eg,toks:=W.s.toks}) h (Z.av av (cR) Z.bare) (aj.f' le) f λy xz hc aw Fs bG=>hm y xz hc (le.i0.trans aw) (λsK ae=>le.i0.trans (Fs sK ae)) bG) l) hm
theorem Yi{names:p (X×k4)}:(∀x∈names,x.2=.free->(O.cells.lookup x.1).isSome=V)->∀qj,∃na,(forIn names qj (λc l=>do
   let(name,kind):=c
   if kind==.free then do
    let __do_lift <- cellOf O name
    pure (J' ((name,__do_lift)::l))
   else pure (J' l):(X×k4)->p (X×kt)->aP (ForInStep (p (X×kt)))))=pure (na++qj)/\(∀c t,(c,t)∈na->(c,uh)∈names/\O.cells.lookup c=j t)/\(∀c,(c,uh)∈names->∃t,(c,t)∈na)/\((names.map (·.1)).Nodup->(na.map (·.1)).Nodup):=by
 induction names with
 |nil=>intro _ qj;exact⟨[],rfl,λc t h=>(nomatch h),λc h=>(nomatch h),λa=>ui⟩
 |cons x names ih=>
  intro h qj;obtain⟨z,k⟩:=x;have nw:∀x∈names,x.2=.free->(O.cells.lookup x.1).isSome=V:=λx ln=>h x (.tail _ ln);by_cases gl:k=.free
  ·subst gl;obtain⟨t,f0⟩:=wy.mp (h (z,.free) (.head _) rfl);obtain⟨na,g,h1,ex,h3⟩:=ih nw ((z,t)::qj);refine⟨na++[(z,t)],?_,?_,?_,?_⟩
   ·rw[uj];have:cellOf O z=pure t:=by unfold cellOf;rw[f0]
    simp only[jl,r',this,pure_bind];rw[g];simp
   ·intro c aL pc;rcases gq.mp pc with pc|pc;·exact⟨.tail _ (h1 c aL pc).1,(h1 c aL pc).2⟩
    ·cases a9.mp pc;exact⟨.head _,f0⟩
   ·intro c pc;rcases cq.mp pc with pc|pc;·cases pc;exact⟨t,by simp⟩
    ·obtain⟨aL,f_⟩:=ex c pc;exact⟨aL,by simp[f_]⟩
   ·intro pi;rw[cs,ix]at pi;rw[jo,cs,zM,SS];refine⟨h3 pi.2,by simp,λe db b cr=>?_⟩;rintro rfl;rw[a9]at cr;subst cr;obtain⟨⟨c,aL⟩,pc,rfl⟩:=dM.mp db;exact pi.1 (dM.mpr ⟨_,(h1 c aL pc).1,rfl⟩)
  ·obtain⟨na,g,h1,ex,h3⟩:=ih nw qj;refine⟨na,?_,λc t pc=>⟨.tail _ (h1 c t pc).1,(h1 c t pc).2⟩,λc pc=>?_,λpi=>h3 (ix.mp pi).2⟩;·rw[uj];have cr:(k==uh)=G:=eo.mpr gl;simp only[cr,pg,n5,pure_bind];exact g
   ·rcases cq.mp pc with pc|pc;·cases pc;exact aB rfl gl
    ·exact ex c pc
end
theorem Ft{H:hf}(h:(dU inner H).lookup c=j r):inner.names.lookup c=j .free/\H.lookup c=j r:=by
 unfold dU at h;induction H with
 |nil=>cases h
 |cons x H ih=>
  obtain⟨I,g⟩:=x;rw[k5]at h;by_cases KM:inner.names.lookup I=j .free
  ·rw[tt (by simp[KM])]at h;rw[en]at h⊢;by_cases q:c=I;·subst q;simp at h⊢;exact⟨KM,h⟩
   ·have:(c==I)=G:=eo.mpr q;rw[this]at h⊢;exact ih h
  ·rw[ss (by simpa using KM)]at h;obtain⟨h1,ex⟩:=ih h;refine⟨h1,?_⟩;rw[en];have:(c==I)=G:=eo.mpr (λq=>KM (q▸h1));rw[this];exact ex
theorem MS{O:IN}(c:X):(n_ inner O).names.lookup c=(inner.names.lookup c).map λk=>if(k==.free&&O.scope.kind==.function&&O.kindOf c==j .cell)=V then .cell else k:=by
 show(inner.names.map _).lookup c=_;induction inner.names with
 |nil=>rfl
 |cons x names ih=>
  obtain⟨z,k⟩:=x;rw[cs];dsimp only;by_cases q:c=z
  ·subst q;by_cases f0:(k==.free&&O.scope.kind==.function&&O.kindOf c==j .cell)=V;·rw[tt f0,en,en];simp only[jl,J_];rw[tt f0]
   ·rw[ss f0,en,en];simp only[jl,J_];rw[ss f0]
  ·have cr:(c==z)=G:=eo.mpr q;rw[en (a:=c) (as:=names),cr];split;·rw[en,cr];exact ih
   ·rw[en,cr];exact ih
section
variable{d:sw}{J:Sc}{A:xs}{O:IN}{H:hf}
theorem Fu:∀{na:p (X×kt)},(na.map (·.1)).Nodup->∀{c:X} {t:kt},(c,t)∈na->na.lookup c=j t:=by
 intro na;induction na with
 |nil=>intro _ c t h;cases h
 |cons x na ih=>
  intro pi c t h;obtain⟨I,r⟩:=x;rw[cs,ix]at pi;rcases cq.mp h with h|h;·cases h;simp
  ·have:(c==I)=G:=eo.mpr (λq=>pi.1 (q▸dM.mpr ⟨_,h,rfl⟩));rw[en,this];exact ih pi.2 h
theorem xP:∀(names:p (X×k4)) (z:E) (acc:p (X×kt)),eR z names acc=eR z names []++acc
 |[],_,_=>rfl
 |(name,kind)::l,z,acc=>by
  unfold eR;split;·rw[xP l _ ((name,z)::acc),xP l _ [(name,z)],e8];rfl
  ·exact xP l z acc
theorem Fv:∀{names:p (X×k4)} {z:E} {c:X} {t:kt},(c,t)∈eR z names []->(c,wz)∈names
 |[],_,_,_,h=>nomatch h
 |(name,kind)::l,z,c,t,h=>by
  unfold eR at h;split at h
  ·rename_i gl;rw[xP]at h;rcases gq.mp h with h|h
   ·exact .tail _ (Fv h)
   ·cases a9.mp h;rw[bt.mp gl];exact .head _
  ·exact .tail _ (Fv h)
theorem MT{names:p (X×k4)}(h:(names.map (·.1)).Nodup){k jw:k4}(h1:(c,k)∈names)(ex:(c,jw)∈names):k=jw:=by
 induction names with
 |nil=>cases h1
 |cons x names ih=>
  rw[cs,ix]at h;rcases cq.mp h1 with SZ|SZ<;>rcases cq.mp ex with bu|bu
  ·rw[<- SZ]at bu;cases bu;rfl
  ·exact aB (dM.mpr ⟨_,bu,by rw[<- SZ]⟩) h.1
  ·exact aB (dM.mpr ⟨_,SZ,by rw[<- bu]⟩) h.1
  ·exact ih h.2 SZ bu
theorem MU{n:p (X×t0)}(h:∀t,(c,t)∉n):n.lookup c=bn:=by cases g:n.lookup c with|none=>rfl|some t=>exact aB (mem_of_lookup g) (h t)
theorem Fw{n k:p (X×t0)}:(n++k).lookup c=(n.lookup c).or (k.lookup c):=List.lookup_append
theorem vc:∀{names:p (X×k4)} {z:E} {acc:p (X×kt)} {c:X},((c,wz)∈names\/(acc.lookup c).isSome=V)->((eR z names acc).lookup c).isSome=V
 |[],_,_,_,h=>h.elim (m4) id
 |(name,kind)::l,z,acc,c,h=>by
  unfold eR;by_cases gl:kind=.cell
  ·subst gl;simp only[jl,r'];apply vc;rcases h with h|h
   ·rcases cq.mp h with h|h;·cases h;exact .inr (by simp)
    ·exact .inl h
   ·refine .inr ?_;rw[en];split;·rfl
    ·exact h
  ·have cr:(kind==wz)=G:=eo.mpr gl;simp only[cr,pg,n5];apply vc;rcases h with h|h
   ·rcases cq.mp h with h|h;·cases h;exact aB rfl gl
    ·exact .inl h
   ·exact .inr h
theorem Fx:∀{names:p (X×k4)} {z:E} {acc:p (X×kt)},(names.map (·.1)).Nodup->(acc.map (·.1)).Nodup->(∀c∈acc.map (·.1),c∉names.map (·.1))->((eR z names acc).map (·.1)).Nodup
 |[],_,_,_,h,_=>h
 |(name,kind)::l,z,acc,pi,db,hd=>by
  rw[cs,ix]at pi;unfold eR;split
  ·apply Fx pi.2;·rw[cs,ix];exact⟨λq=>hd name q (by simp),db⟩
   ·intro c f8;rw[cs]at f8;rcases cq.mp f8 with rfl|f8;·exact pi.1
    ·intro q;exact hd c f8 (by simp[q])
  ·exact Fx pi.2 db λc f8 q=>hd c f8 (by simp[q])
structure MV(bs inner:KT)(u:bv):Prop where
 gen:bs.isGenerator=G
 fn:inner.kind=.function
 xQ:(inner.names.map (·.1)).Nodup
 free:∀c,(c,uh)∈inner.names->bs.names.lookup c=j .cell\/bs.names.lookup c=j .free
 AY:∀c∈qh u,inner.names.lookup c=j .local\/inner.names.lookup c=j .cell
theorem Fy{e b:ga}(h:(e ||b)=V):e=V\/b=V:=Dn.mp h
theorem hg{e b:ga}(h:(e&&b)=V):e=V/\b=V:=f3.mp h
theorem h8.of{bs:KT}(h:h8 bs inner u=V):MV bs inner u:=
 have e:=hg h
 have b:=hg e.2
 have t:=hg b.1
 have r:=hg t.1
 ⟨(Ka.mp e.1),bt.mp r.1,mQ r.2,λc h=>(Fy (lO.mp t.2 _ h)).elim (λq=>(Fy q).elim (λq=>Ts (show G=V from q)) λq=>.inl (bt.mp q)) λq=>.inr (bt.mp q),λc h=>(Fy (lO.mp b.2 c h)).elim (λq=>.inl (bt.mp q)) λq=>.inr (bt.mp q)⟩
structure Yj(O:IN)(names:p (X×k4))(na:p (X×kt)):Prop where
 of:∀c t,(c,t)∈na->(c,uh)∈names/\O.cells.lookup c=j t
 has:∀c,(c,uh)∈names->∃t,(c,t)∈na
 xQ:(names.map (·.1)).Nodup->(na.map (·.1)).Nodup
theorem Yk{na:p (X×kt)}{c6:kt}{z:E}{m:X->Y cd}(aj:Tl d O H W)(co:MV O.scope inner u)(Fz:Yj O inner.names na)(pi:W.h.Ns c6 m)(Yl:c6∉W.aH/\W.B c6=bn/\c6≠d.tab)(oF:∀c t,(c,t)∈O.cells->t≠c6)(f0:∀c t,(c,t)∈eR z inner.names []->W.h.IsCell t bn/\t≠c6/\(t∉W.aH/\W.B t=bn/\t≠d.tab)/\∀I r,(I,r)∈O.cells->r≠t)(ln:(eR z inner.names []).Pairwise λc I=>c.2≠I.2):Tl d (Kb inner (eR z inner.names []++na) c6 O) (dU inner H) W:=by
 have h1:=Fz.of;have ex:=Fz.has;have ni:=co.xQ;have FA:=Fz.xQ ni;have l2:∀c,inner.names.lookup c=j .free->(c,uh)∈inner.names:=λc h=>mem_of_lookup h;have look:∀c,(c,uh)∈inner.names->(eR z inner.names []++na).lookup c=na.lookup c:=by intro c h;rw[Fw,MU λt q=>by have:=MT ni h (Fv q);cases this];rfl
 have MW:∀c,inner.names.lookup c=j .free->(Kb inner (eR z inner.names []++na) c6 O).kindOf c=j .cell\/(Kb inner (eR z inner.names []++na) c6 O).kindOf c=j .free:=by
  intro c h;show(n_ inner O).names.lookup c=_\/(n_ inner O).names.lookup c=_;rw[MS,h,J_];split;·exact .inl rfl
  ·exact .inr rfl
 refine⟨co.fn,aj.glob,aj.j4,⟨m,pi,λc r h k=>?_⟩,λc r h=>?_,λc t h=>?_,?_,λe db=>?_,λc t h=>?_,λc h=>?_,λa=>aj.ak co.gen⟩;·obtain⟨e,b⟩:=Ft h;exact(MW c e).elim (λq=>nomatch aO (q.symm.trans k)) λq=>nomatch aO (q.symm.trans k)
 ·obtain⟨e,b⟩:=Ft h;rcases aj.pE c r b with q|⟨_,t,v,f0,FB,l⟩;·exact(co.free c (l2 c e)).elim (λk=>nomatch aO (k.symm.trans q)) λk=>nomatch aO (k.symm.trans q)
  ·obtain⟨aL,f_⟩:=ex c (l2 c e);have:=(h1 c aL f_).2;exact .inr (MW c e) t v ((look c (l2 c e)).trans (Fu FA ((aO (f0.symm.trans this)).symm▸f_))) FB l
 ·rcases gq.mp h with h|h;·exact⟨_,(f0 c t h).1⟩
  ·exact aj.has c t (mem_of_lookup (h1 c t h).2)
 ·have:∀n:p (X×kt),(n.map (·.1)).Nodup->(∀x∈n,O.cells.lookup x.1=j x.2)->n.Pairwise λc I=>c.2≠I.2:=by intro n;induction n with|nil=>intro _ _;exact .nil|cons x n ih=>intro pi ae;rw[cs,ix]at pi;refine .cons (λq wT g=>?_) (ih pi.2 λx ln=>ae x (.tail _ ln));have e:=mem_of_lookup (ae x (.head _));have b:=mem_of_lookup (ae q (.tail _ wT));rw[<- g]at b;have:=name_of_addr aj.apart e b;exact pi.1 (this▸dM.mpr ⟨q,wT,rfl⟩)
  refine aft.mpr ⟨ln,this na FA λx ln=>(h1 x.1 x.2 ln).2,λe db b cr=>?_⟩;exactλg=>(f0 e.1 e.2 db).2.2.2 b.1 b.2 (mem_of_lookup (h1 b.1 b.2 cr).2) g.symm
 ·rcases cq.mp db with rfl|db;·exact Yl
  ·obtain⟨⟨c,t⟩,pc,rfl⟩:=dM.mp db;rcases gq.mp pc with pc|pc;·exact(f0 c t pc).2.2.1
   ·exact aj.off t (.tail _ (dM.mpr ⟨(c,t),mem_of_lookup (h1 c t pc).2,rfl⟩))
 ·rcases gq.mp h with h|h;·exact(f0 c t h).2.1
  ·exact oF c t (mem_of_lookup (h1 c t h).2)
 ·have f8:∃k,inner.names.lookup c=j k/\(k=.free\/k=.cell):=by have eg:(n_ inner O).names.lookup c=j .cell\/(n_ inner O).names.lookup c=j .free:=h;rw[MS]at eg;cases g:inner.names.lookup c with|none=>rw[g]at eg;simp at eg|some k=>refine⟨k,rfl,?_⟩;rw[g,J_]at eg;cases k<;>simp at eg<;>simp
  obtain⟨k,gl,rfl|rfl⟩:=f8;·obtain⟨t,f0⟩:=ex c (l2 c gl);show((eR z inner.names []++na).lookup c).isSome=V;rw[look c (l2 c gl),Fu FA f0];rfl
  ·show((eR z inner.names []++na).lookup c).isSome=V;obtain⟨t,uR⟩:=wy.mp (vc (z:=z) (acc:=[]) (.inl (mem_of_lookup gl)));rw[Fw,uR];rfl
theorem Ym{Ch:iw}{globals:kt}{na:p (X×kt)}{qual:X}{C:IN->nl->Prop}(hm:∀eg,eg.Ns s.heap.objs.size (λa=>bn)->s.heap.objs.size+1≤eg.objs.size->(∀b T,s.heap.get? b=j T->eg.get? b=j T)->CellsOk eg (s.heap.objs.size+1) (eR (s.heap.objs.size+1) scope.names [])->C {scope,locals:=s.heap.objs.size,globals,cells:=eR (s.heap.objs.size+1) scope.names []++na,qual,func:=bn,code:=O.code,frame:=O.frame,builtins:=O.builtins} {s with heap:=eg}):f4 Ch A (Kc scope globals na [] qual bn .none (j O)) C a1 s:=by
 simp only[Kc,Option.isSome_some,r'];refine g1 (Tt ?_);refine g1 (wpAny_layCells _ (λname kind cells=>by cases FC:kind==wz<;>simp[FC]) _ _ _ _ ?_);have Z:=cellsFrom_ok scope.names (s.heap.push {cls:=.type "dict",data:=.dict #[]}) (s.heap.objs.size+1) [] ⟨λa a pc=>(nomatch pc),afu⟩ (by rw[f6];exact Da _);rw[f6]at Z;rw[show({s with heap:=s.heap.push {cls:=.type "dict",data:=.dict #[]}}:nl).heap.objs.size=s.heap.objs.size+1 from f6 ..];rw[Kd];refine g1 (s2 (s2 ?_));rw[xP];have Yn:∀(names:p (X×k4)) (h:bl),h.objs.size≤(Tu h names).objs.size:=by
  intro names;induction names with
  |nil=>intro h;exact Da _
  |cons x names ih=>
   intro h;obtain⟨c,k⟩:=x;unfold Tu;split;·exact aJ (by rw[f6];exact cu _) (ih _)
   ·exact ih h
 exact hm _ ((afv s.heap (.type "dict")).keeps (Ke _ _)) (by have:=Yn scope.names (s.heap.push {cls:=.type "dict",data:=.dict #[]});rwa [f6]at this) (λb T g=>Ke _ _ b T (cP _ g)) Z
theorem Tl.Yo(aj:Tl d O H W)(h:∀c r,bk.lookup c=j r->H.lookup c=j r):Tl d O bk W:=⟨aj.kind,aj.glob,aj.j4,let⟨m,z,l⟩:=aj.am;⟨m,z,λc r f8 k=>l c r (h c r f8) k⟩,λc r f8=>aj.pE c r (h c r f8),aj.has,aj.apart,aj.off,aj.ot,aj.full,aj.ak⟩
theorem Yp{bs:KT}:∀{g3:p R} {H o0:hf},bindAll bs Rs g3 H=j o0->∀c,c∉sH Rs->o0.lookup c=H.lookup c:=Rs.rec (motive:=λRs=>∀{g3:p R} {H o0:hf},bindAll bs Rs g3 H=j o0->∀c,c∉sH Rs->o0.lookup c=H.lookup c) (λ{g3 H o0} h c a=>d1 (P:=λa=>o0.lookup c=H.lookup c) h λh=>aO h▸rfl) λu Rs ih {g3 H o0} h c=>c5 (P:=λu=>c∉sH (u::Rs)->o0.lookup c=H.lookup c) (ET.symm.trans h) λI x h f8=>qK (P:=λa=>o0.lookup c=H.lookup c) h λr g3 h=>Gt h λa h=>by rw[ih h c λq=>f8 (.tail _ q),gL,ss λq:c=I=>f8 (q▸.head _)]
theorem Yq{bs:KT}{H:hf}(h:d5 bs u r H=j o0)(c:X)(f8:c∉qh u):o0.lookup c=H.lookup c:=qG (P:=λu=>c∉qh u->o0.lookup c=H.lookup c) h (λI x h f8=>Gt h λa h=>by rw[<- aO h,gL,ss λq:c=I=>f8 (q▸.head _)]) (λh=>K8 (P:=λu=>c∉qh u->o0.lookup c=H.lookup c) h λRs a a h f8=>El (P:=λa=>o0.lookup c=H.lookup c) h λg3 h=>Yp h c f8) f8
theorem Yr{bs:KT}(gv:h8 bs inner u=V){H:hf}(h:d5 (d6 bs inner) u r (dU inner H)=j o0):∀c r,(dU inner H).lookup c=j r->o0.lookup c=j r:=
 λc a f8=>(Yq h c λty=>have g:=(Ft f8).1
  ((h8.of gv).AY c ty).elim (λq=>nomatch aO (g.symm.trans q)) λq=>nomatch aO (g.symm.trans q)).trans f8
noncomputable def sV(aI:p bv)(O:IN)(b:ga):aP ga:=forIn aI b λt l=>if l=V then do let Z <- g8 t O (eval t O);pure (J' Z)else pure (J' l)
theorem Ys:∀{s:nl} {C:ga->nl->Prop},C G s->f4 d.M A (sV aI O G) C a1 s:=aI.rec (motive:=λaI=>∀{s:nl} {C:ga->nl->Prop},C G s->f4 d.M A (sV aI O G) C a1 s) s2 λa a ih a a h=>by rw[sV,uj];exact g1 (s2 (ih h))
theorem Yt{ax:c6}(a2:nf d A O H ax):∀{W:nb} {o:p ca} {l:ga×p ca},h' ax aI o=j l->W.ab d->Tl d O H W->W.o=o->∀{C:ga->nl->Prop},(∀y,y.ab d->kw d [] W y->y.o=l.2->C l.1 y.s)->f4 d.M A (sV aI O V) C a1 W.s:=by induction aI with|nil=>exactλh Z aj ap a hm=>s2 ((show V=_ from GT k1 (aO h))▸hm _ Z kw.refl (ap.trans (GT ko (aO h))))|cons t aI ih=>intro W o l h Z aj ap C hm;rw[sV,uj];exact b8 (EV.symm.trans h) λu al h1 h=>g1 (g1 ((a2 _ _ _ h1).seq Z aj ap λnn Db cS Ok cm=>s2 (u.casesOn (motive:=λu=>c9 u (h' ax aI al) (j (G,al))=j l->f4 d.M A (sV aI O u) C a1 nn.s) (λh=>Ys ((show G=l.1 from GT k1 (aO h))▸hm nn Db Ok (cm.trans (show al=l.2 from GT ko (aO h))))) (λh=>ih h Db cS cm λu8 P3 Ix bI=>hm u8 P3 (Ok.trans Ix) bI) h)))
variable{N:Type}{c:N}
def FD(d:sw)(A:xs)(O:IN)(aI:p bv)(sK im:nl->Prop)(a1:cd->nl->Prop)(s:nl):Prop:=f4 d.M A (sV aI O V) (λZ s=>c9 Z (sK s) (im s)) a1 s
theorem Yu{ax:c6}(a2:nf d A O H ax){e b:p ca->Y N}(h:s4 (h' ax aI o) (λt o=>c9 t (e o) (b o))=j c)(ap:W.o=o)(Z:W.ab d)(aj:Tl d O H W){sK im:nl->Prop}(Tk:∀y,y.ab d->kw d [] W y->h' ax aI o=j (V,y.o)->e y.o=j c->sK y.s)(Yv:∀y,y.ab d->kw d [] W y->h' ax aI o=j (G,y.o)->b y.o=j c->im y.s):FD d A O aI sK im a1 W.s:=b8 h λt ew ty h=>Yt a2 ty Z aj ap λZB cy bL (g:ZB.o=ew)=>t.casesOn (motive:=λt=>h' ax aI o=j (t,ZB.o)->c9 t (e ZB.o) (b ZB.o)=j c->c9 t (sK ZB.s) (im ZB.s)) (Yv ZB cy bL) (Tk ZB cy bL) (g▸ty) (g▸h)
end
section
variable{d:sw}{J:Sc}{A:xs}{O:IN}{H:hf}
def vd(lv:E->nl->Prop)(z:E)(s:nl):Prop:=∃m,m<z/\lv m s
def AZ(d:sw)(A:xs)(ai:cd)(u:bv)(O:IN)(wf P:nl->Prop)(a1:cd->nl->Prop)(l:Y cd)(s:nl):Prop:=l.casesOn (wf s) λv=>f4 d.M A (qy u ai v) (λa s=>f4 d.M A (iU u O v) (λa=>P) a1 s) a1 s
def Yw(d:sw)(A:xs)(O:IN)(bj:bv)(acc:cd)(im:nl->Prop)(a1:cd->nl->Prop)(s:nl):Prop:=f4 d.M A (eval bj O) (λc=>f4 d.M A (call (.builtin "list.append") [acc,c]) (λa=>im) a1) a1 s
theorem Yx{ai acc:cd}(lv:E->nl->Prop)(qk:∀z s,lv z s->∀a1:cd->nl->Prop,f4 d.M A (hu ai) (AZ d A ai gE O (wf (.ok .next)) (FD d A O aI (Yw d A O bj acc (vd lv z) a1) (vd lv z) a1) a1) a1 s)(z:E)(h:lv z s):iV d.M A (.compLoop (.ListComp bj [⟨gE,iter,aI,0⟩] scope h0) 0 ai acc O) wf s:=by refine codeAny_loop rfl lv (λz s bg=>?_) z h;show f4 _ A ((compTurn (.ListComp bj [⟨gE,iter,aI,0⟩] scope h0) 0 ai acc O).onRaise (λc=>do noteFrame c O;theTreesLotGoes c)) _ _ s;refine wpAny_noted ?_;rw[compTurn_list];refine g1 (fF (g1 (cJ (qk z s bg _) (λl s0 a3=>?_) λa a eg=>eg)));cases l with|none=>exact s2 a3|some v=>refine g1 (cJ a3 (λa Yy FE=>?_) λa a eg=>eg);refine g1 (cJ FE (λa aD gd=>g1 (cJ gd (λZ ve pP=>?_) λa a eg=>eg)) λa a eg=>eg);cases Z with|false=>exact s2 ⟨rfl,pP⟩|true=>exact g1 (g1 (cJ pP (λc Yz FF=>g1 (cJ FF (λa FG FH=>s2 (s2 ⟨rfl,FH⟩)) λa a eg=>eg)) λa a eg=>eg))
structure kA(d:sw)(A:xs)(ai:cd)(lv:p kt)(Inv:p R->nb->Prop)(tup dj:ga)(un:nb)(aY:IN)(bk:hf)(XV:kt)(u:bv):Prop where
 ec:ng d A ai lv Inv tup dj
 tup:tup=V->qi u=V
 ok:un.ab d
 FI:∀e∈[XV],e∉lv
 FJ:∀e∈[XV],e∉T0 aY
 MX:∀e∈lv,e∉T0 aY
 YA:∀e∈lv,un.h.objs.size≤e
 MY:∃sK,(∀e∈sK,un.h.objs.size≤e)/\∀c∈qh u,xc aY c sK
 keep:∀r o0,d5 aY.scope u r bk=j o0->∀c r,bk.lookup c=j r->o0.lookup c=j r
def A0(d:sw)(XV:kt)(Acc:nb->Prop):Prop:=∀{W y:nb} {sK:p kt},bc d [XV] W->kw d sK W y->(∀e∈[XV],e∉sK)->Acc W->Acc y
structure ez(d:sw)(un:nb)(aY:IN)(bk:hf)(XV:kt)(Acc:nb->Prop)(W:nb):Prop where
 k:A0 d XV Acc
 ok:W.ab d
 le:kw d [] un W
 md:Tl d aY bk W
 acc:Acc W
 ar:bc d [XV] W
 base:un.h.objs.size≤XV
section
variable{ai:cd}{Inv:p R->nb->Prop}{tup:ga}{aY:IN}{XV:kt}{Acc:nb->Prop}{wf P:nl->Prop}
theorem ez.step{sK:p kt}(aa:ez d un aY bk XV Acc W)(Z:y.ab d)(le:kw d sK W y)(f':kw d [] un y)(aj:Tl d aY o0 y)(Tk:∀e∈[XV],e∉sK):ez d un aY o0 XV Acc y:=⟨aa.k,Z,f',aj,aa.k aa.ar le Tk aa.acc,aa.ar.le le Tk,aa.base⟩
theorem ez.FK(aa:ez d un aY bk XV Acc W)(Z:y.ab d)(le:kw d [] W y):ez d un aY bk XV Acc y:=aa.step Z le (aa.le.trans le) (aa.md.f' le) jr
theorem kA.sub(t:kA d A ai lv Inv tup dj un aY bk XV u)(aa:ez d un aY bk XV Acc W)(Z:y.ab d)(le:kw d lv W y):ez d un aY bk XV Acc y:=aa.step Z le (aa.le.then' t.ok le λe db=>.inr (t.YA e db)) (aa.md.le le λe db np=>t.MX e np db) t.FI
theorem kA.less(t:kA d A ai lv Inv tup dj un aY bk XV u)(cr:d5 aY.scope u r bk=j o0)(aa:ez d un aY o0 XV Acc W):ez d un aY bk XV Acc W:=⟨aa.k,aa.ok,aa.le,aa.md.Yo (t.keep r o0 cr),aa.acc,aa.ar,aa.base⟩
theorem kA.bN(t:kA d A ai lv Inv tup dj un aY bk XV u)(Ns:Inv [] W)(aa:ez d un aY bk XV Acc W)(fw:∀y,ez d un aY bk XV Acc y->y.o=W.o->wf y.s):f4 d.M A (hu ai) (AZ d A ai u aY wf P bP) a1 W.s:=cJ (t.ec.done aa.ok Ns (C:=wf) λy xz aw bG=>fw y (t.sub aa xz aw) bG) (λT it q=>by rw[q.1];exact q.2) λa a g=>g
theorem kA.turn(t:kA d A ai lv Inv tup dj un aY bk XV u)(lf:zs au A){l:p R}(Ns:Inv (r::l) W)(aa:ez d un aY bk XV Acc W)(cr:d5 aY.scope u r bk=j o0)(iD:∀y,ez d un aY o0 XV Acc y->Inv l y->y.o=W.o->P y.s):f4 d.M A (hu ai) (AZ d A ai u aY wf P a1) a1 W.s:=t.MY.elim λsK q=>cJ (t.ec.next t.tup aa.ok Ns (C:=λv=>f4 d.M A (iU u aY v) (λa=>P) a1) λv nn Db Ok cm bZ YB=>
  have s0:=t.sub aa Db Ok
  AX lf cr Db s0.md (.aq bZ) λu8 P3 dO Ix Fq bI=>iD u8 (s0.step P3 Ix (s0.le.then' t.ok (Fq sK q.2) λe db=>.inr (q.1 e db)) dO t.FJ) (t.ec.fP Db P3 YB Ix t.MX λa=>bI) (bI.trans cm))
  (λT it q=>q.elim λv q=>by rw[q.1];exact q.2) λa a g=>g
def li(d:sw)(e:kt)(n:p R)(W:nb):Prop:=∃(b0:p cd) (k:E),W.h.get? e=j (SL b0.toArray k)/\Is d W.B b0 n
theorem li.k:A0 d XV (li d XV n):=λfv le Tk q=>q.elim λb0 q=>q.elim λk q=>⟨b0,k,fv.keep le Tk (.head _) q.1,le.oo q.2⟩
theorem ez.push(t:kA d A ai lv Inv tup dj un aY H XV u)(aa:ez d un aY bk XV (li d XV n) W){I:R}(f:x0 d W.B g2 I)(sc:n.length≤gH)(hm:∀y,kw d [XV] W y->y.o=W.o->ez d un aY bk XV (li d XV (n++[I])) y->C .none y.s):f4 d.M A (call (.builtin "list.append") [.ref XV,g2]) C a1 W.s:=aa.acc.elim λb0 q=>q.elim λk q=>append_at q.1 (λeg fd pi=>by obtain⟨xz,aw⟩:=aa.ar.av aa.ok (Mv.same fd) aa.ok.bare;exact hm (W.to {W.s with heap:=eg}) aw rfl ⟨li.k,xz,aa.le.then' t.ok aw (λe db=>.inr (a9.mp db▸aa.base)),aa.md.le aw (λe db np=>t.FJ e np db),⟨b0++[g2],k+1,pi.trans (by rw[Ta]),q.2.append (.one f)⟩,aa.ar.xF λe db=>a9.mp db▸⟨_,pi⟩,aa.base⟩) (q.2.length.symm▸sc:b0.length≤gH)
theorem YC{I A1:R}(h:d4 I o=j (A1,wE))(wn:d_ I=V):wE=o:=uJ (P:=λI=>d_ I=V->wE=o) h (λa a=>dN) (λh a=>Gt h λa h=>(GT ko (aO h)).symm) wn
theorem YD(c:Y t0):c.toList.length≤1:=c.casesOn (e6 _) λa=>Da _
inductive FL(St:p R->nb->Prop)(Inv:p R->nb->Prop)(step:R->p ca->Y (Y R×p ca))(U:E)(f1:p R)(wE:p ca):E->nl->Prop|mk (W:nb) (l done aF:p R) (Ns:Inv l W) (aa:St done W) (h:kv step l W.o=j (aF,wE)) (i6:done++aF=f1) (ae:done.length+l.length≤U):FL St Inv step U f1 wE (l.length+1) W.s
theorem YE(t:kA d A ai lv Inv tup dj un aY bk XV u)(lf:zs au A)(pQ:∀o0,a0 d A aY o0 (fM o0))(hh:∀o0,nf d A aY o0 (gb o0))(A2:dj=V->∀o0 o al f2 b I,h' (gb o0) aI o=j (b,al)->al=o/\(fM o0 bj al=j (I,f2)->f2=o)){f1:p R}{wf:qp->nl->Prop}(ae:H1 n.length=V)(Ns:Inv n W)(aa:ez d un aY bk XV (li d XV []) W)(h:kv (i2 dj aY.scope u bk fM gb aI bj) n W.o=j (f1,wE))(fw:∀y,ez d un aY bk XV (li d XV f1) y->y.o=wE->wf (.ok .next) y.s):iV d.M A (.compLoop (.ListComp bj [⟨u,iter,aI,0⟩] inner h0) 0 ai (.ref XV) aY) wf W.s:=by
 refine Yx (FL (λn=>ez d un aY bk XV (li d XV n)) Inv (i2 dj aY.scope u bk fM gb aI bj) n.length f1 wE) ?_ (n.length+1) (.mk W n [] f1 Ns aa h rfl (mT (jZ _)));clear h aa Ns;intro z s a7 a1;induction a7 with
 |mk W l done aF Ns aa h i6 aV=>
  cases l with
  |nil=>have g:=aO h;exact t.bN Ns aa λy c7 bG=>fw y (((GT (done++·) (GT k1 g)).trans i6)▸(c2 done).symm▸c7) (bG.trans (GT ko g))
  |cons r l=>
   refine b8 (L9.symm.trans h) λc al h1 h=>b8 h λMZ f2 ex h=>dd h1 λo0 cr h1=>t.turn lf Ns aa cr λu8 aD q5 xR=>?_;have bN:∀y,ez d un aY o0 XV (li d XV (done++c.toList)) y->Inv l y->y.o=al->vd (FL (λn=>ez d un aY bk XV (li d XV n)) Inv (i2 dj aY.scope u bk fM gb aI bj) n.length f1 wE) ((r::l).length+1) y.s:=λy c7 q6 bG=>⟨l.length+1,gp _,.mk y l (done++c.toList) MZ q6 (t.less cr c7) (bG.symm▸ex.trans (GT (λx:p R×p ca=>j (MZ,x.2)) (aO h))) (by rw[e8];exact(GT (λx:p R×p ca=>done++x.1) (aO h)).trans i6) (by rw[ct];exact aJ (afw (afx (YD c) _) _) (by rw[Tv];exact aV))⟩;refine Yu (hh o0) h1 xR aD.ok aD.md (λZB cy bL ty h1=>?_) λZB cy bL ty h1=>?_;·refine b8 h1 λI YF rs h1=>iX h1 λhK h1=>(pQ o0 _ _ _ rs).seq cy (aD.md.f' bL) rfl λg2 e1 gS q7 fh nj xS=>b8 h1 λA1 aha wn h1=>?_;obtain⟨xT,ic,jF,vf,FN,FO⟩:=oy gS xS ((show e1.o=YF from nj).symm▸wn);have FG:=aD.FK ic (bL.trans (fh.trans jF));rw[<- FN];have SZ:=aO h1;exact FG.push t FO (aJ (aJ (e7 _ _) aV) (j6 ae)) λpR kB q8 vg=>bN pR ((show j A1=c from GT k1 SZ)▸vg) (t.ec.fP ic vg.ok (t.ec.fP aD.ok ic q5 (bL.trans (fh.trans jF)) jr λae=>vf.trans ((YC wn (by rw[ae]at hK;exact Ka.mp hK)).trans (((A2 ae o0 _ _ _ _ I ty).2 rs).trans xR.symm))) kB (λe db np=>t.FI e np db) λa=>q8) (q8.trans (vf.trans (GT ko SZ)))
   ·have SZ:=aO h1;exact bN ZB ((show bn=c from GT k1 SZ)▸(c2 done).symm▸aD.FK cy bL) (t.ec.fP aD.ok cy q5 bL jr λae=>(A2 ae o0 _ _ [] _ .none ty).1.trans xR.symm) (GT ko SZ)
end
end
section
variable{d:sw}{J:Sc}{A:xs}{O:IN}{H:hf}
def M0(d:sw)(e:kt)(r:R)(W:nb):Prop:=∃T,W.h.get? e=j T/\∀B:aX,(∀b q,W.B b=j q->B b=j q)->B e=j T->x0 d B (.ref e) r
structure aex(d:sw)(W:nb)(o:p ca)(r:R)(y:nb)(XV iE:kt):Prop where
 ok:y.ab d
 le:kw d [] W y
 ap:y.o=o
 Az:M0 d XV r y
 ar:bc d [XV] y
 base:W.h.objs.size≤XV
 ns:∃m,y.h.Ns iE m
 off:iE∉y.aH/\y.B iE=bn/\iE≠d.tab
 FP:W.h.objs.size≤iE
 ne:XV≠iE
def A3(d:sw)(A:xs)(O:IN)(H:hf)(g ai:bv)(inner:KT)(mk:aP cd)(o f2:p ca)(r:R):Prop:=∀{W:nb} {a1:cd->nl->Prop} {zq:Y (cd->aP g7)} {C:cd->nl->Prop} {x:wS},W.ab d->Tl d O H W->W.o=o->(∀y XV iE,aex d W f2 r y XV iE->compPost d.M A a1 zq C (.ref XV) iE (.ok .next) y.s)->f4 d.M A (Tw g inner O x mk G (eval ai O) zq) C a1 W.s
def YG(d:sw)(A:xs)(O:IN)(H:hf)(g u:bv)(inner:KT)(cb:E)(n:p R)(al f2:p ca)(sW vh:kt->nb->Prop):Prop:=∀{ai:cd} {lv:p kt} {Inv:p R->nb->Prop} {W ZB:nb} {XV:kt} {aY:IN} {wf:qp->nl->Prop},aY.scope=n_ inner O->kA d A ai lv Inv (cb==2) (cb==1) W aY (dU inner H) XV u->ez d W aY (dU inner H) XV (sW XV) ZB->Inv n ZB->ZB.o=al->(∀y,ez d W aY (dU inner H) XV (vh XV) y->y.o=f2->wf (.ok .next) y.s)->iV d.M A (.compLoop g 0 ai (.ref XV) aY) wf ZB.s
def YH(d:sw)(A:xs)(g:bv):Prop:=∀{ai e:cd} {aY:IN} {s:nl} {wf:qp->nl->Prop},iV d.M A (.compLoop g 0 ai e aY) wf s->f4 d.M A (d9 ai) (λYI it=>iV d.M A (.compLoop g 0 YI e aY) wf it) (notedBy d.M A aY λc it=>wf (.error c) it) s->iV d.M A (.compStart g 0 ai e aY) wf s
theorem YJ{names:p (X×k4)}:(names.map (·.1)).Nodup->∀{x:X×k4},x∈names->names.lookup x.1=j x.2:=names.rec (motive:=λnames=>(names.map (·.1)).Nodup->∀{x:X×k4},x∈names->names.lookup x.1=j x.2) (λa a h=>aB h r_) λq names ih pi x ln=>by rw[cs,ix]at pi;refine(cq.mp ln).elim (λg=>g▸by rw[en,jl]) λln=>?_;rw[en,(eo.mpr λ(g:x.1=q.1)=>pi.1 (g▸dM.mpr ⟨x,ln,rfl⟩):(x.1==q.1)=G)];exact ih pi.2 ln
theorem M1{ai:bv}{mk:aP cd}{oG:cE}{sW vh:kt->nb->Prop}(S:ib d A O H ai o (n,cb,al))(gv:h8 O.scope inner u=V)(FQ:cb=2->qi u=V)(fi:clausesOf g=[⟨u,ai,aI,0⟩])(sX:∀{C a1:cd->nl->Prop} {s:nl},C (.ref s.heap.objs.size) {s with heap:=s.heap.push oG}->f4 d.M A mk C a1 s)(gt:oG.isFreed=G)(az:∀{e:kt} {W:nb},W.h.get? e=j oG->sW e W)(gl:∀{e:kt},A0 d e (sW e))(dk:YH d A g)(YK:YG d A O H g u inner cb n al f2 sW vh)(hK:∀{e:kt} {W y:nb},W.ab d->W.h.objs.size≤e->vh e y->M0 d e r y):A3 d A O H g ai inner mk o f2 r:=λ{W a1 zq C bF} Z aj ap pS=>by
 have co:=h8.of gv;obtain⟨na,f0,h1,ex,h3⟩:=Yi (O:=O) (names:=inner.names) (λx ln wn=>aj.full x.1 (co.free x.1 (wn▸ln))) [];have YL:closureFor inner O=pure na:=GT (λ(m:aP (p (X×kt)))=>m>>=λl=>pure l) (f0.trans (GT pure (c2 na)));refine wpAny_comprehension_free (g:=⟨u,ai,aI,0⟩) (gs:=[]) (use:=zq) fi S.1 YL co.fn (λc f8 ae=>(YJ co.xQ f8).trans (GT j ae)) (S.2 _ _ _ W Z aj ap λM2 lv Inv nn Db Ok cm ec Ns bg=>sX ?_);let u8:=nn.to {nn.s with heap:=nn.h.push oG};have P3:u8.ab d:=Db.push _;have M3:kw d [] nn u8:=kw.refl.push _;have pH:=P3.fresh (Da u8.h.objs.size);refine Ym (λeg jG xU M4 xV=>?_);let ZB:=u8.to {u8.s with heap:=eg};have M5:Mv [] u8.s {u8.s with heap:=eg}:=Mv.fr (aJ (cu _) xU) M4 (Da _);have cy:ZB.ab d:=P3.av M5 cR P3.bare;have FR:kw d [] u8 ZB:=kw.refl.av M5 cR;have bL:kw d [] W ZB:=Ok.trans (M3.trans FR);have fd:@jn E _ nn.h.objs.size u8.h.objs.size:=Nat.lt_of_lt_of_eq (gp _) (f6 ..).symm;have nk:W.h.objs.size≤u8.h.objs.size:=aJ Ok.size (jp fd);have fi:∀c t,(c,t)∈O.cells->@jn E _ t W.h.objs.size:=λc t f0=>(aj.here (.tail _ (dM.mpr ⟨(c,t),f0,rfl⟩))).elim λT gt=>b1 gt;have sY:∀c t,(c,t)∈eR (u8.h.objs.size+1) inner.names []->@jn E _ u8.h.objs.size t:=λc t pc=>(xV.empty c t pc).2;let aY:=Kb inner (eR (u8.h.objs.size+1) inner.names []++na) u8.h.objs.size O;have YM:Tl d aY (dU inner H) ZB:=Yk (aj.f' bL) co ⟨h1,ex,h3⟩ jG ⟨λq=>pH.2.1 q,pH.1,pH.2.2⟩ (λc t f0=>ep (hs (fi c t f0) nk))
  (λc t pc=>have f:=P3.fresh (jp (sY c t pc))
   ⟨(xV.empty c t pc).1,r7 (sY c t pc),⟨λq=>f.2.1 q,f.1,f.2.2⟩,λI r hd=>ep (Kf (hs (fi I r hd) nk) (sY c t pc))⟩) xV.apart
 have M6:∀e∈T0 aY,u8.h.objs.size≤e\/@jn E _ e W.h.objs.size:=λe db=>(cq.mp db).elim (λg=>.inl (g▸Da _)) λdb=>(dM.mp db).elim λx q=>q.2▸(gq.mp q.1).elim (λpc=>.inl (jp (sY x.1 x.2 pc))) λpc=>.inr (fi x.1 x.2 (mem_of_lookup (h1 x.1 x.2 pc).2));have t:kA d A M2 lv Inv (cb==2) (cb==1) W aY (dU inner H) nn.h.objs.size u:=⟨ec,λh=>FQ (bt.mp h),Z,λe db np=>lQ _ ((a9.mp db▸(ec.ar Ns e np).1:@jn E _ nn.h.objs.size nn.h.objs.size)),λe db rs=>(M6 e rs).elim (λh=>dJ.mpr h (a9.mp db▸fd)) λh=>dJ.mpr Ok.size (a9.mp db▸h),λe db rs=>(M6 e rs).elim (λh=>dJ.mpr h (Kf (ec.ar Ns e db).1 fd)) λh=>dJ.mpr (bg e db) h,bg,⟨u8.h.objs.size::(eR (u8.h.objs.size+1) inner.names []).map (·.2),λe db=>(cq.mp db).elim (λg=>g▸nk) λdb=>(dM.mp db).elim λx q=>q.2▸aJ nk (jp (sY x.1 x.2 q.1)),λc f8=>⟨λa=>.head _,λt gl f0=>.tail _ ((co.AY c f8).elim (λFS=>nomatch aO (gl.symm.trans (afy FS))) λFS=>by have f_:(eR (u8.h.objs.size+1) inner.names []++na).lookup c=j t:=f0;rw[Fw,MU (n:=na) λr q=>nomatch MT co.xQ (mem_of_lookup FS) (h1 c r q).1]at f_;exact dM.mpr ⟨(c,t),afz (Option.or_none.symm.trans f_),rfl⟩)⟩⟩,λr o0 cr=>Yr gv cr⟩;have xW:Inv n ZB:=ec.fP Db cy Ns (M3.trans FR) jr λa=>rfl;have start:=YK (aY:=aY) rfl t ⟨gl,cy,bL,YM,az (M4 _ _ (dK _ gt)),(bc.new Db gt).le FR jr,Ok.size⟩ xW cm λy aa bG=>pS y _ u8.h.objs.size ⟨aa.ok,aa.le,bG,hK Z aa.base aa.acc,aa.ar,aa.base,aa.md.am.elim λm q=>⟨m,q.1⟩,aa.md.off _ (.head _),nk,ep fd⟩;exact dk start (ec.again xW start)
section
variable{ai:bv}{mk:aP cd}
theorem YN(Ch:A3 d A O H g ai inner mk o f2 r):bH d A O H (Tw g inner O x mk G (eval ai O) bn) o (r,f2):=λa1 C W Z aj ap hm=>Ch Z aj ap λy XV iE g=>g.ns.elim λm pi=>⟨m,pi,λgR pT=>g.Az.elim λT q=>
  have w:=g.ar _ (.head _)
  have av:Mv [iE] y.s {y.s with heap:=gR}:=Mv.same pT
  hm _ _ ((g.ok.av av (λe db=>a9.mp db▸⟨g.off.2.1,g.off.1,g.off.2.2⟩) g.ok.bare).aq (e:=XV) ((pT.2 _ g.ne).trans q.1) w.2.1 w.2.2.2) ((g.le.av av λe db=>.inr (a9.mp db▸g.FP)).aq (.inl w.2.2.1) g.base) g.ap (.aq (q.2 _ (nb.g_ (W:=y.to _) (.inl w.2.2.1)) (nb.hD ..)))⟩
theorem M7(Ch:A3 d A O H g ai inner mk o f2 r)(Z:W.ab d)(aj:Tl d O H W)(ap:W.o=o)(f8:bV O.scope c=V)(hm:∀v y,y.ab d->Tl d O (Pv H c r) y->kw d (T0 O) W y->y.o=f2->C v y.s):f4 d.M A (Tw g inner O x mk G (eval ai O) (j (iU (.Name c KB) O))) C a1 W.s:=Ch Z aj ap λy XV iE g=>g.ns.elim λm pi=>g.Az.elim λT q=>by have w:=g.ar _ (.head _);have vi:=g.off;have YO:(y.aq XV T).B iE=bn:=(ss (Ne.symm g.ne)).trans vi.2.1;have M8:iE∉T0 O:=λq=>(aj.here q).elim λT gt=>dJ.mpr g.FP (b1 gt);have bU:¬(y.h.objs.size≤iE):=λq=>pi.elim λT U=>U.elim λbd U=>U.elim λWF U=>dJ.mpr q (b1 U.1);have jF:=g.le.aq (e:=XV) (T:=T) (.inl w.2.2.1) g.base;refine Fp (W:=y.aq XV T) f8 (g.ok.aq (e:=XV) q.1 w.2.1 w.2.2.2) (aj.f' jF) (.aq (q.2 _ (nb.g_ (.inl w.2.2.1)) (nb.hD ..))) λpR q9 xX kB a q8=>⟨m,pi.at' λT g=>kB.keep iE T g vi.1 M8 λa=>vi.2.2,λgR pT=>?_⟩;have av:Mv [iE] pR.s {pR.s with heap:=gR}:=Mv.same pT;have YP:pR.B iE=bn:=afk.mpr λT g=>(kB.eW _ _ g).elim (λU=>a' (YO.symm.trans U)) λU=>U.elim vi.1 bU;exact hm _ _ (q9.av av (λe db=>a9.mp db▸⟨YP,λq=>(kB.aH _ q).elim vi.1 bU,vi.2.2⟩) q9.bare) (xX.le (kw.refl.av av λe db=>.inl db) λe db np=>M8 (a9.mp np▸db)) ((jF.i0.trans kB).av av λe db=>.inr (a9.mp db▸g.FP)) (q8.trans g.ap)
end
structure A4(d:sw)(A:xs)(O:IN)(H:hf)(u ai bj:bv)(aI:p bv)(inner:KT)(o al f2:p ca)(n f1:p R)(cb:E)(fM:hf->aN)(gb:hf->c6):Prop where
 S:ib d A O H ai o (n,cb,al)
 gv:h8 O.scope inner u=V
 pQ:∀iF,iF.scope=n_ inner O->∀o0,a0 d A iF o0 (fM o0)
 hh:∀iF,iF.scope=n_ inner O->∀o0,nf d A iF o0 (gb o0)
 FQ:cb=2->qi u=V
 A2:cb=1->∀o0 o al f2 b I,h' (gb o0) aI o=j (b,al)->al=o/\(fM o0 bj al=j (I,f2)->f2=o)
 ae:H1 n.length=V
 h:kv (i2 (cb==1) (n_ inner O) u (dU inner H) fM gb aI bj) n al=j (f1,f2)
theorem M9(lf:zs au A){ai:bv}{f1:p R}(lw:A4 d A O H u ai bj aI inner o al f2 n f1 cb fM gb):A3 d A O H (.ListComp bj [⟨u,ai,aI,0⟩] inner h0) ai inner (newList []) o f2 (.ah f1):=M1 (oG:=SL ([]:p cd).toArray 0) (sW:=λe=>li d e []) (vh:=λe=>li d e f1) lw.S lw.gv lw.FQ rfl (λh=>k2 h (e6 _)) rfl (λh=>⟨[],0,h,.nil⟩) li.k codeAny_compStart_list (λfd t aa Ns ap fw=>YE t lf (fM:=fM) (gb:=gb) (lw.pQ _ fd) (lw.hh _ fd) (λh=>lw.A2 (bt.mp h)) lw.ae Ns aa (fd▸ap▸lw.h) fw) λa a q=>q.elim λb0 q=>q.elim λk q=>⟨_,q.1,λB AT gt=>.ah gt (q.2.mono AT)⟩
theorem YQ(lf:zs au A){ai:bv}{f1:p R}(lw:A4 d A O H u ai bj aI inner o al f2 n f1 cb fM gb):bH d A O H (eval (.ListComp bj [⟨u,ai,aI,0⟩] inner h0) O) o (.ah f1,f2):=YN (M9 lf lw)
theorem YR(lf:zs au A){ai:bv}{f1:p R}(lw:A4 d A O H u ai bj aI inner o al f2 n f1 cb fM gb){C:g7->nl->Prop}(Z:W.ab d)(aj:Tl d O H W)(ap:W.o=o)(f8:bV O.scope c=V)(hm:∀y,y.ab d->Tl d O (Pv H c (.ah f1)) y->kw d (T0 O) W y->y.o=f2->C () y.s):f4 d.M A (evalThenUse (.ListComp bj [⟨u,ai,aI,0⟩] inner h0) O (iU (.Name c KB) O)) C a1 W.s:=g1 (M7 (M9 lf lw) Z aj ap f8 λa y xz hc aw bG=>s2 (hm y xz hc aw bG))
end
structure CtxOk(d:sw)(J:Sc):Prop extends CxOk d J where
 gen:∀f xL,J.gen f=j xL->∃v,d.mg f=j v/\MO d J.au v xL
 range:J.fn "range"=bn
 zip:J.fn "zip"=bn
theorem fx(h:bb c=V):(c==("__debug__":X))=G/\(c==("__classdict__":X))=G/\c≠"__name__"/\(c==("super":X))=G:=by have h:=su h;simp only[Kg]at h;exact⟨h.1.1.1,h.1.1.2,eo.mp h.1.2,h.2⟩
theorem Tl.name{d:sw}{A:xs}{O:IN}{H:hf}(aj:Tl d O H W)(Uf:H.lookup c=j r)(f8:bb c=V)(h:∀v,wp d W.B W.ag v r->C v W.s):f4 d.M A (eval (.Name c x) O) C a1 W.s:=jY (aj.load Uf (fx f8).2.1 h) (fx f8).1
theorem j'{e b:ga}(h:(e&&b)=V):e=V/\b=V:=f3.mp h
theorem FT{J:Sc}{z:E}{bs:KT}{H:hf}{N:Type}{n eb:bv}{k:R->R->p ca->Y N}{f:N->p ca}{l:N}(YS:∀{o l},sB J z bs n H o=j l->l.2=o)(YT:∀{o l},sB J z bs eb H o=j l->l.2=o)(h:(s4 (sB J z bs n H o) λe al=>s4 (sB J z bs eb H al) (k e))=j l)(gl:∀e b f2,k e b f2=j l->f l=f2):f l=o:=b8 h λe al h1 h=>b8 h λb f2 ex h=>(gl e b f2 h).trans ((show f2=al from YT ex).trans (show al=o from YS h1))
theorem M'{J:Sc}{z:E}{bs:KT}{H:hf}{n:bv}{s:bv->ga}(ih:∀{g o l},sB J z bs g H o=j l->s g=V->l.2=o){l:ga×p ca}(h:qU (λg o=>sB J z bs g H o) n iq No o=j l)(fd:(s n&&No.all s)=V):l.2=o:=d2 h λpo h=>d2 (P:=λNo=>(s n&&No.all s)=V->l.2=o) h (λeb h fd=>Gt h λa h=>FT (f:=(·.2)) (λh=>ih h (j' fd).1) (λh=>ih h (j' (j' fd).2).1) h λa a a h=>d0 h λa a=>rfl) fd
theorem M_{J:Sc}(k:E):∀{z:E} {bs:KT} {g:bv} {H:hf} {o:p ca} {l:R×p ca},sB J z bs g H o=j l->AA k g=V->l.2=o:=by
 induction k with
 |zero=>exactλa=>dN
 |succ k ih=>
  intro z bs g H o l h fd;cases z with|zero=>cases h|succ z=>
  exact z' (P:=λg=>sB J (z+1) bs g H o=j l->l.2=o) fd (λt k x a h=>d0 (Wa.symm.trans h) λa a=>rfl) (λfd=>qG (P:=λg=>sB J (z+1) bs g H o=j l->l.2=o) fd (λc x a h=>Gt (Md.symm.trans h) λa h=>j2 h (λr a h=>aQ h rfl) λa h=>Gt h λa h=>d0 h λa a=>rfl) λfd=>DU (P:=λg=>sB J (z+1) bs g H o=j l->l.2=o) fd (λn po eb x fd h=>FT (f:=(·.2)) (λh=>ih h (j' fd).1) (λh=>ih h (j' fd).2) (AG.symm.trans h) λa a a h=>j2 h (λa a h=>aQ h rfl) λa h=>d0 h λa a=>rfl) λfd=>DZ (P:=λg=>sB J (z+1) bs g H o=j l->l.2=o) fd (λn iq No x fd h=>d0 (Wc.symm.trans h) λq wT=>M' ih wT fd) λfd=>D3 (P:=λg=>sB J (z+1) bs g H o=j l->l.2=o) fd
   (λv s x fd h=>D6 (P:=λs=>sB J (z+1) bs (.Subscript v s x) H o=j l->l.2=o) fd (λa a a a=>dN) (λfd h=>D6 (P:=λs=>AA k s=V->l.2=o) (AH.symm.trans h) (λa a a a a fd=>by cases k<;>exact nomatch (show G=V from fd))
    (λh np=>FT (f:=(·.2)) (λh=>ih h (j' fd).1) (λh=>ih h np) h λa a a h=>d0 h λa a=>rfl) (j' fd).2) h) dN) h
theorem Na{J:Sc}{z:E}{bs:KT}{H:hf}{l:R×p ca}(h:sB J z bs g H o=j l)(fd:gc g=V):l.2=o:=M_ 9 h fd
theorem YU{J:Sc}{z:E}{bs:KT}{H:hf}{l:ga×p ca}(h:cx J z bs g H o=j l)(fd:gc g=V):l.2=o:=by cases z with|zero=>cases h|succ z=>exact qI h (λa h=>b8 h λr al h1 h=>d0 h λa a=>Na h1 fd) λa h=>Lj (P:=λg=>gc g=V->l.2=o) h (λa a a fd=>nomatch (show G=V from fd)) (λh=>z5 (P:=λg=>gc g=V->l.2=o) h (λa a a a fd=>nomatch (show G=V from fd)) λh=>K3 (P:=λg=>gc g=V->l.2=o) h λn iq No x h fd=>M' (s:=AA 8) (M_ 8) h fd) fd
theorem Nb{ax:c6}:∀{o:p ca} {l:ga×p ca},(∀g o l,ax g o=j l->gc g=V->l.2=o)->aI.all gc=V->h' ax aI o=j l->l.2=o:=aI.rec (motive:=λaI=>∀{o:p ca} {l:ga×p ca},(∀g o l,ax g o=j l->gc g=V->l.2=o)->aI.all gc=V->h' ax aI o=j l->l.2=o) (λa a h=>aQ h rfl) λt aI ih {o l} f0 fd h=>b8 (EV.symm.trans h) λu al h1 h=>have g:al=o:=f0 _ _ _ h1 (j' fd).1;qI h (λa h=>(ih f0 (j' fd).2 h).trans g) λa h=>(GT ko (aO h)).symm.trans g
section
variable{d:sw}{J:Sc}{A:xs}
theorem YV{O:IN}{H:hf}{ax:c6}(a2:nf d A O H ax){po:pf}{eE:aP cd}{L:p bv}:∀{o:p ca} {l:ga×p ca},h9 ax po L o=j l->nd d A O H (g8 (.BoolOp po L h0) O eE) o l:=L.rec (motive:=λL=>∀{o:p ca} {l:ga×p ca},h9 ax po L o=j l->nd d A O H (g8 (.BoolOp po L h0) O eE) o l) (λ{o l} h=>aQ h λa1 C W Z aj ap hm=>po.casesOn (motive:=λpo=>C (po==.And) W.s->f4 d.M A (g8 (.BoolOp po [] h0) O eE) C a1 W.s) isTrue_and_nil isTrue_or_nil (hm W Z kw.refl ap)) λe L ih {o l} h=>b8 (ox.symm.trans h) λu al h1 h a1 C W Z aj ap hm=>
   have bR:∀t:ga,(po==.And)=t->f4 d.M A (g8 e O (eval e O)) (λb s=>if b=t then f4 d.M A (g8 (.BoolOp po L h0) O eE) C a1 s else C b s) a1 W.s:=λt f0=>
    (a2 _ _ _ h1).seq Z aj ap λnn Db cS Ok cm=>by
     rw[f0]at h;by_cases q:u=t;·rw[tt q];rw[q,jl]at h;exact ih h a1 C nn Db cS cm λu8 P3 Ix bI=>hm u8 P3 (Ok.trans Ix) bI
     ·rw[ss q];rw[eo.mpr q]at h;exact(show u=l.1 from GT k1 (aO h))▸hm nn Db Ok (cm.trans (show al=l.2 from GT ko (aO h)))
   po.casesOn (motive:=λpo=>(∀t:ga,(po==afA)=t->f4 d.M A (g8 e O (eval e O)) (λb s=>if b=t then f4 d.M A (g8 (.BoolOp po L h0) O eE) C a1 s else C b s) a1 W.s)->f4 d.M A (g8 (.BoolOp po (e::L) h0) O eE) C a1 W.s) (λk=>isTrue_and (cJ (k V rfl) (λb s h=>b.casesOn (motive:=λb=>(if b=V then f4 d.M A (g8 (.BoolOp .And L h0) O eE) C a1 s else C b s)->if b=V then f4 d.M A (g8 (.BoolOp .And L h0) O eE) C a1 s else C G s) id id h) λa a h=>h)) (λk=>isTrue_or (cJ (k G rfl) (λb s h=>b.casesOn (motive:=λb=>(if b=G then f4 d.M A (g8 (.BoolOp .Or L h0) O eE) C a1 s else C b s)->if b=V then C V s else f4 d.M A (g8 (.BoolOp .Or L h0) O eE) C a1 s) id id h) λa a h=>h)) bR
def A5(O:IN)(g:bv):Prop:=∀eE,g8 g O eE=(do let v <- eE;lM g.pos;pk [v] (Dc v))
theorem YW{O:IN}(h:AF g=V):A5 O g:=g.casesOn (motive_1:=λg=>AF g=V->A5 O g) (λa a a h=>nomatch (show G=V from h)) (λa a a a a=>rfl) (λa a a a a a=>rfl) (λpo I x h=>po.casesOn (motive:=λpo=>AF (.UnaryOp po I x)=V->A5 O (.UnaryOp po I x)) (λa a=>rfl) (λh=>nomatch (show G=V from h)) (λa a=>rfl) (λa a=>rfl) h) (λa a a a a a=>rfl) (λa a a a h=>nomatch (show G=V from h)) (λa a a a a=>rfl) (λa a a a a=>rfl) (λa a a a a a=>rfl) (λa a a a a a=>rfl) (λa a a a a a a=>rfl) (λa a a a a a=>rfl) (λa a a a=>rfl) (λa a a a=>rfl) (λa a a a=>rfl) (λa a a a h=>nomatch (show G=V from h)) (λa a a a a a=>rfl) (λa a a a a a=>rfl) (λa a a a=>rfl) (λa a a a a=>rfl) (λa a a a a=>rfl) (λa a a a a=>rfl) (λa a a a=>rfl) (λa a a a=>rfl) (λa a a a=>rfl) (λa a a a a=>rfl) (λa a a a a a=>rfl) h
theorem YX{O:IN}{H:hf}{af:aN}(a2:a0 d A O H af)(rs:A5 O g){l:ga×p ca}(h:(s4 (af g o) λr al=>(gu (view al r)).map λb=>(b,al))=j l):nd d A O H (g8 g O (eval g O)) o l:=Mk (F:=λo=>(s4 (af g o) λr al=>(gu (view al r)).map λb=>(b,al))=j l) h λa1 C W h ds K=>isTrue_plain (a2.go h ds λv r nn aU a Pi h=>gK h λb cr g=>AK (k:=λo=>j (b,o)) aU Pi cr g λy bi a g=>K b y bi g) (rs _)
theorem YY{O:IN}{H:hf}(ds:d.ab)(Ps:CxOk d J)(hd:(c==("__debug__":X))=G)(gl:df O.scope c=V)(h:J.fs c=j r):bH d A O H (eval (.Name c x) O) o (r,o):=λa1 C W Z aj ap hm=>(Ps.fs c r h).elim λv q=>sL (ds:=ds) Z aj hd gl q.1 (hm v W Z kw.refl ap (.aq (q.2 _ Z.base)))
theorem YZ{O:IN}{H:hf}(ds:d.ab)(Ps:CxOk d J){l:R×p ca}(h:EW J O.scope H c o=j l):bH d A O H (eval (.Name c x) O) o l:=Gt h λf8 h=>j2 h (λr hd h=>aQ h (AJ hd (fx f8).1 (fx f8).2.1)) λa h=>Gt h λOs h=>d0 h λr hd=>YY ds Ps (fx f8).1 Os hd
theorem Y0{O:IN}{H:hf}(ds:d.ab)(Ps:CxOk d J){T:bv}{e:X}{l:R×p ca}(h:E0 J O.scope H T e o=j l):bH d A O H (eval (.Attribute T e x) O) o l:=c5 h λc KB h=>Gt h λf8 h=>j2 h (λr hd h=>Vp h (λt s1 FB h=>dd h λaR xG h=>og h λwn Os h=>aQ h (WL (ds:=ds) (AJ hd (fx f8).1 (fx f8).2.1) FB (Ps.fld t e wn) xG Os)) a') λa h=>Gt h λOs h=>d0 h λr hd=>WM (ds:=ds) Os (fx f8).1 (Ps.i1 _ _ r hd)
theorem Y1{O:IN}{H:hf}{af:aN}(a2:a0 d A O H af){v s:bv}{l:R×p ca}(h:E2 af v s o=j l):bH d A O H (eval (.Subscript v s x) O) o l:=Ww (P:=λs=>bH d A O H (eval (.Subscript v s x) O) o l) h (λlo np aa xL h=>c5 (P:=λv=>bH d A O H (eval (.Subscript v (.Slice lo np aa xL) x) O) o l) h λc KB h=>qL (P:=λaa=>bH d A O H (eval (.Subscript (.Name c KB) (.Slice lo np aa xL) x) O) o l) h (WC a2)) (Wx a2)
theorem Y2{O:IN}{H:hf}{af:aN}(ds:d.ab)(Ps:CxOk d J)(lf:zs (J.au+8) A)(a2:a0 d A O H af){f:bv}{kx:p n4}{l:R×p ca}(h:E3 af J O.scope H f TE kx x o=j l):bH d A O H (eval (.Call f TE kx x) O) o l:=d1 (P:=λkx=>bH d A O H (eval (.Call f TE kx x) O) o l) h λh=>qG (P:=λf=>bH d A O H (eval (.Call f TE [] x) O) o l) h (λf KB h=>Gt h λf8 h=>j2 h (λr hd h=>Xj ds Ps a2 hd (fx f8).1 (fx f8).2.1 h) λa h=>Gt h λOs h=>Xo ds Ps lf a2 (j' Os).1 (su (j' Os).2) (fx f8).1 (fx f8).2.2.1 h) λh=>m2 (P:=λf=>bH d A O H (eval (.Call f TE [] x) O) o l) h λT m bX h=>qI h (λpc h=>eq_of_beq pc▸XI a2 h) λa h=>MH ds Ps lf a2 h
theorem Y3{A:xs}(lf:zs au A){O:IN}{H:hf}{ai:bv}{aa:ga}{c:Y (p R×E×p ca)}{l:p R×E×p ca}(fd:∀l,c=j l->ib d A O H ai o l)(h:AB H ai o aa c=j l):ib d A O H ai o l:=pz h λn cb al g h=>qI h (λa h=>c5 h λI x h=>Gt h λf8 h=>pC h λi Uf h=>AV (F:=λo=>(s4 (d4 (.am i) o) λr f2=>h4 r λbo=>pp (H1 bo.length)<|j (bo,0,f2))=j l) (λa=>rfl) h λa1 bP C W h ds K=>(AJ Uf (fx f8).1 (fx f8).2.1) a1 _ W ds.ok ds.aj rfl λv nn Db Ok cm Pi=>(ds.step Db Ok).aq Pi (cm.symm▸h:(s4 (d4 (.am i) nn.o) λr f2=>h4 r λbo=>pp (H1 bo.length)<|j (bo,0,f2))=j l) λaR u8 bh a fN pH h=>fN▸qN (P:=λaR=>x0 d u8.B v aR->f4 d.M A (d9 v) C bP u8.s) h (λbo h f=>Gt h λsc h=>f.i.elim λe q=>q.elim λL q=>q.elim λz q=>q.1▸AW lf (dj:=G) bh.ok sc (.inl ⟨_,_,q.2.1,q.2.2⟩) (K _ _ u8 bh h)) pH) λa h=>fd l (g.trans h)
theorem Y4{z:E}{bs:KT}{H:hf}{N:Type}{k:R->p ca->Y N}{U:N}{O:IN}(h:s4 (sB J z bs g H o) k=j U):∀c,pq g O c=pure c:=if q:g.ctorIdx=7 then @Expr.Set.elim (λg=>s4 (sB J z bs g H o) k=j U->∀c,pq g O c=pure c) g q (λe b t=>z.casesOn (motive:=λz=>s4 (sB J z bs (.Set e b t) H o) k=j U->∀c,pq (.Set e b t) O c=pure c) a' λz h=>nomatch (show bn=j U from h)) h else g.casesOn (motive_1:=λg=>g.ctorIdx≠7->∀c,pq g O c=pure c) (λa a a a a=>rfl) (λa a a a a=>rfl) (λa a a a a a=>rfl) (λa a a a a=>rfl) (λa a a a a a=>rfl) (λa a a a a a=>rfl) (λa a a a a=>rfl) (λa a a h=>aB rfl h) (λa a a a a a=>rfl) (λa a a a a a=>rfl) (λa a a a a a a=>rfl) (λa a a a a a=>rfl) (λa a a a=>rfl) (λa a a a=>rfl) (λa a a a=>rfl) (λa a a a a a=>rfl) (λa a a a a a=>rfl) (λa a a a a a=>rfl) (λa a a a=>rfl) (λa a a a a=>rfl) (λa a a a a=>rfl) (λa a a a a=>rfl) (λa a a a=>rfl) (λa a a a=>rfl) (λa a a a=>rfl) (λa a a a a=>rfl) (λa a a a a a=>rfl) q
theorem Y5(ds:d.ab)(Ps:CtxOk d J){O:IN}{H:hf}(lf:zs J.au A){af:aN}(a2:a0 d A O H af){f:X}{l:p R×E×p ca}(Os:df O.scope f=V)(h_:(f==("__debug__":X))=G)(h:s4 (c3 af TE o) (xq J f)=j l):ib d A O H (.Call (.Name f KB) TE [] x) o l:=b8 h λg3 al h1 h=>j2 h (λxL pK h=>(Ps.gen f xL pK).elim λv q=>Ye ds q.2 lf a2 Os q.1 h_ ((Op h1).trans h)) λa h=>fq h (λh=>b5 (P:=λf=>df O.scope f=V->ib d A O H (.Call (.Name f KB) TE [] x) o l) h (λh Os=>Yc lf ds Ps.toCxOk Ps.range a2 Os ((Op h1).trans h)) Os) λh=>b5 (P:=λf=>df O.scope f=V->ib d A O H (.Call (.Name f KB) TE [] x) o l) h (λh Os=>Yd lf ds Ps.toCxOk Ps.zip a2 Os ((Op h1).trans h)) Os
def FU(d:sw)(J:Sc)(A:xs)(z:E):Prop:=∀(O:IN) (H:hf),a0 d A O H (λg o=>sB J z O.scope g H o)/\nf d A O H (λg o=>cx J z O.scope g H o)/\(∀g o l,iC J z O.scope g H o=j l->ib d A O H g o l)
theorem Nc(lf:zs (J.au+8) A){z:E}(ih:FU d J A z){O:IN}{H:hf}{gens:p iS}{l:R×p ca}(h:AE (u2 J z) O.scope inner H bj gens o=j l):∃u ai aI n f1 al f2 cb,gens=[⟨u,ai,aI,0⟩]/\l=(.ah f1,f2)/\A4 d A O H u ai bj aI inner o al f2 n f1 cb (λH g o=>sB J z (d6 O.scope inner) g H o) (λH g o=>cx J z (d6 O.scope inner) g H o):=d2 h λt h=>U_ h λu ai aI h=>pz h λn cb al h1 h=>iX h λf0 h=>Gt h λY6 h=>b8 h λf1 f2 ln h=>Gt h λsc h=>aQ h ⟨u,ai,aI,n,f1,al,f2,cb,rfl,rfl,by have f0:=Kg.mp f0;have hh:∀o0,∀g o l,cx J z (n_ inner O) g o0 o=j l->gc g=V->l.2=o:=λo0 g o l h fd=>YU h fd;exact⟨Y3 (lf.less (e7 _ _)) (λl g=>(ih O H).2.2 _ _ _ g) h1,Y6,λiF rs o0=>(show iF.scope=d6 O.scope inner from rs)▸(ih iF o0).1,λiF rs o0=>(show iF.scope=d6 O.scope inner from rs)▸(ih iF o0).2.1,λh=>by rw[h]at f0;exact Ee f0.2,λgl o0 o al f2 b I ty=>by rw[gl]at f0;have fd:=j' (Ee f0.1);exact⟨Nb (hh o0) fd.2 ty,λrs=>(Na rs fd.1).trans (Nb (hh o0) fd.2 ty)⟩,sc,ln⟩⟩
theorem Y7(ds:d.ab)(Ps:CtxOk d J)(lf:zs (J.au+8) A){z:E}(ih:FU d J A z){O:IN}{H:hf}{gens:p iS}{l:R×p ca}(h:AE (u2 J z) O.scope inner H bj gens o=j l):bH d A O H (eval (.ListComp bj gens inner x) O) o l:=by obtain⟨u,ai,aI,n,f1,al,f2,cb,rfl,rfl,lw⟩:=Nc lf ih h;exact YQ (lf.less (e7 _ _)) lw
theorem nq(ds:d.ab)(Ps:CtxOk d J)(lf:zs (J.au+8) A)(z:E):FU d J A z:=by
 have q':zs J.au A:=lf.less (e7 _ _);have FV:=Ps.toCxOk;induction z with|zero=>exactλO H=>⟨λg o l=>a',λg o l=>a',λg o l=>a'⟩|succ z ih=>
 intro O H;have ed:=(ih O H).1;have FW:=(ih O H).2.1;have ahb:=(ih O H).2.2;refine⟨λg o l h=>?_,λg o l h=>?_,λg o l h=>?_⟩;·exact z' h (λt k x=>Wl) λh=>qG h (λc x=>YZ ds FV) λh=>DU h (λn po eb x=>WR ed) λh=>KX h (λpo c x=>XJ ed) λh=>z5 h (λpo L x=>Wq ed) λh=>DZ h (λn iq No x=>Wm ed lf) λh=>UI h (λu e b x=>Wr ed FW) λh=>D5 h (λbd x=>Wt ed) λh=>Aa h (λbd k x=>Wu ed) λh=>UJ h (λt3 L x=>XQ ds ed) λh=>D2 h (λT e x=>Y0 ds FV) λh=>D3 h (λv s x=>Y1 ed) λh=>z9 h (λf s5 t3 x=>Y2 ds FV lf ed) λh=>UR h (λL x=>WE ed) λh=>UM h λbj gens inner x=>Y7 ds Ps lf ih
 ·exact qI h (λln h=>YX ed (YW ln) h) λa h=>Lj (P:=λg=>nd d A O H (g8 g O (eval g O)) o l) h (λc x h=>d0 h λq wT a1 C W Z aj ap hm=>isTrue_not ((FW _ _ _ wT).seq Z aj ap λnn Db cS Ok cm=>hm nn Db Ok cm)) λh=>z5 (P:=λg=>nd d A O H (g8 g O (eval g O)) o l) h (λpo L x h=>YV FW h) λh=>K3 (P:=λg=>nd d A O H (g8 g O (eval g O)) o l) h λn iq No x h=>Wn ed lf h
 ·exact z9 h (λf TE kx x h=>d1 (P:=λkx=>ib d A O H (.Call f TE kx x) o l) h λh=>c5 (P:=λf=>ib d A O H (.Call f TE [] x) o l) h λf KB h=>Gt h λf0 h=>
   have Os:=(j' (j' f0).1).1
   have f8:=fx (j' f0).2
   Y5 ds Ps q' ed Os f8.1 h) λh=>Yb q' ed (Y4 h) h
end
abbrev St:=Y (bz×hf×p ca)
abbrev oH:=wP->hf->p ca->St
noncomputable def TT(cj:oH)(me:p wP):hf->p ca->St:=me.rec (λH o=>j (.next,H,o)) λs a ih H o=>js (cj s H o) λf o0 wE=>f.casesOn (ih o0 wE) (j (.brk,o0,wE)) (j (.cont,o0,wE)) λr=>j (.ret r,o0,wE)
theorem vj{cj:oH}{s:wP}{me:p wP}{H:hf}:TT cj (s::me) H o=js (cj s H o) λf o0 wE=>f.casesOn (TT cj me o0 wE) (j (.brk,o0,wE)) (j (.cont,o0,wE)) λr=>j (.ret r,o0,wE):=rfl
noncomputable def i7(f:bz)(H:hf)(o:p ca)(k:St):St:=f.casesOn k (j (.next,H,o)) k λr=>j (.ret r,H,o)
noncomputable def fQ(bs:KT)(u:bv)(dQ:hf->p ca->St)(n:p R):hf->p ca->St:=n.rec (λH o=>j (.next,H,o)) λr a ih H o=>b9 (d5 bs u r H) λbx=>js (dQ bx o) λf e' f2=>i7 f e' f2 (ih e' f2)
theorem FX{bs:KT}{dQ:hf->p ca->St}{H:hf}:fQ bs u dQ (r::n) H o=b9 (d5 bs u r H) λbx=>js (dQ bx o) λf e' f2=>i7 f e' f2 (fQ bs u dQ n e' f2):=rfl
noncomputable def gT(jh:hf->p ca->Y (ga×p ca))(dQ:hf->p ca->St)(z:E):hf->p ca->St:=z.rec (λa a=>bn) λa ih H o=>s4 (jh H o) λt al=>c9 t (js (dQ H al) λf e' f2=>i7 f e' f2 (ih e' f2)) (j (.next,H,al))
theorem xY{dQ:hf->p ca->St}{z:E}{H:hf}:gT jh dQ (z+1) H o=s4 (jh H o) λt al=>c9 t (js (dQ H al) λf e' f2=>i7 f e' f2 (gT jh dQ z e' f2)) (j (.next,H,al)):=rfl
noncomputable def q_(bs:KT)(c:X)(KB:wS)(g:bv):ga:=oe g (λa a inner h0=>bs.names.lookup c==j .local&&KB.line==h0.line&&!(inner.names.any λ(z,k)=>z==c&&(k==.local ||k==.cell))) G
noncomputable def vk(bs:KT)(c:X)(g:bv):ga:=oe g (λa a a a=>bs.names.lookup c==j .cell) G
noncomputable def ie(g:bv):ga:=g.ctorIdx==8 ||g.ctorIdx==9 ||g.ctorIdx==10
noncomputable def Nd(bs:KT)(Rs:p bv):ga:=Rs.all λu=>lV u (λc x=>bs.names.lookup c==j .local&&x.line==((Rs.head?.map (·.pos.line)).getD 0)) G
noncomputable def rU(c:X)(e:X)(r:R)(H:hf)(J:Sc)(o:p ca):Y (p ca):=lY (H.lookup c) λi=>w_ o[i]? λt s1=>pp (J.fld t e&&lK s1.length 900)<|j (o.set i (.inst t (Pv s1 e r)))
section
variable(J:Sc)(af:aN)(bs:KT)(H:hf)
noncomputable def Nf(c:X)(po:n3)(g:bv)(o:p ca):St:=pp (bb c)<|pp (bV bs c)<|b9 (H.lookup c) λe=>s4 (af g o) λb al=>b9 (qQ po (view al e) (view al b)) λr=>j (.next,Pv H c r,al)
noncomputable def Ng(c e:X)(po:n3)(g:bv)(o:p ca):St:=pp (bb c)<|lY (H.lookup c) λi=>w_ o[i]? λt s1=>b9 (s1.lookup e) λx=>pp (J.fld t e&&l6 x)<|s4 (af g o) λb al=>b9 (qQ po (view al x) (view al b)) λr=>(rU c e r H J al).map λf2=>(.next,H,f2)
noncomputable def Y8(u:bv)(po:n3)(g:bv)(o:p ca):St:=lV u (λc a=>Nf af bs H c po g o)<|lU u λT e a=>cZ T λc a=>Ng J af H c e po g o
noncomputable def Nh(c:X)(g:bv)(o:p ca):St:=w4 g (λbd a=>pI af bd o λg3 f2=>j (.next,Pv H c (.am f2.length),f2++[.list g3]))<|uA g (λn po l a=>s4 (af n o) λe al=>s4 (af l al) λb f2=>eF (jy po (view f2 e) (view f2 b)) (λk=>j (.next,Pv H c (.am f2.length),f2++[.list k]))<|(iB po (view f2 e) (view f2 b)).map λr=>(.next,Pv H c r,f2))<|(af g o).map λx=>(.next,Pv H c x.1,x.2)
noncomputable def FY(vl mf nr g:bv)(o:p ca):St:=cZ vl λc a=>cZ mf λI a=>cZ nr λU a=>pp (!ie g)<|pp (bV bs c)<|pp (bV bs I)<|pp (bV bs U)<|s4 (af g o) λr al=>pp (d_ r)<|j (.next,Pv (Pv (Pv H c r) I r) U r,al)
noncomputable def Ni(Rs:p bv)(L:p bv)(k:E)(x:wS)(o:p ca):St:=eT Rs λvl mf=>cZ vl λc KB=>cZ mf λI py=>eT L λe b=>pp (Nd bs [.Name c KB,.Name I py])<|pp (!(c==I))<|pp (!(Tx 8 e))<|pp (!(Tz 8 e))<|pp (jU e)<|pp (jU b)<|s4 (af (.Tuple [e,b] k x) o) λr al=>w9 r λn=>eT n λt r=>j (.next,Pv (Pv H I r) c t,al)
noncomputable def Y9(Rs:p bv)(k:E)(x:wS)(g:bv)(o:p ca):St:=m3 g (λL k x=>Ni af bs H Rs L k x o)<|pp (!ie g)<|s4 (af g o) λr al=>(d5 bs (.Tuple Rs k x) r H).map λo0=>(.next,o0,al)
noncomputable def FZ(c e:X)(bd:p bv)(o:p ca):St:=pI af bd o λg3 f2=>(rU c e (.am f2.length) H J (f2++[.list g3])).map λew=>(.next,H,ew)
noncomputable def Nj(c e:X)(g:bv)(o:p ca):St:=w4 g (λbd a=>FZ J af H c e bd o)<|s4 (af g o) λr al=>(rU c e r H J al).map λf2=>(.next,H,f2)
noncomputable def F0(c I:X)(g:bv)(o:p ca):St:=s4 (af g o) λr al=>lY (H.lookup c) λi=>Lm (H.lookup I) λk=>k_ al[i]? λn=>pp (d_ r)<|pp (H1 n.length)<|pp (decide (0≤k))<|pp (decide (k.toNat<n.length))<|pp (bb c)<|pp (bb I)<|j (.next,H,al.set i (.list (n.set k.toNat r)))
noncomputable def F1(u g:bv)(o:p ca):St:=lV u (λc KB=>pp (bV bs c)<|pp (!(ie g&&!(q_ bs c KB g ||vk bs c g)))<|Nh af H c g o)<|m3 u (λRs k x=>Y9 af bs H Rs k x g o)<|w2 u (λT e a=>cZ T λc a=>pp (!ie g)<|pp (bb c)<|Nj J af H c e g o)<|D4 u λT s a=>cZ T λc a=>cZ s λI a=>pp (!ie g)<|F0 af H c I g o
noncomputable def Nk(Rs:p bv)(g:bv)(o:p ca):St:=qJ Rs λu l=>l.rec (F1 J af bs H u g o) λmf l a=>bY l λnr=>FY af bs H u mf nr g o
noncomputable def Nl(Rs:p bv)(o:p ca):St:=bY Rs λu=>D4 u λT s a=>K9 s λe b t a=>kq e<|kq b<|kq t<|s4 (af T o) λr al=>uK r λi=>k_ al[i]? λn=>pp (H1 n.length)<|j (.next,H,al.set i (.list []))
end
section
variable(J:Sc)(z:E)(sK:oH)(bs:KT)(H:hf)
noncomputable def Y'(u ai:bv)(b:p wP)(o:p ca):St:=eF (J.hI bs ai) (λf=>s4 (f H o) λn al=>fQ bs u (TT sK b) n H al)<|js (iC J z bs ai H o) λn cb al=>b' cb 0<|fQ bs u (TT sK b) n H al
noncomputable def Nm(aa:wP)(o:p ca):St:=
 let af:aN:=λg o=>sB J z bs g H o
 D_ aa (λa=>j (.next,H,o))<|Ea aa (λa=>j (.brk,H,o))<|Ab aa (λg a=>eF g (λg=>(af g o).map λx=>(.ret x.1,H,x.2)) (j (.ret .none,H,o)))<|wExpr aa (λg a=>pp (g.ctorIdx==16)<|(af g o).map λx=>(.next,H,x.2))<|
 sr aa (λu b T a=>s4 (cx J z bs u H o) λt al=>TT sK (c9 t b T) H al)<|w5 aa (λu b T a=>dS T<|gT (cx J z bs u) (TT sK b) J.turns H o)<|uD aa (λu ai b T a=>dS T<|Y' J z sK bs H u ai b o)<|
 D9 aa (λb fd T f a=>dS T<|dS f<|qJ fd λa a=>TT sK b H o)<|D8 aa (λu po g a=>Y8 J af bs H u po g o)<|uC aa (λRs g a=>Nk J af bs H Rs g o)<|K' aa λRs a=>Nl af H Rs o
end
noncomputable def bq(J:Sc)(z:E):KT->wP->hf->p ca->St:=z.rec (λa a a a=>bn) λz sK bs aa H o=>eF (J.ext bs aa) (λf=>(f H o).map λx=>(.next,x.1,x.2)) (Nm J z (sK bs) bs H aa o)
theorem i8{J:Sc}{z:E}{bs:KT}{aa:wP}{H:hf}:bq J (z+1) bs aa H o=eF (J.ext bs aa) (λf=>(f H o).map λx=>(.next,x.1,x.2)) (Nm J z (bq J z bs) bs H aa o):=rfl
variable{cj:oH}
inductive nt(d:sw)(W:nb):fG->bz->Prop|next:nt d W .next .next|brk:nt d W .brk .brk|cont:nt d W .cont .cont|ret {v:cd} {r:R}:wp d W.B W.ag v r->nt d W (.ret v) (.ret r)
section
variable(d:sw)(A:xs)(O:IN)
def aW(u:aP fG)(H:hf)(o:p ca)(l:bz×hf×p ca):Prop:=∀(a1:cd->nl->Prop) (C:fG->nl->Prop) (W:nb),W.ab d->Tl d O H W->W.o=o->(∀f y,y.ab d->Tl d O l.2.1 y->kw d (T0 O) W y->y.o=l.2.2->nt d y f l.1->C f y.s)->f4 d.M A u C a1 W.s
def sZ(cj:oH):Prop:=∀aa H o l,cj aa H o=j l->aW d A O (exec aa O) H o l
end
def Y_(d:sw)(W:nb)(f:fG):bz->Prop|.next=>f=.next|.brk=>f=.brk|.cont=>f=.cont|.ret r=>∃v,f=.ret v/\wp d W.B W.ag v r
theorem nt.i{d:sw}{f:fG}{dm:bz}(h:nt d W f dm):Y_ d W f dm:=h.casesOn rfl rfl rfl λl=>⟨_,rfl,l⟩
section
variable{d:sw}{J:Sc}{A:xs}{O:IN}{H:hf}{l:bz×hf×p ca}
structure gg(d:sw)(O:IN)(H:hf)(W y:nb):Prop where
 ok:y.ab d
 aj:Tl d O H y
 le:kw d (T0 O) W y
theorem gg.refl(Z:W.ab d)(aj:Tl d O H W):gg d O H W W:=⟨Z,aj,kw.refl⟩
theorem gg.go(ds:gg d O H un W):bO d O H W W:=⟨ds.ok,ds.aj,kw.refl⟩
theorem gg.to(ds:gg d O H un W)(a2:bO d O H W y):gg d O H un y:=⟨a2.ok,a2.aj,ds.le.trans a2.le.i0⟩
theorem gg.then(ds:gg d O H un W)(a2:gg d O o0 W y):gg d O o0 un y:=⟨a2.ok,a2.aj,ds.le.trans a2.le⟩
def xZ(d:sw)(O:IN)(W:nb)(l:bz×hf×p ca)(C:fG->nl->Prop):Prop:=∀f dm o0 y,gg d O o0 W y->nt d y f dm->j (dm,o0,y.o)=j l->C f y.s
theorem kC{F:p ca->Prop}{u:aP fG}(az:F o)(h:∀a1 C W,F W.o->gg d O H W W->xZ d O W l C->f4 d.M A u C a1 W.s):aW d A O u H o l:=λa1 C W Z aj ap hm=>h a1 C W (ap.symm▸az) (.refl Z aj) λf dm o0 y ds cD g=>by cases g;exact hm f y ds.ok ds.aj ds.le rfl cD
theorem aW.go{u:aP fG}{e:bz×hf×p ca}(a7:aW d A O u H W.o e){N:Type}{k:bz->hf->p ca->Y N}{c:N}(h:k e.1 e.2.1 e.2.2=j c)(ds:gg d O H un W){C:fG->nl->Prop}(hm:∀f dm o0 y,gg d O o0 un y->kw d (T0 O) W y->nt d y f dm->k dm o0 y.o=j c->C f y.s):f4 d.M A u C a1 W.s:=a7 _ _ _ ds.ok ds.aj rfl λf y Z aj le ap cD=>hm f _ _ y (ds.then ⟨Z,aj,le⟩) le cD (ap.symm▸h)
theorem aW.at{u:aP fG}(a7:aW d A O u H W.o l)(ds:gg d O H un W){C:fG->nl->Prop}(K:xZ d O un l C):f4 d.M A u C a1 W.s:=a7.go (k:=λe b t=>j (e,b,t)) (c:=l) rfl ds λf dm o0 y bi a cD g=>K f dm o0 y bi cD g
theorem s6(a2:sZ d A O cj){me:p wP}:∀{H:hf} {o:p ca} {l:bz×hf×p ca},TT cj me H o=j l->aW d A O (oa me O) H o l:=me.rec (motive:=λme=>∀{H:hf} {o:p ca} {l:bz×hf×p ca},TT cj me H o=j l->aW d A O (oa me O) H o l) (λ{H o l} h=>kC (F:=λo=>j (bz.next,H,o)=j l) h λa1 C W g ds K=>Kh (K _ _ _ _ ds .next g)) λaa me ih {H o l} h=>pz (vj.symm.trans h) λdm bx al h1 h a1 C W Z aj ap hm=>by
   refine wpAny_execs_cons (a2 _ _ _ _ h1 a1 _ W Z aj ap λf nn Db cS Ok cm cD=>?_);have bN:j (dm,bx,al)=j l->C f nn.s:=λg=>by cases g;exact hm f nn Db cS Ok cm cD
   cases dm with|next=>rw[show f=.next from cD.i];exact ih h a1 C nn Db cS cm λf u8 P3 dO Ix bI cD=>hm f u8 P3 dO (Ok.trans Ix) bI cD|brk=>have g:f=.brk:=cD.i;rw[g]at bN⊢;exact bN h|cont=>have g:f=.cont:=cD.i;rw[g]at bN⊢;exact bN h|ret r=>obtain⟨v,g,_⟩:=cD.i;rw[g]at bN⊢;exact bN h
theorem aW.Za{l:R×p ca}(h:bH d A O H (eval g O) o l):aW d A O (exec (.Return (j g) h0) O) H o (.ret l.1,H,l.2):=λa1 C W Z aj ap hm=>wpAny_Return_some (h.seq Z aj ap λv y xz hc aw bG ay=>hm _ y xz hc aw.i0 bG (.ret ay))
theorem Zb:aW d A O (exec (.Return bn h0) O) H o (.ret .none,H,o):=λa1 C W Z aj ap hm=>wpAny_Return_none (hm _ W Z aj kw.refl ap (.ret (.aq .none)))
theorem Zc:aW d A O (exec (.Pass h0) O) H o (.next,H,o):=λa1 C W Z aj ap hm=>wpAny_Pass (hm _ W Z aj kw.refl ap .next)
theorem Zd:aW d A O (exec (.Break h0) O) H o (.brk,H,o):=λa1 C W Z aj ap hm=>by show f4 d.M A (do lM h0;pure .brk) C a1 W.s;exact g1 (fF (s2 (hm _ W Z aj kw.refl ap .brk)))
theorem A6{u:Y bv}{n:E}(h:ie g=G):qA g u n O=pure G:=g.casesOn (motive_1:=λg=>ie g=G->qA g u n O=pure G) (λa a a a=>rfl) (λa a a a=>rfl) (λa a a a a=>rfl) (λa a a a=>rfl) (λa a a a a=>rfl) (λa a a a a=>rfl) (λa a a a=>rfl) (λa a a a=>rfl) (λa a a a h=>nomatch (show V=G from h)) (λa a a a h=>nomatch (show V=G from h)) (λa a a a a h=>nomatch (show V=G from h)) (λa a a a a=>rfl) (λa a a=>rfl) (λa a a=>rfl) (λa a a=>rfl) (λa a a a a=>rfl) (λa a a a a=>rfl) (λa a a a a=>rfl) (λa a a=>rfl) (λa a a a=>rfl) (λa a a a=>rfl) (λa a a a=>rfl) (λa a a=>rfl) (λa a a=>rfl) (λa a a=>rfl) (λa a a a=>rfl) (λa a a a a=>rfl) h
theorem F2(aj:Tl d O H W):TA O=G:=by unfold TA;rw[aj.kind];rfl
theorem F3{l:R×p ca}(f0:(g.ctorIdx==16)=V)(h:bH d A O H (eval g O) o l):aW d A O (exec (.Expr g h0) O) H o (.next,H,l.2):=λa1 C W Z aj ap hm=>by
 rw[exec_Expr O g h0 (F2 aj) (@Expr.Call.elim (λg=>qA g bn h0.line O=pure G) g (eq_of_beq f0) λa a a a=>rfl)];refine g1 (fF (g1 (h.seq Z aj ap λv y xz hc aw bG ay=>?_)));have bN:=hm .next y xz hc aw.i0 bG .next
 refine @Expr.Call.elim (λg=>f4 d.M A (dropValue g h0 v) C a1 y.s) g (eq_of_beq f0) λf s5 t3 x=>?_;cases v with|ref e=>exact g1 (fF (g1 (Ki (n' entry_let_go (show f4 _ _ (ret .none) _ _ y.s from s2 (s2 bN))))))|_=>exact s2 bN
theorem Ze{b T:p wP}{ax:c6}(xu:nf d A O H ax)(a2:sZ d A O cj)(h:(s4 (ax u o) λt al=>TT cj (c9 t b T) H al)=j l):aW d A O (exec (.If u b T h0) O) H o l:=kC (F:=λo=>(s4 (ax u o) λt al=>TT cj (c9 t b T) H al)=j l) h λa1 C W h ds K=>wpAny_If (xu.go h ds.go λt nn aU a h=>t.casesOn (motive:=λt=>TT cj (c9 t b T) H nn.o=j l->if t=V then f4 d.M A (oa b O) C a1 nn.s else f4 d.M A (oa T O) C a1 nn.s) (λh=>(s6 a2 h).at (ds.to aU) K) (λh=>(s6 a2 h).at (ds.to aU) K) h)
@[elab_as_elim] theorem Nn{f:fG}{dm:bz}{Ch:fG->Prop}(cD:nt d W f dm){k:St}(h:i7 dm H o k=j l)(tY:k=j l->Ch .next)(Fa:k=j l->Ch .cont)(xi:j (.next,H,o)=j l->Ch .brk)(EQ:∀v r,wp d W.B W.ag v r->j (.ret r,H,o)=j l->Ch (.ret v)):Ch f:=cD.casesOn (motive:=λf dm a=>i7 dm H o k=j l->Ch f) tY xi Fa (λay=>EQ _ _ ay) h
inductive Np(d:sw)(O:IN)(un:nb)(Nq:E->hf->p ca->St)(l:bz×hf×p ca):E->nl->Prop|mk (z:E) (H:hf) (W:nb):gg d O H un W->Nq z H W.o=j l->Np d O un Nq l z W.s
theorem Zf{b:p wP}{ax:hf->c6}(xu:∀H,nf d A O H (ax H))(a2:sZ d A O cj){z:E}(h:gT (λH o=>ax H u o) (TT cj b) z H o=j l):aW d A O (exec (.While u b [] h0) O) H o l:=kC (F:=λo=>gT (λH o=>ax H u o) (TT cj b) z H o=j l) h λa1 C W h ds K=>by
  refine wpAny_While (codeAny_whileLoop (Np d O W (gT (λH o=>ax H u o) (TT cj b)) l) (λz s a7=>?_) z (.mk z H W ds h));clear h ds;induction a7 with
  |mk H nn ds h=>
   cases z with
   |zero=>cases h
   |succ z=>
    refine(xu H).go (xY.symm.trans h) ds.go λt u8 bh a h=>qI h (λF4 h=>?_) λF4 h=>?_;·rw[tt F4];refine pz h λdm F5 ew h1 h=>(s6 a2 h1).go (k:=λdm H o=>i7 dm H o (gT (λH o=>ax H u o) (TT cj b) z H o)) h (ds.to bh) λf dm F5 ZB fO a cD h=>?_;exact Nn cD h (λh=>⟨z,gp _,.mk z F5 ZB fO h⟩) (λh=>⟨z,gp _,.mk z F5 ZB fO h⟩) (λg=>K _ _ _ ZB fO .next g) λv r ay g=>K _ _ _ ZB fO (.ret ay) g
    ·rw[ss (by rw[F4];decide)];exact Kh (K _ _ _ u8 (ds.to bh) .next h)
structure s7(d:sw)(A:xs)(ai:cd)(Inv:ga->p kt->p R->nb->Prop):Prop where
 next:∀{a1 bP:cd->nl->Prop} {C:cd->nl->Prop} {u:bv} {W:nb} {r:R} {l:p R} {lv:p kt} {b:ga},W.ab d->Inv b lv (r::l) W->
  (∀v y x1,y.ab d->kw d lv W y->y.o=W.o->(∀e∈x1,e∈lv\/W.h.objs.size≤e)->x0 d y.B v r->Inv V x1 l y->C v y.s)->
  f4 d.M A (hu ai) (λT s0=>∃v,T=j v/\f4 d.M A (qy u ai v) (λa aD=>C v aD) bP s0) a1 W.s
 done:∀{a1:cd->nl->Prop} {C:nl->Prop} {W:nb} {lv:p kt} {b:ga},W.ab d->Inv b lv [] W->(∀y,y.ab d->kw d lv W y->y.o=W.o->C y.s)->f4 d.M A (hu ai) (λT it=>T=bn/\C it) a1 W.s
 fP:∀{W y:nb} {sK lv:p kt} {l:p R},W.ab d->y.ab d->Inv V lv l W->kw d sK W y->(∀e∈lv,e∉sK)->Inv V lv l y
def pU(d:sw)(A:xs)(O:IN)(H:hf)(g:bv)(o:p ca)(l:p R×p ca):Prop:=(∀c,pq g O c=pure c)/\∀(a1 bP:cd->nl->Prop) (C:cd->nl->Prop) (W:nb),W.ab d->Tl d O H W->W.o=o->(∀ai lv Inv y,y.ab d->kw d [] W y->y.o=l.2->s7 d A ai Inv->Inv G lv l.1 y->(∀e∈lv,W.h.objs.size≤e)->C ai y.s)->f4 d.M A (eval g O) (λc s0=>f4 d.M A (d9 c) C bP s0) a1 W.s
theorem s7.nextK{ai:cd}{Inv:ga->p kt->p R->nb->Prop}(ec:s7 d A ai Inv){l:p R}{b:ga}{K:Y cd->nl->Prop}(Z:W.ab d)(Ns:Inv b lv (r::l) W)(hm:∀v y x1,y.ab d->kw d lv W y->y.o=W.o->(∀e∈x1,e∈lv\/W.h.objs.size≤e)->x0 d y.B v r->Inv V x1 l y->C v y.s)(lT:∀v s,f4 d.M A (qy u ai v) (λa s=>C v s) bP s->K (j v) s):f4 d.M A (hu ai) K a1 W.s:=cJ (ec.next Z Ns hm) (λT s q=>q.elim λv q=>q.1▸lT v s q.2) λa a g=>g
inductive F6(d:sw)(O:IN)(un:nb)(Inv:ga->p kt->p R->nb->Prop)(ra:p R->hf->p ca->St)(l:bz×hf×p ca):E->nl->Prop|mk (H:hf) (W:nb) (n:p R) (lv:p kt) (t:ga) (ds:gg d O H un W) (Ns:Inv t lv n W) (bg:∀e∈lv,un.h.objs.size≤e) (h:ra n H W.o=j l):F6 d O un Inv ra l (n.length+1) W.s
theorem Nr(lf:zs au A){ai:bv}{b:p wP}(a2:sZ d A O cj)(S:pU d A O H ai o (n,al))(h:fQ O.scope u (TT cj b) n H al=j l):aW d A O (exec (.For u ai b [] h0) O) H o l:=λa1 C W Z aj ap hm=>by
 have K:xZ d O W l C:=λf dm o0 y ds cD g=>by cases g;exact hm f y ds.ok ds.aj ds.le rfl cD
 refine wpAny_For (S.2 _ _ _ W Z aj ap λM2 lv Inv nn Db Ok cm ec Ns bg=>?_) S.1;have F7:∀{lv:p kt},(∀e∈lv,W.h.objs.size≤e)->∀e∈lv,e∉T0 O:=λbg e db rs=>(aj.here rs).elim λT gt=>aB (b1 gt) (dJ.mpr (bg e db));refine codeAny_forLoop_any (F6 d O W Inv (fQ O.scope u (TT cj b)) l) (λz s a7=>?_) (n.length+1) (.mk H nn n lv G ⟨Db,aj.f' Ok,Ok.i0⟩ Ns bg ((show nn.o=al from cm).symm▸h));clear hm S h Ns bg;induction a7 with|mk H y n lv t ds q6 bg h=>have stepI:∀{u8:nb},u8.ab d->kw d lv y u8->gg d O H W u8:=λP3 Ix=>⟨P3,ds.aj.le Ix λe db np=>F7 bg e np db,ds.le.then' Z Ix λe db=>.inr (bg e db)⟩;cases n with|nil=>exact cJ (ec.done ds.ok q6 (C:=λit=>C .next it) λu8 P3 Ix bI=>K _ _ H u8 (stepI P3 Ix) .next (bI.symm▸h)) (λT it q=>q.1▸Kh q.2) λa a g=>g|cons r n=>refine dd (FX.symm.trans h) λbx cr h=>pz h λdm e' f2 ex h=>ec.nextK (u:=u) ds.ok q6 (λv u8 Nt P3 Ix bI x2 bZ q5=>?_) λa a q=>q;have bh:=stepI P3 Ix;have F8:∀e∈Nt,W.h.objs.size≤e:=λe db=>(x2 e db).elim (bg e) λh=>aJ ds.le.size h;refine AX lf cr P3 bh.aj (.aq bZ) λZB cy nu bL a eY=>(s6 a2 ((eY.trans bI).symm▸ex)).go (k:=λdm H o=>i7 dm H o (fQ O.scope u (TT cj b) n H o)) h (un:=W) ⟨cy,nu,bh.le.trans bL⟩ λf dm Nu e1 rb fh cD h=>?_;have Sz:fQ O.scope u (TT cj b) n Nu e1.o=j l->vd (F6 d O W Inv (fQ O.scope u (TT cj b)) l) ((r::n).length+1) e1.s:=λh=>⟨n.length+1,gp _,.mk Nu e1 n Nt V rb (ec.fP cy rb.ok (ec.fP P3 cy q5 bL (F7 F8)) fh (F7 F8)) F8 h⟩;exact Nn cD h Sz Sz (λg=>K _ _ _ e1 rb .next g) λv r ay g=>K _ _ _ e1 rb (.ret ay) g
theorem ng.toD{ai:cd}{Inv:p R->nb->Prop}(ec:ng d A ai lv Inv G G):s7 d A ai λa gs n W=>gs=lv/\Inv n W where
 next:=λZ Ns hm=>ec.next dN Z Ns.2 λv y xz aw bG bZ q6=>hm v y lv xz (Ns.1▸aw) bG (λe db=>.inl (Ns.1▸db)) bZ ⟨rfl,q6⟩
 done:=λZ Ns hm=>ec.done Z Ns.2 λy xz aw=>hm y xz (Ns.1▸aw)
 fP:=λZ xz Ns le Tk=>⟨Ns.1,ec.fP Z xz Ns.2 le (Ns.1▸Tk) dN⟩
theorem Zg(lf:zs au A){ai:bv}{b:p wP}(a2:sZ d A O cj)(S:ib d A O H ai o (n,0,al))(h:fQ O.scope u (TT cj b) n H al=j l):aW d A O (exec (.For u ai b [] h0) O) H o l:=Nr lf a2 ⟨S.1,λa1 bP C W Z aj ap hm=>S.2 a1 bP C W Z aj ap λai lv Inv y xz aw bG np Ns bg=>hm ai lv _ y xz aw bG (ng.toD np) ⟨rfl,Ns⟩ bg⟩ h
theorem Zh{b:p wP}{aey:zw}{fd:p zw}(a2:sZ d A O cj)(h:TT cj b H o=j l):aW d A O (exec (.Try b (aey::fd) [] [] h0) O) H o l:=by intro a1 C W Z aj ap hm;refine wpAny_Try_except (s6 a2 h _ _ W Z aj ap λf nn Db cS Ok cm cD=>?_);have bN:=hm f nn Db cS Ok cm cD;clear hm cD;cases f with|next=>exact Kh bN|_=>exact bN
end
section
variable{d:sw}{J:Sc}{A:xs}{O:IN}{H:hf}
theorem x3{l:R×p ca}(f8:bV O.scope c=V)(f0:ie g=G)(h:bH d A O H (eval g O) o l):aW d A O (exec (.Assign [.Name c KB] g h0) O) H o (.next,Pv H c l.1,l.2):=λa1 C W Z aj ap hm=>zN (h.seq Z aj ap λv nn Db cS Ok cm Pi=>xO f8 Db cS Pi λu8 P3 dO Ix a bI=>hm _ u8 P3 dO (Ok.i0.trans Ix) (bI.trans cm) .next) (A6 f0)
variable{l:bz×hf×p ca}
theorem gg.store(ds:gg d O H un W)(f8:bV O.scope c=V)(ay:wp d W.B W.ag v r){C:g7->nl->Prop}(hm:∀y,gg d O (Pv H c r) un y->kw d (T0 O) W y->y.o=W.o->C () y.s):f4 d.M A (zA O c v) C a1 W.s:=xO f8 ds.ok ds.aj ay λy Z aj le a ap=>hm y (ds.then ⟨Z,aj,le⟩) le ap
theorem Zi(Z:W.ab d)(f:Is d W.B L g3):∃y,y.ab d/\kw d [] W y/\y.o=W.o++[.list g3]/\y.s={W.s with heap:=W.h.push (SL L.toArray 0)}/\wp d y.B y.ag (.ref W.h.objs.size) (.am W.o.length):=
 have ff:=Z.fresh (Da W.h.objs.size)
 have Db:=Z.push (SL L.toArray 0)
 ⟨_,Db.cell (x:=(W.h.objs.size,W.h.objs.size)) (t:=.list g3) ⟨rfl,L,0,dK _ rfl,f⟩ λa=>⟨ff.2.1,ff.1,ff.2.2⟩,(kw.refl.push _).cell Db (Da _),rfl,rfl,.am (by show(W.ag++[(W.h.objs.size,W.h.objs.size)])[W.o.length]?=j (W.h.objs.size,W.h.objs.size);rw[<- Z.len,TB (Da _),Dp];rfl)⟩
theorem F9(ds:bO d O H un W)(f:Is d W.B L g3)(hm:∀y,bO d O H un y->y.o=W.o++[.list g3]->wp d y.B y.ag (.ref W.h.objs.size) (.am W.o.length)->C (.ref W.h.objs.size) y.s):C (.ref W.h.objs.size) {W.s with heap:=W.h.push (SL L.toArray 0)}:=(Zi ds.ok f).elim λy q=>q.2.2.2.1▸hm y (ds.step q.1 q.2.1) q.2.2.1 q.2.2.2.2
theorem Zj{af:aN}(a2:a0 d A O H af){bd:p bv}(f8:bV O.scope c=V)(h:(pI af bd o λg3 f2=>j (bz.next,Pv H c (.am f2.length),f2++[.list g3]))=j l):aW d A O (exec (.Assign [.Name c KB] (.List bd x) h0) O) H o l:=kC (F:=λo=>(pI af bd o λg3 f2=>j (bz.next,Pv H c (.am f2.length),f2++[.list g3]))=j l) h λa1 C W h ds K=>zN (E9 a2 h ds.go λL g3 nn aU f g=>F9 aU f (C:=λv s=>f4 d.M A (zA O c v) (λa=>C .next) a1 s) λu8 bh bI eI=>(ds.to bh).store f8 eI λZB fO a eY=>K _ _ _ ZB fO .next ((eY.trans bI).symm▸g)) rfl
theorem Zk{af:aN}(a2:a0 d A O H af){n f:bv}(f8:bV O.scope c=V)(h:(s4 (af n o) λe al=>s4 (af f al) λb f2=>eF (jy po (view f2 e) (view f2 b)) (λk=>j (bz.next,Pv H c (.am f2.length),f2++[.list k]))<|(iB po (view f2 e) (view f2 b)).map λr=>(bz.next,Pv H c r,f2))=j l):aW d A O (exec (.Assign [.Name c KB] (.BinOp n po f x) h0) O) H o l:=b8 h λe al h1 eg=>b8 eg λb f2 ex eg=>j2 eg (λk gl g=>kC (F:=λo=>(s4 (af n o) λe al=>s4 (af f al) λb f2=>b9 (jy po (view f2 e) (view f2 b)) λk=>j (bz.next,Pv H c (.am f2.length),f2++[.list k]))=j l) ((Op h1).trans ((Op ex).trans ((eS gl).trans g))) λa1 C W h ds K=>zN (Mw (k:=λk f2=>j (bz.next,Pv H c (.am f2.length),f2++[.list k])) a2 h ds.go λL g3 nn aU f g=>F9 aU f (C:=λv s=>f4 d.M A (zA O c v) (λa=>C .next) a1 s) λu8 bh bI eI=>(ds.to bh).store f8 eI λZB fO a eY=>K _ _ _ ZB fO .next ((eY.trans bI).symm▸g)) rfl) λa eg=>d0 eg λr hd=>x3 (l:=(r,f2)) f8 rfl (Ml a2 ((Op h1).trans ((Op ex).trans (GT (n7 λr=>(r,f2)) hd))))
theorem Zl{af:aN}(a2:a0 d A O H af)(h:Nf af O.scope H c po g o=j l):aW d A O (exec (.AugAssign (.Name c KB) po g h0) O) H o l:=Gt h λf8 h=>Gt h λcr h=>dd h λe db h=>kC (F:=λo=>(s4 (af g o) λb al=>b9 (qQ po (view al e) (view al b)) λr=>j (bz.next,Pv H c r,al))=j l) h λa1 C W h ds K=>wpAny_AugAssign_Name (ds.aj.load db (fx f8).2.1 λv ay=>a2.go h ds.go λg2 b nn aU Ok Pi h=>dd h λr hd g=>xt aU.ok (λck eg=>LK (jx aU.ok (Ok.ay ay)) (jx aU.ok Pi) hd eg) λw u8 P3 Ix bI eI=>(ds.to (aU.step P3 Ix)).store cr eI λZB fO a eY=>K _ _ _ ZB fO .next ((eY.trans bI).symm▸g))
theorem Zm{vl mf nr:bv}{af:aN}(a2:a0 d A O H af)(h:FY af O.scope H vl mf nr g o=j l):aW d A O (exec (.Assign [vl,mf,nr] g h0) O) H o l:=c5 h λc KB h=>c5 h λI py h=>c5 h λU ahc h=>Gt h λa h=>Gt h λf8 h=>Gt h λKM h=>Gt h λsc h=>kC (F:=λo=>(s4 (af g o) λr al=>pp (d_ r)<|j (bz.next,Pv (Pv (Pv H c r) I r) U r,al))=j l) h λa1 C W h ds K=>wpAny_Assign_three (a2.go h ds.go λv r nn aU a Pi h=>Gt h λa g=>zL ((ds.to aU).store f8 Pi λu8 bh Ix bI=>zL (bh.store KM (Ix.ay Pi) λZB fO bL eY=>zL (fO.store sc (bL.ay (Ix.ay Pi)) λe1 rb a nj=>K _ _ _ e1 rb .next ((nj.trans (eY.trans bI)).symm▸g)))))
theorem Zn{k:E}(h:g.ctorIdx≠25):TC [.Tuple Rs k x] g O=pure bn:=g.casesOn (motive_1:=λg=>g.ctorIdx≠25->TC [.Tuple Rs k x] g O=pure bn) (λa a a a=>rfl) (λa a a a=>rfl) (λa a a a a=>rfl) (λa a a a=>rfl) (λa a a a a=>rfl) (λa a a a a=>rfl) (λa a a a=>rfl) (λa a a a=>rfl) (λa a a a a=>rfl) (λa a a a a=>rfl) (λa a a a a a=>rfl) (λa a a a a=>rfl) (λa a a=>rfl) (λa a a=>rfl) (λa a a=>rfl) (λa a a a a=>rfl) (λa a a a a=>rfl) (λa a a a a=>rfl) (λa a a=>rfl) (λa a a a=>rfl) (λa a a a=>rfl) (λa a a a=>rfl) (λa a a=>rfl) (λa a a=>rfl) (λa a a=>rfl) (λa a a h=>aB rfl h) (λa a a a a=>rfl) h
theorem Zo{z:E}(lf:zs z A){k:E}{af:aN}(a2:a0 d A O H af)(ty:g.ctorIdx≠25)(f0:ie g=G)(h:(s4 (af g o) λr al=>(d5 O.scope (.Tuple Rs k x) r H).map λo0=>(bz.next,o0,al))=j l):aW d A O (exec (.Assign [.Tuple Rs k x] g h0) O) H o l:=kC (F:=λo=>(s4 (af g o) λr al=>(d5 O.scope (.Tuple Rs k x) r H).map λo0=>(bz.next,o0,al))=j l) h λa1 C W h ds K=>wpAny_Assign_stores (a2.go h ds.go λv r nn aU a Pi h=>gK h λo0 cr g=>show f4 d.M A (iU (.Tuple Rs k x) O v) _ a1 nn.s from AX lf cr aU.ok aU.aj Pi λu8 P3 dO Ix a bI=>K _ _ _ u8 ((ds.to aU).then ⟨P3,dO,Ix⟩) .next (bI.symm▸g)) (show qA g (j (.Tuple Rs k x)) h0.line O=pure G from A6 f0) (Zn ty)
noncomputable def F'(g:bv):ga:=aiM (λa=>ga) g (λa a=>V) λa=>G
theorem Nv:jU g=V->F' g=G:=g.casesOn (motive_1:=λg=>jU g=V->F' g=G) (λa a a a=>rfl) (λa a a a=>rfl) (λa a a a a=>rfl) (λa a a a=>rfl) (λa a a a a=>rfl) (λa a a a a=>rfl) (λa a a a=>rfl) (λa a a a=>rfl) (λa a a a a=>rfl) (λa a a a a=>rfl) (λa a a a a a=>rfl) (λa a a a a=>rfl) (λa a a=>rfl) (λa a a=>rfl) (λa a a=>rfl) (λa a a a a=>rfl) (λa a a a a=>rfl) (λa a a a a=>rfl) (λa a a=>rfl) (λa a a a=>rfl) (λa a a a=>rfl) (λa a a a=>rfl) (λa a h=>nomatch h) (λa a a=>rfl) (λa a a=>rfl) (λa a a a=>rfl) (λa a a a a=>rfl)
noncomputable def A7(O:IN)(n:E)(g:bv):Y X:=aiN (λa=>Y X) g (λid h0=>if(O.kindOf id==j .local&&h0.line==n)=V then j id else bn) λa=>bn
theorem Zp{e b:bv}{f:bv->ga}(db:f e=G)(cr:f b=G):[e,b].any f=G:=by rw[JX,db,JX,cr];rfl
theorem SA{e b:bv}{f:bv->ga}(db:f e=G):[e,b].all f=G:=by rw[S5,db];rfl
theorem Zq(h:(I==c)=G):([c,I]:p X).eraseDups=[c,I]:=by rw[List.eraseDups_cons,List.filter_cons_of_pos (by rw[h];rfl)];rfl
theorem x4{b:ga}(h:b=G):¬b=V:=λq=>Ts (h.symm.trans q)
theorem Zr{ks:wS}{k eX:E}{e b:bv}(s8:O.scope.kind=.function)(fd:Nd O.scope [.Name c KB,.Name I py]=V)(F_:(c==I)=G)(s9:Tx 8 e=G)(Ga:Tz 8 e=G)(Gb:jU e=V)(gO:jU b=V):TC [.Tuple [.Name c KB,.Name I py] k x] (.Tuple [e,b] eX ks) O=pure (j [c,I])/\bV O.scope c=V/\bV O.scope I=V:=by
 have h1:=f3.mp fd;have ex:=f3.mp h1.1;have h3:=f3.mp (f3.mp h1.2).1;refine⟨?_,Dn.mpr (.inl ex.1),Dn.mpr (.inl h3.1)⟩;have pi:[uk c KB,uk I py].filterMap (A7 O KB.line)=[c,I]:=(afB (show A7 O KB.line (.Name c KB)=j c from tt h1.1)).trans (GT (c::·) (afB (show A7 O KB.line (.Name I py)=j I from tt (f3.mpr h3))));have cr:(O.blockKind !=.function)=G:=by unfold TF;rw[s8];rfl
 refine(ss (x4 cr)).trans ((ss (x4 (Zp (f:=F') (Nv Gb) (Nv gO)))).trans ?_);show(λlw:p X=>(if(lw.length !=2 ||lw.eraseDups.length !=lw.length)=V then pure bn else if[e,b].all (Tz 8)=V then pure bn else if[e,b].all (Tx 8)=V then((unsupported "assign.tuple-of-constant-expressions:order-of-the-stores":aP PUnit)>>=λa=>pure (j lw))else pure (j lw):aP (Y (p X)))) ([uk c KB,uk I py].filterMap (A7 O KB.line))=_;rw[pi];dsimp only;rw[Zq (eo.mpr (Ne.symm (eo.mp F_)))];exact(ss (x4 rfl)).trans ((ss (x4 (SA Ga))).trans (ss (x4 (SA s9))))
theorem Zs{z:E}(lf:zs z A){L:p bv}{ks:wS}{k eX:E}{af:aN}(a2:a0 d A O H af)(h:Ni af O.scope H Rs L eX ks o=j l):aW d A O (exec (.Assign [.Tuple Rs k x] (.Tuple L eX ks) h0) O) H o l:=pA h λa a h=>c5 h λc KB h=>c5 h λI py h=>pA h λe b h=>Gt h λfd h=>iX h λF_ h=>iX h λs9 h=>iX h λGa h=>Gt h λGb h=>Gt h λgO h=>kC (F:=λo=>(s4 (af (.Tuple [e,b] eX ks) o) λr al=>w9 r λn=>eT n λt r=>j (bz.next,Pv (Pv H I r) c t,al))=j l) h λa1 C W h ds K=>by have x5:=Zr (x:=x) (ks:=ks) (k:=k) (eX:=eX) ds.aj.kind fd F_ s9 Ga Gb gO;rw[exec_Assign_arm];refine g1 (fF ?_);show f4 d.M A ((pure G:aP ga)>>=_) C a1 W.s;refine g1 (s2 ?_);rw[ss hW];refine g1 (a2.go h ds.go λv r nn aU a Pi h=>?_);rw[x5.1];refine g1 (s2 (El (P:=λr=>wp d nn.B nn.ag v r->_) h (λn h Pi=>pA (P:=λn=>wp d nn.B nn.ag v (.tup n)->_) h (λt r g Pi=>?_) Pi) Pi));obtain⟨u,L,m,rfl,AT,f⟩:=Pi.i.i;obtain⟨g2,L,rfl,ir,f⟩:=f.i;obtain⟨w,L,rfl,iu,f⟩:=f.i;rw[show L=[]from f.i]at AT;show f4 d.M A (do rule "assign.swapped-stores";let UF <- unpackItems (.ref u) 2 bn;ug ([I,c].map λz=>Kj O z) UF.reverse;pure .next) C a1 nn.s;refine g1 (ob (g1 (fc (afs (items:=#[g2,w]) lf.handled ⟨_,aU.ok.bw _ _ AT,rfl,_,rfl⟩ λeg gl fd ty=>?_))));have av:Mv [] nn.s {nn.s with heap:=eg,toks:=nn.s.toks}:=Mv.fr fd (λb T g=>gl b T (ep (b1 g)) g) (Da _);have le:kw d [] nn (nn.to {nn.s with heap:=eg,toks:=nn.s.toks}):=kw.refl.av av cR;have bh:=ds.to (aU.step (aU.ok.av av (cR) aU.ok.bare) le);refine g1 ?_;show f4 d.M A (do pk [g2] (Kj O I w);ug [Kj O c] [g2]) _ a1 (nn.to {nn.s with heap:=eg,toks:=nn.s.toks}).s;refine g1 (dF (wpAny_bindName (bh.store x5.2.2 (.aq (iu.mono le.B)) λZB fO bL eY=>?_)));show f4 d.M A (do pk [] (Kj O c g2);ug [] []) _ a1 ZB.s;exact g1 (dF (wpAny_bindName (fO.store x5.2.1 (.aq (bL.bZ (ir.mono le.B))) λe1 rb a nj=>s2 (s2 (K _ _ _ e1 rb .next ((nj.trans eY).symm▸g))))))
theorem Zt{n:kt}{UF:bD cd}{z:E}{k:m0}{u:be}{C:g7->nl->Prop}(gt:s.heap.get? n=j (SL UF z))(az:0≤k)(Nw:k<2^63)(pi:k<UF.size)(hm:∀eg m,eg.get? n=j (SL (UF.setIfInBounds k.toNat v) m)->lJ n s.heap eg->C () {s with heap:=eg}):f4 d.M A (setItem (.ref n) (.int k u) v) C a1 s:=by
 have ae:s.heap.IsList n UF:=⟨_,gt,rfl,z,rfl⟩;have hd:(SL UF z).data=.seq UF z:=rfl;unfold setItem;try with_reducible refine dF ?_
 first|refine g1 (s2 ?_)|skip
 refine g1 (wpAny_sequenceKey ae.typeIs (by decide) ?_);refine g1 (ul (name:=mV "__setitem__") ae.typeIs afC (mW afC ae.typeIs entry_list_setitem ?_ (args_list_setitem _ _ _)));show f4 _ _ (TG (.int k u)>>=_) _ _ s;refine g1 (wpAny_listSubscript_int (fitsIndex_of az Nw) ?_);clear Nw;obtain⟨ev,rfl⟩:=Int.eq_ofNat_of_zero_le az;have s3:ev<UF.size:=by left
 have ig:UF[ev]?=j UF[ev]:=mN s3;show f4 _ _ ((seqItemAt n ev>>=λl=>pure (l.map (ev,·)))>>=_) _ _ s;refine g1 (g1 (wpAny_seqItemAt gt hd (s2 ?_)));rw[ig];show f4 _ _ (setSeqItemAt n ev v>>=_) _ _ s;have pS:∃m,(s.heap.update n (dR (·.setIfInBounds ev v))).get? n=j (SL (UF.setIfInBounds ev v) m):=⟨_,(mS _ gt rfl).trans (GT j (rfl:dR (·.setIfInBounds ev v) (SL UF z)=_))⟩;obtain⟨m,pc⟩:=pS;refine g1 (wpAny_setSeqItemAt gt hd ?_);first|exact g1 (s2 (s2 ⟨.none,rfl,s2 (hm _ m pc (lN ..))⟩))|exact s2 ⟨.none,rfl,s2 (hm _ m pc (lN ..))⟩
theorem Is.set{B:aX}(h:Is d B L n)(f:x0 d B v r):∀z,Is d B (L.set z v) (n.set z r):=h.ind (P:=λL n=>∀z,Is d B (L.set z v) (n.set z r)) (λa=>.nil) λh l ih z=>z.casesOn (.cons f l) λz=>.cons h (ih z)
theorem Zu{z:E}{k:m0}(sc:H1 z=V)(az:0≤k)(gl:k.toNat<z)(g:L.length=z):k<2^63/\k<L.toArray.size:=by have:=uS sc;rw[jj,g];left
theorem Zv{af:aN}(a2:a0 d A O H af)(f0:ie g=G)(h:F0 af H c I g o=j l):aW d A O (exec (.Assign [.Subscript (.Name c KB) (.Name I py) x] g h0) O) H o l:=kC (F:=λo=>F0 af H c I g o=j l) h λa1 C W h ds K=>wpAny_Assign_Subscript (a2.go h ds.go λv r nn aU a Pi h=>pC h λi f8 h=>Ve h λk KM h=>sz h λn ae h=>Gt h λhd h=>Gt h λsc h=>Gt h λaz h=>Gt h λgl h=>Gt h λZw h=>Gt h λZx g=>aU.aj.name f8 Zw λT rc=>aU.aj.name KM Zx λg2 ma=>by obtain⟨e,m,rfl,bf⟩:=rc.i;obtain⟨u,rfl⟩:=ma.i.i;obtain⟨rfl,L,z,gt,f⟩:=u5 aU.ok bf ae;have np:=Zu sc (mQ az) (mQ gl) f.length;refine Zt gt (mQ az) np.1 np.2 λeg ahd pi fd=>?_;have bR:=CS aU.ok bf rfl ae fd (L:=L.set k.toNat v) (pi.trans (by rw[List.setIfInBounds_toArray])) (f.set (x0.xv Pi hd) k.toNat);exact K _ _ _ _ (ds.to (aU.step bR.1 bR.2)) .next g) (A6 f0)
end
section
variable{A:xs}{K:dY}{c J rd:kt}
set_option tactic.hygienic true in
theorem Zy{name:X}{ao:be}{z:E}(sK:K.In s.heap)(f8:s.heap.get? c=j (h6 J rd))(jH:s.heap.get? rd=j (fJ bd.toArray z))(ln:TH K J=V)(ty:takerIn K J name=j bn)(t1:(clsIn K J).any (·.hasDict)=V)(ae:(qv name bd).isSome=V)(sc:(wO name (lG w.params name) (.str name s.toks) v bd).length≤1000)(h:∀eg,lJ rd s.heap eg->eg.get? rd=j (fJ (wO name (lG w.params name) (.str name s.toks) v bd).toArray (putN name bd z))->wf (.ok (.ret .none)) {s with heap:=eg,toks:=s.toks+1}):iV (aE prog w) A (.call (.builtin "object.__setattr__") ⟨[.ref c,.str name ao,v],[]⟩) wf s:=by
 have lv:S7 s.heap c (h6 J rd) J (j (Dh bd z)):=xx f8 jH;refine osa_open sK lv ln ty λb=>?_;obtain⟨jh,f0,xG⟩:=any_some t1;have Zz:=putName_dict name (lG w.params name) (.str name s.toks) v bd z;have Nx:(s.heap.update rd (Obj.putName name (lG w.params name) (.str name s.toks) v)).get? rd=j (fJ (wO name (lG w.params name) (.str name s.toks) v bd).toArray (putN name bd z)):=by have Ny:Obj.putName name (lG w.params name) (.str name s.toks) v (fJ bd.toArray z)=fJ (wO name (lG w.params name) (.str name s.toks) v bd).toArray (putN name bd z):=Zz;rw[mS _ jH (by rw[Ny];rfl),Ny]
 refine g1 (s2 (g1 (g1 (S_ f8 (g1 ((looks_clsIn sK f0).here ?_))))));rw[xG];refine s2 (a:=j rd) (g1 (s2 (g1 ?_)));unfold nsSet;refine g1 (g1 (sa (s2 (g1 (wpAny_mkText (g1 (S_ jH ?_)))))));dsimp only;have t:(!bd.toArray.any (·.key.isStr name)&&bd.toArray.any (·.refKey))=G:=by
  rw[<- afD,<- afD];unfold qv at ae;split at ae;·rename_i ZA rs;rw[Dq.mpr ⟨ZA,List.mem_of_find?_eq_some rs,List.find?_some rs⟩];rfl
  ·split at ae;·cases ae
   ·rename_i U;rw[sb]at U;rw[U,Kk]
 rw[aRefKeyMayBeTheName_at,t];refine wpAny_updatePart jH ?_;refine g1 (wpAny_lookBehind Nx (pastItsLine_dict (by rw[jj,k6];left)) ?_);exact s2 (h _ (lN ..) Nx)
end
section
variable{d:sw}{J:Sc}{A:xs}{O:IN}{H:hf}
def Gc(d:sw)(t:kt)(e:X):Prop:=TH d.K t=V/\takerIn d.K t e=j bn/\(clsIn d.K t).any (·.hasDict)=V/\pj d.K (.ref t) "__setattr__"=j (j (.builtin "object.__setattr__"))
theorem Nz{B:aX}(l:f9 d B ag bd s1){e:X}{u:be}(f:wp d B ag v r):f9 d B ag (wO e (lG d.w.params e) (.str e u) v bd) (Pv s1 e r):=l.rec (motive:=λbd s1 a=>f9 d B ag (wO e (lG d.w.params e) (.str e u) v bd) (Pv s1 e r)) (.cons rfl rfl f .nil) λ{g c g2 aR bd n} k t1 q l ih=>by unfold wO;rw[Al];rw[isStr_of k];cases U:e==c with|true=>exact .cons (k.trans (by rw[eq_of_beq U])) (t1.trans (by rw[eq_of_beq U])) f l|false=>exact .cons k t1 q ih
theorem ZC(s1:p (X×R))(e:X)(r:R):(Pv s1 e r).length≤s1.length+1:=by induction s1 with|nil=>exact Da _|cons x l ih=>rw[Al];cases e==x.1 with|true=>exact cu _|false=>exact r5 ih
theorem f9.length{B:aX}(l:f9 d B ag bd s1):bd.length=s1.length:=l.rec rfl λa a a a ih=>GT zy ih
theorem ZD(ds:d.ab)(Z:W.ab d){i:E}{c:cd}{e:X}(f8:wp d W.B W.ag c (.am i))(np:W.o[i]?=j (.inst t s1))(P:Gc d t e)(sc:s1.length≤900)(ay:wp d W.B W.ag v r){C:g7->nl->Prop}(hm:∀y,y.ab d->kw d [] W y->y.o=W.o.set i (.inst t (Pv s1 e r))->C () y.s):f4 d.M A (Kl c e v) C a1 W.s:=by
 obtain⟨x,m,rfl,bf⟩:=f8.i;obtain⟨d',i9,q⟩:=Z.cells i _ np;have q:om d W (x,m) (.inst t s1):=aO (i9.symm.trans bf)▸q;obtain⟨AT,bd,z,gt,i3⟩:=q;have A8:=Z.bw _ _ AT;have ty:W.s.toks≤W.s.toks+1+1:=e7 _ 2;refine set_plain (Z.l7 ds) (xx A8 gt) P.2.2.2 (Zy (s:={W.s with toks:=W.s.toks+1}) (Z.l7 ds) A8 gt P.1 P.2.1 P.2.2.1 ?_ ?_ λeg fd pi=>?_);·rcases i3.both e with⟨g2,aR,_,fe,_⟩|⟨_,fe⟩<;>rw[fe]<;>rfl
 ·exact aJ (mT (Nz i3 (e:=e) (u:=W.s.toks+1) ay).length) (aJ (ZC s1 e r) (aJ (r5 sc) (by decide)))
 ·have av:Mv [m] W.s {W.s with heap:=eg,toks:=W.s.toks+1+1}:=Mv.sD fd ty;exact hm _ (Z.set np bf rfl rfl av Z.bare (aL:=.inst t (Pv s1 e r)) ⟨AT,_,_,pi,Nz i3 ay⟩) (kw.refl.set np bf rfl rfl av) rfl
end
section
variable{Ch:iw}{A:xs}
theorem ZE{C:g7->nl->Prop}{keep:p cd}:∀(L:p cd),C () s->f4 Ch A (letGo L keep) C a1 s:=by intro L;induction L with|nil=>intro h;exact s2 h|cons v L ih=>intro h;show f4 Ch A (do pk (L++keep) point;letGo L keep) C a1 s;exact g1 (dF (wpAny_point (ih h)))
end
section
variable{d:sw}{A:xs}
theorem ZF{n s':kt}{UF:bD cd}{z:E}{C:g7->nl->Prop}(gt:s.heap.get? n=j (SL UF z))(fd:s.heap.IsSliceOf s' .none .none .none)(cO:UF.size≤gH)(h:∀eg m,lJ n s.heap eg->eg.get? n=j (SL #[] m)->C () {s with heap:=eg}):f4 d.M A (delItem (.ref n) (.ref s')) C a1 s:=by
 have ae:s.heap.IsList n UF:=⟨_,gt,rfl,z,rfl⟩;have hd:(SL UF z).data=.seq UF z:=rfl;obtain⟨os,nv,xV,Gd⟩:=id fd;have NA:s.TypeIs (.ref s') "slice":=⟨os,nv,xV⟩;refine wpAny_delItem_slot ae.typeIs (by decide) afE (mW afE ae.typeIs F.entry_list_delitem ?_ (F.args_list_delitem_2 _ _));show f4 _ _ (TG (.ref s')>>=_) _ _ s;refine g1 ?_;unfold TG;refine g1 (wpAny_specialOf NA slice_no_index ?_);simp only[Option.isNone_none,r'];refine s2 ?_;show f4 _ _ (typeOf (.ref s')>>=_) _ _ s;refine g1 (r4 NA ?_);rw[ss (by decide)];rw[listSliceParts_eq];refine g1 (g1 (um nv Gd (x:=.none) rfl (g1 (TJ .none ?_))));rw[ss (show¬((rawPart bn==gr 0)=V)from hW)];refine g1 (um nv Gd (x:=.none) rfl (g1 (TJ .none ?_)));refine g1 (um nv Gd (x:=.none) rfl (g1 (TJ .none (s2 ?_))));refine g1 (m:=afF (.ref n)) ?_;unfold afF;refine g1 (Dr gt hd (s2 ?_));refine g1 (qw (sliceIndices_raw bn bn bn UF.size (by simp)) ?_);refine g1 (ob ?_);have g:((UF.toList.zipIdx.filterMap λ(c,k)=>if(decide ((0:m0)≤(k:E))&&decide (((k:E):m0)<(UF.size:m0))&&(((k:E):m0) - 0) %1==0)=V then bn else j c).toArray:bD cd)=#[]:=by
  rw[List.toArray_eq_iff,Array.toList_empty,List.filterMap_eq_nil_iff];rintro ⟨c,k⟩ pc;have gl:=List.snd_lt_of_mem_zipIdx pc;have gl:k<UF.size:=by simpa using gl
  have h1:decide ((0:m0)≤(k:E))=V:=by simp
  have ex:decide (((k:E):m0)<(UF.size:m0))=V:=by simp;exact gl
  have h3:((((k:E):m0) - 0) %1==0)=V:=by simp[Int.emod_one]
  dsimp only;rw[h1,ex,h3];rfl
 refine g1 (m:=afG (.ref n) _) ?_;unfold afG;have bR:∀f:bD cd->bD cd,f UF=#[]->∀{ck:g7->nl->Prop},(∀eg m,lJ n s.heap eg->eg.get? n=j (SL #[] m)->ck () {s with heap:=eg})->f4 d.M A.in1 (J4 n f) ck a1 s:=by intro f wn ck wT;refine J5 gt rfl ?_ cO (by rw[wn];exact e6 _);obtain⟨m,pc⟩:∃m,dR f (SL UF z)=SL (f UF) m:=⟨_,rfl⟩;exact wT _ m (lN ..) (by rw[mS _ gt (by rw[pc];rfl),pc,wn])
 refine bR _ g λeg m gO pi=>?_;refine g1 (ZE _ ?_);exact s2 ⟨.none,rfl,h eg m gO pi⟩
end
structure gw(d:sw)(J:Sc)(A:xs)(O:IN):Prop extends CtxOk d J where
 put:∀t e,J.fld t e=V->Gc d t e
 hI:∀g f,J.hI O.scope g=j f->∀H o l,f H o=j l->pU d A O H g o l
 ext:∀aa f,J.ext O.scope aa=j f->∀H o o0 wE,f H o=j (o0,wE)->aW d A O (exec aa O) H o (.next,o0,wE)
section
variable{d:sw}{J:Sc}{A:xs}{O:IN}{H:hf}
variable{l:bz×hf×p ca}
theorem putAt(ds:d.ab)(Ps:gw d J A O)(sK:gg d O H un W){e:X}{i4:cd}{i:E}(Uf:H.lookup c=j (.am i))(rc:wp d W.B W.ag i4 (.am i))(h:((rU c e r H J W.o).map λf2=>(bz.next,H,f2))=j l)(ay:wp d W.B W.ag v r){C:fG->nl->Prop}(K:xZ d O un l C):f4 d.M A (Kl i4 e v) (λa=>C .next) a1 W.s:=gK h λf2 h g=>Et ((Vo Uf).symm.trans h) λt s1 np h=>og h λf0 sc h=>ZD ds sK.ok rc np (Ps.put t e f0) (qr sc) ay λy xz aw bG=>K _ _ _ y (sK.to (sK.go.step xz aw)) .next ((bG.trans (aO h)).symm▸g)
theorem NB(ds:d.ab)(Ps:gw d J A O)(sK:gg d O H un W){e:X}(f8:bb c=V)(h:((rU c e r H J W.o).map λf2=>(bz.next,H,f2))=j l)(ay:wp d W.B W.ag v r){C:fG->nl->Prop}(K:xZ d O un l C):f4 d.M A (eval (.Name c x) O) (λi4 s=>f4 d.M A (Kl i4 e v) (λa=>C .next) a1 s) a1 W.s:=gK h λf2 eg a=>pC eg λi Uf a=>sK.aj.name Uf f8 λT rc=>putAt ds Ps sK Uf rc h ay K
theorem ZG(ds:d.ab)(Ps:gw d J A O){ks:wS}{e:X}{bd:p bv}{af:aN}(a2:a0 d A O H af)(f8:bb c=V)(h:FZ J af H c e bd o=j l):aW d A O (exec (.Assign [.Attribute (.Name c KB) e x] (.List bd ks) h0) O) H o l:=kC (F:=λo=>FZ J af H c e bd o=j l) h λa1 C W h sK K=>by refine afH ?_ rfl;refine E9 a2 h sK.go λL g3 nn aU f h=>?_;refine F9 aU f (C:=λv s=>f4 d.M A (eval (.Name c KB) O) (λi4 s=>f4 d.M A (Kl i4 e v) (λa=>C .next) a1 s) a1 s) λu8 bh bI eI=>?_;exact NB ds Ps (sK.to bh) f8 (by rw[bI];exact h) eI K
theorem ZH(ds:d.ab)(Ps:gw d J A O){e:X}{af:aN}(a2:a0 d A O H af)(f0:ie g=G)(f8:bb c=V)(h:Nj J af H c e g o=j l):aW d A O (exec (.Assign [.Attribute (.Name c KB) e x] g h0) O) H o l:=D5 (P:=λg=>ie g=G->aW d A O (exec (.Assign [.Attribute (.Name c KB) e x] g h0) O) H o l) h (λbd ks h a=>ZG ds Ps a2 f8 h) (λh f0=>kC (F:=λo=>(s4 (af g o) λr al=>(rU c e r H J al).map λf2=>(bz.next,H,f2))=j l) h λa1 C W h sK K=>afH (a2.go h sK.go λv r nn aU a Pi h=>NB ds Ps (sK.to aU) f8 h Pi K) (A6 f0)) f0
theorem ZI(ds:d.ab)(Ps:gw d J A O){e:X}{af:aN}(a2:a0 d A O H af)(h:Ng J af H c e po g o=j l):aW d A O (exec (.AugAssign (.Attribute (.Name c KB) e x) po g h0) O) H o l:=Gt h λf8 h=>kC (F:=λo=>(lY (H.lookup c) λi=>w_ o[i]? λt s1=>b9 (s1.lookup e) λx=>pp (J.fld t e&&l6 x)<|s4 (af g o) λb al=>b9 (qQ po (view al x) (view al b)) λr=>(rU c e r H J al).map λf2=>(bz.next,H,f2))=j l) h λa1 C W h sK K=>pC h λi Uf h=>Et h λt s1 np h=>dd h λq wT h=>og h λwn pi h=>wpAny_AugAssign_AttributeAny (sK.aj.name Uf f8 λT rc=>E_ ds sK.ok rc (xD np) (Ps.fld t e wn) wT pi λg2 u8 P3 Ix bI eI=>a2.go (k:=λb al=>b9 (qQ po (view al q) (view al b)) λr=>(rU c e r H J al).map λf2=>(bz.next,H,f2)) (bI.symm▸h) (sK.go.step P3 Ix) λw b ZB fO bL sP h=>dd h λr hd h=>xt fO.ok (λck eg=>LK (jx fO.ok (bL.ay eI)) (jx fO.ok sP) hd eg) λU e1 gS fh nj xS=>putAt ds Ps (sK.to (fO.step gS fh)) Uf (fh.ay (bL.ay (Ix.ay rc))) (nj.symm▸h) xS K)
theorem ZJ{af:aN}(a2:a0 d A O H af)(h:Nl af H Rs o=j l):aW d A O (exec (.Delete Rs h0) O) H o l:=d2 h λu h=>K5 h λT s x h=>UU h λe b t xL h=>qL (P:=λe=>aW d A O (exec (.Delete [.Subscript T (.Slice e b t xL) x] h0) O) H o l) h λh=>qL (P:=λb=>aW d A O (exec (.Delete [.Subscript T (.Slice bn b t xL) x] h0) O) H o l) h λh=>qL (P:=λt=>aW d A O (exec (.Delete [.Subscript T (.Slice bn bn t xL) x] h0) O) H o l) h λh=>kC (F:=λo=>(s4 (af T o) λr al=>uK r λi=>k_ al[i]? λn=>pp (H1 n.length)<|j (bz.next,H,al.set i (.list [])))=j l) h λa1 C W h sK K=>by
  refine wpAny_Delete (wpAny_deleteEach_cons ?_);show f4 d.M A (do
   let i4 <- eval T O
   let ii <- pk [i4] (Km "slice" [.none,.none,.none])
   lM x
   pk [i4,ii] (delItem i4 ii)
   release [i4,ii] []) _ a1 W.s
  refine g1 (a2.go h sK.go λv r nn aU a Pi h=>Vn (P:=λr=>wp d nn.B nn.ag v r->_) h (λi h Pi=>sz h λn ae h=>Gt h λsc g=>?_) Pi);obtain⟨e,m,rfl,bf⟩:=Pi.i;obtain⟨rfl,L,z,gt,f⟩:=u5 aU.ok bf ae;refine g1 (dF (k2 (g1 (fF (g1 (dF ?_))))));have bh:=aU.step (aU.ok.push {cls:=.type "slice",data:=.fields #[.none,.none,.none]}) (kw.refl.push _);refine ZF (s:=(nn.to {nn.s with heap:=nn.h.push {cls:=.type "slice",data:=.fields #[.none,.none,.none]}}).s) (n:=e) (UF:=L.toArray) (z:=z) (cP _ gt) ⟨_,dK _ rfl,rfl,rfl⟩ (f.length.symm▸j6 sc:L.length≤gH) λeg m fd pi=>?_;have bR:=CS bh.ok bf rfl ae fd (L:=[]) (bo:=[]) pi .nil;exact wpAny_release (wpAny_deleteEach_nil (K _ _ _ _ (sK.to (bh.step bR.1 bR.2)) .next g))
end
section
variable{d:sw}{J:Sc}{A:xs}{O:IN}{H:hf}
variable{l:R×p ca}
theorem NC{gens:p iS}{n:E}:qA (.ListComp bj gens inner x) (j (.Name c KB)) n O=pure (O.blockKind==.function&&O.kindOf c==j .local&&KB.line==x.line&&!(inner.names.any λ(z,k)=>z==c&&(k==.local ||k==.cell))):=rfl
theorem ZK{n:E}(gl:O.scope.kind=.function)(h:q_ O.scope c KB g=V):qA g (j (.Name c KB)) n O=pure V:=z8 (P:=λg=>qA g (j (.Name c KB)) n O=pure V) h (λbj gens inner x h=>NC.trans (GT pure (by rw[show(O.blockKind==.function)=V from by(unfold TF;rw[gl];rfl),Ds];exact h))) dN
theorem ZL(f8:bV O.scope c=V)(f0:vk O.scope c g=V)(h:bH d A O H (eval g O) o l):aW d A O (exec (.Assign [.Name c KB] g h0) O) H o (.next,Pv H c l.1,l.2):=λa1 C W Z aj ap hm=>
 have fd:qA g (j (.Name c KB)) h0.line O=pure G:=z8 (P:=λg=>qA g (j (.Name c KB)) h0.line O=pure G) f0 (λbj gens inner x h=>NC.trans (GT pure (by rw[show O.kindOf c=j .cell from bt.mp h,show((j wz)==(j NameKind.local))=G by decide,Kk,TK,TK]))) dN
 zN (h.seq Z aj ap λv nn Db cS Ok cm Pi=>xO f8 Db cS Pi λu8 P3 dO Ix a bI=>hm _ u8 P3 dO (Ok.i0.trans Ix) (bI.trans cm) .next) fd
theorem ZM(ds:d.ab)(Ps:CtxOk d J)(lf:zs (J.au+8) A){z:E}(f8:bV O.scope c=V)(fd:q_ O.scope c KB g=V)(h:sB J z O.scope g H o=j l):aW d A O (exec (.Assign [.Name c KB] g h0) O) H o (.next,Pv H c l.1,l.2):=by cases z with|zero=>cases h|succ z=>have vm:=fd;exact z8 (P:=λg=>q_ O.scope c KB g=V->sB J (z+1) O.scope g H o=j l->aW d A O (exec (.Assign [.Name c KB] g h0) O) H o (.next,Pv H c l.1,l.2)) fd (λbj gens inner x a fd h a1 C W Z aj ap hm=>by obtain⟨u,ai,aI,n,f1,al,f2,cb,rfl,rfl,lw⟩:=Nc lf (nq ds Ps lf z) (Mi.symm.trans h);rw[afI _ _ _ _ (ZK aj.kind fd)];exact g1 (fF (g1 (YR (lf.less (e7 _ _)) lw Z aj ap f8 λy xz hc aw bG=>s2 (hm _ y xz hc aw bG .next))))) dN vm h
theorem ZN{N:Type}{P:bv->Prop}{c:bv}{k:p bv->E->wS->N}{U l:N}(h:m3 c k U=l)(a2:∀e b t,k e b t=l->P (.Tuple e b t))(Fa:c.ctorIdx≠25->U=l->P c):P c:=if q:c.ctorIdx=25 then @Expr.Tuple.elim (λc=>m3 c k U=l->P c) c q a2 h else Fa q (b4 q h)
section
variable{z:E}{l:bz×hf×p ca}
theorem ZO(ds:d.ab)(Ps:gw d J A O)(lf:zs (J.au+8) A)(f8:bV O.scope c=V)(f0:(ie g&&!(q_ O.scope c KB g ||vk O.scope c g))=G)(h:Nh (λg o=>sB J z O.scope g H o) H c g o=j l):aW d A O (exec (.Assign [.Name c KB] g h0) O) H o l:=
 have ed:a0 d A O H (λg o=>sB J z O.scope g H o):=(nq ds Ps.toCtxOk lf z O H).1
 D5 (P:=λg=>(ie g&&!(q_ O.scope c KB g ||vk O.scope c g))=G->aW d A O (exec (.Assign [.Name c KB] g h0) O) H o l) h (λbd x h a=>Zj ed f8 h)
  (λh=>DU (P:=λg=>(ie g&&!(q_ O.scope c KB g ||vk O.scope c g))=G->aW d A O (exec (.Assign [.Name c KB] g h0) O) H o l) h (λn po f x h a=>Zk ed f8 h) λh f0=>d0 h λq wT=>by
   cases h1:ie g with
   |false=>exact x3 f8 h1 (ed _ _ _ wT)
   |true=>
    rw[h1]at f0
    exact(Dn.mp (Ee f0)).elim (λfd=>ZM ds Ps.toCtxOk lf f8 fd wT) λfd=>ZL f8 fd (ed _ _ _ wT)) f0
theorem ZP(ds:d.ab)(Ps:gw d J A O)(lf:zs (J.au+8) A)(h:F1 J (λg o=>sB J z O.scope g H o) O.scope H u g o=j l):aW d A O (exec (.Assign [u] g h0) O) H o l:=
 have ed:a0 d A O H (λg o=>sB J z O.scope g H o):=(nq ds Ps.toCtxOk lf z O H).1
 have q':zs J.au A:=lf.less (e7 _ _)
 qG (P:=λu=>aW d A O (exec (.Assign [u] g h0) O) H o l) h (λc KB h=>Gt h λf8 h=>iX h λf0 h=>ZO ds Ps lf f8 f0 h) λh=>
 Aa (P:=λu=>aW d A O (exec (.Assign [u] g h0) O) H o l) h (λRs k x h=>ZN (P:=λg=>aW d A O (exec (.Assign [.Tuple Rs k x] g h0) O) H o l) h (λL eX ks h=>Zs q' ed h) λty h=>iX h λf0 h=>Zo q' ed ty f0 h) λh=>
 D2 (P:=λu=>aW d A O (exec (.Assign [u] g h0) O) H o l) h (λT e x h=>c5 (P:=λT=>aW d A O (exec (.Assign [.Attribute T e x] g h0) O) H o l) h λc KB h=>iX h λf0 h=>Gt h λf8 h=>ZH ds Ps ed f0 f8 h) λh=>
 K5 h λT s x h=>c5 (P:=λT=>aW d A O (exec (.Assign [.Subscript T s x] g h0) O) H o l) h λc KB h=>c5 (P:=λs=>aW d A O (exec (.Assign [.Subscript (.Name c KB) s x] g h0) O) H o l) h λI py h=>iX h λf0 h=>Zv ed f0 h
theorem ZQ(ds:d.ab)(Ps:gw d J A O)(lf:zs (J.au+8) A)(h:Nk J (λg o=>sB J z O.scope g H o) O.scope H Rs g o=j l):aW d A O (exec (.Assign Rs g h0) O) H o l:=qK h λu n h=>n.casesOn (motive:=λn=>(n.rec (F1 J (λg o=>sB J z O.scope g H o) O.scope H u g o) λmf l a=>bY l λnr=>FY (λg o=>sB J z O.scope g H o) O.scope H u mf nr g o:St)=j l->aW d A O (exec (.Assign (u::n) g h0) O) H o l) (ZP ds Ps lf) (λmf n h=>d2 (P:=λn=>aW d A O (exec (.Assign (u::mf::n) g h0) O) H o l) h λnr h=>Zm (nq ds Ps.toCtxOk lf z O H).1 h) h
end
theorem Ge(ds:d.ab){O:IN}(Ps:gw d J A O)(lf:zs (J.au+8) A)(z:E):sZ d A O (bq J z O.scope):=by induction z with|zero=>exactλaa H o l=>a'|succ z a2=>intro aa H o l h;have A9:=nq ds Ps.toCtxOk lf z O;have ed:a0 d A O H (λg o=>sB J z O.scope g H o):=(A9 H).1;have q':zs J.au A:=lf.less (e7 _ _);exact j2 (i8.symm.trans h) (λf wn h=>d0 h λx ln=>Ps.ext aa f wn H o _ _ ln) λa h=>U4 h (λx h=>aQ h Zc) λh=>U5 h (λx h=>aQ h Zd) λh=>UV h (λg x h=>g.casesOn (motive:=λg=>(eF g (λg=>(sB J z O.scope g H o).map λx=>(bz.ret x.1,H,x.2)) (j (bz.ret .none,H,o)))=j l->aW d A O (exec (.Return g x) O) H o l) (λh=>aQ h Zb) (λg h=>d0 h λq wT=>aW.Za (ed _ _ _ wT)) h) λh=>Lb h (λg x h=>Gt h λf0 h=>d0 h λq wT=>F3 f0 (ed _ _ _ wT)) λh=>U2 h (λu b T x h=>Ze (A9 H).2.1 a2 h) λh=>U1 h (λu b T x h=>d1 h λh=>Zf (ax:=λH g o=>cx J z O.scope g H o) (λH=>(A9 H).2.1) a2 h) λh=>U0 h (λu ai b T x h=>d1 h λh=>j2 h (λf wn h=>b8 h λn al h1 h=>Nr q' a2 (Ps.hI _ f wn _ _ _ h1) h) λa h=>pz h λn cb al h1 h=>b5 (P:=λcb=>iC J z O.scope ai H o=j (n,cb,al)->aW d A O (exec (.For u ai b [] x) O) H o l) h (λh h1=>Zg q' a2 ((A9 H).2.2 _ _ _ h1) h) h1) λh=>U3 h (λb fd T f x h=>d1 (P:=λT=>aW d A O (exec (.Try b fd T f x) O) H o l) h λh=>d1 (P:=λf=>aW d A O (exec (.Try b fd [] f x) O) H o l) h λh=>qK (P:=λfd=>aW d A O (exec (.Try b fd [] [] x) O) H o l) h λa a h=>Zh a2 h) λh=>UZ h (λu po g x h=>qG (P:=λu=>aW d A O (exec (.AugAssign u po g x) O) H o l) h (λc KB h=>Zl ed h) λh=>m2 (P:=λu=>aW d A O (exec (.AugAssign u po g x) O) H o l) h λT e ZR h=>c5 (P:=λT=>aW d A O (exec (.AugAssign (.Attribute T e ZR) po g x) O) H o l) h λc KB h=>ZI ds Ps ed h) λh=>K_ h (λRs g x h=>ZQ ds Ps lf h) λh=>UX h λRs x h=>ZJ ed h
end
section
variable{A:xs}
theorem ZS{TE:t_}{CW:p (X×cd)}(oI:A.depth<SU)(gt:s.heap.get? e=j T)(ZT:T.data=.func GE)(ZU:s.heap.NoLimit)(q1:s.heap.CodeRec GE.code GE.qualname)(ZV:GE.body=.stmts body)(fR:∀(A:xs) (P:p (X×cd)->nl->Prop) (a1:cd->nl->Prop),P CW s->f4 (aE prog w) A (k7 GE TE) P a1 s)(ZW:GE.closure=[])(s8:∀c∈CW,GE.scope.names.lookup c.1=j .local\/(GE.scope.names.lookup c.1=j .cell/\((eR (s.heap.objs.size+1) GE.scope.names []).lookup c.1).isSome=V))(gv:GE.scope.isCoroutine=G)(jI:GE.scope.isGenerator=G)(gl:GE.scope.kind=.function)(h:∀s0,Kn s (cQ GE s.heap.objs.size e).locals (bindL (cQ GE s.heap.objs.size e).kindOf CW λa=>bn) (cQ GE s.heap.objs.size e).cells (bindC (cQ GE s.heap.objs.size e).kindOf CW λa=>bn) s0->s.heap.objs.size≤s0.heap.objs.size->s.toks≤s0.toks->f4 (aE prog w) (A.deeper (cQ GE s.heap.objs.size e)) (oa body (cQ GE s.heap.objs.size e)) (λf it=>wf (.ok (.ret (match f with|.ret v=>v|_=>.none))) it) (λa a=>gG) s0):iV (aE prog w) A (.call (.ref e) TE) wf s:=by refine afJ oI gt ZT gv jI ZV q1 (fR _ _ _ ?_);rw[ZW];refine(fc (afK gl s8 λO rs it c fd ty=>?_));subst rs;exact⟨ZU.keeps c.toInCall.keep,codeAny_func (cJ (h it c fd ty) (λa a q=>q) λa a q=>q.elim)⟩
end
theorem ZX{kindOf:X->Y k4}:∀{he:p X} {L:p cd} {m:X->Y cd} {c:X} {v:cd},he.Nodup->(he.zip L).lookup c=j v->kindOf c=j .local->bindL kindOf (he.zip L) m c=j v:=by
 have skip:∀(n:p (X×cd)) (m:X->Y cd) (c:X),c∉n.map (·.1)->bindL kindOf n m c=m c:=by
  intro n;induction n with
  |nil=>intro m c _;rfl
  |cons x n ih=>
   intro m c f8;obtain⟨z,v⟩:=x;rw[cs,cq,wQ]at f8;unfold bindL;rw[ih _ _ f8.2];split;·exact ss f8.1
   ·rfl
 intro he;induction he with
 |nil=>intro L m c v _ h;cases L<;>cases h
 |cons x he ih=>
  intro L m c v pi h gl;cases L with
  |nil=>cases h
  |cons g2 L=>
   rw[ix]at pi;rw[hY,en]at h;rw[hY];unfold bindL;by_cases q:c=x;·subst q;simp at h;subst h;rw[skip _ _ _ (λq=>pi.1 (by obtain⟨I,KM,g⟩:=dM.mp q;rw[<- g];exact(Ko KM).1)),tt gl];simp
   ·have:(c==x)=G:=eo.mpr q;rw[this]at h;exact ih pi.2 h gl
theorem ZY{kindOf:X->Y k4}:∀{he:p X} {L:p cd} {m:X->Y cd} {c:X} {v:cd},he.Nodup->(he.zip L).lookup c=j v->kindOf c≠j .local->bindC kindOf (he.zip L) m c=j v:=by
 have skip:∀(n:p (X×cd)) (m:X->Y cd) (c:X),c∉n.map (·.1)->bindC kindOf n m c=m c:=by
  intro n;induction n with
  |nil=>intro m c _;rfl
  |cons x n ih=>
   intro m c f8;obtain⟨z,v⟩:=x;rw[cs,cq,wQ]at f8;unfold bindC;rw[ih _ _ f8.2];split;·rfl
   ·exact ss f8.1
 intro he;induction he with
 |nil=>intro L m c v _ h;cases L<;>cases h
 |cons x he ih=>
  intro L m c v pi h gl;cases L with
  |nil=>cases h
  |cons g2 L=>
   rw[ix]at pi;rw[hY,en]at h;rw[hY];unfold bindC;by_cases q:c=x;·subst q;simp at h;subst h;rw[skip _ _ _ (λq=>pi.1 (by obtain⟨I,KM,g⟩:=dM.mp q;rw[<- g];exact(Ko KM).1)),ss gl];simp
   ·have:(c==x)=G:=eo.mpr q;rw[this]at h;exact ih pi.2 h gl
structure j_(d:sw)(e:kt)(GE:zx)(body:p wP)(he:p X)(lj:ga:=G):Prop where
 at_:∃T,d.az.get? e=j T/\T.data=.func GE
 code:d.az.CodeRec GE.code GE.qualname
 body:GE.body=.stmts body
 Gf:GE.closure=[]
 co:GE.scope.isCoroutine=G
 gen:GE.scope.isGenerator=lj
 kind:GE.scope.kind=.function
 glob:GE.globals=k0
 j4:GE.builtins=C9
 names:(GE.scope.names.map (·.1)).Nodup
 ZZ:∀c,GE.scope.names.lookup c≠j .free
 params:∀c∈he,bV GE.scope c=V
 apart:he.Nodup
section
variable{d:sw}{J:Sc}{A:xs}{H:hf}
theorem ND{B:aX}:∀{he:p X} {L:p cd} {g3:p R},cn d B ag L g3->∀{c:X} {r:R},(he.zip g3).lookup c=j r->∃v,(he.zip L).lookup c=j v/\wp d B ag v r:=by
 intro he;induction he with
 |nil=>intro L g3 l c r h;cases g3<;>cases h
 |cons x he ih=>
  intro L g3 l c r h;cases l with
  |nil=>cases h
  |cons l No=>
   rw[hY,en]at h;rw[hY,en];split at h;·rename_i q;cases h;exact⟨_,rfl,l⟩
   ·rename_i q;exact ih No h
theorem Z0{he:p X}{x:X×cd}(h:x∈he.zip L):x.1∈he:=(Ko h).1
theorem Z1:∀{he:p X} {g3:p R} {c:X} {r:R},(he.zip g3).lookup c=j r->c∈he:=by
 intro he;induction he with
 |nil=>intro g3 c r h;cases g3<;>cases h
 |cons x he ih=>
  intro g3 c r h;cases g3 with
  |nil=>cases h
  |cons g g3=>
   rw[hY,en]at h;split at h;·rename_i q;exact eq_of_beq q▸.head _
   ·exact .tail _ (ih h)
theorem Gg{he:p X}{lj:ga}(bJ:j_ d e GE body he lj)(Z:W.ab d)(fg:lj=G->W.ak=V)(ay:cn d W.B W.ag L g3){s0:nl}(sK:Kn W.s (cQ GE W.h.objs.size e).locals (bindL (cQ GE W.h.objs.size e).kindOf (he.zip L) λa=>bn) (cQ GE W.h.objs.size e).cells (bindC (cQ GE W.h.objs.size e).kindOf (he.zip L) λa=>bn) s0)(fd:W.h.objs.size≤s0.heap.objs.size)(ty:W.s.toks≤s0.toks):(W.to s0).ab d/\kw d [] W (W.to s0)/\Tl d (cQ GE W.h.objs.size e) (he.zip g3) (W.to s0):=by
 obtain⟨a3,ao,rfl⟩:=sK.toInCall.same;have av:Mv [] W.s {W.s with heap:=a3,toks:=ao}:=Mv.fr fd sK.toInCall.keep ty;have Db:=Z.av av (cR) Z.bare;have Ok:kw d [] W (W.to {W.s with heap:=a3,toks:=ao}):=kw.refl.av av cR;refine⟨Db,Ok,?_⟩;have Z2:∀c∈he,(cQ GE W.h.objs.size e).kindOf c=j .local\/(cQ GE W.h.objs.size e).kindOf c=j .cell:=λc f8=>xN (O:=cQ GE W.h.objs.size e) (bJ.params c f8);have keys:((eR (W.h.objs.size+1) GE.scope.names []).map (·.1)).Nodup:=Fx bJ.names ui (cR);have NE:∀c,(cQ GE W.h.objs.size e).kindOf c=j .cell->((cQ GE W.h.objs.size e).cells.lookup c).isSome=V:=λc f8=>vc (.inl (mem_of_lookup f8));have off:∀b,W.h.objs.size≤b->b∉W.aH/\W.B b=bn/\b≠d.tab:=λb cr=>⟨(Z.fresh cr).2.1,(Z.fresh cr).1,(Z.fresh cr).2.2⟩;refine⟨bJ.kind,bJ.glob,bJ.j4,⟨_,sK.toInCall.ns,λc r f8 gl=>?_⟩,λc r f8=>?_,λc t f0=>?_,sK.apart,λb cr=>?_,λc t f0=>?_,λc f8=>?_,λh=>fg (bJ.gen.symm.trans h)⟩;·obtain⟨v,FB,l⟩:=ND ay f8;exact⟨v,ZX bJ.apart FB gl,l⟩
 ·obtain⟨v,FB,l⟩:=ND ay f8;rcases Z2 c (Z1 f8)with k|k;·exact .inl k
  ·obtain⟨t,f0⟩:=wy.mp (NE c k);have:=sK.cell c t f0;rw[ZY bJ.apart FB (by rw[k];decide)]at this;exact .inr (.inl k) t v f0 this l
 ·have:=sK.cell c t (Fu keys f0);exact⟨_,this⟩
 ·rcases cq.mp cr with rfl|cr;·exact off _ (Da _)
  ·obtain⟨⟨c,t⟩,f0,rfl⟩:=dM.mp cr;exact off _ (jp (sK.above c t f0))
 ·exact r7 (sK.above c t f0)
 ·rcases f8 with f8|f8;·exact NE c f8
  ·exact aB f8 (bJ.ZZ c)
noncomputable def A'(f:bz)(o:p ca):Y (R×p ca):=f.casesOn (j (.none,o)) bn bn λr=>d4 r o
noncomputable def pV(J:Sc)(z:E)(bs:KT)(body:p wP)(he:p X)(g3:p R)(o:p ca):Y (R×p ca):=js (TT (bq J z bs) body (he.zip g3) o) λf a o=>A' f o
@[elab_as_elim] theorem NF{f:fG}{dm:bz}{Ch:fG->Prop}{l:R×p ca}(cD:nt d W f dm)(h:A' dm W.o=j l)(tY:j (R.none,W.o)=j l->Ch .next)(Fa:∀v r,wp d W.B W.ag v r->d4 r W.o=j l->Ch (.ret v)):Ch f:=cD.casesOn (motive:=λf dm a=>A' dm W.o=j l->Ch f) tY a' a' (λay h=>Fa _ _ ay h) h
theorem Gh(ds:d.ab)(Ps:∀A lw,zs (J.au+8) A->gw d J A (cQ GE lw e)){he:p X}(bJ:j_ d e GE body he){z:E}(lf:zs (J.au+9) A)(Z:W.ab d)(fg:W.ak=V){TE:t_}(aV:L.length=he.length)(fR:∀(A:xs) (P:p (X×cd)->nl->Prop) (a1:cd->nl->Prop),P (he.zip L) W.s->f4 d.M A (k7 GE TE) P a1 W.s)(ay:cn d W.B W.ag L g3){l:R×p ca}(h:pV J z GE.scope body he g3 W.o=j l)(hm:∀v y,y.ab d->kw d [] W y->y.o=l.2->x0 d y.B v l.1->C v y.s):iV d.M A (.call (.ref e) TE) (wants C a1) W.s:=by
 obtain⟨T,gt,hd⟩:=bJ.at_;have base:∀b T,d.az.get? b=j T->W.h.get? b=j T:=λb T g=>Z.old g;have s8:∀c∈he.zip L,GE.scope.names.lookup c.1=j .local\/(GE.scope.names.lookup c.1=j .cell/\((eR (W.h.objs.size+1) GE.scope.names []).lookup c.1).isSome=V):=by
  intro c f8;have:=bJ.params c.1 (Z0 f8);unfold bV at this;rw[ps]at this;rcases this with k|k;·exact .inl (bt.mp k)
  ·exact .inr ⟨bt.mp k,vc (.inl (mem_of_lookup (bt.mp k)))⟩
 refine ZS lf.room (base _ _ gt) hd (ds.nolimit.keeps base) (bJ.code.keeps base) bJ.body fR bJ.Gf s8 bJ.co bJ.gen bJ.kind λs0 sK fd ty=>?_;obtain⟨Db,Ok,cS⟩:=Gg bJ Z (λa=>fg) ay sK fd ty;have fS:zs (J.au+8) (A.deeper (cQ GE W.h.objs.size e)):=lf.deeper _;have a2:=Ge ds (Ps _ W.h.objs.size fS) fS z;have e2:∀er∈T0 (cQ GE W.h.objs.size e),W.h.objs.size≤er:=by
  intro b cr;rcases cq.mp cr with rfl|cr;·exact Da _
  ·obtain⟨⟨c,t⟩,f0,rfl⟩:=dM.mp cr;exact jp (sK.above c t f0)
 refine pz h λdm o0 wE f8 h=>s6 a2 f8 _ _ (W.to s0) Db cS rfl λf u8 P3 dO Ix bI cD=>NF cD ((show u8.o=wE from bI).symm▸h) (λg=>?_) λv r ay h=>?_;·exact hm .none u8 P3 (Ok.then' Z Ix λb cr=>.inr (e2 b cr)) (GT ko (aO g)) ((show R.none=l.1 from GT k1 (aO g))▸.none)
 ·obtain⟨ZB,cy,bL,eY,oA,pL⟩:=oy P3 ay h;have bR:=hm v ZB cy ((Ok.then' Z Ix λb cr=>.inr (e2 b cr)).trans bL) eY pL;rw[oA]at bR;exact bR
theorem Z3(ds:d.ab)(Ps:∀A lw,zs (J.au+8) A->gw d J A (cQ GE lw e)){he:p X}(bJ:j_ d e GE body he){z:E}(lf:zs (J.au+9) A)(Z:W.ab d)(fg:W.ak=V){eQ:p cd}(aV:L.length=he.length)(fR:∀(A:xs) (P:p (X×cd)->nl->Prop) (a1:cd->nl->Prop),P (he.zip L) W.s->f4 d.M A (k7 GE ⟨eQ,[]⟩) P a1 W.s)(ay:cn d W.B W.ag L g3){l:R×p ca}(h:pV J z GE.scope body he g3 W.o=j l)(hm:∀v y,y.ab d->kw d [] W y->y.o=l.2->x0 d y.B v l.1->C v y.s):f4 d.M A (call (.ref e) eQ) C a1 W.s:=n9 (Gh ds Ps bJ lf Z fg aV fR ay h hm)
end
section
variable{d:sw}{J:Sc}{A:xs}{H:hf}
noncomputable def nb.A_(W:nb):nb:={W with ag:=[],o:=[]}
theorem nb.ab.region(Z:W.ab d):W.A_.ab d where
 base:=Z.base
 bw:=Z.bw
 len:=rfl
 cells:=λi t g=>by cases g
 apart:=ui
 off:=cR
 iZ:=Z.iZ
 jv:=Z.jv
 fL:=Z.fL
 bare:=Z.bare
 toks:=Z.toks
 gen:=Z.gen
noncomputable def nb.back(y W:nb):nb:={y with ag:=W.ag,o:=W.o}
theorem NG(Z:W.ab d)(xz:y.ab d)(le:kw d [] W.A_ y):(y.back W).ab d/\kw d [] W (y.back W):=by
 have keep:∀e T,W.h.get? e=j T->(W.ak=V->e≠d.tab)->y.h.get? e=j T:=λe T g ty=>le.keep e T g (m4) (m4) ty;refine⟨⟨xz.base,xz.bw,Z.len,λi t g=>?_,Z.apart,λe h=>⟨?_,(Z.off e h).2⟩,xz.iZ,xz.jv,xz.fL,xz.bare,xz.toks,xz.gen⟩,⟨le.size,λe T g a a ty=>keep e T g ty,λe h=>.inl h,le.B,λe T g=>?_,lI _,⟨le.gens.old,le.gens.new,le.gens.keep,le.gens.size,le.gens.ak⟩,le.os,le.toks⟩⟩;·obtain⟨x,ln,q⟩:=Z.cells i t g;exact⟨x,ln,qO (W:=W) (y:=y.back W) le.B (lI _) (λn T h=>keep _ T h (λa=>(Z.off _ (j5 ln g n)).2)) q⟩
 ·cases AT:y.B e with
  |none=>exact AT
  |some T=>
   rcases le.eW e T AT with U|U|U;·have NH:W.B e=j T:=U;rw[(Z.off e h).1]at NH;cases NH
   ·cases U
   ·exact aB (Z.LD h) (dJ.mpr U)
 ·rcases le.eW e T g with U|U|U;·exact .inl U
  ·cases U
  ·exact .inr (.inr U)
noncomputable def Ba(J:Sc)(z:E)(bs:KT)(body:p wP)(he:p X)(cK:p R)(g3:p R):Y R:=pp (g3.length+cK.length==he.length) ((pV J z bs body he (g3++cK) []).map (·.1))
theorem Z4(ds:d.ab)(Ps:∀A lw,zs (J.au+8) A->gw d J A (cQ GE lw e)){he:p X}(bJ:j_ d e GE body he){z:E}(gl:jm d.K (.ref e)=V)(jH:∀B:aX,(∀e T,d.az.get? e=j T->B e=j T)->Is d B di cK)(fR:∀{W:nb},W.ab d->∀eQ:p cd,eQ.length+di.length=he.length->∀(A:xs) (P:p (X×cd)->nl->Prop) (a1:cd->nl->Prop),P (he.zip (eQ++di)) W.s->f4 d.M A (k7 GE ⟨eQ,[]⟩) P a1 W.s):
  j7 d (J.au+9) (.ref e) (Ba J z GE.scope body he cK) where
 keep:=λds Z=>sO ds Z gl
 call:=by
  intro A lf a1 C W L g3 r Z fg bZ h hm
  exact Gt h λae h=>d0 (P:=λr=>(∀v y,y.ab d->kw d [] W y->y.o=W.o->x0 d y.B v r->C v y.s)->f4 d.M A (call (.ref e) L) C a1 W.s) h (λl nw hm=>by
   have ae:g3.length+cK.length=he.length:=eq_of_beq ae
   have Bb:Is d W.B (L++di) (g3++cK):=bZ.append (jH _ Z.base)
   have l1:(L++di).length=he.length:=by rw[Bb.length,ct];exact ae
   have Gi:L.length+di.length=he.length:=by rw[<- ct];exact l1
   refine Z3 (W:=W.A_) ds Ps bJ lf Z.region fg l1 (fR Z.region L Gi) (Is.xa Bb) nw λv y xz aw bG jB=>?_
   obtain⟨P3,Ix⟩:=NG Z xz aw
   exact hm v (y.back W) P3 Ix rfl jB) hm
noncomputable def Gj(z:E):R->ga|.am i=>Dt i z|.app i=>Dt i z|.fI i _=>Dt i z|_=>V
noncomputable def pW(z:E):ca->ga|.inst _ s1=>s1.all λx=>Gj z x.2|_=>V
theorem Gk:∀{ag:h5} {o:p ca} (z:E),cH (ag.take z) (o.take z)<+:cH ag o
 |[],o,z=>by simp[cH]
 |_::_,[],z=>by simp[cH]
 |x::ag,t::o,0=>by simp[cH]
 |x::ag,t::o,z+1=>by
  have ih:=Gk (ag:=ag) (o:=o) z;rw[afL,afL];unfold cH;split;·exact(List.prefix_cons_inj _).mpr ih
  ·exact ih
theorem wp.cut{B:aX}{z:E}(l:wp d B ag v r)(h:Gj z r=V):wp d B (ag.take z) v r:=by cases l with|aq f=>exact .aq f|am nw=>exact .am (by rw[Du (Dv.mp h)];exact nw)|app nw AT=>exact .app (by rw[Du (Dv.mp h)];exact nw) AT|fI nw AT=>exact .fI (by rw[Du (Dv.mp h)];exact nw) AT
noncomputable def nb.cut(W:nb)(z:E):nb:={W with ag:=W.ag.take z,o:=W.o.take z}
theorem nb.ab.cut(Z:W.ab d){z:E}(f0:(W.o.take z).all (pW z)=V):(W.cut z).ab d:=by
 have ln:(W.cut z).aH<+:W.aH:=Gk z;refine⟨Z.base,Z.bw,by show(W.ag.take z).length=(W.o.take z).length;rw[Dw,Dw,Z.len],λi t g=>?_,Z.apart.sublist ln.sublist,λe db=>Z.off e (ln.subset db),Z.iZ,Z.jv,Z.fL,Z.bare,Z.toks,Z.gen⟩;have aT:(W.o.take z)[i]?=j t:=g;have np:i<z:=by have:=(rY.mp aT).1;rw[Dw]at this;left
 have bu:W.o[i]?=j t:=by rw[Du np]at aT;exact aT
 obtain⟨x,i9,q⟩:=Z.cells i t bu;refine⟨x,by show(W.ag.take z)[i]?=j x;rw[Du np];exact i9,?_⟩;have Gl:=lO.mp f0 t (Dx aT);cases t with
 |list n=>exact q
 |set n=>exact q
 |aq r=>exact q
 |inst J s1=>
  obtain⟨h1,bd,m,ex,i3⟩:=q;refine⟨h1,bd,m,ex,?_⟩;have bR:∀{bd:p f5} {s1:p (X×R)},f9 d W.B W.ag bd s1->(s1.all λx=>Gj z x.2)=V->f9 d W.B (W.ag.take z) bd s1:=by intro bd s1 l;induction l with|nil=>intro _;exact .nil|cons k t1 v l ih=>intro h;rw[S5,iT]at h;exact .cons k t1 (v.cut h.1) (ih h.2)
  exact bR i3 Gl
noncomputable def s_(J:Sc)(z:E)(bs:KT)(body:p wP)(he:p X)(cK:p R)(g3:p R)(o:p ca):Y (R×p ca):=pp (g3.length+cK.length==he.length)<|s4 (pV J z bs body he (g3++cK) o) λr wE=>pp ((wE.take o.length).all (pW o.length)) (j (r,wE.take o.length))
structure x6(d:sw)(au:E)(v:cd)(xL:p R->p ca->Y (R×p ca)):Prop where
 call:∀{A:xs},zs au A->∀{a1:cd->nl->Prop} {C:cd->nl->Prop} {W:nb} {c:cd} {i:E} {L:p cd} {g3:p R} {l:R×p ca},W.ab d->W.ak=V->wp d W.B W.ag c (.am i)->Is d W.B L g3->xL (.am i::g3) W.o=j l->
  (∀eH y,y.ab d->kw d [] W y->y.o=l.2->x0 d y.B eH l.1->C eH y.s)->iV d.M A (.call v ⟨c::L,[]⟩) (wants C a1) W.s
theorem NI(ds:d.ab)(Ps:∀A lw,zs (J.au+8) A->gw d J A (cQ GE lw e)){he:p X}(bJ:j_ d e GE body he){z:E}(gl:jm d.K (.ref e)=V)(jH:∀B:aX,(∀e T,d.az.get? e=j T->B e=j T)->Is d B di cK)(fR:∀{W:nb},W.ab d->∀eQ:p cd,eQ.length+di.length=he.length->∀(A:xs) (P:p (X×cd)->nl->Prop) (a1:cd->nl->Prop),P (he.zip (eQ++di)) W.s->f4 d.M A (k7 GE ⟨eQ,[]⟩) P a1 W.s):
  x6 d (J.au+9) (.ref e) (s_ J z GE.scope body he cK) where
 call:=by
  intro A lf a1 C W c i L g3 l Z fg x7 bZ h hm
  refine Gt h λae h=>b8 h λr wE nw h=>Gt h λfi h=>?_
  have ae:(R.am i::g3).length+cK.length=he.length:=eq_of_beq ae
  have h:=aO h
  have Bb:Is d W.B (L++di) (g3++cK):=bZ.append (jH _ Z.base)
  have NJ:cn d W.B W.ag ((c::L)++di) ((R.am i::g3)++cK):=.cons x7 (Is.xa Bb)
  have l1:((c::L)++di).length=he.length:=by rw[NJ.length,ct];exact ae
  have Gi:(c::L).length+di.length=he.length:=by rw[<- ct];exact l1
  refine Gh ds Ps bJ lf Z fg l1 (fR Z (c::L) Gi) NJ nw λv y xz aw bG jB=>?_
  have bG:y.o=wE:=bG
  have bf:y.ag.take W.o.length=W.ag:=by
   obtain⟨u,ty⟩:=aw.ag
   rw[<- ty,<- Z.len,List.take_left']
   rfl
  refine hm v (y.cut W.o.length) (xz.cut (by rw[bG];exact fi)) ⟨aw.size,aw.keep,λe db=>aw.aH e ((Gk (ag:=y.ag) (o:=y.o) W.o.length).subset db),aw.B,aw.eW,?_,⟨aw.gens.old,aw.gens.new,aw.gens.keep,aw.gens.size,aw.gens.ak⟩,aw.os,aw.toks⟩ ?_ ((show r=l.1 from GT k1 h)▸jB)
  ·show W.ag<+:y.ag.take W.o.length
   rw[bf];exact lI _
  ·exact(GT (List.take _) bG).trans (GT ko h)
theorem Z5(ds:d.ab)(Ps:∀A lw,zs (J.au+8) A->gw d J A (cQ GE lw e)){he:p X}(bJ:j_ d e GE body he){z:E}(gl:jm d.K (.ref e)=V)(jH:∀B:aX,(∀e T,d.az.get? e=j T->B e=j T)->Is d B di cK)(fR:∀{W:nb},W.ab d->∀eQ:p cd,eQ.length+di.length=he.length->∀(A:xs) (P:p (X×cd)->nl->Prop) (a1:cd->nl->Prop),P (he.zip (eQ++di)) W.s->f4 d.M A (k7 GE ⟨eQ,[]⟩) P a1 W.s):
  qY d (J.au+9) (.ref e) (s_ J z GE.scope body he cK) where
 keep:=gl
 call:=λlf a a a a a a a a Z fg x7 bZ h hm=>n9 ((NI ds Ps bJ gl jH fR).call lf Z fg x7 bZ h hm)
end
section
variable{d:sw}{B:aX}{P:cd->Prop}
@[elab_as_elim] theorem wp.e_(l:wp d B ag v (.str c))(a2:∀u,P (.str c u)):P v:=(x0.i l.i).elim λu g=>Eq.symm g▸a2 u
@[elab_as_elim] theorem wp.Bc(l:wp d B ag v (.cg g2))(a2:P g2):P v:=Eq.symm (x0.i l.i)▸a2
@[elab_as_elim] theorem x0.ov{n:p (X×R)}(l:x0 d B v (.cF n))(a2:∀e bd z,(e==mL)=G->B e=j (fJ bd.toArray z)->cG d B bd n->P (.ref e)):P v:=l.i.elim λe q=>q.elim λbd q=>q.elim λz q=>q.1.symm▸a2 e bd z q.2.1 q.2.2.1 q.2.2.2
@[elab_as_elim] theorem wp.ov{n:p (X×R)}(l:wp d B ag v (.cF n))(a2:∀e bd z,(e==mL)=G->B e=j (fJ bd.toArray z)->cG d B bd n->P (.ref e)):P v:=x0.ov l.i a2
@[elab_as_elim] theorem x0.hG(l:x0 d B v (.ah n))(a2:∀e L z,B e=j (SL L.toArray z)->Is d B L n->P (.ref e)):P v:=l.i.elim λe q=>q.elim λL q=>q.elim λz q=>q.1.symm▸a2 e L z q.2.1 q.2.2
@[elab_as_elim] theorem wp.hG(l:wp d B ag v (.ah n))(a2:∀e L z,B e=j (SL L.toArray z)->Is d B L n->P (.ref e)):P v:=x0.hG l.i a2
@[elab_as_elim] theorem wp.EM{n:p X}(l:wp d B ag v (.iA n))(a2:∀e T,B e=j T->l0 d.w T n->P (.ref e)):P v:=(x0.i l.i).elim λe q=>q.elim λT q=>q.1.symm▸a2 e T q.2.1 q.2.2
@[elab_as_elim] theorem wp.Gm{i:E}(l:wp d B ag v (.am i))(a2:∀e m,ag[i]?=j (e,m)->P (.ref e)):P v:=(show∃e m,v=.ref e/\ag[i]?=j (e,m)from l.i).elim λe q=>q.elim λm q=>q.1.symm▸a2 e m q.2
@[elab_as_elim] theorem wp.EO{i:E}(l:wp d B ag v (.fI i f))(a2:∀q e m,ag[i]?=j (e,m)->B q=j (sA f (.ref e))->P (.ref q)):P v:=(show∃q e m,v=.ref q/\ag[i]?=j (e,m)/\B q=j (sA f (.ref e))from l.i).elim λq h=>h.elim λe h=>h.elim λm h=>h.1.symm▸a2 q e m h.2.1 h.2.2
@[elab_as_elim] theorem x0.e_(l:x0 d B v (.str c))(a2:∀u,P (.str c u)):P v:=l.i.elim λu g=>g.symm▸a2 u
@[elab_as_elim] theorem x0.de{c:m0}(l:x0 d B v (.int c))(a2:∀u,P (.int c u)):P v:=l.i.elim λu g=>g.symm▸a2 u
@[elab_as_elim] theorem x0.pF(l:x0 d B v (.tup n))(a2:∀e L z,B e=j (d3 L.toArray z)->Is d B L n->P (.ref e)):P v:=l.i.elim λe q=>q.elim λL q=>q.elim λz q=>q.1.symm▸a2 e L z q.2.1 q.2.2
@[elab_as_elim] theorem Is.Z6{P:p cd->Prop}{g:R}(l:Is d B L [r,g])(a2:∀v g2,x0 d B v r->x0 d B g2 g->P [v,g2]):P L:=l.i.elim λv q=>q.elim λb7 q=>q.1.symm▸(show∃g2 zr,b7=g2::zr/\x0 d B g2 g/\Is d B zr []from q.2.2.i).elim λg2 U=>U.elim λzr U=>U.1.symm▸(show zr=[]from U.2.2.i).symm▸a2 v g2 q.2.1 U.2.1
end
noncomputable def x8:E->p E->p R|_,[]=>[]|k,t::l=>.tup [.int (k:E),.str ⟨#[t]⟩]::x8 (k+1) l
section
variable{d:sw}
def x9(d:sw)(ai:kt)(c:X)(St:E->bl->Prop):Prop:=∀hb:xs,hb.handled=bn->Draws d.prog d.w hb ai [ai] c.cps.size (λi v=>∃t g2,c.cps[i]?=j t/\v=.str ⟨#[t]⟩ g2) St
inductive nx(d:sw)(g ai:kt)(c:X)(St:E->bl->Prop)(l:p R)(W:nb):Prop|mk (k:E) (old:cd):k≤c.cps.size->IsEnum W.h g ai ((k:E):m0) old->St k W.h->bc d [g,ai] W->l=x8 k (c.cps.toList.drop k)->nx d g ai c St l W
theorem nx.fj{g:kt}{St:E->bl->Prop}{l:p R}(h:nx d g ai c St l W)(NK:W.h=y.h)(aj:bc d [g,ai] W->bc d [g,ai] y):nx d g ai c St l y:=h.casesOn λk old e b t r f=>⟨k,old,e,NK▸b,NK▸t,aj r,f⟩
theorem mh{A:xs}(lf:zs au A){g:kt}(aC:g≠ai){St:E->bl->Prop}(fk:x9 d ai c St):ng d A (.ref g) [g,ai] (nx d g ai c St) V G where
 next:=by
  intro a1 bP C u W r l ty Z Ns hm
  obtain⟨k,old,gl,rs,aa,ar,nw⟩:=Ns
  have bU:k<c.cps.size:=by
   rcases sd k c.cps.size with h|h
   ·exact h
   ·rw[Kp (by simpa using h)]at nw;cases nw
  have Z7:c.cps.toList.drop k=c.cps[k]::c.cps.toList.drop (k+1):=by
   rw[TL (by simpa using bU)];simp
  rw[Z7]at nw
  injection nw with hd nw
  refine fc (wpAny_pyNext_enum_itemD (fk A.in1 lf.handled) rs aa bU aC (by simpa using aC) λv eg ao iD gt c7 bM fd Z8 cT gQ=>⟨_,rfl,?_⟩)
  obtain⟨t,g2,f0,rfl⟩:=iD
  have q4:=ty rfl
  have ahe:@jn E _ g W.h.objs.size:=b1 rs
  have ahf:@jn E _ ai W.h.objs.size:=by obtain⟨_,I⟩:=(fk A lf.handled).live _ _ aa;exact b1 I
  have ahg:W.s.heap.objs.size=W.h.objs.size:=rfl
  refine pF q4 λbd aL h0=>?_
  refine wpAny_letOwnedTupleGo_enum gt λgR Z9 gO=>?_
  have ff:=Z.fresh (Da W.h.objs.size)
  have oD:∀t T,t≠g->eg.get? t=j T->gR.get? t=j T:=λt T f0 g=>(gO.2 t f0).trans g
  have av:Mv [g,ai] W.s {W.s with heap:=gR,toks:=ao+1}:=by
   refine⟨by show W.h.objs.size≤gR.objs.size;rw[gO.1];exact cT,λt T g f0=>?_,λa a g=>g,rfl,gQ⟩
   simp only[cq,r_,TM,wQ]at f0
   exact oD t T f0.1 (Z8 t T f0.1 f0.2 g)
  obtain⟨xz,aw⟩:=ar.av Z av Z.bare
  have Fn:gR.get? W.h.objs.size=j (d3 [.int k ao,.str ⟨#[t]⟩ g2].toArray 0):=oD _ _ (λ(q:@Eq E _ _)=>by left) bM
  have P3:=xz.aq (e:=W.h.objs.size) Fn ff.2.1 ff.2.2
  have Ix:=aw.aq (e:=W.h.objs.size) (T:=d3 [.int k ao,.str ⟨#[t]⟩ g2].toArray 0) (.inl ff.1) (Da _)
  have Z':St (k+1) gR:=(fk A lf.handled).frame _ _ _ c7 λb cr T gt=>oD b T (λq=>aC (by rw[<- q];exact a9.mp cr)) gt
  have sU:=ar.MN (y:=W.to {W.s with heap:=gR,toks:=ao+1}) (T:=d3 [.int k ao,.str ⟨#[t]⟩ g2].toArray 0) rfl rfl Ix.size
  have Gl:c.cps[k]=t:=by
   have:=mN bU
   rw[f0]at this;exact(aO this).symm
  subst hd
  refine hm _ _ P3 Ix rfl (.tup (nb.hD ..) (.two (.int _ _) (by rw[Gl];exact .str _ _))) ⟨k+1,.str ⟨#[t]⟩ g2,bU,Z9,Z',sU,nw⟩
 done:=by
  intro a1 C W Z Ns hm
  obtain⟨k,old,gl,rs,aa,ar,nw⟩:=Ns
  have dz:k=c.cps.size:=by
   rcases sd k c.cps.size with h|h
   ·rw[TL (by simpa using h)]at nw;cases nw
   ·left
  subst dz
  refine fc (wpAny_pyNext_enum_endD (fk A.in1 lf.handled) rs aa λeg f8 cT gQ=>⟨rfl,?_⟩)
  have av:Mv [g,ai] W.s {W.s with heap:=eg,toks:=W.s.toks}:=by
   refine⟨cT,λt T g f0=>?_,λa a g=>g,rfl,Da _⟩
   simp only[cq,r_,TM,wQ]at f0
   exact f8 t T f0.2 g
  obtain⟨xz,aw⟩:=ar.av Z av Z.bare
  exact hm _ xz aw rfl
 fP:=λa a Ns le Tk a=>by
  obtain⟨k,old,gl,rs,aa,ar,nw⟩:=Ns
  exact⟨k,old,gl,ar.keep le Tk (by simp) rs,(fk {handled:=bn,depth:=0,frames:=bn,guards:=bn,units:=0} rfl).frame _ _ _ aa λb cr T gt=>ar.keep le Tk (by rw[a9.mp cr];simp) gt,ar.le le Tk,nw⟩
 ar:=λ⟨_,_,_,_,_,T,_⟩=>T
 again:=by
  intro a1 C W l Ns h
  obtain⟨k,old,gl,rs,aa,ar,nw⟩:=Ns
  exact afM rs h
end
section
variable{Ch:iw}{A:xs}{wf:wR}{z:E}{t:uo}{s1:p wC}{O:IN}
variable{K:cY->aP Fin}{a2:cd->aP Fin}{pp:ga->ga}{au:p cd->p cd}
theorem ny{m:aP t0}{f:t0->aP cY}(h:f4 Ch (A.over t s1) m (λe it=>Seg Ch A wf cf z KF t ((f e).wrap K a2 pp au) s1 it) (λc it=>Seg Ch A wf cf z KF t (a2 c) s1 it) s):Seg Ch A wf cf z KF t ((m>>=f).wrap K a2 pp au) s1 s:=by rw[Dy,Dz];exact Kq h
end
section
variable{Ch:iw}{A:xs}{wf:wR}{z:E}{t:uo}{s1:p wC}{O:IN}{K:fG->aP Fin}{a2:cd->aP Fin}{pp:ga->ga}{au:p cd->p cd}
noncomputable def NL(aez:p wP)(O:IN)(K:fG->aP Fin)(a2:cd->aP Fin)(pp:ga->ga)(au:p cd->p cd)(f:fG):aP Fin:=match f with|.next=>(oa aez O).wrap K a2 pp au|f=>K f
theorem ka{aa:wP}{rest:p wP}(h:Seg Ch A wf cf z KF t ((exec aa O).wrap (NL rest O K a2 pp au) a2 pp au) s1 s):Seg Ch A wf cf z KF t ((oa (aa::rest) O).wrap K a2 pp au) s1 s:=seg_execs_cons h
theorem mi(h:Seg Ch A wf cf z KF t (K .next) s1 s):Seg Ch A wf cf z KF t (NL [] O K a2 pp au .next) s1 s:=h
theorem x'{JJ:bv}{ws:p wP}(h:f4 Ch (A.over t s1) (g8 JJ O (eval JJ O)) (λb it=>Seg Ch A wf cf z KF t ((oa (if b=V then body else ws) O).wrap K a2 pp au) s1 it) (λc it=>Seg Ch A wf cf z KF t (a2 c) s1 it) s):Seg Ch A wf cf z KF t ((exec (.If JJ body ws h0) O).wrap K a2 pp au) s1 s:=by rw[exec_If];refine ny (fF (ny (cJ h (λb it eg=>?_) λa a c=>c)));cases b<;>exact eg
theorem Bd{aa:wP}(h:f4 Ch (A.over t s1) (exec aa O) (λf it=>Seg Ch A wf cf z KF t (K f) s1 it) (λc it=>Seg Ch A wf cf z KF t (a2 c) s1 it) s):Seg Ch A wf cf z KF t ((exec aa O).wrap K a2 pp au) s1 s:=Kq h
noncomputable def Gn(O:IN)(K:fG->aP Fin)(a2:cd->aP Fin)(pp:ga->ga)(au:p cd->p cd)(l:qp):aP Fin:=
 ((match l with|.ok f=>(.pure f:aP fG)|.error g=>.raise g).onRaise λ(c:cd)=>do
  if(<- DA c 1)==jX then unsupported "frame.own-activation:exception-without-traceback"
  setFlight c O.frame).wrap K a2 pp au
theorem NM{ws:p wP}(fd:∀c,pq iter O c=pure c)(h:f4 Ch (A.over t s1) (eval iter O) (λc s0=>f4 Ch (A.over t s1) (d9 c) (λai aD=>∀x,Seg Ch A wf cf z KF (.forLoop gE ai body ws O) (Ch.den (.forLoop gE ai body ws O)) (.ret (Gn O K a2 pp au) bn (pp G) (au []) t x []::s1) aD) (λc it=>Seg Ch A wf cf z KF t (a2 c) s1 it) s0) (λc it=>Seg Ch A wf cf z KF t (a2 c) s1 it) s):Seg Ch A wf cf z KF t ((exec (.For gE iter body ws h0) O).wrap K a2 pp au) s1 s:=by rw[exec_For];refine ny (fF (ny (cJ h (λc s0 a3=>ny (qw (fd c) ?_)) λa a c=>c)));refine ny (fF (ny (dF (cJ a3 (λai aD gd=>?_) λa a c=>c))));exact seg_call gd
end
section
variable{A:xs}{wf:wR}{z:E}{t:uo}{s1:p wC}{O:IN}
noncomputable def Be(O:IN)(g:cd):aP Fin:=(do noteFrame g O;theTreesLotGoes g:aP g7).wrap (λa=>.raise g) .raise id id
noncomputable def Bf(u:bv)(ai:cd)(b:p wP)(O:IN)(f:fG):aP Fin:=match f with|.next|.cont=>.pure (.again (.forLoop u ai b [] O))|.brk=>.pure (.done .next)|.ret v=>.pure (.done (.ret v))
theorem x_{ai:cd}{gU:wR}(h:f4 (aE prog w) (A.over (.forLoop gE ai body [] O) s1) (hu ai) (λT s0=>match T with|none=>Seg (aE prog w) A wf cf z KF (.block [] O) ((aE prog w).den (.block [] O)) s1 s0|some v=>f4 (aE prog w) (A.over (.forLoop gE ai body [] O) s1) (qy gE ai v) (λa aD=>f4 (aE prog w) (A.over (.forLoop gE ai body [] O) s1) (iU gE O v) (λa ve=>Seg (aE prog w) A wf cf z KF (.forLoop gE ai body [] O) ((oa body O).wrap (Bf gE ai body O) (Be O) id id) s1 ve) (λa a=>gG) aD) (λa a=>gG) s0) (λa a=>gG) s):Seg (aE prog w) A wf cf z KF (.forLoop gE ai body [] O) ((aE prog w).den (.forLoop gE ai body [] O)) s1 s:=by show Seg _ A wf cf z KF _ ((forTurn gE ai body [] O).onRaise (λc=>do noteFrame c O;theTreesLotGoes c)) s1 s;unfold forTurn;rw[Sem.onRaise_eq_wrap];refine ny (fF (ny (wpAny_onRaise (cJ h (λT s0 a3=>?_) λa a c=>c.elim))));cases T with|none=>exact TN rfl a3|some v=>refine ny (cJ a3 (λa aD gd=>?_) λa a c=>c.elim);refine ny (cJ gd (λa ve pP=>?_) λa a c=>c.elim);rw[Dy,Dz];rw[Sem.wrap_congr (oa body O) _ _ (K':=Bf gE ai body O) (H':=Be O) (λf=>by cases f<;>rfl) (λg=>by unfold Be;first|exact afN _ _|(show(do noteFrame g O;theTreesLotGoes g:aP g7).bind (λa=>.raise g)=_;rw[afN]))];exact pP
theorem ya{ai:cd}(h:Seg (aE prog w) A wf cf z KF (.forLoop gE ai body [] O) ((aE prog w).den (.forLoop gE ai body [] O)) s1 s):Seg (aE prog w) A wf cf z KF t (Bf gE ai body O .next) s1 s:=TN rfl h
theorem NN{k:qp->aP Fin}{h d n kY a_ nz}(gl:Seg (aE prog w) A wf cf z KF kY (k (.ok .next)) s1 s):Seg (aE prog w) A wf cf z KF (.block [] O) ((aE prog w).den (.block [] O)) (.ret k h d n kY a_ nz::s1) s:=seg_leaf (.ok .next) gl
theorem NO{K:fG->aP Fin}{a2:cd->aP Fin}{pp:ga->ga}{au:p cd->p cd}:Gn O K a2 pp au (.ok .next)=K .next:=rfl
end
section
variable{A:xs}
theorem NP{d z:E}{gF:C'}{P:E->nl->nl->Prop}{C:Y cd->nl->Prop}(t1:A.handled=bn)(ae:s.heap.NoLimit)(oI:A.depth<SU)(Os:s.heap.IsGen e d)(kD:s.gens[d]?=j gF)(pX:gF.Goes (aE prog w) A.in1 (λz KF l s0=>l=.ok (.ret .none)/\P z KF s0) cf z (.send .none) (s.setGen d .running))(Z_:∀v s0 gV,gV.bare=V->cf (z - 1) (s.setGen d .running) v s0 (λeb eG=>match z with
    |0=>gG
    |m+1=>gV.Goes (aE prog w) A.in1 (λz KF l s0=>l=.ok (.ret .none)/\P z KF s0) cf m eb eG)->C (j v) (s0.setGen d gV))(iD:∀s0,P z (s.setGen d .running) s0->∀eg,(∀b T,s0.heap.get? b=j T->eg.get? b=j T)->C bn {s0.setGen d .finished with heap:=eg}):
  f4 (aE prog w) A (hu (.ref e)) C a1 s:=by
 unfold hu;refine g1 (uq (ul (name:=mV "__next__") Os.typeIs slot_gen_next (mW slot_gen_next Os.typeIs entry_gen_next ?_ (args_gen_next _))));show f4 _ A.in1 (afO (.ref e) (.send .none)) _ _ s;unfold afO;refine g1 (dF (wpAny_genNumber Os (g1 (wpAny_genState kD ?_))));cases gF with
 |running=>exact pX.elim
 |finished=>exact pX.elim
 |_=>
  refine g1 (wpAny_roomToWake ae oI ?_);show f4 _ A.in1 (.resume d (.send .none) [] _) _ _ s;refine wpAny_resumeQ kD pX (λc s0 f8=>?_) (λv s0 gV cr FB=>?_)
  ·obtain⟨rfl,ln⟩:=f8;show f4 _ A.in1 (zO (.type "StopIteration") []>>=_) _ _ _;refine g1 ?_;simp only[zO,Dg];refine g1 (k2 ?_ (by size_fits));refine g1 (m:=zP _ _) (qw (a:=jX) (by first|rfl|(simp only[zP];rfl)) ?_);refine k2 ?_ (by size_fits);simp only[Kr];refine g1 (g1 (TO ?_));first|rw[show A.in1.handled=bn from t1]|rw[t1]
   refine TP ?_;refine g1 (wG (T:="StopIteration") (b:=V) ⟨_,dK _ rfl,rfl⟩ TQ ?_);exact s2 (iD s0 ln _ λb T cr=>cP _ (cP _ cr))
  ·exact s2 ⟨v,rfl,s2 (Z_ v s0 gV cr FB)⟩
theorem NQ{SD:p bv}{u4}{lv a7:kt}{d:E}{C:g7->nl->Prop}(cI:s.heap.IsGen lv d)(hm:C () s):f4 (aE prog w) A (qy (.Tuple SD u4 h0) (.ref lv) (.ref a7)) C a1 s:=by obtain⟨T,nm,yb,gt,f0,hd,_⟩:=cI;unfold qy;refine g1 (Dj gt ?_);rw[f0,hd];show f4 _ A (if(["enumerate","zip","dict_itemiterator","dict_reverseitemiterator","odict_iterator","itertools.zip_longest","itertools.pairwise"].contains "generator"&&(#[.int d 0,nm,yb]:bD cd)[0]?==j (gr a7))=V then _ else _) C a1 s;rw[ss (by intro h;rw[show(["enumerate","zip","dict_itemiterator","dict_reverseitemiterator","odict_iterator","itertools.zip_longest","itertools.pairwise"].contains "generator")=G from by decide,TK]at h;cases h)];exact s2 hm
end
noncomputable def br(d:sw)(s:nl):nb:={ag:=[],o:=[],B:=d.az.get?,s:=s,N:=λa=>bn,ak:=G}
section
variable{d:sw}{sK:p kt}
theorem mj(ds:d.ab)(dg:∃T,d.az.get? d.et=j T)(Z:W.ab d):(br d W.s).ab d where
 base:=λa a g=>g
 bw:=λa a g=>Z.old g
 len:=rfl
 cells:=λi t g=>by cases g
 apart:=ui
 off:=cR
 iZ:=ds.tab
 jv:=dg
 fL:=⟨Z.fL.1,λh=>by cases h⟩
 bare:=Z.bare
 toks:=Z.toks
 gen:=⟨λa a g=>by(cases g),λa a a g=>by(cases g)⟩
theorem Bg(le:kw d sK (br d s) W):kw d sK (br d s) (br d W.s) where
 size:=le.size
 keep:=le.keep
 aH:=cR
 B:=λa a g=>g
 eW:=λa a g=>.inl g
 ag:=lI _
 gens:=⟨λa a g=>by(cases g),λa a g=>by(cases g),λi c g a=>le.gens.keep i c g λe a q=>by
  rcases le.gens.new e i q with U|U
  ·cases U
  ·exact aB (t6.mp g).1 (dJ.mpr U),le.gens.size,rfl⟩
 os:=le.os
 toks:=le.toks
noncomputable def rf(d:sw)(W:nb):nb:={br d W.s with N:=W.N}
theorem Gp(le:kw d sK W y):kw d (d.tab::(sK++W.aH)) (rf d W) (rf d y) where
 size:=le.size
 keep:=λe T g a Tk a=>le.keep e T g (λq=>Tk (.tail _ (pu _ q))) (λq=>Tk (.tail _ (oc _ q))) (λa q=>Tk (q▸.head _))
 aH:=cR
 B:=λa a g=>g
 eW:=λa a g=>.inl g
 ag:=lI _
 gens:=⟨le.gens.old,le.gens.new,λi c g Tk=>le.gens.keep i c g λe db=>Tk e (.tail _ (oc _ db)),le.gens.size,rfl⟩
 os:=le.os
 toks:=le.toks
theorem NR(ds:d.ab)(dg:∃T,d.az.get? d.et=j T)(Z:W.ab d):(rf d W).ab d:=
 let k:=mj ds dg Z
 ⟨k.base,k.bw,k.len,k.cells,k.apart,k.off,k.iZ,k.jv,k.fL,k.bare,k.toks,Z.gen⟩
def Step(d:sw)(lv:p kt)(s it:nl):Prop:=kw d lv (br d s) (br d it)/\(br d it).ab d
theorem NS{i:E}{gV yc:C'}{s0:nl}(Z:W.ab d)(ar:bc d (aM::lv) W)(kz:W.N aM=j i)(aa:Step d lv (W.s.setGen i yc) s0)(cr:gV.bare=V)(gl:∀b T,s0.heap.get? b=j T->it.heap.get? b=j T)(Os:it.gens=(s0.setGen i gV).gens)(ty:s0.toks≤it.toks)(nv:it.os=s0.os)(fd:W.h.objs.size≤it.heap.objs.size):(W.to it).ab d/\kw d (aM::lv) W (W.to it):=by
 obtain⟨le,Db⟩:=aa;have keep:∀e T,W.h.get? e=j T->e∉lv->it.heap.get? e=j T:=λe T g bg=>gl e T (le.keep e T g (m4) bg (λh=>by cases h));have acl:∀e,(∃T,W.B e=j T)->e∉lv:=λe ⟨T,g⟩ h=>by rw[(ar e (.tail _ h)).2.2.1]at g;cases g
 have kD:W.s.gens.size≤it.gens.size:=by have h1:=le.gens.size;have ex:(W.s.setGen i yc).gens.size=W.s.gens.size:=(se ..).1;have h3:(s0.setGen i gV).gens.size=s0.gens.size:=(se ..).1;have xI:(W.s.setGen i yc).gens.size≤s0.gens.size:=h1;rw[Os,h3];left
 refine⟨⟨Z.base,λe T g=>keep e T (Z.bw e T g) (acl e ⟨T,g⟩),Z.len,λev t g=>?_,Z.apart,Z.off,Z.iZ,Z.jv,?_,?_,?_,?_⟩,⟨fd,λe T g pc Tk a=>keep e T g (λq=>Tk (.tail _ q)),λe h=>.inl h,λa a g=>g,λa a g=>.inl g,lI _,⟨λa a g=>g,λa a g=>.inl g,λev c g Tk=>?_,kD,rfl⟩,nv.trans le.os,aJ le.toks ty⟩⟩;·obtain⟨x,ln,q⟩:=Z.cells ev t g;exact⟨x,ln,qO (W:=W) (y:=W.to it) (λa a g=>g) (lI _) (λn T h=>keep _ T h (λq=>(ar _ (.tail _ q)).2.1 (j5 ln g n))) q⟩
 ·exact⟨hs Z.fL.1 fd,λh=>(Z.fL.2 h).keep (λT g=>keep _ T g λq=>(ar _ (.tail _ q)).2.2.2 rfl) λa a g=>g⟩
 ·show rZ it.gens;rw[Os];intro I KM;obtain⟨ev,s3,rfl⟩:=afP.mp KM;have h3:(s0.setGen i gV).gens.size=s0.gens.size:=(se ..).1;by_cases g:ev=i
  ·subst g;have kE:ev<s0.gens.size:=by rw[<- h3];exact s3
   have:=TR (s:=s0) (x:=gV) (mN kE);rw[mN s3]at this;rw[aO this];exact cr
  ·have h1:=(se s0 i gV).2 ev g;rw[mN s3]at h1;obtain⟨kE,aT⟩:=t6.mp h1.symm;exact aT▸Db.bare _ (afQ kE)
 ·exact hs Db.toks ty
 ·exact⟨λe ev g=>⟨hs (Z.gen.1 e ev g).1 kD,hs (Z.gen.1 e ev g).2 fd⟩,Z.gen.2⟩
 ·have aC:ev≠i:=λq=>Tk aM (.head _) (q▸kz);show it.gens[ev]?=j c;rw[Os,(se s0 i gV).2 ev aC];refine le.gens.keep ev c ?_ λe a q=>by cases q
  show(W.s.setGen i yc).gens[ev]?=j c;rw[(se W.s i yc).2 ev aC];exact g
end
def Gq(d:sw)(lv:p kt):E->nl->nl->Prop:=λz KF s0=>z=0/\Step d lv KF s0
def i'(d:sw)(lv:p kt):wR:=λz KF l s0=>l=.ok (.ret .none)/\Gq d lv z KF s0
structure yd(d:sw)(aM:kt)(b:ga)(lv:p kt)(hL:nb->Prop)(gs:nl->Prop):Prop where
 gen:∀s i c,c.bare=V->gs s->gs (s.setGen i c)
 ok:∀s,gs s->(br d s).ab d
 le:b=V->∀{W y:nb} {sK:p kt},W.ab d->y.ab d->bc d (aM::lv) W->hL W->gs W.s->kw d sK W y->(∀e∈lv,e∉sK)->gs y.s
inductive NT(d:sw)(aM:kt)(lv:p kt)(lw:p R)(ml:p kt->R->cd->nl->nl->Prop)(hL:nb->Prop)(m:E)(KF:nl)(v:cd)(s0:nl)(tZ:Resume->nl->Prop):Prop|mk (r:R) (bo:p R) (gs:nl->Prop):lw.drop (lw.length - (m+1))=r::bo->bo.length=m->Step d lv KF s0->(∀e∈lv,e<s0.heap.objs.size)->ml lv r v KF s0->yd d aM V lv hL gs->gs s0->(∀aD,gs aD->tZ (.send .none) aD)->NT d aM lv lw ml hL m KF v s0 tZ
def kF(d:sw)(aM:kt)(lv:p kt)(lw:p R)(ml:p kt->R->cd->nl->nl->Prop)(hL:nb->Prop):Protocol:=NT d aM lv lw ml hL
inductive Bh(d:sw)(A:xs)(aM:kt)(i:E)(lw:p R)(ml:p kt->R->cd->nl->nl->Prop)(hL:nb->Prop)(b:ga)(ye:p kt)(l:p R)(W:nb):Prop|mk (gF:C') (k:E) (gs:nl->Prop) (lv:p kt) (ql:nl->p kt):ye=aM::lv->aM∉lv->l=lw.drop k->W.N aM=j i->W.h.IsGen aM i->bc d (aM::lv) W->hL W->yd d aM b lv hL gs->gs W.s->W.s.gens[i]?=j gF->(∀aD,gs aD->∀e∈ql aD,e∈lv\/aD.heap.objs.size≤e)->(∀aD,gs aD->gF.Goes d.M A.in1 (i' d (ql aD)) (kF d aM (ql aD) lw ml hL) l.length (.send .none) aD)->Bh d A aM i lw ml hL b ye l W
inductive Gr(d:sw)(aM:kt)(lv gx:p kt)(W nn:nb)(v:cd)(r:R):Prop|mk (u8:nb):u8.ab d->kw d (aM::lv) W u8->u8.s=nn.s->u8.o=nn.o->bc d (aM::gx) u8->x0 d u8.B v r->Gr d aM lv gx W nn v r
theorem act{lw l:p R}{k:E}(h:l=lw.drop k):l=lw.drop (lw.length - l.length):=by
 subst h;rcases afR k lw.length with q|q
 ·rw[Ks,Nat.sub_sub_self q]
 ·rw[Kp q];simp
section
variable{d:sw}{A:xs}
theorem adc{i:E}(h:s.heap.IsGen aM i)(bN:C v s):f4 d.M A (qy u (.ref aM) v) (λa s=>C v s) a1 s:=by
 cases u with
 |Tuple bd t x=>cases v with|ref b=>exact NQ (C:=λa s=>C (.ref b) s) h bN|_=>exact s2 bN
 |List bd x=>cases v with|ref b=>exact(NQ (C:=λa s=>C (.ref b) s) (SD:=bd) (u4:=0) (h0:=x) h bN:f4 d.M A (qy (.Tuple bd 0 x) (.ref aM) (.ref b)) _ _ _)|_=>exact s2 bN
 |_=>exact s2 bN
theorem NU(ds:d.ab)(lf:zs (au+1) A){i:E}{lw:p R}{ml:p kt->R->cd->nl->nl->Prop}{hL:nb->Prop}(NV:∀{W y:nb} {sK:p kt},hL W->kw d sK W y->hL y)(add:∀{W nn:nb} {KF s0:nl} {r:R} {v:cd} {lv gx:p kt},W.ab d->nn.ab d->bc d (aM::gx) nn->kw d (aM::lv) W nn->hL W->KF.heap=W.s.heap->nn.s.heap=s0.heap->ml gx r v KF s0->aM<W.h.objs.size->nn.aH=W.aH->Gr d aM lv gx W nn v r):
  s7 d A (.ref aM) (Bh d A aM i lw ml hL) where
 next:=by
  intro a1 bP C u W r l ye b Z Ns hm
  obtain⟨gF,k,gs,lv,ql,rfl,oJ,nw,kz,jI,ar,ii,rg,ev,kD,yf,pX⟩:=Ns
  have ta:=act nw
  have Gs:aM<W.h.objs.size:=by obtain⟨T,_,_,gt,_⟩:=id jI;exact b1 gt
  have tb:=rg.gen _ i .running rfl ev
  let gx:=ql (W.s.setGen i .running)
  have nA:∀e∈gx,e∈lv\/W.h.objs.size≤e:=yf _ tb
  have adr:aM∉gx:=λh=>(nA aM h).elim oJ λh=>aB Gs (dJ.mpr h)
  refine fc (NP (P:=Gq d gx) (cf:=kF d aM gx lw ml hL) (z:=l.length+1) lf.handled (ds.nolimit.keeps λa a g=>Z.old g) lf.room jI kD (pX _ tb) (λv s0 gV cr KM=>?_) (λs0 ln=>?_))
  ·intro fd ty
   obtain⟨aR,bo,NW,hd,ae,aa,bU,pY,c7,Gu,tZ⟩:=KM
   have SZ:aR=r:=(J8 (ta.trans hd:r::l=aR::bo)).1.symm
   have stI:Step d lv (W.s.setGen i .running) s0:=⟨kw.then' (rg.ok _ tb) kw.refl aa.1 nA,aa.2⟩
   obtain⟨Db,Ok⟩:=NS (it:=s0.setGen i gV) Z ar kz stI cr (λa a g=>g) rfl (Da _) rfl fd
   have NX:s0.heap.IsGen aM i:=by
    obtain⟨T,nm,yb,gt,q⟩:=jI
    exact⟨T,nm,yb,stI.1.keep aM T gt (λq=>nomatch q) oJ (λa=>(ar aM (.head _)).2.2.2),q⟩
   have q2:bc d (aM::gx) (W.to (s0.setGen i gV)):=by
    intro e db
    rcases cq.mp db with rfl|db
    ·exact⟨hs Gs fd,(ar _ (.head _)).2⟩
    ·rcases nA e db with h|h
     ·exact⟨bU e db,(ar e (.tail _ h)).2⟩
     ·have f:=Z.fresh h
      exact⟨bU e db,f.2.1,f.1,f.2.2⟩
   obtain⟨u8,P3,Ix,fN,bI,sU,aig⟩:=add (nn:=W.to (s0.setGen i gV)) Z Db q2 Ok ii (KF:=W.s.setGen i .running) (s0:=s0) rfl rfl (SZ▸pY) Gs rfl
   have bU:i<s0.gens.size:=by
    have h1:=aa.1.gens.size
    have ex:(W.s.setGen i .running).gens.size=W.s.gens.size:=(se ..).1
    have xI:(W.s.setGen i .running).gens.size≤s0.gens.size:=h1
    have:=(Z.gen.1 aM i kz).1
    left
   have bN:C v (s0.setGen i gV):=by
    have bR:=hm v u8 (aM::gx) P3 Ix bI (λe db=>by
     rcases cq.mp db with rfl|db
     ·exact .inl (.head _)
     ·exact(nA e db).elim (λh=>.inl (.tail _ h)) .inr) aig ⟨gV,k+1,NW,gx,λa=>gx,rfl,adr,by rw[<- DB,<- nw];rfl,Ix.gens.old _ _ kz,by show u8.s.heap.IsGen aM i;rw[fN];exact NX,sU,NV ii Ix,c7,by rw[fN];exact c7.gen _ _ _ cr Gu,by rw[fN];exact TR (mN bU),λa a e db=>.inl db,λaD q=>tZ aD q⟩
    rw[fN]at bR;exact bR
   exact⟨v,rfl,adc (s:=s0.setGen i gV) NX bN⟩
  ·exact aB ln.1 (afj _)
 done:=by
  intro a1 C W ye b Z Ns hm
  obtain⟨gF,k,gs,lv,ql,rfl,oJ,nw,kz,jI,ar,ii,rg,ev,kD,yf,pX⟩:=Ns
  have tb:=rg.gen _ i .running rfl ev
  let gx:=ql (W.s.setGen i .running)
  have nA:∀e∈gx,e∈lv\/W.h.objs.size≤e:=yf _ tb
  refine fc (NP (P:=Gq d gx) (cf:=kF d aM gx lw ml hL) (z:=0) lf.handled (ds.nolimit.keeps λa a g=>Z.old g) lf.room jI kD (pX _ tb) (λv s0 gV cr KM=>?_) (λs0 ln eg gl fd ty=>⟨rfl,?_⟩))
  ·obtain⟨aR,bo,NW,hd,ae,aa,bU,pY,c7,Gu,tZ⟩:=KM
   exact(tZ _ Gu).elim
  ·obtain⟨_,aa⟩:=ln
   have stI:Step d lv (W.s.setGen i .running) s0:=⟨kw.then' (rg.ok _ tb) kw.refl aa.1 nA,aa.2⟩
   obtain⟨Db,Ok⟩:=NS (it:={s0.setGen i .finished with heap:=eg}) (gV:=.finished) Z ar kz stI rfl gl rfl (Da _) rfl fd
   exact hm _ Db Ok rfl
 fP:=by
  intro W y sK ye l Z xz Ns le Tk
  obtain⟨gF,k,gs,lv,ql,rfl,oJ,nw,kz,jI,ar,ii,rg,ev,kD,yf,pX⟩:=Ns
  obtain⟨T,nm,yb,gt,q⟩:=jI
  refine⟨gF,k,gs,lv,ql,rfl,oJ,nw,le.gens.old _ _ kz,⟨T,nm,yb,ar.keep le Tk (.head _) gt,q⟩,ar.le le Tk,NV ii le,rg,rg.le rfl Z xz ar ii ev le (λe db=>Tk e (.tail _ db)),le.gens.keep i gF kD λe db q=>?_,yf,pX⟩
  exact Tk aM (.head _) (xz.gen.2 e aM i q (le.gens.old _ _ kz)▸db)
end
noncomputable def Gv:Sc:={fn:=λa=>bn,i1:=λa a=>bn,fs:=λa=>bn,fld:=λa a=>G,gN:=λa a=>bn,fv:=λa a=>bn,hH:=λa=>G,gen:=λa=>bn,hI:=λa a=>bn,ext:=λa a=>bn,au:=0,turns:=0}
def vn(d:sw):Prop:=∀(f:X) (b:cd),mM f=j b->(b=.builtin "len"\/b=.builtin "max"\/b=.type "list"\/b=.type "tuple"\/b=.type "range"\/b=.type "zip")->d.mg f=bn
theorem Bi{d:sw}{A:xs}{O:IN}(cr:vn d):gw d Gv A O where
 fs:=λa a h=>by cases h
 i1:=λa a a h=>by cases h
 fld:=λa a h=>by cases h
 fn:=λa a h=>by cases h
 blt:=λf b a h k=>cr f b h k
 gN:=λa a a h=>by cases h
 fv:=λa a a h=>by cases h
 hH:=λa h=>by cases h
 gen:=λa a h=>by cases h
 range:=rfl
 zip:=rfl
 put:=λa a h=>by cases h
 hI:=λa a h=>by cases h
 ext:=λa a h=>by cases h
section
variable{bs:KT}{H:hf}{J:Sc}
theorem tc{z:E}(gt:bb c=V)(h:H.lookup c=j r):sB J (z+1) bs (.Name c x) H o=j (r,o):=Md.trans ((Re gt).trans (m5 h))
theorem alt{z:E}{e:X}{q:wS}(gt:bb c=V)(Uf:H.lookup c=j r)(FB:view o r=.inst t s1)(wn:s1.lookup e=j aR)(f0:J.fld t e=V)(Os:l6 aR=V):sB J (z+1) bs (.Attribute (.Name c x) e q) H o=j (aR,o):=Mg.trans ((Re gt).trans ((m5 Uf).trans ((Vq FB).trans ((eS wn).trans (Re (by rw[f0,Os];rfl))))))
theorem amp{z:E}{k}:sB J (z+1) bs (.Constant (.str c) k x) H o=j (.str c,o):=rfl
theorem NY{z:E}{k}{b:ga}(nk:J.ext bs (.Assign [.Name c x] (.Constant (.bool b) k bF) eU)=bn)(cr:bV bs c=V):bq J (z+2) bs (.Assign [.Name c x] (.Constant (.bool b) k bF) eU) H o=j (.next,Pv H c (.bool b),o):=i8.trans ((fH nk).trans (show pp (bV bs c) (j (bz.next,Pv H c (.bool b),o))=_ from Re cr))
end
section
variable{d:sw}{A:xs}{b:p wP}{O:IN}
theorem and(lf:zs (m+2) A):zs m (A.in1.over (.func b O) []):=by
 refine⟨lf.handled,?_,?_⟩;·have:=lf.depth;show A.depth+0+1+m≤900;left
 ·have:=lf.units;show A.units+1+0+3+8*m≤9000;left
theorem NZ{ai:cd}{sv:p wP}{k h pp n x nz}(t1:h=bn)(lf:zs (m+2) A):zs m (A.in1.over (.forLoop u ai sv [] O) [.ret k h pp n (.func b O) x nz]):=by
 subst t1;refine⟨lf.handled,?_,?_⟩;·have:=lf.depth;show A.depth+1+0+m≤900;left
 ·have:=lf.units;show A.units+1+3+0+8*m≤9000;left
end
section
variable(q:E->wS)
noncomputable def ann:wP:=.Expr (.Yield (j (.Tuple [.Name "pos" (q 2),.BinOp (.Constant (.str "\\") 0 (q 3)) .Add (.Name "ch" (q 4)) (q 5)] 0 (q 6))) (q 7)) (q 8)
noncomputable def are:wP:=.Expr (.Yield (j (.Tuple [.Name "pos" (q 18),.Name "ch" (q 19)] 0 (q 20))) (q 21)) (q 22)
noncomputable def N0:wP:=.Expr (.Yield (j (.Tuple [.Name "pos" (q 25),.Constant (.str "\\") 0 (q 26)] 0 (q 27))) (q 28)) (q 29)
noncomputable def arm:wP:=.Assign [.Name "escape" (q 9)] (.Constant (.bool G) 0 (q 10)) (q 11)
noncomputable def arr:wP:=.Assign [.Name "escape" (q 15)] (.Constant (.bool V) 0 (q 16)) (q 17)
noncomputable def asg:wP:=.If (.Compare (.Name "ch" (q 12)) [.Eq] [.Constant (.str "\\") 0 (q 13)] (q 14)) [arr q] [are q] (q 23)
noncomputable def lk:p wP:=[.If (.Name "escape" (q 1)) [ann q,arm q] [asg q] (q 24)]
noncomputable def kb:bv:=.Tuple [.Name "pos" (q 30),.Name "ch" (q 31)] 0 (q 32)
noncomputable def ast:p wP:=[.If (.Name "escape" (q 33)) [N0 q] [] (q 34)]
noncomputable def atC:wP:=.For (kb q) (.Call (.Name "enumerate" (q 35)) [.Name "addr" (q 36)] [] (q 37)) (lk q) [] (q 38)
noncomputable def pZ:p wP:=[.Assign [.Name "pos" (q 39)] (.Constant (.int 0) 0 (q 40)) (q 41),.Assign [.Name "escape" (q 42)] (.Constant (.bool G) 0 (q 43)) (q 44),atC q,.If (.Name "escape" (q 33)) [N0 q] [] (q 34)]
end
structure Gw(bs:KT):Prop where
 pos:bV bs "pos"=V
 ch:bV bs "ch"=V
 escape:bV bs "escape"=V
 addr:bV bs "addr"=V
 enum:df bs "enumerate"=V
 co:bs.isCoroutine=G
 kind:bs.kind=.function
 gen:bs.isGenerator=V
def oK(d:sw)(lv:p kt)(r:R)(v:cd)(KF s0:nl):Prop:=∃(x:m0) (I:X) (e:kt) (u g2:be) (z:E),r=.tup [.int x,.str I]/\v=.ref e/\s0.heap.get? e=j (d3 #[.int x u,.str I g2] z)/\e∉lv/\((∃T,d.az.get? e=j T)\/KF.heap.objs.size≤e)
section
variable{d:sw}{A:xs}{q:E->wS}
def Gx(d:sw)(O:IN)(g ai:kt)(c:X)(St:E->bl->Prop)(k:Y E)(H:hf)(s:nl):Prop:=(br d s).ab d/\Tl d O H (br d s)/\∀ev,k=j ev->nx d g ai c St (x8 ev (c.cps.toList.drop ev)) (br d s)
theorem Tl.N{O:IN}{H:hf}(g:Tl d O H W)(atK:kt->Y E):Tl d O H {W with N:=atK}:=⟨g.kind,g.glob,g.j4,g.am,λc r h=>(g.pE c r h).re rfl rfl rfl,g.has,g.apart,g.off,g.ot,g.full,g.ak⟩
theorem Tl.gens{O:IN}{H:hf}(g:Tl d O H (br d s))(h:it.heap=s.heap):Tl d O H (br d it):=by obtain⟨h1,SE,Gy,t2,va⟩:=s;obtain⟨ex,aeA,ahh,ahi,oE⟩:=it;simp only at h;subst h;exact⟨g.kind,g.glob,g.j4,g.am,λc r h=>(g.pE c r h).re rfl rfl rfl,g.has,g.apart,g.off,g.ot,g.full,g.ak⟩
theorem Bj{i:E}{c:C'}(Z:(br d s).ab d)(cr:c.bare=V):(br d (s.setGen i c)).ab d:=by
 refine⟨Z.base,Z.bw,Z.len,Z.cells,Z.apart,Z.off,Z.iZ,Z.jv,Z.fL,?_,Z.toks,⟨λa a g=>by(cases g),λa a a g=>by(cases g)⟩⟩;intro I KM;obtain⟨ev,s3,rfl⟩:=afP.mp KM;have h3:(s.setGen i c).gens.size=s.gens.size:=(se ..).1;by_cases g:ev=i
 ·subst g;have kE:ev<s.gens.size:=by rw[<- h3];exact s3
  have:=TR (s:=s) (x:=c) (mN kE);have Gz:ev<(s.setGen ev c).gens.size:=s3;rw[mN Gz]at this;have bu:=aO this;show afS (s.setGen ev c).gens[ev]=V;rw[bu];exact cr
 ·have h1:=(se s i c).2 ev g;have Gz:ev<(s.setGen i c).gens.size:=s3;rw[mN Gz]at h1;obtain⟨kE,aT⟩:=t6.mp h1.symm;show afS (s.setGen i c).gens[ev]=V;rw[<- aT];exact Z.bare _ (afQ kE)
theorem at2(ds:d.ab)(dg:∃T,d.az.get? d.et=j T){g:kt}{O:IN}{St:E->bl->Prop}{k:Y E}{H:hf}(aC:g≠ai)(fk:x9 d ai c St):yd d aM V (T0 O++[g,ai]) (λa=>g6) (Gx d O g ai c St k H) where
 ok:=λs ev=>ev.1
 gen:=λs i I cr ev=>⟨Bj ev.1 cr,ev.2.1.gens rfl,λk gl=>(ev.2.2 k gl).fj rfl id⟩
 le:=λa {W y sK} Z xz ar a ev le Tk=>
  have aw:=Gp le
  have off:∀e∈T0 O++[g,ai],e∉d.tab::(sK++W.aH):=λe db pc=>(cq.mp pc).elim (ar e (.tail _ db)).2.2.2 λpc=>(gq.mp pc).elim (Tk e db) (ar e (.tail _ db)).2.1
  have lf:zs 0 {handled:=bn,depth:=0,frames:=bn,guards:=bn,units:=0}:=⟨rfl,by decide,by decide⟩
  have h1:Tl d O H (rf d W):=ev.2.1.N W.N
  ⟨mj ds dg xz,(h1.le aw λe db=>off e (oc _ db)).N _,λk gl=>((mh lf aC fk).fP (W:=rf d W) (y:=rf d y) (NR ds dg Z) (NR ds dg xz) ((ev.2.2 k gl).fj rfl id) aw (λe db=>off e (pu _ db)) dN).fj rfl id⟩
end
noncomputable def pb(r:R):ga:=r.casesOn V (λa=>V) (λa=>V) (λa=>V) (λa=>G) (λa=>G) (λa=>G) (λa=>G) (λa=>G) (λa=>G) (λa a=>G) (λa=>G) (λa a=>G) λa=>V
section
variable{d:sw}{A:xs}{O:IN}{H:hf}
theorem x0.atom{B:aX}(f:x0 d B v r):pb r=V->x0 d fK v r:=f.casesOn (motive_1:=λv r a=>pb r=V->x0 d fK v r) (λa=>.none) (λb a=>.bool b) (λi u a=>.int i u) (λc u a=>.str c u) (λa a=>dN) (λa a=>dN) (λa a a=>dN) (λa a=>dN) (λa a=>dN) (λa a a=>dN) (λv a=>.cg v)
theorem wp.atom{B:aX}{pD:h5}(l:wp d B ag v r)(h:pb r=V):wp d fK pD v r:=l.casesOn (motive:=λv r a=>pb r=V->wp d fK pD v r) (λf h=>.aq (f.atom h)) (λa=>dN) (λa a=>dN) (λa a=>dN) h
@[elab_as_elim] theorem wp.pairE{P:cd->Prop}{B:aX}{x:m0}(l:wp d B ag v (.tup [.int x,.str I]))(a2:∀e u g2 m,B e=j (d3 [zQ x u,.str I g2].toArray m)->P (.ref e)):P v:=by exact x0.pF (v:=v) l.i λe L m AT s1=>Is.Z6 (P:=λL=>B e=j (d3 L.toArray m)->P (.ref e)) s1 (λv g2 ir iu=>x0.de (P:=λv=>B e=j (d3 [v,g2].toArray m)->P (.ref e)) ir λu=>x0.e_ (P:=λg2=>B e=j (d3 [zQ x u,g2].toArray m)->P (.ref e)) iu λg2=>a2 e u g2 m) AT
theorem N1(Z:W.ab d)(h:W.B e=bn):(br d W.s).B e=bn:=by cases g:(br d W.s).B e with|none=>rfl|some T=>exact a' (h.symm.trans (Z.base e T g))
theorem bc.br(Z:W.ab d)(T:bc d lv W):bc d lv (br d W.s):=λe db=>⟨(T e db).1,(m4),N1 Z (T e db).2.2.1,(T e db).2.2.2⟩
theorem Tl.br(Z:W.ab d)(cp:O.scope.isGenerator=V)(g:Tl d O H W)(Uf:∀c r,H.lookup c=j r->pb r=V):Tl d O H (br d W.s):=by
 refine⟨g.kind,g.glob,g.j4,?_,λc r h=>?_,g.has,g.apart,λe db=>⟨(m4),N1 Z (g.off e db).2.1,(g.off e db).2.2⟩,g.ot,g.full,λh=>nomatch cp.symm.trans h⟩;·exact g.am.elim λm q=>⟨m,q.1,λc r h k=>(q.2 c r h k).elim λv q=>⟨v,q.1,q.2.atom (Uf c r h)⟩⟩
 ·exact(g.pE c r h).casesOn .inl λk t v f0 FB q=>.inr k t v f0 FB (q.atom (Uf c r h))
def ee(H:hf):Prop:=∀c r,H.lookup c=j r->pb r=V
theorem ee.nil:ee []:=λa a h=>a' h
theorem ee.cons(hd:pb r=V)(h:ee H):ee ((c,r)::H):=λI g KM=>if q:I==c then aQ (P:=λg=>pb g=V) ((Ap.trans (Ef q)).symm.trans KM) hd else h I g ((Ap.trans (Eg (sb _▸q))).symm.trans KM)
theorem ee.set(h:ee H)(hd:pb r=V):ee (Pv H c r):=by intro I g KM;rw[gL]at KM;exact if q:I=c then aQ (P:=λg=>pb g=V) ((tt q).symm.trans KM) hd else h I g ((ss q).symm.trans KM)
theorem nx.br(Z:W.ab d){g:kt}{St:E->bl->Prop}{l:p R}(h:nx d g ai c St l W):nx d g ai c St l (br d W.s):=by obtain⟨k,old,gl,rs,aa,ar,nw⟩:=h;exact⟨k,old,gl,rs,aa,ar.br Z,nw⟩
end
section
variable{d:sw}{A:xs}{O:IN}{g:kt}{St:E->bl->Prop}{lw:p R}
theorem GA(ds:d.ab)(dg:∃T,d.az.get? d.et=j T)(cr:vn d)(aC:g≠ai)(fk:x9 d ai c St){t:uo}{s1:p wC}(lf:zs 8 (A.in1.over t s1))(cp:O.scope.isGenerator=V)(gv:O.scope.isCoroutine=G)(yg:splitAtGen s1=bn)(GB:s1.any afT=G){K:fG->aP jq}{a2:cd->aP jq}{pp:ga->ga}{au:p cd->p cd}(GC:pp G=G){H:hf}{k:Y E}{z:E}{cj:bv}{x:m0}{bo:p R}(Uf:ee H)(Z:W.ab d)(aj:Tl d O H W)(ar:bc d [g,ai] W)(Ns:∀ev,k=j ev->nx d g ai c St (x8 ev (c.cps.toList.drop ev)) W)(le:kw d (T0 O++[g,ai]) (br d KF) W)(pQ:sB Gv 3 O.scope cj H W.o=j (.tup [.int x,.str I],W.o))(fy:lw.drop (lw.length - (bo.length+1))=.tup [.int x,.str I]::bo)(pi:z=bo.length)(cont:∀aD,Gx d O g ai c St k H aD->Seg d.M A.in1 (i' d (T0 O++[g,ai])) (kF d aM (T0 O++[g,ai]) lw (oK d) (λa=>g6)) z aD t (K .next) s1 aD):Seg d.M A.in1 (i' d (T0 O++[g,ai])) (kF d aM (T0 O++[g,ai]) lw (oK d) (λa=>g6)) (z+1) KF t ((exec (.Expr (.Yield (j cj) a_) bF) O).wrap K a2 pp au) s1 W.s:=by
 subst pi;refine seg_Expr_Yield yg GC GB (((nq ds (Bi (A:=A.in1.over t s1) (O:=O) cr).toCtxOk lf 3 O H).1 _ _ _ pQ).seq Z aj rfl λv y xz hc aw bG ay=>?_) gv (F2 aj);simp only at ay;intro Bk gl;have N2:=le.trans aw.i0;have q6:=λev s3=>(mh (A:=A.in1.over t s1) lf aC fk).fP Z xz (Ns ev s3) aw (jr) (λh=>by cases h);refine⟨_,bo,Gx d O g ai c St k H,fy,rfl,⟨Bg N2,mj ds dg xz⟩,?_,?_,at2 ds dg aC fk,⟨mj ds dg xz,hc.br xz cp Uf,λev s3=>(q6 ev s3).br xz⟩,λaD ev=>gl .none aD (cont aD ev)⟩
 ·intro e db;rcases gq.mp db with h|h;·obtain⟨T,gt⟩:=hc.here h;exact b1 gt
  ·exact hs (ar e h).1 aw.size
 refine wp.pairE ay λe u g2 m AT=>?_;refine⟨x,I,e,u,g2,m,rfl,rfl,xz.bw _ _ AT,λh=>?_,?_⟩
 ·rcases gq.mp h with h|h;·rw[(hc.off e h).2.1]at AT;cases AT
  ·rw[(ar.le aw (jr) e h).2.2.1]at AT;cases AT
 rcases N2.eW _ _ AT with U|U|U;·exact .inl ⟨_,U⟩
 ·exact aB U (m4)
 ·exact .inr U
end
section
variable{bs:KT}{H:hf}{J:Sc}{q:E->wS}
theorem N3{z:E}{b:ga}(gt:bb c=V)(h:H.lookup c=j (.bool b)):cx J (z+2) bs (.Name c x) H o=j (b,o):=Mh.trans ((Op (tc gt h)).trans rfl)
theorem aug{z:E}{t:E}(h:H.lookup ("ch":X)=j (.str ⟨#[t]⟩)):cx J (z+2) bs (.Compare (.Name "ch" (q 12)) [.Eq] [.Constant (.str "\\") 0 (q 13)] (q 14)) H o=j (t==92,o):=by rw[Wh];show(s4 (sB J (z+1) bs (.Name "ch" (q 12)) H o) λe al=>s4 (j (R.str "\\",al)) λb f2=>(ci .Eq (view f2 e) (view f2 b)).map λt=>(t,f2))=_;rw[Op (tc (by decide) h)];show j ([t]==[92],o)=_;rw[show([t]==[92])=(t==92) by simp]
theorem GD{z:E}{e b:bv}{k:E}{g:R}(h1:sB J z bs e H o=j (r,o))(ex:sB J z bs b H o=j (g,o))(aux:jU e=V)(mm:jU b=V)(ir:d_ r=V)(iu:d_ g=V):sB J (z+1) bs (.Tuple [e,b] k x) H o=j (.tup [r,g],o):=by rw[Mf,sJ,show c3 (λg o=>sB J z bs g H o) [e,b] o=j ([r,g],o)from(Re aux).trans ((Op h1).trans ((Op ((Re mm).trans ((Op ex).trans rfl))).trans rfl))];show(s4 (fa [r,g] o) λg3 f2=>pp (H1 g3.length)<|j (R.tup g3,f2))=_;rw[Ax,Op (uY ir),Ax,Op (uY iu)];rfl
theorem aEl{k t:E}(ln:H.lookup ("pos":X)=j (.int (k:E)))(h:H.lookup ("ch":X)=j (.str ⟨#[t]⟩)):sB J 3 bs (.Tuple [.Name "pos" (q 2),.BinOp (.Constant (.str "\\") 0 (q 3)) .Add (.Name "ch" (q 4)) (q 5)] 0 (q 6)) H o=j (.tup [.int (k:E),.str ⟨#[92,t]⟩],o):=by
 have bu:sB J 2 bs (.BinOp (.Constant (.str "\\") 0 (q 3)) .Add (.Name "ch" (q 4)) (q 5)) H o=j (.str ⟨#[92,t]⟩,o):=by rw[AG];show(s4 (sB J 1 bs (.Name "ch" (q 4)) H o) λb f2=>eF (jy .Add (view f2 (.str "\\")) (view f2 b)) (λk=>j (R.ah k,f2))<|(iB .Add (view f2 (.str "\\")) (view f2 b)).map λr=>(r,f2))=_;rw[Op (tc (by decide) h)];rfl
 exact GD (tc (by decide) ln) bu rfl rfl rfl rfl
theorem aId{k t:E}(ln:H.lookup ("pos":X)=j (.int (k:E)))(h:H.lookup ("ch":X)=j (.str ⟨#[t]⟩)):sB J 3 bs (.Tuple [.Name "pos" (q 18),.Name "ch" (q 19)] 0 (q 20)) H o=j (.tup [.int (k:E),.str ⟨#[t]⟩],o):=GD (tc (by decide) ln) (tc (by decide) h) rfl rfl rfl rfl
theorem bad{k:E}(ln:H.lookup ("pos":X)=j (.int (k:E))):sB J 3 bs (.Tuple [.Name "pos" (q 25),.Constant (.str "\\") 0 (q 26)] 0 (q 27)) H o=j (.tup [.int (k:E),.str ⟨#[92]⟩],o):=GD (tc (by decide) ln) amp rfl rfl rfl rfl
end
section
variable{d:sw}{A:xs}{O:IN}{g:kt}{St:E->bl->Prop}{lw:p R}{q:E->wS}
theorem bar(ahj:W.ab d)(T:bc d lv W)(le:kw d lv W y):bc d lv y:=T.aw le
theorem SF{lw l:p R}(h:r::l=lw.drop (lw.length - (r::l).length)):l=lw.drop (lw.length - l.length):=by have lF:(r::l).length≤lw.length:=aJ (mT (GT pl h)) (List.drop_sublist _ _).length_le;have g:lw.length - (l.length+1)+1=lw.length - l.length:=(GT (·+1) (Nat.sub_sub lw.length l.length 1).symm).trans (Nat.sub_add_cancel (Nat.le_sub_of_add_le (aJ (mT (afU ..)) lF)));exact(GT (List.drop 1) h).trans (DB.trans (GT (lw.drop ·) g))
theorem beq(ds:d.ab)(dg:∃T,d.az.get? d.et=j T)(cr:vn d)(aC:g≠ai)(fk:x9 d ai c St)(S:Gw O.scope)(lf:zs 10 A){b:p wP}{mn:qp->aP jq}{oL:p cd}(td:∀e∈T0 O,e∉[g,ai])(xJ:∀(H:hf) (W:nb) (KF:nl) (cL:ga),W.ab d->Tl d O H W->ee H->bc d [g,ai] W->H.lookup ("escape":X)=j (.bool cL)->(cL=V->H.lookup ("pos":X)=j (.int (c.cps.size - 1:E)))->kw d (T0 O++[g,ai]) (br d KF) W->ea c.cps.size cL []=lw.drop (lw.length - (ea c.cps.size cL []).length)->Seg d.M A.in1 (i' d (T0 O++[g,ai])) (kF d aM (T0 O++[g,ai]) lw (oK d) (λa=>g6)) (ea c.cps.size cL []).length KF (.func b O) (mn (.ok .next)) [] W.s):∀(l:p E) (k:E) (cL:ga) (H:hf) (W:nb) (KF:nl),c.cps.toList.drop k=l->k≤c.cps.size->W.ab d->Tl d O H W->ee H->H.lookup ("escape":X)=j (.bool cL)->(cL=V->1≤k/\H.lookup ("pos":X)=j (.int (k - 1:E)))->nx d g ai c St (x8 k (c.cps.toList.drop k)) W->kw d (T0 O++[g,ai]) (br d KF) W->ea k cL l=lw.drop (lw.length - (ea k cL l).length)->Seg d.M A.in1 (i' d (T0 O++[g,ai])) (kF d aM (T0 O++[g,ai]) lw (oK d) (λa=>g6)) (ea k cL l).length KF (.forLoop (kb q) (.ref g) (lk q) [] O) (d.M.den (.forLoop (kb q) (.ref g) (lk q) [] O)) [.ret mn bn G oL (.func b O) x []] W.s:=by
 intro l;induction l with
 |nil=>
  intro k cL H W KF nw gl Z aj Uf rs ln Ns le fy;have fS:zs 8 (A.in1.over (.forLoop (kb q) (.ref g) (lk q) [] O) [.ret mn bn G oL (.func b O) x []]):=NZ rfl lf;have dz:k=c.cps.size:=by have:=GT pl nw;simp at this;left
  subst dz;rw[nw]at Ns;refine x_ (gU:=i' d []) (cJ ((mh fS aC fk).done Z Ns (C:=λit=>Seg d.M A.in1 (i' d (T0 O++[g,ai])) (kF d aM (T0 O++[g,ai]) lw (oK d) (λa=>g6)) (ea c.cps.size cL []).length KF (.block [] O) (d.M.den (.block [] O)) [.ret mn bn G oL (.func b O) x []] it) λy xz aw bG=>NN ?_) (λT it h=>by obtain⟨rfl,h⟩:=h;exact h) λa a h=>h);refine xJ H y KF cL xz (aj.le aw td) Uf (bar Z (((mh fS aC fk).ar Ns)) aw) rs (λh=>(ln h).2) (le.trans (aw.weak λe db=>pu _ db)) fy
 |cons t l ih=>
  intro k cL H W KF nw gl Z aj Uf rs ln Ns le fy;have fS:zs 8 (A.in1.over (.forLoop (kb q) (.ref g) (lk q) [] O) [.ret mn bn G oL (.func b O) x []]):=NZ rfl lf;have bU:k<c.cps.size:=by
   rcases sd k c.cps.size with h|h;·exact h
   ·rw[Kp (by simpa using h)]at nw;cases nw
  have Bl:c.cps.toList.drop (k+1)=l:=by
   have:(c.cps.toList.drop k).drop 1=l:=by rw[nw];rfl
   rw[DB]at this;exact this
  rw[nw]at Ns;refine x_ (gU:=i' d []) (cJ ((mh fS aC fk).next (u:=kb q) (λa=>rfl) Z Ns (bP:=λa a=>gG) (C:=λv aD=>f4 d.M (A.in1.over (.forLoop (kb q) (.ref g) (lk q) [] O) [.ret mn bn G oL (.func b O) x []]) (iU (kb q) O v) (λa ve=>Seg d.M A.in1 (i' d (T0 O++[g,ai])) (kF d aM (T0 O++[g,ai]) lw (oK d) (λa=>g6)) (ea k cL (t::l)).length KF (.forLoop (kb q) (.ref g) (lk q) [] O) ((oa (lk q) O).wrap (Bf (kb q) (.ref g) (lk q) O) (Be O) id id) [.ret mn bn G oL (.func b O) x []] ve) (λa a=>gG) aD) λv u8 P3 Ix bI bZ q5=>?_) (λT it h=>by obtain⟨v,rfl,h⟩:=h;exact h) λa a h=>h);have fR:d5 O.scope (kb q) (.tup [.int (k:E),.str ⟨#[t]⟩]) H=j (Pv (Pv H ("pos":X) (.int (k:E))) ("ch":X) (.str ⟨#[t]⟩)):=by show pp (bV O.scope "pos") (pp (bV O.scope "ch") (j (Pv (Pv H ("pos":X) (.int (k:E))) ("ch":X) (.str ⟨#[t]⟩))))=_;rw[Re S.pos,Re S.ch]
  have dO:=aj.le Ix td;have GF:kw d (T0 O++[g,ai]) (br d KF) u8:=le.trans (Ix.weak λe db=>pu _ db);refine AX fS fR P3 dO (.aq bZ) λZB cy nu bL a eY=>?_;have xW:=(mh fS aC fk).fP P3 cy q5 bL (λe db h=>td e h db) (λh=>by cases h);have bit:kw d (T0 O++[g,ai]) (br d KF) ZB:=GF.trans (bL.weak λe db=>oc _ db);rw[<- Bl]at xW;let bx:=Pv (Pv H ("pos":X) (.int (k:E))) ("ch":X) (.str ⟨#[t]⟩);have yh:ee bx:=(Uf.set rfl).set rfl;have N4:bx.lookup ("escape":X)=j (.bool cL):=by rw[gL,ss (by decide),gL,ss (by decide)];exact rs
  have GG:bx.lookup ("pos":X)=j (.int (k:E)):=by rw[gL,ss (by decide),gL,tt rfl]
  have GH:bx.lookup ("ch":X)=j (.str ⟨#[t]⟩):=by rw[gL,tt rfl]
  have te:=nq ds (Bi (A:=A.in1.over (.forLoop (kb q) (.ref g) (lk q) [] O) [.ret mn bn G oL (.func b O) x []]) (O:=O) cr).toCtxOk fS 3 O bx;have N5:=Ge ds (Bi (A:=A.in1.over (.forLoop (kb q) (.ref g) (lk q) [] O) [.ret mn bn G oL (.func b O) x []]) (O:=O) cr) fS 3;have cO:k+1≤c.cps.size:=bU;refine ka (x' ((te.2.1 _ _ _ (N3 (z:=1) (by decide) N4)).seq cy nu rfl λe1 gS q7 fh nj=>?_));simp only;have GI:=(mh fS aC fk).fP cy gS xW fh (jr) (λh=>by cases h);have N6:=bit.trans fh.i0;cases cL with
  |true=>
   simp only[r'];have pi:(ea k V (t::l)).length=(ea (k+1) G l).length+1:=rfl;rw[pi];refine ka (GA (k:=j (k+1)) ds dg cr aC fk fS S.gen S.co rfl rfl rfl yh gS q7 ((mh fS aC fk).ar GI) (λev s3=>by cases s3;exact GI) N6 (aEl GG GH) (bo:=ea (k+1) G l) ?_ rfl λaD ev=>?_);·exact fy.symm
   ·obtain⟨tf,yi,GJ⟩:=ev;refine ka (Bd (N5 _ _ _ _ (NY (z:=1) rfl S.escape) _ _ (br d aD) tf yi rfl λf xT ic vo jF vf cD=>?_));cases cD;refine mi (ya ?_);refine ih (k+1) G _ xT aD Bl cO ic vo (yh.set rfl) ?_ (λh=>by cases h) ((mh fS aC fk).fP tf ic (GJ _ rfl) jF (λe db h=>td e h db) (λh=>by cases h)) (jF.weak λe db=>oc _ db) (SF fy);rw[gL,tt rfl]
  |false=>
   simp only[pg,n5];refine ka (x' ((te.2.1 _ _ _ (aug (z:=1) GH)).seq gS q7 rfl λxT ic vo jF vf=>?_));simp only;have GK:=(mh fS aC fk).fP gS ic GI jF (jr) (λh=>by cases h);have Bm:=N6.trans jF.i0;cases f0:(t==92)with
   |true=>
    simp only[r'];have pi:ea k G (t::l)=ea (k+1) V l:=by show(if t==92 then _ else _)=_;rw[f0];rfl
    rw[pi]at fy⊢;refine ka (Bd (N5 _ _ _ _ (NY (z:=1) rfl S.escape) _ _ xT ic vo rfl λf pR q9 xX kB q8 cD=>?_));cases cD;refine mi (mi (ya ?_));refine ih (k+1) V _ pR KF Bl cO q9 xX (yh.set rfl) ?_ (λa=>⟨by left,?_⟩) ((mh fS aC fk).fP ic q9 GK kB (λe db h=>td e h db) (λh=>by cases h)) (Bm.trans (kB.weak λe db=>oc _ db)) fy;·rw[gL,tt rfl]
    ·rw[gL,ss (by decide)];exact GG
   |false=>
    simp only[pg,n5];have pi:ea k G (t::l)=.tup [.int (k:E),.str ⟨#[t]⟩]::ea (k+1) G l:=by show(if t==92 then _ else _)=_;rw[f0];rfl
    rw[pi]at fy⊢;refine ka (GA (k:=j (k+1)) ds dg cr aC fk fS S.gen S.co rfl rfl rfl yh ic vo ((mh fS aC fk).ar GK) (λev s3=>by cases s3;exact GK) Bm (aId GG GH) (bo:=ea (k+1) G l) fy.symm rfl λaD ev=>?_);obtain⟨tf,yi,GJ⟩:=ev;refine mi (mi (ya ?_));exact ih (k+1) G _ (br d aD) aD Bl cO tf yi yh N4 (λh=>by cases h) (GJ _ rfl) kw.refl (SF fy)
end
structure GL(d:sw)(au:E)(v:cd)(xL:R->Y (p R)):Prop where
 keep:∀{W:nb},d.ab->W.ab d->ha d v W.h
 call:∀{A:xs},zs au A->∀{a1 bP:cd->nl->Prop} {C:cd->nl->Prop} {W:nb} {g2:cd} {r:R} {n:p R},W.ab d->x0 d W.B g2 r->xL r=j n->
  (∀ai lv Inv y,y.ab d->kw d [] W y->y.o=W.o->s7 d A ai Inv->Inv G lv n y->(∀e∈lv,W.h.objs.size≤e)->C ai y.s)->f4 d.M A (call v [g2]) (λc s0=>f4 d.M A (d9 c) C bP s0) a1 W.s
section
variable{d:sw}{A:xs}{O:IN}{H:hf}
theorem ble(ds:d.ab)(dg:∃T,d.az.get? d.et=j T){b:ga}{hL:nb->Prop}{H:hf}:yd d aM b (T0 O) hL (λs=>(br d s).ab d/\Tl d O H (br d s)) where
 ok:=λs ev=>ev.1
 gen:=λs i I cr ev=>⟨Bj ev.1 cr,ev.2.gens rfl⟩
 le:=λa {W y sK} Z xz ar a ev le Tk=>by
  have aw:=Gp le
  have off:∀e∈T0 O,e∉d.tab::(sK++W.aH):=λe db pc=>(cq.mp pc).elim (ar e (.tail _ db)).2.2.2 λpc=>(gq.mp pc).elim (Tk e db) (ar e (.tail _ db)).2.1
  have h1:Tl d O H (rf d W):=ev.2.N W.N
  exact⟨mj ds dg xz,(h1.le aw off).N _⟩
noncomputable def nb.tg(W:nb)(T:cE)(t:uo)(u:E):nb:={W with s:={W.s with gens:=W.s.gens.push (.fresh t),toks:=W.s.toks+u,heap:=W.h.push T},N:=λe=>if e=W.h.objs.size then j W.s.gens.size else W.N e}
theorem bom(Z:W.ab d)(T:cE)(t:uo)(u:E):(W.tg T t u).ab d/\kw d [] W (W.tg T t u):=by
 have m:Mv [] W.s (W.tg T t u).s:=⟨by show W.h.objs.size≤(W.h.push T).objs.size;rw[f6];exact cu _,λe T g a=>cP _ g,λi c g=>by show(W.s.gens.push (.fresh t))[i]?=j c;have bU:=(t6.mp g).1;rw[Array.getElem?_push,ss (ep bU)];exact g,rfl,e7 _ _⟩;have cr:rZ (W.tg T t u).s.gens:=by
  intro I KM;have rh:I∈W.s.gens.push (.fresh t):=KM;rw[Array.mem_push]at rh;rcases rh with h|h;·exact Z.bare I h
  ·rw[h];rfl
 have k:=Z.av m (λa q=>nomatch q) cr;have fd:(W.tg T t u).s.heap.objs.size=W.h.objs.size+1:=f6 ..;have Os:(W.tg T t u).s.gens.size=W.s.gens.size+1:=Tc ..;refine⟨⟨k.base,k.bw,k.len,k.cells,k.apart,k.off,k.iZ,k.jv,k.fL,k.bare,k.toks,⟨λe i g=>?_,λe b i db cr=>?_⟩⟩,⟨m.size,λe T g a Tk ty=>m.keep e T g Tk,λe h=>.inl h,λa a g=>g,λa a g=>.inl g,lI _,⟨λe i g=>?_,λe i g=>?_,λi c g a=>m.gens i c g,by rw[Os];exact cu _,rfl⟩,m.os,m.toks⟩⟩
 ·have aT:(if e=W.h.objs.size then j W.s.gens.size else W.N e)=j i:=g;rw[fd,Os];split at aT;·rename_i h;cases aT;exact⟨gp _,by rw[h];exact gp _⟩
  ·have:=Z.gen.1 e i aT;exact⟨wU this.1,wU this.2⟩
 ·have p0:(if e=W.h.objs.size then j W.s.gens.size else W.N e)=j i:=db;have ll:(if b=W.h.objs.size then j W.s.gens.size else W.N b)=j i:=cr;split at p0
  ·rename_i h1;cases p0;split at ll;·rename_i ex;rw[h1,ex]
   ·exact aB (Z.gen.1 b _ ll).1 (lQ _)
  ·split at ll;·cases ll;exact aB (Z.gen.1 e _ p0).1 (lQ _)
   ·exact Z.gen.2 e b i p0 ll
 ·show(if e=W.h.objs.size then j W.s.gens.size else W.N e)=j i;rw[ss (λh=>aB (Z.gen.1 e i g).2 (by rw[h];exact lQ _))];exact g
 ·have aT:(if e=W.h.objs.size then j W.s.gens.size else W.N e)=j i:=g;split at aT;·cases aT;exact .inr (Da _)
  ·exact .inl aT
theorem N7{t:iv}{k}{C:fG->nl->Prop}(f8:bV O.scope c=V)(f0:u0 t=j r)(jG:∀I,t≠.str I)(Z:W.ab d)(aj:Tl d O H W)(hm:∀y,y.ab d->Tl d O (Pv H c r) y->kw d (T0 O) W y->y.o=W.o->y.h.objs.size=W.h.objs.size->C .next y.s):f4 d.M A (exec (.Assign [.Name c x] (.Constant t k bF) eU) O) C a1 W.s:=by
 have bN:∀{nn:nb} {v:cd},nn.ab d->Tl d O H nn->kw d [] W nn->nn.o=W.o->nn.h.objs.size=W.h.objs.size->wp d nn.B nn.ag v r->f4 d.M A (zA O c v) (λa=>C .next) a1 nn.s:=by intro nn v Db cS Ok cm qW l;exact Tl.store Db cS (xN f8) (λh=>cS.full c (.inl h)) l λy xz hc lF ap bf AT kz a fd a a=>hm y xz hc (Ok.i0.trans (lF nn (T0 O) kw.refl λe h=>.inl h)) (ap.trans cm) (fd.trans qW)
 refine zN ?_;show f4 d.M A (constValue O t) _ a1 W.s;have ty:W.s.toks≤W.s.toks+1:=cu _;unfold constValue;cases t with
 |none=>cases f0;exact s2 (bN Z aj kw.refl rfl rfl (.aq .none))
 |bool b=>cases f0;exact s2 (bN Z aj kw.refl rfl rfl (.aq (.bool b)))
 |int i=>cases f0;exact wpAny_mkInt (bN (nn:=W.to {W.s with toks:=W.s.toks+1}) (Z.ao ty) (aj.f' (kw.refl.ao ty)) (kw.refl.ao ty) rfl rfl (.aq (.int i _)))
 |str I=>exact aB rfl (jG I)
 |_=>cases f0
end
section
variable{d:sw}{A:xs}{O:IN}{H:hf}
theorem N8(f:cd)(f8:H.lookup c=j r)(hd:(c==("__debug__":X))=G)(pi:(c==("__classdict__":X))=G)(aj:Tl d O H W)(gl:ha d f W.h)(hm:∀v,wp d W.B W.ag v r->f4 d.M A (call f [v]) C a1 W.s):f4 d.M A (wL h0 f [] (iy h0 (ht [.Name c x] O)) []) C a1 W.s:=by refine qx (P:=λh=>ha d f h) rfl (λh gl=>gl) (l9 rfl ?_);rw[E5 rfl,E6];refine JW (jY (aj.load f8 pi λv l=>Df ⟨gl,hm v l⟩) hd)
theorem bor(ds:d.ab)(dg:∃T,d.az.get? d.et=j T)(cr:vn d)(GN:d.mg "enumerate"=bn){q:E->wS}(S:Gw O.scope)(lf:zs 10 A)(Z:(br d s).ab d)(aj:Tl d O [(("addr":X),R.str c)] (br d s))(bU:∀e∈T0 O,e<s.heap.objs.size):Seg d.M A.in1 (i' d (T0 O++[s.heap.objs.size+1,s.heap.objs.size])) (kF d aM (T0 O++[s.heap.objs.size+1,s.heap.objs.size]) (m' c) (oK d) (λa=>g6)) (m' c).length s (.func (pZ q) O) (d.M.den (.func (pZ q) O)) [] s:=by
 have fS:zs 8 (A.in1.over (.func (pZ q) O) []):=and lf;refine seg_func ?_;refine ka (Bd (N7 (W:=br d s) S.pos rfl (λa h=>by cases h) Z aj λnn Db cS Ok cm qW=>?_));refine ka (Bd (N7 S.escape rfl (λa h=>by cases h) Db cS λu8 P3 dO Ix bI fN=>?_));refine ka (NM (λa=>rfl) ?_);rw[l'];have fd:u8.h.objs.size=s.heap.objs.size:=fN.trans qW;refine g1 (qV (ds:=ds) P3 dO (by decide) S.enum GN boot_enumerate (by decide) ?_);refine N8 (.type "enumerate") (c:="addr") (r:=.str c) (by rw[gL,ss (by decide),gL,ss (by decide)];rfl) (by decide) (by decide) dO (q0 _) λv ay=>?_;refine wp.e_ ay λu=>?_;refine call_enumerate_str λeg rs np cO gl=>?_;refine afM rs λx=>?_;have Bn:u8.s.heap.objs.size=s.heap.objs.size:=fd;rw[Bn]at rs np⊢;have sc:eg.objs.size=s.heap.objs.size+2:=by rw[cO,Bn]
 let g:=s.heap.objs.size+1;let ai:=s.heap.objs.size;let ZB:nb:=u8.to {u8.s with heap:=eg};have av:Mv [] u8.s {u8.s with heap:=eg,toks:=u8.s.toks}:=Mv.fr (by rw[cO];exact e7 _ _) gl (Da _);have cy:ZB.ab d:=P3.av av (cR) P3.bare;have bL:kw d [] u8 ZB:=kw.refl.av av cR;have nu:=dO.f' bL;have aC:g≠ai:=Nat.succ_ne_self _;have nB:∀e∈[g,ai],s.heap.objs.size≤e:=mU.mpr ⟨cu _,uf.mpr (Da _)⟩;have buf:∀e∈[g,ai],e<eg.objs.size:=sc▸mU.mpr ⟨gp _,uf.mpr (wU (gp _))⟩;have AU:bc d [g,ai] ZB:=λe db=>have f:=P3.fresh (fd▸nB e db:u8.h.objs.size≤e);⟨buf e db,f.2.1,f.1,f.2.2⟩;have td:∀e∈T0 O,e∉[g,ai]:=λe db h=>aB (bU e db) (dJ.mpr (nB e h));have GF:kw d (T0 O++[g,ai]) (br d s) ZB:=(Ok.trans (Ix.trans bL.i0)).weak λe db=>oc _ db;have Uf:ee (Pv (Pv [(("addr":X),R.str c)] ("pos":X) (.int 0)) ("escape":X) (.bool G)):=ee.set (ee.set (ee.cons rfl ee.nil) rfl) rfl;have N9:∀(St:E->bl->Prop) (fk:x9 d ai c St),St 0 eg->Seg d.M A.in1 (i' d (T0 O++[g,ai])) (kF d aM (T0 O++[g,ai]) (m' c) (oK d) (λa=>g6)) (m' c).length s (.forLoop (kb q) (.ref g) (lk q) [] O) (d.M.den (.forLoop (kb q) (.ref g) (lk q) [] O)) [.ret (Gn O (λf=>match f with
    |.next=>(oa (ast q) O).wrap (λf=>.pure (.done (.ret (match f with|.ret v=>v|_=>.none)))) (λg=>(leaving O g).wrap (λa=>.raise g) .raise id id) id id
    |f=>.pure (.done (.ret (match f with|.ret v=>v|_=>.none)))) (λg=>(leaving O g).wrap (λa=>.raise g) .raise id id) id id) bn G [] (.func (pZ q) O) x []] ZB.s:=by
  intro St fk aa;refine beq ds dg cr aC fk S lf td (λH W KF cL Z aj Uf ar rs ln le fy=>?_) c.cps.toList 0 G _ ZB s rfl (e6 _) cy nu Uf (by rw[gL,tt rfl]) (λh=>by cases h) ⟨0,.none,e6 _,rs,aa,AU,rfl⟩ GF (by show m' c=_;unfold m';simp);rw[NO];have te:=nq ds (Bi (A:=A.in1.over (.func (pZ q) O) []) (O:=O) cr).toCtxOk fS 3 O H;refine ka (x' ((te.2.1 _ _ _ (N3 (z:=1) (by decide) rs)).seq Z aj rfl λe1 gS q7 fh nj=>?_));simp only;cases cL with|true=>simp only[r'];refine ka (GA (k:=bn) ds dg cr aC fk fS S.gen S.co rfl rfl rfl Uf gS q7 (ar.le fh (jr)) (λev s3=>by cases s3) (le.trans fh.i0) (bad (ln rfl)) (bo:=[]) fy.symm rfl λaD ev=>?_);refine mi (mi ?_);exact seg_end (.ok (.ret .none)) ⟨rfl,rfl,kw.refl,ev.1⟩|false=>simp only[pg,n5];refine seg_execs_nil (mi ?_);exact seg_end (.ok (.ret .none)) ⟨rfl,rfl,Bg (le.trans fh.i0),mj ds dg gS⟩
 cases db:c.cps.all (·<128)
 ·have SZ:Kt c="str_iterator":=by simp[Kt,db]
  rw[SZ]at np;exact N9 (λi h=>h.IsStrIter ai "str_iterator" c u i) (λhb bT=>Draws.strWide bT _ c u) np
 ·have SZ:Kt c="str_ascii_iterator":=by simp[Kt,db]
  rw[SZ]at np;exact N9 (λi h=>h.IsStrIter ai "str_ascii_iterator" c u i) (λhb bT=>Draws.strAscii bT _ c u) np
theorem but{nn:nb}{gx:p kt}(Z:W.ab d)(Db:nn.ab d)(ar:bc d (aM::gx) nn)(le:kw d (aM::lv) W nn)(vm:KF.heap=W.s.heap)(cT:nn.s.heap=it.heap)(pY:oK d gx r v KF it)(oJ:aM<W.h.objs.size)(hE:nn.aH=W.aH):Gr d aM lv gx W nn v r:=by
 obtain⟨x,I,b,eP,vp,z,rfl,rfl,cr,bws,by4⟩:=pY;have N':nn.s.heap.get? b=j (d3 #[.int x eP,.str I vp] z):=cT▸cr;have xM:∀ey,nn.B b=j ey->ey=d3 #[.int x eP,.str I vp] z:=λey g=>aO ((Db.bw b ey g).symm.trans N');have iu:∀{B:aX},Is d B [.int x eP,.str I vp] [.int x,.str I]:=.two (.int _ _) (.str _ _);refine by4.elim (λq=>q.elim λey oz=>?_) λoF=>?_;·have AT:=Db.base b ey oz;exact⟨nn,Db,le,rfl,rfl,ar,.tup (L:=[.int x eP,.str I vp]) (xM _ AT▸AT) iu⟩
 ·have nB:W.h.objs.size≤b:=(GT (·.objs.size) vm:KF.heap.objs.size=W.h.objs.size)▸oF;have f:=Z.fresh nB;exact⟨nn.aq b (d3 #[.int x eP,.str I vp] z),Db.aq N' (hE▸f.2.1) f.2.2,le.aq (match g:nn.B b with|none=>.inl rfl|some ey=>.inr (GT j (xM ey g))) nB,rfl,rfl,λt f0=>⟨(ar t f0).1,(ar t f0).2.1,(ss (λq:t=b=>(cq.mp f0).elim (λh=>aB oJ (dJ.mpr (h▸q▸nB))) λh=>bws (q▸h))).trans (ar t f0).2.2.1,(ar t f0).2.2.2⟩,.tup (L:=[.int x eP,.str I vp]) (nb.hD ..) iu⟩
structure cat(d:sw)(W u8:nb)(O:IN)(body:p wP)(H:hf)(aM:kt)(i:E):Prop where
 ok:u8.ab d
 le:kw d [] W u8
 o:u8.o=W.o
 gen:u8.h.IsGen aM i
 ar:bc d (aM::T0 O) u8
 off:aM∉T0 O
 aj:Tl d O H u8
 N:u8.N aM=j i
 fresh:u8.s.gens[i]?=j (.fresh (.func body O))
 ge:∀b∈aM::T0 O,W.h.objs.size≤b
 keep:∀b T,W.h.get? b=j T->u8.h.get? b=j T
theorem N_(ds:d.ab){he:p X}(bJ:j_ d e GE body he V){A:xs}{z:E}(lf:zs (z+1) A){s5:p cd}(Z:W.ab d)(cr:DC W.s GE ⟨s5,[]⟩ (he.zip L))(ay:cn d W.B W.ag L g3)(K:∀u8 aM i,cat d W u8 (cQ GE W.h.objs.size e) body (he.zip g3) aM i->C (.ref aM) u8.s):f4 d.M A (call (.ref e) s5) (λc s0=>f4 d.M A (d9 c) C bP s0) a1 W.s:=by
 obtain⟨T,gt,hd⟩:=bJ.at_;have base:∀b T,d.az.get? b=j T->W.h.get? b=j T:=λb T g=>Z.old g;refine n9 (codeAny_call_generator lf.room (base _ _ gt) hd bJ.co bJ.gen bJ.body (bJ.code.keeps base) (cr _ _ _ _ ?_));rw[bJ.Gf];have s8:∀I∈he.zip L,GE.scope.names.lookup I.1=j .local\/(GE.scope.names.lookup I.1=j .cell/\((eR (W.h.objs.size+1) GE.scope.names []).lookup I.1).isSome=V):=λI KM=>(Dn.mp (bJ.params _ (Ko KM).1)).elim (λk=>.inl (bt.mp k)) λk=>.inr ⟨bt.mp k,vc (.inl (mem_of_lookup (bt.mp k)))⟩;refine fc (afK bJ.kind s8 λO rs s0 sK fd ty=>?_);have yj:O=cQ GE W.h.objs.size e:=rs;subst yj;refine⟨(ds.nolimit.keeps base).keeps sK.toInCall.keep,?_⟩;obtain⟨Db,Ok,cS⟩:=Gg bJ Z (Ed) ay sK fd ty;let vq:cE:={cls:=.type "generator",data:=.fields #[.int s0.gens.size 0,.str GE.name s0.toks,.str GE.qualname (s0.toks+1)]};let u8:nb:=(W.to s0).tg vq (.func body (cQ GE W.h.objs.size e)) 2;obtain⟨P3,Ix⟩:=bom Db vq (.func body (cQ GE W.h.objs.size e)) 2;have jI:u8.h.IsGen s0.heap.objs.size s0.gens.size:=⟨vq,_,_,dK _ rfl,rfl,rfl,rfl⟩;have dO:=cS.f' Ix;have f:=Db.fresh (Da s0.heap.objs.size);exact wpAny_pyIter_gen jI (K u8 _ _
  {ok:=P3
   le:=Ok.trans Ix
   o:=rfl
   gen:=jI
   ar:=λb cr=>(cq.mp cr).elim (λg=>g▸⟨show s0.heap.objs.size<(s0.heap.push vq).objs.size from(f6 ..).symm▸gp _,f.2.1,f.1,f.2.2⟩) λcr=>⟨(dO.here cr).elim λT gt=>b1 gt,dO.off b cr⟩
   off:=λh=>(cS.here h).elim λT gt=>aB (b1 gt) (lQ _)
   aj:=dO
   N:=tt rfl
   fresh:=Array.getElem?_push_size ..
   ge:=λb cr=>(cq.mp cr).elim (λg=>g▸fd) λcr=>(cq.mp cr).elim (λg=>g▸Da _) λcr=>(dM.mp cr).elim λI q=>q.2▸jp (sK.above I.1 I.2 q.1)
   keep:=λb T g=>cP _ (sK.toInCall.keep b T g)})
set_option tactic.hygienic true in
theorem chg(ds:d.ab)(dg:∃T,d.az.get? d.et=j T)(cr:vn d)(GN:d.mg "enumerate"=bn){q:E->wS}(bJ:j_ d e GE (pZ q) ["addr"] V)(S:Gw GE.scope)(gl:jm d.K (.ref e)=V)(fR:∀v:cd,k7 GE ⟨[v],[]⟩=pure [(("addr":X),v)]):GL d 12 (.ref e) (λr=>match r with|.str c=>j (m' c)|_=>bn) where
 keep:=λds Z=>sO ds Z gl
 call:=by
  intro A lf a1 bP C W g2 r n Z GO ae hm
  have GP:zs 10 A:=lf.less (by decide)
  cases r<;>try (cases ae;done)
  rename_i c
  cases ae
  cases GO with|str _ u=>
  refine N_ (L:=[.str c u]) ds bJ lf Z (cr:=?_) (.cons (.aq (.str c u)) .nil) λu8 aM i Ch=>?_
  ·exactλCh A P a1 h=>by rw[fR];exact s2 h
  refine hm (.ref aM) _ (Bh d A aM i (m' c) (oK d) (λa=>g6)) u8 Ch.ok Ch.le Ch.o (NU ds (lf.less (m:=1) (by decide)) (λa a=>trivial) ?_) ?_ Ch.ge
  ·exactλZ Db ar le a vm cT pY oJ hE=>but Z Db ar le vm cT pY oJ hE
  ·exact⟨.fresh (.func (pZ q) (cQ GE W.h.objs.size e)),0,_,T0 (cQ GE W.h.objs.size e),λs=>T0 (cQ GE W.h.objs.size e)++[s.heap.objs.size+1,s.heap.objs.size],rfl,Ch.off,rfl,Ch.N,Ch.gen,Ch.ar,trivial,ble (b:=G) ds dg (H:=[(("addr":X),R.str c)]),⟨mj ds dg Ch.ok,Ch.aj.br Ch.ok S.gen (ee.cons rfl ee.nil)⟩,Ch.fresh,
    λaD ev e db=>(gq.mp db).elim .inl λh=>.inr ((cq.mp h).elim (λq=>q▸cu _) λq=>a9.mp q▸Da _),
    λaD ev=>⟨rfl,bor ds dg cr GN S GP ev.1 ev.2 λe db=>(ev.2.here db).elim λT gt=>b1 gt⟩⟩
end
section
variable{A:xs}
def cin(h:bl)(g:kt):Prop:=∃T L,h.get? g=j T/\T.cls=.type "StopIteration"/\T.data=.fields L/\L[5]?=j .none
theorem clz{n:kt}{i:E}{UF}{c:cd}{C:Y cd->nl->Prop}(cI:s.heap.IsListIter ai n i)(ae:s.heap.IsList n UF)(f8:UF[i]?=j c)(hm:∀eg,eg.IsListIter ai n (i+1)->lJ ai s.heap eg->C (j c) {s with heap:=eg}):f4 (aE prog w) A (callSpecial? (.ref ai) "__next__") C a1 s:=by obtain⟨T,gt,f0,hd⟩:=id cI;obtain⟨aeB,th,_,kX,oM⟩:=ae;refine ul (name:=mV "__next__") cI.typeIs Ku (mW Ku cI.typeIs afV ?_ (afW _));show f4 _ _ (DA (.ref ai) 0>>=_) _ _ s;refine g1 (um gt hd (x:=.ref n) rfl ?_);show f4 _ _ (if(e9 n==jX)=V then _ else _) _ _ s;rw[ss (show¬((e9 n==jX)=V)from hW)];show f4 _ _ (DA (.ref ai) 1>>=_) _ _ s;refine g1 (um gt hd (x:=.int i 0) rfl ?_);show f4 _ _ (seqItems? (.ref n)>>=_) _ _ s;refine g1 (Dr th oM ?_);simp only[DD,f8];refine g1 (ur gt hd (by simp) (s2 ⟨c,rfl,hm _ ?_ (lN ..)⟩));exact⟨_,mS _ gt (Obj.isFreed_of_fields (afX hd _)),(Obj.cls_mapFields ..).trans f0,by rw[afX hd];simp[gr]⟩
theorem cmp{n:kt}{i:E}{UF}{C:Y cd->nl->Prop}(t1:A.handled=bn)(cI:s.heap.IsListIter ai n i)(ae:s.heap.IsList n UF)(f8:UF[i]?=bn)(e2:∀eg g,wN ai s.heap eg->cin eg g->a1 (.ref g) {s with heap:=eg}):f4 (aE prog w) A (callSpecial? (.ref ai) "__next__") C a1 s:=by
 obtain⟨T,gt,f0,hd⟩:=id cI;obtain⟨aeB,th,_,kX,oM⟩:=ae;refine ul (name:=mV "__next__") cI.typeIs Ku (mW Ku cI.typeIs afV ?_ (afW _));show f4 _ _ (DA (.ref ai) 0>>=_) _ _ s;refine g1 (um gt hd (x:=.ref n) rfl ?_);show f4 _ _ (if(e9 n==jX)=V then _ else _) _ _ s;rw[ss (show¬((e9 n==jX)=V)from hW)];show f4 _ _ (DA (.ref ai) 1>>=_) _ _ s;refine g1 (um gt hd (x:=.int i 0) rfl ?_);show f4 _ _ (seqItems? (.ref n)>>=_) _ _ s;refine g1 (Dr th oM ?_);simp only[DD,f8];refine g1 (ob (g1 (ur gt hd (by simp) ?_)));show f4 _ _ (zO (.type "StopIteration") []>>=_) _ _ _;refine g1 ?_;simp only[zO,Dg];refine g1 (k2 ?_ (by size_fits));refine g1 (m:=zP _ _) (qw (a:=jX) (by first|rfl|(simp only[zP];rfl)) ?_);refine k2 ?_ (by size_fits);simp only[Kr];refine g1 (TO ?_);first|rw[show A.in1.handled=bn from t1]|rw[t1]
 refine g1 (s2 (TP ?_));exact e2 _ _ (((lN ..).extBut.push _).push _) ⟨_,_,dK _ rfl,rfl,rfl,rfl⟩
end
section
variable{A:xs}{wf:wR}{z:E}{s1:p wC}
theorem coe:wV (.type "list_iterator") "close"=pure bn:=by rw[sf,sg];kernel_rfl
theorem col:us ut "proto.yield_from"=j Builtin.«proto.yield_from»:=TS (by kernel_rfl)
theorem Oa{Ch:iw}{n:kt}{i:E}{b:ga}{C:g7->nl->Prop}(cI:s.heap.IsListIter ai n i)(h:C () s):f4 Ch A (afY (.ref ai) b) C a1 s:=by obtain⟨T,gt,f0,hd⟩:=cI;unfold afY;refine g1 (Dj gt ?_);rw[f0];exact s2 h
noncomputable def mo(ai:kt):uo:=.builtin "proto.yield_from" ⟨[.ref ai,.bool G,.none],[]⟩
theorem con{id:wK}{TE:t_}{b:J6}(cr:us ut id=j b):(aE prog w).den (.builtin id TE)=b TE:=by show(match us ut id with|some b=>b TE|none=>unsupported ((withoutEnding? id "#data").getD id))=_;rw[cr]
theorem Ob(ai:kt):(aE prog w).den (mo ai)=Builtin.«proto.yield_from» ⟨[.ref ai,.bool G,.none],[]⟩:=con col
theorem cos{n:kt}{i:E}{UF:bD cd}{c:cd}(yg:splitAtGen s1=bn)(GB:s1.any afT=G)(cI:s.heap.IsListIter ai n i)(ae:s.heap.IsList n UF)(f8:UF[i]?=j c)(h:∀eg,eg.IsListIter ai n (i+1)->lJ ai s.heap eg->∀Bk:Resume->nl->Prop,(∀eG,(∃ev,eG.heap.IsListIter ai n ev)->Seg (aE prog w) A wf cf z eG (mo ai) ((aE prog w).den (mo ai)) s1 eG->Bk (.send .none) eG)->cf z KF c {s with heap:=eg} Bk):Seg (aE prog w) A wf cf (z+1) KF (mo ai) ((aE prog w).den (mo ai)) s1 s:=by rw[Ob];unfold Builtin.«proto.yield_from»;refine lR (m:=(pure jX:aP cd)) (s2 ?_);refine lR (uq ?_);refine dF ?_;rw[ss hW,tt (by rfl)];refine g1 (ob (g1 (clz cI ae f8 λeg j9 e0=>s2 ?_)));dsimp only;refine lR (r4 j9.typeIs ?_);dsimp only;refine lR (qw coe ?_);refine lR (s2 ?_);refine lR (Oa j9 ?_);refine seg_yield yg rfl GB (h eg j9 e0 _ λeG s3 fd=>?_);obtain⟨ev,s3⟩:=s3;refine lR (s2 (lR (Oa s3 ?_)));dsimp only;refine lR (m:=(pure jX:aP cd)) (s2 ?_);exact TN (J3 _ (by decide+kernel)) fd
theorem cps{n:kt}{i:E}{UF:bD cd}{k:qp->aP jq}{h d au t x nz}(t1:(A.over (mo ai) (.ret k h d au t x nz::s1)).handled=bn)(cI:s.heap.IsListIter ai n i)(ae:s.heap.IsList n UF)(f8:UF[i]?=bn)(gl:∀eg,wN ai s.heap eg->s.heap.objs.size≤eg.objs.size->Seg (aE prog w) A wf cf z KF t (k (.ok (.ret .none))) s1 {s with heap:=eg}):Seg (aE prog w) A wf cf z KF (mo ai) ((aE prog w).den (mo ai)) (.ret k h d au t x nz::s1) s:=by rw[Ob];unfold Builtin.«proto.yield_from»;refine lR (m:=(pure jX:aP cd)) (s2 ?_);refine lR (fc (uq ?_));refine dF ?_;rw[ss hW,tt (by rfl)];refine g1 (ob (g1 (cmp t1 cI ae f8 λeg g e0 rs=>λcO a=>?_)));obtain⟨T,L,gt,f0,hd,dT⟩:=rs;dsimp only;unfold aiO aiP;refine lR (g1 (g1 (r4 (T:="StopIteration") ⟨T,gt,f0⟩ ?_)));dsimp only;refine g1 (qw TQ ?_);refine g1 (qw (a:=k3 "type") (by rfl) ?_);refine s2 ?_;dsimp only;rw[ss hW];refine s2 ?_;rw[tt rfl];rw[ss hW];refine lR (ob (lR (um gt hd dT ?_)));exact seg_leaf (.ok (.ret .none)) (gl eg e0 cO)
end
section
variable{A:xs}{wf:wR}{z:E}{t:uo}{s1:p wC}{O:IN}{K:fG->aP jq}{a2:cd->aP jq}{pp:ga->ga}{au:p cd->p cd}
theorem cst{GQ:wS}(GC:pp G=G)(h:f4 (aE prog w) (A.over t s1) (eval g O) (λv s0=>∃kX UF,v=.ref kX/\s0.heap.IsList kX UF/\∀(k:qp->aP jq) n x,k (.ok (.ret .none))=K .next->Seg (aE prog w) A wf cf z KF (mo s0.heap.objs.size) ((aE prog w).den (mo s0.heap.objs.size)) (.ret k bn G n t x []::s1) {s0 with heap:=s0.heap.push {cls:=.type "list_iterator",data:=.fields #[.ref kX,.int 0 0]}}) (λc it=>Seg (aE prog w) A wf cf z KF t (a2 c) s1 it) s)(np:TA O=G):Seg (aE prog w) A wf cf z KF t ((exec (.Expr (.YieldFrom g GQ) h0) O).wrap K a2 pp au) s1 s:=by
 rw[exec_Expr O _ h0 np rfl]
 show Seg _ A wf cf z KF t (.at h0 λa=>((eval g O>>=λv=>(lM GQ>>=λa=>yieldFrom O v))>>=λc=>
  dropValue (.YieldFrom g GQ) h0 c).wrap K a2 pp au) s1 s
 refine seg_at ?_;rw[Dy,Dy,Dz,Dz];refine Kq (cJ h (λv s0 a3=>?_) λa a c=>c);obtain⟨kX,UF,rfl,ae,fd⟩:=a3;refine seg_at ?_;have bM:s0.TypeIs (.ref kX) "list":=by obtain⟨T,gt,f0,_⟩:=ae;exact⟨T,gt,f0⟩
 have Oc:∀{t0 cY:Type} {m:aP t0} {f:t0->aP cY} {K:cY->aP jq} {a2:cd->aP jq} {pp:ga->ga} {au:p cd->p cd} {s:nl},f4 (aE prog w) (A.over t s1) m (λe it=>Seg (aE prog w) A wf cf z KF t ((f e).wrap K a2 pp au) s1 it) (λc it=>Seg (aE prog w) A wf cf z KF t (a2 c) s1 it) s->Seg (aE prog w) A wf cf z KF t ((m>>=f).wrap K a2 pp au) s1 s:=by intro t0 cY m f K a2 pp au s h;rw[Dy,Dz];exact Kq h
 unfold yieldFrom;refine Oc (m:=typeOf (.ref kX)) (r4 bM ?_);rw[ss (show¬((k3 "list"==k3 "coroutine")=V) by decide)];refine Oc (dF (Tr ae ?_));refine seg_call λx=>?_;simp only[id,GC];exact fd _ _ x rfl
end
section
variable(q:E->wS)
noncomputable def ctz:wP:=.Expr (.YieldFrom (.Name "namespaces" (q 1)) (q 2)) (q 3)
noncomputable def GR:p wP:=[.If (.Name "namespaces" (q 4)) [ctz q] [] (q 5)]
noncomputable def GS:bv:=.Name "namespaces" (q 6)
noncomputable def nC:p wP:=[.For (GS q) (.Call (.Name "_reversed" (q 7)) [.Name "ns_stack" (q 8)] [] (q 9)) (GR q) [] (q 10)]
end
structure Bo(bs:KT):Prop where
 ns:bV bs "namespaces"=V
 co:bs.isCoroutine=G
 kind:bs.kind=.function
 gen:bs.isGenerator=V
structure kG(n bS:kt)(dc:cd)(bd:p kt)(h:bl):Prop where
 stack:h.IsList n ((bS::bd).map e9).toArray
 first:h.IsList bS #[dc]
 rest:∀g∈bd,h.IsList g #[]
theorem rV.at{h:bl}{UF:bD cd}(c:h.IsList e UF)(g:∀T,h.get? e=j T->eg.get? e=j T):eg.IsList e UF:=let⟨T,gt,l⟩:=c;⟨T,g T gt,l⟩
theorem kG.keep{n:kt}{bd:p kt}{h:bl}(c:kG n bS dc bd h)(k:∀e∈n::bS::bd,∀T,h.get? e=j T->eg.get? e=j T):kG n bS dc bd eg:=⟨rV.at c.stack (k n (.head _)),rV.at c.first (k bS (.tail _ (.head _))),λg rs=>rV.at (c.rest g rs) (k g (.tail _ (.tail _ rs)))⟩
theorem rV.lt{h:bl}{UF:bD cd}(c:h.IsList e UF):@jn E _ e h.objs.size:=c.elim λT q=>b1 q.1
theorem kG.lt{n:kt}{bd:p kt}{h:bl}(c:kG n bS dc bd h):∀e∈n::bS::bd,e<h.objs.size:=mU.mpr ⟨rV.lt c.stack,mU.mpr ⟨rV.lt c.first,λg rs=>rV.lt (c.rest g rs)⟩⟩
section
variable{d:sw}{A:xs}{O:IN}{H:hf}
theorem Od{UF:bD cd}(f8:H.lookup c=j (.cg (.ref e)))(hd:(c==("__debug__":X))=G)(pi:(c==("__classdict__":X))=G)(Z:W.ab d)(aj:Tl d O H W)(ae:W.h.IsList e UF)(cO:(UF.size:m0)<2^63){C:ga->nl->Prop}(hm:∀u,W.s.toks≤u->C (!UF.isEmpty) {W.s with toks:=u}):f4 d.M A (g8 (.Name c x) O (eval (.Name c x) O)) C a1 W.s:=by refine isTrue_plain (jY (aj.load f8 pi λv l=>?_) hd);exact wp.Bc l (ae6 ae cO (hm _ (e7 _ 2)))
structure Oe(d:sw)(O:IN)(If n bS:kt)(dc:cd)(H:hf)(s:nl):Prop where
 ok:(br d s).ab d
 aj:Tl d O H (br d s)
 ai:s.heap.IsListIter (If+1) bS 1
 fst:s.heap.IsList bS #[dc]
 ay:s.heap.IsRevIter If n (-1)
def vr(d:sw)(bS:kt)(dc:cd)(u:R)(W:nb):Prop:=(∃z,W.B bS=j (SL #[dc] z))/\x0 d W.B dc u
theorem cur(ds:d.ab)(dg:∃T,d.az.get? d.et=j T){If n:kt}{u:R}:yd d aM V (T0 O++[If,If+1]) (vr d bS dc u) (Oe d O If n bS dc H) where
 ok:=λs ev=>ev.ok
 gen:=λs i I cr ev=>⟨Bj ev.ok cr,ev.aj.gens rfl,ev.ai,ev.fst,ev.ay⟩
 le:=λa {W y sK} Z xz ar ii ev le Tk=>by
  have aw:=Gp le
  have off:∀e∈T0 O++[If,If+1],e∉d.tab::(sK++W.aH):=λe db pc=>(cq.mp pc).elim (ar e (.tail _ db)).2.2.2 λpc=>(gq.mp pc).elim (Tk e db) (ar e (.tail _ db)).2.1
  have h1:Tl d O H (rf d W):=ev.aj.N W.N
  have nz:∀e∈[If,If+1],∀T,W.h.get? e=j T->y.h.get? e=j T:=λe db T gt=>
   le.keep e T gt (ar e (.tail _ (pu _ db))).2.1 (Tk e (pu _ db)) (λa=>(ar e (.tail _ (pu _ db))).2.2.2)
  exact⟨mj ds dg xz,(h1.le aw λe db=>off e (oc _ db)).N _,ev.ai.at λT gt=>nz _ (.tail _ (.head _)) T gt,ii.1.elim λz pi=>⟨_,xz.bw _ _ (le.B _ _ pi),rfl,_,rfl⟩,ev.ay.at λT gt=>nz _ (.head _) T gt⟩
def Bp(dc:cd)(u:R)(ahk:p kt)(r:R)(v:cd)(ahl ahm:nl):Prop:=r=u/\v=dc
theorem cwd(ds:d.ab)(dg:∃T,d.az.get? d.et=j T){q:E->wS}{If n:kt}{bd:p kt}{u:R}(S:Bo O.scope)(lf:zs 10 A){mn:qp->aP jq}{oL:p cd}(oN:(d.az.get? If=bn/\If≠d.tab)/\d.az.get? (If+1)=bn/\If+1≠d.tab)(e2:∀e∈T0 O,e<If)(ae:∀e∈n::bS::bd,e<If/\e∉T0 O)(xJ:∀(H:hf) (W:nb) (KF:nl),W.ab d->Tl d O H W->kw d (T0 O++[If,If+1]) (br d KF) W->Seg d.M A.in1 (i' d (T0 O++[If,If+1])) (kF d aM (T0 O++[If,If+1]) [u] (Bp dc u) (vr d bS dc u)) 0 KF (.func (nC q) O) (mn (.ok .next)) [] W.s)(KF:nl)(ahn:KF.heap.objs.size=If):∀(k:E) (H:hf) (W:nb),k<(bS::bd).length->W.ab d->Tl d O H W->ee H->bc d [If] W->kG n bS dc bd W.h->W.h.IsRevIter If n (k:m0)->W.h.objs.size=If+1->kw d (T0 O++[If,If+1]) (br d KF) W->Seg d.M A.in1 (i' d (T0 O++[If,If+1])) (kF d aM (T0 O++[If,If+1]) [u] (Bp dc u) (vr d bS dc u)) 1 KF (.forLoop (GS q) (.ref If) (GR q) [] O) (d.M.den (.forLoop (GS q) (.ref If) (GR q) [] O)) [.ret mn bn G oL (.func (nC q) O) x []] W.s:=by
 have GU:∀e∈[If],e∈T0 O++[If,If+1]:=λe db=>pu _ (a9.mp db▸.head _);have Of:∀e∈[If+1],e∈T0 O++[If,If+1]:=λe db=>pu _ (a9.mp db▸.tail _ (.head _));have GV:∀e∈T0 O,e∉[If]:=λe db h=>lQ If (a9.mp h▸e2 e db);have Gy:∀e∈T0 O,e∉[If+1]:=λe db h=>Nat.not_succ_lt_self (a9.mp h▸e2 e db:If+1<If);intro k;induction k with
 |zero=>
  intro H W gl Z aj Uf ar kc cI cO le;refine x_ (gU:=i' d []) (afZ cI kc.stack (x:=.ref bS) rfl λeg j9 fd=>?_);have av:Mv [If] W.s {W.s with heap:=eg}:=Mv.same fd;let nn:nb:=W.to {W.s with heap:=eg};obtain⟨Db,Ok⟩:=ar.av Z av Z.bare;have cS:=aj.le Ok GV;have GW:kG n bS dc bd eg:=kc.keep λe db T gt=>(fd.2 e (ep (ae e db).1)).trans gt;have ri:eg.objs.size=If+1:=fd.1.trans cO;refine s2 (zL (Tl.store (W:=nn) (r:=.cg (.ref bS)) Db cS (xN S.ns) (λh=>aj.full _ (.inl h)) (.aq (.cg _)) λu8 P3 dO lF bI dat dec del a fN rj a=>?_));have Ix:kw d (T0 O) nn u8:=lF nn (T0 O) kw.refl λe h=>.inl h;have vs:kG n bS dc bd u8.h:=GW.keep λe db T gt=>rj.keep e T gt (ae e db).2;have Bq:u8.h.IsRevIter If n (-1):=j9.at λT gt=>rj.keep If T gt (λh=>aB (e2 If h) (lQ _));have GX:ee (Pv H ("namespaces":X) (.cg (.ref bS))):=Uf.set rfl;have Og:(Pv H ("namespaces":X) (.cg (.ref bS))).lookup ("namespaces":X)=j (.cg (.ref bS)):=by rw[gL,tt rfl]
  refine ka (x' (Od (c:="namespaces") (e:=bS) (UF:=#[dc]) Og (by decide) (by decide) P3 dO vs.first (show(1:m0)<2^63 by decide) λao ty=>?_));have bL:kw d (T0 O++[If,If+1]) (br d KF) (u8.to {u8.s with toks:=ao}):=((le.trans (Ok.weak GU)).trans (Ix.weak λe db=>oc _ db)).ao ty;let ZB:nb:=u8.to {u8.s with toks:=ao};have cy:ZB.ab d:=P3.ao ty;have nu:Tl d O (Pv H ("namespaces":X) (.cg (.ref bS))) ZB:=dO.f' (kw.refl.ao ty);have xU:ZB.s.heap.objs.size=If+1:=fN.trans ri;refine ka (cst rfl (jY (nu.load Og (by decide) λv l=>?_) (by decide)) (F2 nu));refine wp.Bc l ?_;refine⟨bS,#[dc],rfl,vs.first,λk vt d' gl=>?_⟩;have den:=bc.new (T:={cls:=.type "list_iterator",data:=.fields #[.ref bS,.int 0 0]}) cy rfl;let e1:nb:=ZB.to {ZB.s with heap:=ZB.h.push {cls:=.type "list_iterator",data:=.fields #[.ref bS,.int 0 0]}};have gS:e1.ab d:=cy.push _;have fh:kw d (T0 O++[If,If+1]) (br d KF) e1:=bL.push _;have q7:Tl d O (Pv H ("namespaces":X) (.cg (.ref bS))) e1:=nu.f' (kw.refl.push _);have GY:e1.s.heap.IsListIter ZB.s.heap.objs.size bS 0:=⟨_,dK _ rfl,rfl,rfl⟩;show Seg _ _ _ _ _ _ (mo ZB.s.heap.objs.size) (d.M.den (mo ZB.s.heap.objs.size)) _ e1.s;have det:bc d [If+1] e1:=by rw[<- xU];exact den
  rw[xU]at GY⊢;have Oh:∀e T,ZB.s.heap.get? e=j T->e1.s.heap.get? e=j T:=λe T g=>cP _ g;have Oi:kG n bS dc bd e1.h:=vs.keep λe a T g=>Oh e T g;have dig:e1.h.IsRevIter If n (-1):=Bq.at λT g=>Oh If T g;have ti:∀e∈n::bS::bd,e≠If+1:=λe db h=>aB (ae e db).1 (by rw[h];exact dJ.mpr (cu _));refine cos (z:=0) rfl rfl GY Oi.first (c:=dc) rfl λgR div pT Bk doc=>?_;have dup:Mv [If+1] e1.s {e1.s with heap:=gR}:=Mv.same pT;obtain⟨ic,jF⟩:=det.av gS dup gS.bare;have Bm:=fh.trans (jF.weak (cf:=T0 O++[If,If+1]) Of);have vo:=q7.le jF Gy;have dvd:gR.objs.size=If+2:=by rw[pT.1];show(ZB.h.push _).objs.size=_;rw[f6];show ZB.s.heap.objs.size+1=_;rw[xU]
  refine⟨u,[],Oe d O If n bS dc (Pv H ("namespaces":X) (.cg (.ref bS))),rfl,rfl,⟨Bg Bm,mj ds dg ic⟩,λe db=>?_,⟨rfl,rfl⟩,cur ds dg,⟨mj ds dg ic,vo.br ic S.gen GX,div,?_,?_⟩,λaD ev=>doc aD ⟨1,ev.ai⟩ ?_⟩
  ·show e<gR.objs.size;rw[dvd];rcases gq.mp db with h|h
   ·exact Kf (e2 e h) (wU (gp _))
   ·exact(cq.mp h).elim (λq=>q▸wU (gp _)) λq=>a9.mp q▸gp _
  ·exact rV.at Oi.first λT g=>(pT.2 bS (ti bS (.tail _ (.head _)))).trans g
  ·exact dig.at λT g=>(pT.2 If (ep (gp _))).trans g
  ·obtain⟨tf,yi,Oj,elt,enc⟩:=ev;have Ol:If+1<aD.heap.objs.size:=Oj.elim λT q=>b1 q.1;refine cps (lf.handled) Oj elt rfl λa3 Om ri=>?_;rw[gl];have ent:bc d [If+1] (br d aD):=λe db=>a9.mp db▸⟨Ol,(λh=>nomatch h),oN.2⟩;have env:bc d [If] (br d aD):=λe db=>a9.mp db▸⟨Nat.lt_of_succ_lt Ol,(λh=>nomatch h),oN.1⟩;have eof:Mv [If+1] (br d aD).s {aD with heap:=a3,toks:=aD.toks}:=u' ri Om (Da _);obtain⟨q9,kB⟩:=ent.av tf eof tf.bare;have xX:=yi.le kB Gy;have eqB:bc d [If] ((br d aD).to {aD with heap:=a3,toks:=aD.toks}):=env.sR ri;have eqQ:a3.IsRevIter If n (-1):=enc.at λT g=>Om If T (ep (gp _)) g;refine mi (mi (ya ?_));refine x_ (gU:=i' d []) (fc (wpAny_pyNext_rev_end lf.handled eqQ λgd eqZ eq1 a=>NN ?_));have eq2:Mv [If] ((br d aD).to {aD with heap:=a3,toks:=aD.toks}).s {aD with heap:=gd,toks:=aD.toks}:=u' (s:={aD with heap:=a3}) eq1 eqZ (Da _);obtain⟨eq3,Oo⟩:=eqB.av q9 eq2 q9.bare;have eq4:=xX.le Oo GV;exact xJ _ _ aD eq3 eq4 ((kB.weak Of).trans (Oo.weak GU))
 |succ k ih=>
  intro H W gl Z aj Uf ar kc cI cO le;obtain⟨g,rs⟩:∃g,bd[k]?=j g:=⟨bd[k]'(by simpa using gl),k8 _⟩;have yj:g∈bd:=Dx rs;have f8:((bS::bd).map e9).toArray[k+1]?=j (.ref g):=by simp[rs]
  refine x_ (gU:=i' d []) (afZ cI kc.stack f8 λeg j9 fd=>?_);have av:Mv [If] W.s {W.s with heap:=eg}:=Mv.same fd;let nn:nb:=W.to {W.s with heap:=eg};obtain⟨Db,Ok⟩:=ar.av Z av Z.bare;have cS:=aj.le Ok GV;have GW:kG n bS dc bd eg:=kc.keep λe db T gt=>(fd.2 e (ep (ae e db).1)).trans gt;have q2:bc d [If] nn:=ar.sR (by show W.h.objs.size≤eg.objs.size;rw[fd.1];exact Da _);have ri:eg.objs.size=If+1:=fd.1.trans cO;refine s2 (zL (Tl.store (W:=nn) (r:=.cg (.ref g)) Db cS (xN S.ns) (λh=>aj.full _ (.inl h)) (.aq (.cg _)) λu8 P3 dO lF bI dat dec del a fN rj a=>?_));have Ix:kw d (T0 O) nn u8:=lF nn (T0 O) kw.refl λe h=>.inl h;have vs:kG n bS dc bd u8.h:=GW.keep λe db T gt=>rj.keep e T gt (ae e db).2;have sU:bc d [If] u8:=q2.le Ix λe db h=>aB (e2 e h) (by rw[a9.mp db];exact lQ _);have Bq:u8.h.IsRevIter If n ((k+1:E) - 1:m0):=j9.at λT gt=>rj.keep If T gt (λh=>aB (e2 If h) (lQ _));have GX:ee (Pv H ("namespaces":X) (.cg (.ref g))):=Uf.set rfl;refine ka (x' (Od (c:="namespaces") (e:=g) (UF:=#[]) (by rw[gL,tt rfl]) (by decide) (by decide) P3 dO (vs.rest g yj) (by decide) λao ty=>?_));refine mi (ya ?_);have bL:kw d (T0 O++[If,If+1]) (br d KF) (u8.to {u8.s with toks:=ao}):=((le.trans (Ok.weak GU)).trans (Ix.weak λe db=>oc _ db)).ao ty;refine ih _ (u8.to {u8.s with toks:=ao}) (by simp at gl⊢;left) (P3.ao ty) (dO.f' (kw.refl.ao ty)) GX (sU.le (kw.refl.ao ty (sK:=[])) (λa a q=>nomatch q)) vs ?_ (fN.trans ri) bL;have:((k+1:E) - 1:m0)=(k:m0):=by left
  rw[this]at Bq;exact Bq
end
section
variable{d:sw}{A:xs}{O:IN}{H:hf}
theorem eq5(ds:d.ab)(dg:∃T,d.az.get? d.et=j T){q:E->wS}{n:kt}{Oq:cd}{bd:p kt}{u:R}(S:Bo O.scope)(lf:zs 10 A)(Z:(br d s).ab d)(aj:Tl d O [(("self":X),R.cg Oq),("ns_stack",.cg (.ref n)),("_reversed",.cg (.type "reversed"))] (br d s))(kc:kG n bS dc bd s.heap)(lF:∀e∈n::bS::bd,e∉T0 O):Seg d.M A.in1 (i' d (T0 O++[s.heap.objs.size,s.heap.objs.size+1])) (kF d aM (T0 O++[s.heap.objs.size,s.heap.objs.size+1]) [u] (Bp dc u) (vr d bS dc u)) 1 s (.func (nC q) O) (d.M.den (.func (nC q) O)) [] s:=by
 have Uf:ee [(("self":X),R.cg Oq),("ns_stack",.cg (.ref n)),("_reversed",.cg (.type "reversed"))]:=ee.cons rfl (ee.cons rfl (ee.cons rfl ee.nil));have e2:∀e∈T0 O,e<s.heap.objs.size:=λe db=>(aj.here db).elim λT gt=>b1 gt;have CX:=Z.fresh (Da (br d s).h.objs.size);have ir:=Z.fresh (e:=s.heap.objs.size+1) (cu (br d s).h.objs.size);have ae:∀e∈n::bS::bd,e<s.heap.objs.size/\e∉T0 O:=λe db=>⟨kc.lt e db,lF e db⟩;refine seg_func ?_;refine ka (NM (λa=>rfl) ?_);rw[l'];refine g1 (jY (aj.load (c:="_reversed") (r:=.cg (.type "reversed")) rfl (by decide) λv l=>?_) (by decide));refine wp.Bc l ?_;refine N8 (W:=br d s) (.type "reversed") (c:="ns_stack") (r:=.cg (.ref n)) rfl (by decide) (by decide) aj (q0 _) λv ay=>?_;refine wp.Bc ay ?_;refine call_reversed_list kc.stack ?_;have cO:(((bS::bd).map e9).toArray.size:m0) - 1=(bd.length:m0):=by simp
 rw[cO];have q2:=bc.new (T:=revObj n (bd.length:m0)) Z rfl;let nn:nb:=(br d s).to {s with heap:=s.heap.push (revObj n (bd.length:m0))};have Db:nn.ab d:=Z.push _;have cS:=aj.f' (kw.refl.push (revObj n (bd.length:m0)));have cI:nn.s.heap.IsRevIter s.heap.objs.size n (bd.length:m0):=⟨_,dK _ rfl,rfl,rfl⟩;refine wpAny_pyIter_revIter cI λx=>?_;refine cwd ds dg S lf ⟨⟨CX.1,CX.2.2⟩,ir.1,ir.2.2⟩ e2 ae (λH W KF Z aj le=>?_) s rfl bd.length _ nn (by simp) Db cS Uf q2 (kc.keep λe a T g=>cP _ g) cI (f6 ..) ((kw.refl (sK:=T0 O++[s.heap.objs.size,s.heap.objs.size+1])).push _);rw[NO];refine mi ?_;exact seg_end (.ok (.ret .none)) ⟨rfl,rfl,Bg le,mj ds dg Z⟩
theorem err{B:aX}{f1:p R}(l:Is d B L f1):(∀r∈f1,r=.ah [])->∃bd:p kt,L=bd.map .ref/\∀g∈bd,∃z,B g=j (SL #[] z):=l.ind (P:=λL f1=>(∀r∈f1,r=.ah [])->∃bd:p kt,L=bd.map .ref/\∀g∈bd,∃z,B g=j (SL #[] z)) (λa=>⟨[],rfl,λa h=>aB h r_⟩) λ{v r L n} f a ih h=>(ih λr hd=>h r (.tail _ hd)).elim λbd q=>x0.hG (P:=λv=>∃bd:p kt,v::L=bd.map .ref/\∀g∈bd,∃z,B g=j (SL #[] z)) (h r (.head _)▸f) λe b7 z AT (s1:Is d B b7 [])=>⟨e::bd,GT (e9 e::·) q.1,mU.mpr ⟨⟨z,(show b7=[]from s1.i)▸AT⟩,q.2⟩⟩
structure eta(d:sw)(O:IN)(H:hf)(n bS:kt)(dc:cd)(bd:p kt)(s:nl):Prop where
 ok:(br d s).ab d
 aj:Tl d O H (br d s)
 kc:kG n bS dc bd s.heap
theorem exc(ds:d.ab)(dg:∃T,d.az.get? d.et=j T){q:E->wS}(bJ:j_ d e GE (nC q) ["self","ns_stack","_reversed"] V)(S:Bo GE.scope)(fR:∀{W:nb},W.ab d->∀v g2:cd,DC W.s GE ⟨[v,g2],[]⟩ [(("self":X),v),("ns_stack",g2),("_reversed",.type "reversed")]){A:xs}(lf:zs 12 A){u:R}{f1:p R}(Z:W.ab d)(ma:wp d W.B W.ag g2 (.am ev))(s3:W.o[ev]?=j (.list (.ah [u]::f1)))(i6:∀r∈f1,r=.ah [])(hm:∀ai lv Inv y,y.ab d->kw d [] W y->y.o=W.o->s7 d A ai Inv->Inv G lv [u] y->(∀e∈lv,W.h.objs.size≤e)->C ai y.s):f4 d.M A (call (.ref e) [v,g2]) (λc s0=>f4 d.M A (d9 c) C bP s0) a1 W.s:=by have GP:zs 10 A:=lf.less (by decide);refine wp.Gm ma λn m bf=>?_;obtain⟨d',i9,f0⟩:=Z.cells ev _ s3;rw[bf]at i9;cases i9;have hE:=j5 bf s3 rfl;obtain⟨exp,L,z,GZ,s1⟩:=f0;have eye:n=m:=exp;subst eye;obtain⟨aiA,aho,rfl,CX,fin⟩:=s1.i;obtain⟨bS,b7,ou,rfl,Br,Bs⟩:=CX.i;obtain⟨dc,fix,rfl,fma,cD⟩:=Bs.i;obtain rfl:fix=[]:=cD.i;obtain⟨bd,rfl,fmt⟩:=err fin i6;have kc:kG n bS dc bd W.h:=⟨⟨_,GZ,rfl,z,rfl⟩,⟨_,Z.bw _ _ Br,rfl,ou,rfl⟩,λg rs=>(fmt g rs).elim λk gl=>⟨_,Z.bw _ _ gl,rfl,k,rfl⟩⟩;refine N_ (L:=[v,.ref n,.type "reversed"]) ds bJ lf Z (cr:=fR Z v (.ref n)) (.cons (.aq (.cg v)) (.cons (.aq (.cg (.ref n))) (.cons (.aq (.cg (.type "reversed"))) .nil))) λu8 aM i Ch=>?_;have lF:∀b∈n::bS::bd,b∉T0 (cQ GE W.h.objs.size e):=λb cr h=>aB (kc.lt b cr) (dJ.mpr (Ch.ge b (.tail _ h)));have ii:vr d bS dc u u8:=⟨⟨ou,Ch.le.B _ _ Br⟩,Ch.le.bZ fma⟩;refine hm (.ref aM) _ (Bh d A aM i [u] (Bp dc u) (vr d bS dc u)) u8 Ch.ok Ch.le Ch.o (NU ds (lf.less (m:=1) (by decide)) (λii le=>⟨ii.1.elim λk gl=>⟨k,le.B _ _ gl⟩,le.bZ ii.2⟩) λZ Db ar le ii vm cT pY oJ hE=>⟨_,Db,le,rfl,rfl,ar,pY.1▸pY.2▸le.bZ ii.2⟩) ?_ Ch.ge;exact⟨.fresh (.func (nC q) (cQ GE W.h.objs.size e)),0,eta d (cQ GE W.h.objs.size e) [(("self":X),R.cg v),("ns_stack",.cg (.ref n)),("_reversed",.cg (.type "reversed"))] n bS dc bd,T0 (cQ GE W.h.objs.size e),λs=>T0 (cQ GE W.h.objs.size e)++[s.heap.objs.size,s.heap.objs.size+1],rfl,Ch.off,rfl,Ch.N,Ch.gen,Ch.ar,ii,⟨λs i I cr ev=>⟨Bj ev.ok cr,ev.aj.gens rfl,ev.kc⟩,λs ev=>ev.ok,dN⟩,⟨mj ds dg Ch.ok,Ch.aj.br Ch.ok S.gen (ee.cons rfl (ee.cons rfl (ee.cons rfl ee.nil))),kc.keep λb a T g=>Ch.keep b T g⟩,Ch.fresh,λaD ev e db=>(gq.mp db).elim .inl λh=>.inr ((cq.mp h).elim (λq=>q▸Da _) λq=>a9.mp q▸cu _),λaD ev=>⟨rfl,eq5 ds dg S GP ev.ok ev.aj ev.kc lF⟩⟩
end
section
variable{d:sw}{J:Sc}{A:xs}{O:IN}{H:hf}
theorem fns(ds:d.ab)(Z:W.ab d){m:X}{bK:aP ga}(ay:wp d W.B W.ag v r)(FB:view W.o r=.inst t s1)(ae:s1.lookup m=bn)(Ch:qX d t m f){C:cd×p cd->nl->Prop}(wT:C (.ref f,[v]) W.s):f4 d.M A (wM v m bK) C a1 W.s:=Ff ds Z ay FB ae Ch wT
theorem fwd(ds:d.ab)(dg:∃T,d.az.get? d.et=j T)(Ps:CtxOk d J)(lf:zs (J.au+8) A)(gap:zs 12 A){q:E->wS}(bJ:j_ d e GE (nC q) ["self","ns_stack","_reversed"] V)(S:Bo GE.scope)(gl:jm d.K (.ref e)=V)(fR:∀{W:nb},W.ab d->∀v g2:cd,DC W.s GE ⟨[v,g2],[]⟩ [(("self":X),v),("ns_stack",g2),("_reversed",.type "reversed")])(p1:(bX.endLine==h0.line)=V){i:E}{u:R}{f1:p R}(Uf:H.lookup ("self":X)=j (.am i))(Ot:o[i]?=j (.inst t s1))(pc:s1.lookup ("_iter_namespaces":X)=bn)(Ch:qX d t "_iter_namespaces" e)(wn:s1.lookup ("_declared_ns_stack":X)=j (.am ev))(gcd:J.fld t "_declared_ns_stack"=V)(s3:o[ev]?=j (.list (.ah [u]::f1)))(i6:∀r∈f1,r=.ah []):pU d A O H (.Call (.Attribute (.Name "self" a_) "_iter_namespaces" bX) [.Attribute (.Name "self" bF) "_declared_ns_stack" eU] [] h0) o ([u],o):=by refine⟨λa=>rfl,λa1 bP C W Z aj ap hm=>?_⟩;have te:=nq ds Ps lf 2 O H;have h1:c3 (λg o=>sB J 2 O.scope g H o) [.Attribute (.Name "self" bF) "_declared_ns_stack" eU] o=j ([.am ev],o):=(Re rfl).trans ((Op (alt (by decide) Uf (xD Ot) wn gcd rfl)).trans rfl);refine sQ rfl p1 (by decide:1<30) (AL te.1 h1 (h0:=h0)).2 (aj.name Uf (by decide) λv Pi=>?_);subst ap;refine fns ds Z Pi (xD Ot) pc Ch (MA te.1 h1 Z aj rfl λL u8 P3 dO Ix bI No=>⟨sO ds P3 gl,?_⟩);refine No.jC (P:=λL=>f4 d.M A (call (.ref e) ([v]++L)) _ a1 u8.s) λg2 ma=>?_;obtain⟨n,m,rfl,_⟩:=id ma.i;exact exc ds dg bJ S fR gap (v:=v) P3 ma ((show u8.o=W.o from bI).symm▸s3) i6 λai lv Inv y xz aw bG ec Ns bg=>hm ai lv Inv y xz (Ix.trans aw) (bG.trans bI) ec Ns λe db=>aJ Ix.size (bg e db)
theorem ge1{h:bl}{S:X->ga}{z:E}{n:p X}(dy:h.SetOf (strKind d.prog d.w) e S z)(g:∀k,S k=n.contains k)(pi:z=n.length):∃T,h.get? e=j T/\sC d T n:=by have nD:=TU dy g pi;obtain⟨T,bd,WF,u,gt,l⟩:=nD;exact⟨T,gt,λeg er aT=>⟨T,bd,WF,u,aT,l⟩⟩
theorem gil(ds:d.ab)(f8:bV O.scope c=V)(Os:df O.scope "set"=V)(pc:d.mg "set"=bn):aW d A O (exec (.Assign [.Name c KB] (.Call (.Name "set" bF) [] [] eU) h0) O) H o (.next,Pv H c (.am o.length),o++[.set []]):=λa1 C W Z aj ap hm=>by refine zN ?_ rfl;rw[l'];refine g1 (qV (ds:=ds) Z aj (by decide) Os pc boot_set (by decide) ?_);refine qx (P:=λh=>ha d (.type "set") h) rfl (λh gl=>gl) (l9 rfl (Df ⟨q0 _,?_⟩));refine call_set_0 λled=>?_;subst ap;let T:cE:={cls:=.type "set",dict:=bn,data:=.set #[] 0 (.fresh 0 0 led)};have Db:=Z.push T;have ff:=Z.fresh (Da W.h.objs.size);have G0:sC d T []:=λh e g=>(setObjOf_fresh (knd:=strKind d.prog d.w) led).setOf g (by decide);have P3:=Db.cell (x:=(W.h.objs.size,W.h.objs.size)) (t:=.set []) ⟨rfl,T,dK _ rfl,G0⟩ (λa=>⟨ff.2.1,ff.1,ff.2.2⟩);have Ix:kw d [] W _:=(kw.refl.push T).cell Db (x:=(W.h.objs.size,W.h.objs.size)) (t:=.set []) (Da _);exact xO f8 P3 (aj.f' Ix) (.am (by show(W.ag++[(W.h.objs.size,W.h.objs.size)])[W.o.length]?=j (W.h.objs.size,W.h.objs.size);rw[<- Z.len,TB (Da _),Dp];rfl)) λZB cy nu bL a eY=>hm _ ZB cy nu (Ix.i0.trans bL) eY .next
theorem got(ds:d.ab){G1:wS}{n:p X}{x:X}(f8:bb c=V)(KM:bb I=V)(Uf:H.lookup c=j (.am ev))(s3:o[ev]?=j (.set n))(ln:H.lookup I=j (.str x))(pi:n.contains x=G)(sc:n.length<1000)(p1:(bX.endLine==h0.line)=V):aW d A O (exec (.Expr (.Call (.Attribute (.Name c KB) "add" bX) [.Name I py] [] h0) G1) O) H o (.next,H,o.set ev (.set (n++[x]))):=by refine F3 (l:=(.none,o.set ev (.set (n++[x])))) rfl λa1 C W Z aj ap hm=>?_;subst ap;refine sQ rfl p1 (by decide:1<30) rfl (aj.name Uf f8 λv Pi=>?_);obtain⟨e,m,rfl,bf⟩:=Pi.i;obtain⟨d',i9,q⟩:=Z.cells ev _ s3;have q:om d W (e,m) (.set n):=aO (i9.symm.trans bf)▸q;obtain⟨rs,T,gt,G0⟩:=q;obtain rfl:e=m:=rs;have dy:=G0 W.h e gt;refine getMethod_set_add dy ?_;refine qx (P:=λh=>ha d (.builtin "set.add") h) rfl (λh gl=>gl) (l9 rfl ?_);rw[E5 rfl,E6];refine JW (aj.name ln KM λg2 l=>Df ⟨qZ _,?_⟩);obtain⟨u,rfl⟩:=l.i.i;refine call_set_add (gI _ _ x u) rfl dy (by have:uu=4096:=rfl;left) λeg fd nD=>?_;obtain⟨ey,oz,gtB⟩:=ge1 (n:=n++[x]) nD (λk=>by rw[af0];congr 1;rw[j0,decide_eq_true_eq,wI,a9]) (by rw[pi,ct];rfl);have av:Mv [e] W.s {W.s with heap:=eg,toks:=W.s.toks+1}:=Mv.sD fd (cu _);exact hm _ _ (Z.set s3 bf rfl rfl av Z.bare (aL:=.set (n++[x])) ⟨rfl,ey,oz,gtB⟩) (kw.refl.set s3 bf rfl rfl av) rfl (.aq .none)
end
noncomputable def eK(n:p X)(c:X):p X:=if n.contains c then n else n++[c]
theorem hd2(n:p X)(c:X):(eK n c).length≤n.length+1:=by unfold eK;split<;>simp
theorem hit(n:p X)(c k:X):(n.contains k ||decide (k=c))=(eK n c).contains k:=by
 unfold eK;split
 ·rename_i f0;by_cases q:k=c;·subst q;rw[f0];rfl
  ·simp[q]
 ·rw[af0];congr 1;rw[j0,decide_eq_true_eq,wI,a9]
theorem hle(n:p X)(c:X):(if n.contains c=V then n.length else n.length+1)=(eK n c).length:=by unfold eK;split<;>simp
section
variable{A:xs}{lv:kt}{hM wr:p kt}{z:E}{P:E->cd->Prop}{St:E->bl->Prop}
theorem how{n:p X}{u:be}{C:ga->nl->Prop}(dy:s.heap.SetOf (aG prog w) S (λk=>n.contains k) n.length)(oI:n.length+1<uu)(h:∀(eg:bl),lJ S s.heap eg->eg.SetOf (aG prog w) S (λk=>(eK n c).contains k) (eK n c).length->C (!n.contains c) {s with heap:=eg}):f4 (aE prog w) A (DE S (.str c u) ((aG prog w).hash c)) C a1 s:=wpAny_setAddHashed_of (knd:=aG prog w) (gI _ _ _ _) rfl dy oI λeg gO hOr=>h eg gO (TU hOr (hit n c) (hle n c))
theorem ids{n:p X}{u:be}{C:ga->nl->Prop}(dy:s.heap.SetOf (aG prog w) S (λk=>n.contains k) n.length)(oI:n.length+1<uu)(h:∀(eg:bl),lJ S s.heap eg->eg.SetOf (aG prog w) S (λk=>(eK n c).contains k) (eK n c).length->C (!n.contains c) {s with heap:=eg,toks:=s.toks+1}):f4 (aE prog w) A (zR S (.str c u)) C a1 s:=by unfold zR;refine dF ?_;refine g1 ((aG prog w).pyHash (k:=c) (gI _ _ _ _) ?_);exact how (s:={s with toks:=s.toks+1}) dy oI h
theorem aeC(ia:r8 prog w A.in1 lv hM wr z P St)(yk:S∉hM){f1:p X}(pi:f1.length=z)(iD:∀(i:E) (v:cd),P i v->∃(c:X) (u:be),f1[i]?=j c/\v=.str c u):∀(k i:E) (n:p X) (s:nl),i+k=z->St i s.heap->s.heap.SetOf (aG prog w) S (λjw=>n.contains jw) n.length->n.length+k+1<uu->(∀(eg:bl) (ao:E),eg.SetOf (aG prog w) S (λjw=>((f1.drop i).foldl eK n).contains jw) ((f1.drop i).foldl eK n).length->(∀b T,b∉S::wr->s.heap.get? b=j T->eg.get? b=j T)->wf (.ok (.ret .none)) {s with heap:=eg,toks:=ao})->iV (aE prog w) A (.builtin "set.update.loop" ⟨[.ref S,.ref lv],[]⟩) wf s:=by have vu:S∉wr:=λh=>yk (ia.sub _ h);have dE:∀{h eg:bl} {m:X->ga} {U:E},h.SetOf (aG prog w) S m U->(∀T,h.get? S=j T->eg.get? S=j T)->eg.SetOf (aG prog w) S m U:=λq k=>q.elim λT q=>q.elim λbd q=>q.elim λWF q=>q.elim λu q=>⟨T,bd,WF,u,k T q.1,q.2⟩;intro k;induction k with|zero=>intro i n s gl dk dy cr fw;subst gl;refine n' Kv ?_;rw[r6 zS _];refine g1 (ia.done s _ _ dk λeg ao dz=>s2 (fw eg ao ?_ (λb T ll g=>dz b T (λh=>ll (List.mem_cons_of_mem _ h)) g)));rw[Kp (show f1.length≤i from mT pi)];exact dE dy λT=>dz S T vu|succ k ih=>intro i n s gl dk dy cr fw;have bU:i<z:=gl▸Nat.lt_add_of_pos_right (DF k);refine n' Kv ?_;rw[r6 zS _];refine g1 (ia.item i s _ _ bU dk λv a3 Bt G2 G3 tj=>?_);obtain⟨c,u,f8,rfl⟩:=iD i v G2;refine g1 (dF (ids (s:={s with heap:=a3,toks:=Bt}) (dE dy λT=>tj S T vu) (zH (r5 (e7 _ _)) cr) λgd fN idx=>s2 ⟨zT zS _,ih (i+1) (eK n c) _ ((TV i k).trans gl) (ia.frame _ a3 _ G3 λb cr T g=>(fN.2 b (λh:b=S=>yk (h▸cr))).trans g) idx (zH (r5 (aJ (afw (hd2 n c) k) (mT (TV _ _)))) cr) λeg ao nD dz=>fw eg ao ?_ λb T ll g=>dz b T ll ((fN.2 b (λh:b=S=>ll (h▸.head _))).trans (tj b T (λh=>ll (.tail _ h)) g))⟩));obtain⟨G4,g⟩:=rY.mp f8;rw[TL G4,g];exact nD
end
section
variable{A:xs}
noncomputable def vv(led:ga):cE:={cls:=.type "set",dict:=bn,data:=.set #[] 0 (.fresh 0 0 led)}
set_option maxHeartbeats 3200000 in
theorem iff{n:kt}{UF:bD cd}{f1:p X}{led:ga}(t1:A.handled=bn)(dy:s.heap.get? S=j (vv led))(ae:s.heap.IsList n UF)(ifs:n≠S)(pi:f1.length=UF.size)(np:∀(i:E) (v:cd),UF[i]?=j v->∃(c:X) (u:be),f1[i]?=j c/\v=.str c u)(cr:UF.size+1<uu)(fw:∀(eg:bl) (ao:E),eg.SetOf (aG prog w) S (λk=>(f1.foldl eK []).contains k) (f1.foldl eK []).length->(∀b T,b≠S->s.heap.get? b=j T->eg.get? b=j T)->wf (.ok (.ret .none)) {s with heap:=eg,toks:=ao}):iV (aE prog w) A (.call (.builtin "set.__init__") ⟨[.ref S,.ref n],[]⟩) wf s:=by
 refine codeAny_call_builtin uv.init.plain F.entry_set_init (check_set_init_1 ⟨_,dy,rfl⟩ ?_);obtain⟨⟨ahp,ahq,ahr,ahs⟩,th,fi,kX,oM⟩:=ae;simp only at fi oM;subst fi;subst oM;have aht:=F.sub_list_set;have ahu:=F.sub_list_frozenset;have aC:(k3 "list"==k3 "dict")=G:=by decide
 have bM:s.TypeIs (.ref S) "set":=⟨_,dy,rfl⟩;unfold vv at dy;unfold Builtin.«set.__init__» noKeywords aiQ;generalize if1:d9=ahv;wp_walk;subst if1;refine Tr ⟨_,th,rfl,kX,rfl⟩ (g1 (Ki ?_));have if2:n≠s.heap.objs.size:=ep (b1 th);have ill:S≠s.heap.objs.size:=ep (b1 dy);have Bu:∀{b:kt},b≠s.heap.objs.size->b≠n->b∉[s.heap.objs.size,n]:=λh1 ex h=>(cq.mp h).elim h1 λh=>ex (a9.mp h);exact aeC (Walks.list (by simp[t1]) _ n if2 UF) (Bu ill (Ne.symm ifs)) pi np UF.size 0 [] _ (jZ _) ⟨⟨_,dK _ rfl,rfl,rfl⟩,Heap.IsList.push ⟨_,th,rfl,kX,rfl⟩ _⟩ (TU ((setObjOf_fresh (knd:=aG prog w) led).setOf (cP _ dy) (by decide)) (λa=>rfl) rfl) (by rw[Kw,jZ];exact cr) λeg ao nD dz=>s2 (s2 (fw eg ao nD λb T cr g=>dz b T (λh=>(cq.mp h).elim cr λh=>ep (b1 g) (a9.mp h)) (cP _ g)))
set_option maxHeartbeats 3200000 in
theorem imp{n:kt}{UF:bD cd}{f1:p X}(t1:A.handled=bn)(ae:s.heap.IsList n UF)(pi:f1.length=UF.size)(np:∀(i:E) (v:cd),UF[i]?=j v->∃(c:X) (u:be),f1[i]?=j c/\v=.str c u)(cr:UF.size+1<uu)(h:∀(eg:bl) (ao:E),eg.SetOf (aG prog w) s.heap.objs.size (λk=>(f1.foldl eK []).contains k) (f1.foldl eK []).length->(∀b T,b<s.heap.objs.size->s.heap.get? b=j T->eg.get? b=j T)->C (.ref s.heap.objs.size) {s with heap:=eg,toks:=ao}):f4 (aE prog w) A (call (.type "set") [.ref n]) C a1 s:=by
 obtain⟨t,MY,ahw⟩:=uv.mro;have ahx:=uv.made;have Xb:=uv.sub;refine n9 (Tb ?_);show f4 _ _ (Di (.type "set") _) _ _ _;refine s2 ⟨J3 _ (by decide+kernel),n' F.entry_type_call ?_⟩;rw[Around.under_plain (weight_type_call_type "set" [.ref n] []) rfl];have h1:=uv.notType;have ex:=uv.canCreate;have ahy:=F.typeCall_set_1 (.ref n);repeat (any_goals (first|assumption|wp_step))
 refine codeAny_mono (code_set_new_1 (.ref n) (E:=a1) (Q₁:=λCT s0=>∃led:ga,CT=.ref s.heap.objs.size/\s0={s with heap:=s.heap.push (vv led)}) λled=>⟨led,rfl,rfl⟩) λl s0 nw=>?_;cases l with
 |error g=>exact nw
 |ok dm=>
  cases dm with
  |ret CT=>
   obtain⟨led,rfl,rfl⟩:=nw;have dy:(s.heap.push (vv led)).get? s.heap.objs.size=j (vv led):=dK _ rfl;have bM:Th {s with heap:=s.heap.push (vv led)} (.ref s.heap.objs.size) "set":=⟨_,dy,rfl⟩;have GY:=uv.init.lookup;have ahz:=uv.init.bind (.ref s.heap.objs.size);repeat (any_goals (first|assumption|wp_step))
   refine iff (by simp[t1]) dy (ae.push _) (ep (ae.elim λa q=>b1 q.1)) pi np cr λeg ao nD dz=>?_;have a2:=h eg ao nD λb T cr g=>dz b T (ep cr) (cP _ g);repeat (any_goals (first|assumption|wp_step))
  |_=>exact nw.elim
end
section
variable{A:xs}
theorem Ou:∀{n:p t0},n.length≤1->n=[]\/∃e,n=[e]|[],_=>.inl rfl|[e],_=>.inr ⟨e,rfl⟩
theorem inc(led:ga)(h:m0)(c:cd):∃ev,sh (.fresh 0 0 led) #[] h c=(#[(h,c)],{DG 0 0 led with place:=#[ev]},G,G):=by
 refine⟨(af1 h %8),?_⟩;unfold sh;have wn:(DG 0 0 led).freeSlot h=j (af1 h %8,G):=by unfold SetTable.freeSlot SetTable.probe;have:10*SetTable.turns (DG 0 0 led).mask=219+1:=rfl;rw[this];rfl
 rw[wn];rfl
noncomputable abbrev jC(prog:ww)(w:qo)(c:X)(u:be)(WF:E)(ak:qq):cE:=eV #[((aG prog w).hash c,.str c u)] WF ak
structure rk(w:qo)(ak:qq):Prop where
 mask:ak.mask=7
 place:ak.place.size=1
 G5:ak.dummies=#[]
 plain:ak.plain=G
 led:ak.led=!(w.params.followText "set-order")
theorem rk.fits(h:rk w ak):ak.fits 1=V:=by unfold af2 Kx;rw[h.mask,h.place,h.G5];rfl
theorem rk.G6{u:be}(h:rk w ak):l0 w (jC prog w c u WF ak) [c]:=⟨_,_,_,rfl,h.led,h.fits,.inl (Da 1),λg rs=>a9.mp rs▸⟨_,_,rfl⟩,.refl _,cu 1⟩
theorem inf{u:be}{C:ga->nl->Prop}(gt:s.heap.get? S=j (eV #[] 0 (.fresh 0 0 (!(w.params.followText "set-order")))))(h:∀eg WF ak,lJ S s.heap eg->eg.get? S=j (jC prog w c u WF ak)->rk w ak->C V {s with heap:=eg,toks:=s.toks+1}):f4 (aE prog w) A (zR S (.str c u)) C a1 s:=by unfold zR;refine dF (g1 ((strKind prog w).pyHash (k:=c) (gI _ _ _ _) ?_));unfold DE setAddHashedIn;refine dF (g1 (si (s:={s with toks:=s.toks+1}) gt rfl (by rfl) (qB (λa=>?_) (λq=>aB (byScan_of (knd:=strKind prog w) rfl (by decide) (λg rs=>aB rs r_)) q))));unfold setAddByScan;refine g1 (g1 (ob (g1 (af3 (knd:=strKind prog w) (k:=c) (s:={s with toks:=s.toks+1}) (gI _ _ _ _) gt rfl (by rfl) (λg rs=>aB rs r_) ?_))));obtain⟨ev,fy⟩:=inc (!(w.params.followText "set-order")) ((strKind prog w).hash c) (.str c u);dsimp only;rw[fy];refine g1 (m:=(pure ():aP g7)) (s2 ?_);rw[tt (by rfl),hashByValue_scannable 8 (by rfl)];refine g1 (s2 ?_);dsimp only[plainKind];rw[ss hW];let ak:qq:={DG 0 0 (!(w.params.followText "set-order"))with place:=#[ev],plain:=G};refine g1 (af4 (t':=ak) (s:={s with toks:=s.toks+1}) gt rfl ?_ (by size_fits));rw[ss (by simp[af5,Kx,DG])];have Os:=mS (h:=s.heap) (TX #[((strKind prog w).hash c,.str c u)] ak) gt (by rw[Ky _ ak rfl];rfl);rw[Ky _ ak rfl]at Os;exact s2 (s2 (h _ 1 ak (lN ..) Os ⟨rfl,rfl,rfl,rfl,rfl⟩))
set_option tactic.hygienic true in
theorem inj{g:m0×cd}(h:m0)(c:cd)(h1:ak.mask=7)(ex:ak.place.size=1)(h3:ak.dummies=#[])(aS:ak.plain=G):(sh ak #[g] h c).2.1.led=ak.led/\(sh ak #[g] h c).2.1.plain=G/\(sh ak #[g] h c).2.1.tooFull=G:=by
 have fd:(sh ak #[g] h c).2.1=ak.standIn 2\/∃ev,(sh ak #[g] h c).2.1=(ak.put ev).1.orStandIn 2:=by
  unfold sh;split
  ·rename_i zt ahA _;refine .inr ⟨zt,?_⟩;have:(af6 #[g] (ak.put zt).2 (h,c)).size=2:=by have ln:=SetTable.insertAt_perm #[g] (ak.put zt).2 (h,c);have:=ln.length_eq;simpa using this
   show(ak.put zt).1.orStandIn (af6 #[g] (ak.put zt).2 (h,c)).size=_;rw[this]
  ·exact .inl rfl
 have Ov:∀eP:qq,eP.led=ak.led->(eP.standIn 2).led=ak.led/\(eP.standIn 2).plain=G/\(eP.standIn 2).tooFull=G:=λeP ae=>⟨ae,rfl,rfl⟩;rcases fd with fd|⟨ev,fd⟩
 ·rw[fd];exact Ov ak rfl
 ·rw[fd];unfold SetTable.orStandIn;split
  ·rename_i wn;have hd:(ak.put ev).1.dummies=#[]:=by unfold SetTable.put;rw[h3];rfl
   have pc:(ak.put ev).1.mask=7:=h1;unfold af2 at wn;rw[iT]at wn;have ln:(ak.put ev).1.place.size=2:=bt.mp wn.1;refine⟨rfl,aS,?_⟩;unfold af5 Kx;rw[hd,pc,ln];rfl
  ·exact Ov _ rfl
theorem Ow{u g2:be}{C:ga->nl->Prop}(gt:s.heap.get? S=j (jC prog w c u WF ak))(ty:rk w ak)(h:∀b eg T,lJ S s.heap eg->eg.get? S=j T->l0 w T (eK [c] I)->C b {s with heap:=eg}):f4 (aE prog w) A (DE S (.str I g2) ((aG prog w).hash I)) C a1 s:=by
 have Ox:ElemsOf (aG prog w) [((aG prog w).hash c,j1 c u)]:=λg rs=>a9.mp rs▸⟨⟨c,gI _ _ _ _,rfl⟩,rfl⟩;unfold DE setAddHashedIn;refine dF (g1 (si gt rfl ty.fits (qB (λa=>?_) (λq=>aB (byScan_of (knd:=aG prog w) rfl (show(#[((aG prog w).hash c,j1 c u)]:bD (m0×cd)).size<uu from show 1<uu by decide) Ox) q))));unfold setAddByScan;refine g1 (g1 (ob (g1 (af3 (knd:=aG prog w) (k:=I) (gI _ _ _ _) gt rfl ty.fits Ox ?_))));have ins:af7 (λg:m0×cd=>(aG prog w).is I g.2) [((aG prog w).hash c,j1 c u)]=c9 (I==c) (j 0) bn:=by rw[afr,ae2 (gI prog w c u) I];show(if(I==c)=V then j 0 else bn)=_;cases I==c<;>rfl
 show f4 _ A (match(match af7 (λg:m0×cd=>(aG prog w).is I g.2) [((aG prog w).hash c,j1 c u)]with|some ev=>ScanMet.found (0+ev)|none=>ScanMet.absent)with|_=>_) _ _ _;rw[ins];cases q:I==c with|true=>exact s2 (s2 (h _ s.heap _ (aiR S s.heap) gt (by rw[eq_of_beq q,show eK [c] c=[c] by simp[eK]];exact ty.G6)))|false=>have q:=eo.mp q;obtain⟨bY,eT,G7⟩:=inj (g:=((aG prog w).hash c,j1 c u)) ((aG prog w).hash I) (.str I g2) ty.mask ty.place ty.G5 ty.plain;have p2:=layNew_perm ak #[((aG prog w).hash c,j1 c u)] ((aG prog w).hash I) (.str I g2);have Oy:=layNew_fits ak #[((aG prog w).hash c,j1 c u)] ((aG prog w).hash I) (.str I g2);dsimp only[c9];generalize fy:sh ak #[((aG prog w).hash c,j1 c u)] ((aG prog w).hash I) (.str I g2)=lw at p2 Oy bY eT G7⊢;obtain⟨vw,t2,ahB,inv⟩:=lw;have G8:vw.toList.Perm [((aG prog w).hash c,j1 c u),((aG prog w).hash I,j1 I g2)]:=p2;have cO:vw.size=2:=qz.symm.trans G8.length_eq;have nw:l0 w (eV vw (WF+1) t2) (eK [c] I):=⟨vw,WF+1,t2,rfl,bY.trans ty.led,Oy,.inr eT,λg rs=>(cq.mp (G8.mem_iff.mp rs)).elim (λg=>g▸⟨_,_,rfl⟩) λg=>a9.mp g▸⟨_,_,rfl⟩,(show eK [c] I=[c,I] by unfold eK;rw[ss (by rw[wI,a9];exact q)];rfl)▸G8.map λg=>ol g.2,mT cO⟩;have Os:=mS (h:=s.heap) (TX vw t2) gt (by rw[Ky _ t2 rfl];rfl);rw[Ky _ t2 rfl]at Os;refine g1 (cJ (Q:=λa it=>it=s) (by cases inv<;>first|exact s2 rfl|exact ob rfl) (λa it g=>?_) λa a h=>h);rw[g];rw[ss (by rw[eT];decide)];refine g1 (s2 ?_);rw[tt rfl];refine g1 (af4 gt rfl ?_ (by rw[cO];decide));rw[G7,Kk,ss hW];exact s2 (s2 (h _ _ _ (lN s.heap S (TX vw t2)) Os nw))
theorem Oz{lv:kt}{hM wr:p kt}{z:E}{P:E->cd->Prop}{St:E->bl->Prop}(ia:r8 prog w A.in1 lv hM wr z P St)(dk:St z s.heap)(h:∀eg ao,(∀b T,b∉wr->s.heap.get? b=j T->eg.get? b=j T)->wf (.ok (.ret .none)) {s with heap:=eg,toks:=ao}):iV (aE prog w) A (.builtin "set.update.loop" ⟨[.ref S,.ref lv],[]⟩) wf s:=by refine n' Kv ?_;rw[r6 zS _];show f4 _ A.in1 (hu (.ref lv)>>=_) _ _ s;exact g1 (ia.done s _ _ dk λeg ao dz=>s2 (h eg ao dz))
theorem inD{lv:kt}{hM wr:p kt}{P:E->cd->Prop}{St:E->bl->Prop}{z:E}(yk:S∉hM){b0:p X}(ia:r8 prog w A.in1 lv hM wr z P St)(pi:b0.length=z)(in4:b0.length≤1)(iD:∀(i:E) (v:cd),P i v->∃(c:X) (u:be),b0[i]?=j c/\v=.str c u){u:be}(gt:s.heap.get? S=j (jC prog w c u WF ak))(ty:rk w ak)(dk:St 0 s.heap)(fw:∀eg ao T,eg.get? S=j T->l0 w T (b0.foldl eK [c])->(∀b T,b∉S::wr->s.heap.get? b=j T->eg.get? b=j T)->wf (.ok (.ret .none)) {s with heap:=eg,toks:=ao}):iV (aE prog w) A (.builtin "set.update.loop" ⟨[.ref S,.ref lv],[]⟩) wf s:=by
 subst pi;have vu:S∉wr:=λh=>yk (ia.sub _ h);rcases Ou in4 with rfl|⟨I,rfl⟩
 ·exact Oz ia dk λeg ao dz=>fw eg ao _ (dz S _ vu gt) ty.G6 λb T cr g=>dz b T (λq=>cr (.tail _ q)) g
 ·refine n' Kv ?_;rw[r6 zS _];show f4 _ A.in1 (hu (.ref lv)>>=_) _ _ s;refine g1 (ia.item 0 s _ _ (Nat.zero_lt_succ _) dk λv a3 Bt G2 G3 tj=>?_);obtain⟨A1,g2,KM,rfl⟩:=iD 0 v G2;cases KM;show f4 _ A.in1 (pk [j1 I g2] (zR S (.str I g2))>>=_) _ _ _;unfold zR;refine g1 (dF (dF (g1 ((aG prog w).pyHash (k:=I) (gI _ _ _ _) (Ow (s:={s with heap:=a3,toks:=Bt+1}) (tj S _ vu gt) ty λa gd vq fN G9 iso=>?_)))));exact s2 ⟨zT zS _,Oz (s:={s with heap:=gd,toks:=Bt+1}) ia (ia.frame _ a3 _ G3 λb cr T g=>(fN.2 b (λh:b=S=>yk (h▸cr))).trans g) λeg ao dz=>fw eg ao vq (dz S _ vu G9) iso λb T cr g=>dz b T (λq=>cr (.tail _ q)) ((fN.2 b (λh:b=S=>cr (h▸.head _))).trans (tj b T (λh=>cr (.tail _ h)) g))⟩
theorem aeD:S9 (.type "dict") (.type "set")=pure G:=by rw[ua];kernel_rfl
theorem aeE:S9 (.type "dict") (.type "frozenset")=pure G:=by rw[ua];kernel_rfl
end
section
variable{d:sw}{A:xs}
inductive oO(d:sw)(B:aX):p f5->p (X×R)->p (X×cd)->Prop|nil:oO d B [] [] []|one {g:f5} {k:X} {u:be} {mq:R}:g.key=.str k u->g.hash=(aG d.prog d.w).hash k->x0 d B g.val mq->oO d B [g] [(k,mq)] [(k,g.val)]
theorem cG.jC{B:aX}{n:p (X×R)}(l:cG d B bd n)(ae:n.length≤1):∃ba,oO d B bd n ba:=by cases l with|nil=>exact⟨_,.nil⟩|cons gl t1 bZ l=>cases l with|nil=>exact⟨_,.one gl t1 bZ⟩|cons=>exact aB ae (TY.mpr (Nat.succ_lt_succ (DF _)))
theorem oO.pairs{B:aX}{n:p (X×R)}(l:oO d B bd n ba):KeysOf (aG d.prog d.w) bd.toArray/\C_ (aG d.prog d.w) bd ba/\(ba.map (·.1)).Nodup/\ba.length≤1:=by cases l with|nil=>exact⟨λg rs=>aB (SW.mp rs) r_,.nil,ui,e6 _⟩|one gl t1 bZ=>exact⟨λg rs=>a9.mp (SW.mp rs)▸⟨_,gl▸gI _ _ _ _,t1⟩,.cons (gl▸gI _ _ _ _) rfl .nil,List.pairwise_singleton _ _,Da _⟩
theorem oO.at{B:aX}{n:p (X×R)}(l:oO d B bd n ba){h:bl}{r:kt}{z:E}(hd:h.get? r=j (fJ bd.toArray z)):h.DictAt (aG d.prog d.w) r ba z:=⟨_,_,hd,⟨rfl,rfl,rfl⟩,rfl,l.pairs.1,l.pairs.2.1,l.pairs.2.2.1⟩
theorem oO.names{B:aX}{n:p (X×R)}(l:oO d B bd n ba):ba.map (·.1)=n.map (·.1):=by cases l<;>rfl
theorem isA{u:be}{n:p (X×R)}{B:aX}{z:E}{C:g7->nl->Prop}(t1:A.handled=bn)(gt:s.heap.get? S=j (jC d.prog d.w c u WF ak))(ty:rk d.w ak)(hd:s.heap.get? e=j (fJ bd.toArray z))(fd:(e==mL)=G)(oP:oO d B bd n ba)(h:∀(eg:bl) (ao:E) (T:cE),eg.get? S=j T->l0 d.w T ((n.map (·.1)).foldl eK [c])->(∀b T,b≠S->s.heap.get? b=j T->eg.get? b=j T)->C () {s with heap:=eg,toks:=ao}):f4 d.M A (setDisplayStar S (.ref e)) C a1 s:=by
 have bM:s.TypeIs (.ref e) "dict":=⟨_,hd,rfl⟩;have OA:e≠S:=λq=>by rw[q,gt]at hd;exact aB (show k3 "set"=k3 "dict" from GT Obj.cls (aO hd)) (by decide)
 unfold setDisplayStar;refine g1 (wG bM aeD ?_);rw[ss hW];refine g1 (wG bM aeE (g1 (sa ?_)));dsimp only;cases d.M.w.params.followText "set-display-star-reads-storage" with
 |true=>
  have tk:=oP.at hd;have uz:(n.map (·.1)).length=ba.length:=by rw[<- oP.names,aK]
  show f4 _ A (d9 (.ref e)>>=λai=>runValue (.builtin "set.update.loop" ⟨[.ref S,ai],[]⟩)>>=λa=>pure ()) C a1 s;refine g1 (wpAny_pyIter_dict fd tk (g1 (Ki (inD (A:=A) (b0:=n.map (·.1)) ?_ (Walks.dictKeys (A:=A.in1) (knd:=aG d.prog d.w) t1 s.heap.objs.size e (ep (b1 hd)) ba z) uz (uz▸oP.pairs.2.2.2) (λi v FB=>?_) (s:={s with heap:=s.heap.push _}) (cP _ gt) ty ⟨⟨_,dK _ rfl,rfl,rfl⟩,tk.at' λT g=>cP _ g⟩ λeg ao T oz ta dz=>s2 (h eg ao T oz ta λb T cr g=>dz b T ?_ (cP _ g))))));·exactλq=>(cq.mp q).elim (ep (b1 gt)) λq=>OA (a9.mp q).symm
  ·obtain⟨k,I,Bv,OB⟩:=FB;obtain⟨u,rfl⟩:∃u,v=.str k u:=by cases v<;>first|exact⟨_,by rw[(aG d.prog d.w).inj _ _ _ OB (gI _ _ _ _)]⟩|(cases OB)
   exact⟨k,u,by rw[<- oP.names,hX,Bv];rfl,rfl⟩
  ·exactλq=>(cq.mp q).elim cr λq=>ep (b1 g) (a9.mp q)
 |false=>
  refine g1 (r4 bM ?_);rw[tt (by decide)];refine g1 (ob ?_);rw[fd];refine g1 (wpAny_dictEpoch hd rfl (g1 (af8 hd rfl ?_)));have oI:∀m,m≤1->ak.roomFor m=bn:=λm pc=>by unfold SetTable.roomFor Kx;rw[ty.mask,ty.place,ty.G5];exact ss (TY.mpr (zH (Nat.mul_le_mul_right 5 (afx pc 1)) (by decide)))
  unfold setRoomFor;refine g1 (g1 (si gt rfl ty.fits ?_));dsimp only;cases oP with|nil=>rw[show ak.roomFor ([]:p f5).toArray.size=bn from oI 0 (e6 _)];refine s2 (g1 ?_);rw[af9];exact s2 (s2 (h s.heap s.toks _ gt ty.G6 λa a a g=>g))|@one g k ao mq i1z i12 bZ=>rw[show ak.roomFor [g].toArray.size=bn from oI 1 (Da _)];refine s2 (g1 ?_);rw[af9,show List.range' [:#[g].size].start [:#[g].size].size [:#[g].size].step=[0] by simp[aiS],uj];refine g1 (g1 (af8 hd rfl (g1 (dF (g1 ?_)))));show f4 _ A (DE S g.key g.hash) _ _ _;rw[i1z,i12];refine Ow gt ty λa eg ey e0 oz ta=>s2 (g1 (wpAny_dictEpoch (s:={s with heap:=eg}) ((e0.2 e OA).trans hd) rfl ?_));rw[ss (λq=>aB q (by rw[zU];decide))];refine s2 ?_;show f4 _ A (forIn [] TZ _) _ _ _;exact s2 (s2 (h eg s.toks ey oz ta λb T cr g=>(e0.2 b cr).trans g))
end
section
variable{d:sw}{A:xs}{O:IN}{H:hf}
theorem i2z{Ch:iw}{C:ga->nl->Prop}{P:kt}(f0:O.code=.ref t)(t1:zV s.heap t P)(h:∀b,C b s):f4 Ch A (inMainModule O) C a1 s:=by obtain⟨T,L,aiC,ahC,aiD,AY,ahD,text,SG,gt,fi,hd,OC,ahE,kb1,l⟩:=t1;unfold inMainModule;rw[f0];rw[ss (show¬((e9 t==jX)=V)from hW)];refine g1 (DH gt hd ?_);rw[kb1];exact g1 (sa (s2 (h _)))
theorem kb2(h:C (.ref s.heap.objs.size) {s with heap:=s.heap.push (eV #[] 0 (.fresh 0 0 (!(w.params.followText "set-order"))))}):f4 (aE prog w) A (newSet (.type "set")) C a1 s:=by unfold newSet DI;refine g1 (g1 (sa (s2 ?_)));dsimp only;simp only[newObj];exact g1 (Tt (s2 h))
theorem key(ds:d.ab)(vx:O.code=.ref d.et)(t1:zV d.az d.et d.tab)(bT:A.handled=bn){he:wS}{u:X}{n:p (X×R)}(f8:bb c=V)(KM:bb I=V)(Uf:H.lookup c=j (.str u))(kle:H.lookup I=j (.cF n))(ae:n.length≤1):bH d A O H (eval (.Set [.Name c KB,.Starred (.Name I py) he] 0 h0) O) o (.iA ((n.map (·.1)).foldl eK [u]),o):=by
 intro a1 C W Z aj ap hm;have ig:=fx f8;have rh:=fx KM;refine WI Z (λv it=>∃S T,v=.ref S/\W.h.objs.size≤S/\it.heap.get? S=j T/\l0 d.w T ((n.map (·.1)).foldl eK [u])) (λck h=>?_) λv it Db Ok ln=>?_;·rw[arm_eval_Set];refine g1 (fF (g1 (i2z vx (t1.keeps λa a g=>Z.old g) λb=>?_)));unfold setDisplay;rw[ss (show¬((displayRoad 0 [uk c KB,(uk I py).Starred he]==DisplayRoad.constants)=V)from hW)];refine g1 (kb2 ?_);let S:kt:=W.h.objs.size;let oG:cE:=eV #[] 0 (.fresh 0 0 (!(d.w.params.followText "set-order")));let nn:nb:=W.to {W.s with heap:=W.h.push oG};have Db:nn.ab d:=Z.push oG;have Ok:kw d [] W nn:=kw.refl.push oG;have cS:Tl d O H nn:=aj.f' Ok;dsimp only;refine g1 (dF ?_);show f4 d.M A (evalAll [(do let v <- eval (.Name c KB) O;lM h0;pure v)]>>=_) _ _ nn.s;refine g1 (T1 (g1 (jY (cS.load Uf ig.2.1 λg2 l=>g1 (fF (s2 (T2 ?_)))) ig.1)));refine wp.e_ l λao=>?_;refine g1 (dF (g1 ?_));rw[uj];refine g1 (g1 (inf (dK _ rfl) λgd WF ak fN G9 ty=>s2 ?_));dsimp only;rw[Kd];refine s2 ?_;rw[ss (show¬((displayRoad 0 [uk c KB,(uk I py).Starred he]==DisplayRoad.unsure)=V)from hW)];refine s2 ?_;let u8:nb:=nn.to {nn.s with heap:=gd,toks:=nn.s.toks+1};have ff:=Z.fresh (Da W.h.objs.size);have rj:Mv [S] nn.s {nn.s with heap:=gd,toks:=nn.s.toks+1}:=Mv.sD fN (cu _);have P3:u8.ab d:=Db.av rj (λe db=>by rw[a9.mp db];exact⟨ff.1,ff.2.1,ff.2.2⟩) Db.bare;have Ix:kw d [] W u8:=Ok.av rj λe db=>.inr (by rw[a9.mp db];exact Da _);have dO:Tl d O H u8:=aj.f' Ix;show f4 d.M A (forIn [((V:ga),(do let v <- eval (.Name I py) O;lM h0;pure v))] TZ _>>=_) _ _ u8.s;rw[uj];refine g1 (g1 (g1 (g1 (jY (dO.load kle rh.2.1 λg2 l=>g1 (fF (s2 ?_))) rh.1))));simp only[r'];refine wp.ov l λe bd z jG G' sT=>?_;have klt:=P3.bw _ _ G';obtain⟨ba,oP⟩:=sT.jC ae;refine g1 (dF (isA bT G9 ty klt jG oP λpP knd u_ ktE lay lcm=>s2 ?_));show f4 d.M A (forIn [] TZ _) _ _ _;rw[Kd];refine s2 (s2 (s2 ?_));exact h (.ref S) pP knd (λb T g=>lcm b T (ep (b1 g)) ((fN.2 b (ep (b1 g))).trans (cP _ g))) ⟨S,u_,rfl,Da _,ktE,lay⟩
 ·obtain⟨S,T,rfl,dy,gt,nw⟩:=ln;have f:=Z.fresh dy;have pc:S∉(W.to it).aH:=f.2.1;refine hm _ _ (Db.aq gt pc f.2.2) (Ok.aq (.inl f.1) dy) ap (.aq (.iA (nb.hD ..) nw))
end
theorem oQ:Slot "set_iterator" "__next__" "set_iterator.__next__":=.of (owner:="set_iterator") (n:="__next__") (by rw[sf,sg];kernel_rfl) (by decide+kernel) (by decide+kernel) (by decide+kernel) (by first|exact .inl (by decide+kernel)|exact .inr (by decide+kernel)) (by rw[ua];kernel_rfl)
theorem Bw:us ut "set_iterator.__next__"=j Builtin.«set_iterator.__next__»:=TS (by kernel_rfl)
theorem OD:Manifest.owners.lookup (String.ofList ['r','o','t','a','r','e','t','i','_','t','e','s'].reverse)=j Manifest.sig_set_iterator:=by kernel_rfl
theorem Bx(e:cd):uw "set_iterator.__next__" ⟨[e],[]⟩:=by unfold uw;rw[signature?_of (id:="set_iterator.__next__") (n:=['_','_','t','x','e','n','_','_']) (o:=['r','o','t','a','r','e','t','i','_','t','e','s']) (by kernel_rfl) OD];kernel_rfl
theorem lex:us ut "set.__iter__"=j Builtin.«frozenset.__iter__»:=entryFor_alias (id':="frozenset.__iter__") (by kernel_rfl) rfl (by decide+kernel) (by kernel_rfl)
theorem OE:Slot "set_iterator" "__iter__" "set_iterator.__iter__":=.of (owner:="set_iterator") (n:="__iter__") (by rw[sf,sg];kernel_rfl) (by decide+kernel) (by decide+kernel) (by decide+kernel) (by first|exact .inl (by decide+kernel)|exact .inr (by decide+kernel)) (by rw[ua];kernel_rfl)
theorem leB:us ut "set_iterator.__iter__"=j Builtin.«dict_keyiterator.__iter__»:=entryFor_alias (id':="dict_keyiterator.__iter__") (by kernel_rfl) rfl (by decide+kernel) (by kernel_rfl)
theorem leQ(e:cd):uw "set_iterator.__iter__" ⟨[e],[]⟩:=by unfold uw;rw[signature?_of (id:="set_iterator.__iter__") (n:=['_','_','r','e','t','i','_','_']) (o:=['r','o','t','a','r','e','t','i','_','t','e','s']) (by kernel_rfl) OD];kernel_rfl
theorem leZ:wV (.type "set") "__len__"=pure (j (.builtin "set.__len__")):=by rw[sf,sg];kernel_rfl
section
variable{Ch:iw}{A:xs}
theorem OF{JH:Source}{z:E}{C:E->nl->Prop}(pi:z≠0)(h:∀i,i<z->C i {s with drawn:=s.drawn.bump JH}):f4 Ch A (choose JH z) C a1 s:=λa a a=>⟨pi,h _ (Kz _ (Nat.pos_of_ne_zero pi))⟩
def Shared.G_(s it:nl):Prop:=∃r,it={s with drawn:=r}
theorem lib{c I:t0}{C:p t0->nl->Prop}(h:∀it,Shared.G_ s it->C [c,I] it/\C [I,c] it):f4 Ch A (KA 2 [c,I]) C a1 s:=by
 show f4 Ch A (choose .order 2>>=_) C a1 s;refine g1 (OF (by decide) λi np=>?_);have np:i<2:=np;have jJ:∀(g2 v:t0) (s0:nl),Shared.G_ s s0->(∀it,Shared.G_ s it->C [g2,v] it)->f4 Ch A (KA 1 [v]>>=λl=>pure (g2::l)) C a1 s0:=by intro g2 v s0 ⟨r,g⟩ wT;show f4 Ch A ((choose .order 1>>=_)>>=_) C a1 s0;refine g1 (g1 (OF (by decide) λev s3=>?_));rw[aga.mp s3];exact g1 (m:=KA 0 []) (s2 (s2 (s2 (wT _ (by subst g;exact⟨_,rfl⟩)))))
 match i,np with|0,_=>exact jJ c I _ ⟨_,rfl⟩ λit fd=>(h it fd).1|1,_=>exact jJ I c _ ⟨_,rfl⟩ λit fd=>(h it fd).2
end
theorem OG(next:E->E):∀(fZ k:E) (left:p t0) (out:bD t0),fZ=left.length->(agb next fZ k left out).toList.Perm (out.toList++left)
 |0,k,left,out,h=>by have:left=[]:=zW h.symm;subst this;exact c2 _▸.refl _
 |fZ+1,k,left,out,h=>by
  have bU:next k %left.length<left.length:=Kz _ (h▸DF _)
  show(match left[next k %left.length]? with|some c=>agb next fZ (k+1) (left.eraseIdx (next k %left.length)) (out.push c)|none=>out).toList.Perm _;rw[k8 bU];dsimp only;refine(OG next fZ (k+1) _ _ (by rw[List.length_eraseIdx,tt bU];left)).trans ?_;rw[Array.toList_push,e8];refine List.Perm.append_left _ ?_;generalize next k %left.length=i at bU⊢
  rw[List.eraseIdx_eq_take_drop_succ];show(left[i]::(left.take i++left.drop (i+1))).Perm left;have g:left=left.take i++left[i]::left.drop (i+1):=by rw[agc,agd]
  conv=>rhs;rw[g]
  exact List.perm_middle.symm
theorem lid(next:E->E)(f1:bD t0):(KC next f1).toList.Perm f1.toList:=by
 have:=OG next f1.size 0 f1.toList #[] (by simp)
 simpa[KC]using this
noncomputable abbrev hN(first:cd)(i:E)(c:cd)(z WF:E):cE:={cls:=.type "set_iterator",data:=.fields #[first,.int i 0,c,.int z 0,.int WF 0]}
section
variable{A:xs}{lv a7:kt}{bd:bD (m0×cd)}{z:E}
theorem OH{C:Y cd->nl->Prop}{s0:nl}(t1:A.handled=bn)(h:∀eg,(∀b T,s0.heap.get? b=j T->eg.get? b=j T)->C bn {s0 with heap:=eg}):f4 (aE prog w) A.in1 (zO (.type "StopIteration") []>>=λg=>Kr g) (λ(bN:jq) it=>∃l,bN=.done (.ret l)/\f4 (aE prog w) A (pure (j l)) (λe it=>C e it) a1 it) (λg it=>f4 (aE prog w) A (isInstance g (.type "StopIteration")>>=λb=>if b=V then pure bn else throw g) C a1 it) s0:=by refine g1 ?_;simp only[zO,Dg];refine g1 (k2 ?_ (by size_fits));refine g1 (m:=zP _ _) (qw (a:=jX) (by first|rfl|(simp only[zP];rfl)) ?_);refine k2 ?_ (by size_fits);simp only[Kr];refine g1 (TO ?_);rw[show A.in1.handled=bn from t1];refine g1 (s2 (TP ?_));refine g1 (wG (T:="StopIteration") (b:=V) ⟨_,dK _ rfl,rfl⟩ TQ ?_);exact s2 (h _ λb T g=>cP _ (cP _ g))
theorem lim{e i:E}{er:E}{C:Y cd->nl->Prop}(gt:s.heap.get? S=j (eV bd WF ak))(wn:ak.fits bd.size=V)(bg:s.heap.get? lv=j (hN (.int e 0) i (.ref S) bd.size WF))(pi:∀ck:Y (cd×E)->nl->Prop,ck (j (v,er)) s->f4 (aE prog w) A.in1 (qC S e i WF) ck (λa a=>gG) s)(h:∀eg,wN lv s.heap eg->eg.get? lv=j (hN (.int er 0) (i+1) (.ref S) bd.size WF)->C (j v) {s with heap:=eg}):f4 (aE prog w) A (hu (.ref lv)) C a1 s:=by have bM:s.TypeIs (.ref lv) "set_iterator":=⟨_,bg,rfl⟩;unfold hu;refine g1 (uq (ul (name:=mV "__next__") bM oQ (mW oQ bM Bw ?_ (Bx _))));unfold Builtin.«set_iterator.__next__»;refine g1 (m:=KD "__next__" 0 _) (s2 ?_);refine g1 (DH bg rfl ?_);dsimp only;refine g1 (DJ gt rfl wn ?_);rw[ss (by simp)];show f4 _ A.in1 (qC S e i WF>>=_) _ _ s;refine g1 (cJ (pi (λl it=>l=j (v,er)/\it=s) ⟨rfl,rfl⟩) (λl it g=>?_) λa a c=>c.elim);obtain⟨rfl,rfl⟩:=g;dsimp only;refine g1 (ur bg rfl (by simp) ?_);have nA:(it.heap.update lv (DK (·.setIfInBounds 0 (gr er)))).get? lv=j (hN (.int er 0) i (.ref S) bd.size WF):=mS _ bg rfl;refine g1 (ur nA rfl (by simp) ?_);have x2:((it.heap.update lv (DK (·.setIfInBounds 0 (gr er)))).update lv (DK (·.setIfInBounds 1 (gr (i+1))))).get? lv=j (hN (.int er 0) (i+1) (.ref S) bd.size WF):=mS _ nA rfl;exact s2 ⟨_,rfl,s2 (h _ (λb T cr g=>(pv _ _ (Ne.symm cr)).trans ((pv _ _ (Ne.symm cr)).trans g)) x2)⟩
theorem lit{e i:E}{C:Y cd->nl->Prop}(t1:A.handled=bn)(gt:s.heap.get? S=j (eV bd WF ak))(wn:ak.fits bd.size=V)(bg:s.heap.get? lv=j (hN (.int e 0) i (.ref S) bd.size WF))(pi:∀ck:Y (cd×E)->nl->Prop,ck bn s->f4 (aE prog w) A.in1 (qC S e i WF) ck (λa a=>gG) s)(h:∀eg,wN lv s.heap eg->C bn {s with heap:=eg}):f4 (aE prog w) A (hu (.ref lv)) C a1 s:=by have bM:s.TypeIs (.ref lv) "set_iterator":=⟨_,bg,rfl⟩;unfold hu;refine g1 (uq (ul (name:=mV "__next__") bM oQ (mW oQ bM Bw ?_ (Bx _))));unfold Builtin.«set_iterator.__next__»;refine g1 (m:=KD "__next__" 0 _) (s2 ?_);refine g1 (DH bg rfl ?_);dsimp only;refine g1 (DJ gt rfl wn ?_);rw[ss (by simp)];show f4 _ A.in1 (qC S e i WF>>=_) _ _ s;refine g1 (cJ (pi (λl it=>l=bn/\it=s) ⟨rfl,rfl⟩) (λl it g=>?_) λa a c=>c.elim);obtain⟨rfl,rfl⟩:=g;dsimp only;refine g1 (ur bg rfl (by simp) ?_);exact OH t1 λeg gl=>h _ λb T cr g=>gl b T ((pv _ _ (Ne.symm cr)).trans g)
theorem loc{i x:E}{he:bD cd}{k:E}{g:m0×cd}{C:Y cd->nl->Prop}(gt:s.heap.get? S=j (eV bd WF ak))(wn:ak.fits bd.size=V)(bg:s.heap.get? lv=j (hN (.ref a7) i (.ref S) bd.size WF))(bM:s.heap.get? a7=j (d3 he k))(ln:he[i]?=j (.int x 0))(rs:bd[x]?=j g)(h:∀eg,wN lv s.heap eg->eg.get? lv=j (hN (.ref a7) (i+1) (.ref S) bd.size WF)->C (j g.2) {s with heap:=eg}):f4 (aE prog w) A (hu (.ref lv)) C a1 s:=by have yl:s.TypeIs (.ref lv) "set_iterator":=⟨_,bg,rfl⟩;unfold hu;refine g1 (uq (ul (name:=mV "__next__") yl oQ (mW oQ yl Bw ?_ (Bx _))));unfold Builtin.«set_iterator.__next__»;refine g1 (m:=KD "__next__" 0 _) (s2 ?_);refine g1 (DH bg rfl ?_);dsimp only;refine g1 (DJ gt rfl wn ?_);rw[ss (by simp)];refine g1 (Dr bM rfl ?_);dsimp only;rw[show(T3 (i:m0))=i from rfl,ln];dsimp only;refine g1 ?_;unfold setNextDrawn;refine g1 (si gt rfl wn ?_);dsimp only;rw[ss (by simp),show(T3 (x:m0))=x from rfl,rs];refine s2 ?_;refine g1 (ur bg rfl (by simp) ?_);have x2:(s.heap.update lv (DK (·.setIfInBounds 1 (gr (i+1))))).get? lv=j (hN (.ref a7) (i+1) (.ref S) bd.size WF):=mS _ bg rfl;exact s2 ⟨_,rfl,s2 (h _ (λb T cr g=>(pv _ _ (Ne.symm cr)).trans g) x2)⟩
theorem log{i:E}{he:bD cd}{k:E}{C:Y cd->nl->Prop}(t1:A.handled=bn)(gt:s.heap.get? S=j (eV bd WF ak))(wn:ak.fits bd.size=V)(bg:s.heap.get? lv=j (hN (.ref a7) i (.ref S) bd.size WF))(bM:s.heap.get? a7=j (d3 he k))(ln:he[i]?=bn)(h:∀eg,wN lv s.heap eg->C bn {s with heap:=eg}):f4 (aE prog w) A (hu (.ref lv)) C a1 s:=by have yl:s.TypeIs (.ref lv) "set_iterator":=⟨_,bg,rfl⟩;unfold hu;refine g1 (uq (ul (name:=mV "__next__") yl oQ (mW oQ yl Bw ?_ (Bx _))));unfold Builtin.«set_iterator.__next__»;refine g1 (m:=KD "__next__" 0 _) (s2 ?_);refine g1 (DH bg rfl ?_);dsimp only;refine g1 (DJ gt rfl wn ?_);rw[ss (by simp)];refine g1 (Dr bM rfl ?_);dsimp only;rw[show(T3 (i:m0))=i from rfl,ln];dsimp only;refine g1 (ur bg rfl (by simp) ?_);have nA:(s.heap.update lv (DK (·.setIfInBounds 0 (gr 0)))).get? lv=j (hN (.int 0 0) i (.ref S) bd.size WF):=mS _ bg rfl;refine g1 (ur nA rfl (by simp) ?_);exact OH t1 λeg gl=>h _ λb T cr g=>gl b T ((pv _ _ (Ne.symm cr)).trans ((pv _ _ (Ne.symm cr)).trans g))
theorem OI(bg:s.heap.get? lv=j T)(f0:T.cls=.type "set_iterator")(h:C (.ref lv) s):f4 (aE prog w) A (d9 (.ref lv)) C a1 s:=by have bM:s.TypeIs (.ref lv) "set_iterator":=⟨_,bg,f0⟩;refine age bM OE (mW OE bM leB ?_ (leQ _));show f4 _ _ (ret (.ref lv)) _ _ s;exact s2 ⟨_,rfl,"set_iterator",_,bM,oQ.lookup,h⟩
theorem OJ{mr:E->E->Prop}{f1:p cd}(t1:A.handled=bn)(Ha:S≠lv)(wn:ak.fits bd.size=V)(f8:f1.length=bd.size)(pi:∀(s:nl) (e i:E) (v:cd),s.heap.get? S=j (eV bd WF ak)->mr e i->f1[i]?=j v->∃er,mr er (i+1)/\∀ck:Y (cd×E)->nl->Prop,ck (j (v,er)) s->f4 (aE prog w) A.in1 (qC S e i WF) ck (λa a=>gG) s)(rs:∀(s:nl) (e i:E),s.heap.get? S=j (eV bd WF ak)->mr e i->i=f1.length->∀ck:Y (cd×E)->nl->Prop,ck bn s->f4 (aE prog w) A.in1 (qC S e i WF) ck (λa a=>gG) s):
  r8 prog w A lv [lv,S] [lv] f1.length (λi v=>f1[i]?=j v) (λi h=>h.get? S=j (eV bd WF ak)/\∃e:E,mr e i/\h.get? lv=j (hN (.int e 0) i (.ref S) bd.size WF)) where
 sub:=λb cr=>by simp at cr;simp[cr]
 frame:=λa a a aa gl=>⟨gl S (by simp) _ aa.1,by obtain⟨_,e,h1,ex⟩:=aa;exact⟨e,h1,gl lv (by simp) _ ex⟩⟩
 item:=λi s C a1 np aa hm=>by
  obtain⟨h1,e,ex,h3⟩:=aa
  have FB:f1[i]?=j f1[i]:=k8 np
  obtain⟨er,hC,eX⟩:=pi s e i _ h1 ex FB
  refine lim h1 wn h3 eX λeg fd Hb=>hm _ eg s.toks FB ⟨fd S _ Ha h1,er,hC,Hb⟩ λb T cr g=>fd b T (λq=>cr (by simp[q])) g
 done:=λs C a1 aa hm=>by
  obtain⟨h1,e,ex,h3⟩:=aa
  exact lit t1 h1 wn h3 (rs s e _ h1 ex rfl) λeg fd=>hm eg s.toks λb T cr g=>fd b T (λq=>cr (by simp[q])) g
 self:=λi s C a1 aa hm=>by
  obtain⟨_,e,_,h3⟩:=aa
  exact OI h3 rfl hm
def OK(C:cd->nl->Prop):jq->nl->Prop:=λbN aD=>∃v,bN=.done (.ret v)/\∃OL l,aD.TypeIs v OL/\wV (k3 OL) (mV "__next__")=pure (j l)/\C v aD
structure vy(prog:ww)(w:qo)(s:nl)(S:kt)(bd:bD (m0×cd))(lv:kt)(s0:nl)(f1:p cd)(hM wr:p kt)(St:E->bl->Prop):Prop where
 aa:∃a3 r,s0={s with heap:=a3,drawn:=r}/\∀b T,s.heap.get? b=j T->a3.get? b=j T
 W:∀hb:xs,hb.handled=bn->r8 prog w hb lv hM wr f1.length (λi v=>f1[i]?=j v) St
 rl:St 0 s0.heap
 perm:f1.Perm (bd.toList.map (·.2))
 Hc:∀b∈hM,b=S\/(s.heap.objs.size≤b/\b<s0.heap.objs.size)
 Hd:∀b∈wr,s.heap.objs.size≤b
 ge:s.heap.objs.size≤lv
theorem lor{P:E->Prop}(az:P 0)(h1:P 1):∀{i:E},i<2->P i|0,_=>az|1,_=>h1
theorem CY:∀{n:p t0},n.length=1->∃e,n=[e]|[e],_=>⟨e,rfl⟩
theorem ym:∀{n:p t0},n.length=2->∃e b,n=[e,b]|[e,b],_=>⟨e,b,rfl⟩
theorem low{wf:Prop}{x q i:E}{g2 v:m0×cd}(ln:bd[x]?=j g2)(wT:bd[q]?=j v)(np:i<2)(a2:∀(d':E) (aT:m0×cd),(#[zQ x 0,zQ q 0]:bD cd)[i]?=j (.int d' 0)->bd[d']?=j aT->[g2.2,v.2][i]?=j aT.2->wf):wf:=lor (P:=λi=>(∀(d':E) (aT:m0×cd),(#[zQ x 0,zQ q 0]:bD cd)[i]?=j (.int d' 0)->bd[d']?=j aT->[g2.2,v.2][i]?=j aT.2->wf)->wf) (λa2=>a2 x g2 rfl ln rfl) (λa2=>a2 q v rfl wT rfl) np a2
abbrev OM(S a7 lv:kt)(bd:bD (m0×cd))(WF:E)(ak:qq)(x q:E)(i:E)(h:bl):Prop:=h.get? S=j (eV bd WF ak)/\h.get? a7=j (d3 #[.int x 0,.int q 0] 0)/\h.get? lv=j (hN (.ref a7) i (.ref S) bd.size WF)
theorem lst{x q:E}{g2 v:m0×cd}(t1:A.handled=bn)(Ha:S≠lv)(ltB:a7≠lv)(wn:ak.fits bd.size=V)(ln:bd[x]?=j g2)(wT:bd[q]?=j v):r8 prog w A lv [lv,S,a7] [lv] 2 (λi c=>[g2.2,v.2][i]?=j c) (OM S a7 lv bd WF ak x q) where
 sub:=λb cr=>a9.mp cr▸.head _
 frame:=λa a a aa gl=>⟨gl S (.tail _ (.head _)) _ aa.1,gl a7 (.tail _ (.tail _ (.head _))) _ aa.2.1,gl lv (.head _) _ aa.2.2⟩
 item:=λi s C a1 np aa hm=>low ln wT np λd' aT u4 Fb ltI=>loc aa.1 wn aa.2.2 aa.2.1 u4 Fb λeg fd Hb=>hm _ eg s.toks ltI ⟨fd S _ Ha aa.1,fd _ _ ltB aa.2.1,Hb⟩ λb T cr=>fd b T λq=>cr (q▸.head _)
 done:=λs C a1 aa hm=>log t1 aa.1 wn aa.2.2 aa.2.1 rfl λeg fd=>hm eg s.toks λb T cr=>fd b T λq=>cr (q▸.head _)
 self:=λi s C a1 aa hm=>OI aa.2.2 rfl hm
theorem ON{first:cd}{z:m0}(gt:s.heap.get? S=j (eV bd WF ak))(wn:ak.fits bd.size=V)(pi:z=bd.size)(hm:C (.ref s.heap.objs.size) {s with heap:=s.heap.push (hN first 0 (.ref S) bd.size WF)}):f4 (aE prog w) A (do let g <- setEpoch S;let l <- Km "set_iterator" [first,gr 0,e9 S,gr z,gr g];ret l) (OK C) a1 s:=
 g1 (g1 (si gt rfl wn (s2 (g1 (k2 (pi▸s2 ⟨_,rfl,"set_iterator",_,⟨_,dK _ rfl,rfl⟩,oQ.lookup,hm⟩) (by size_fits))))))
theorem ltQ{r}{x q:E}{g2 v:m0×cd}{He:cE}{a3:bl}{If:E}(g':a3=s.heap.push He)(OO:He=d3 #[.int x 0,.int q 0] 0)(By:If=s.heap.objs.size)(gt:s.heap.get? S=j (eV bd WF ak))(wn:ak.fits bd.size=V)(ln:bd[x]?=j g2)(wT:bd[q]?=j v)(p2:[g2.2,v.2].Perm (bd.toList.map (·.2))):vy prog w s S bd a3.objs.size {s with heap:=a3.push (hN (.ref If) 0 (.ref S) bd.size WF),drawn:=r} [g2.2,v.2] [a3.objs.size,S,If] [a3.objs.size] (OM S If a3.objs.size bd WF ak x q):=
 have hC:∀b T,s.heap.get? b=j T->a3.get? b=j T:=λb T g=>g'▸cP _ g
 have sc:a3.objs.size=If+1:=g'▸By▸f6 ..
 have bM:a3.get? If=j He:=by rw[g',By];exact dK _ (by rw[OO];rfl)
 have rm:(a3.push (hN (.ref If) 0 (.ref S) bd.size WF)).objs.size=a3.objs.size+1:=f6 ..
 have oN:@jn E _ If a3.objs.size:=sc▸gp _
 have dy:@jn E _ S a3.objs.size:=b1 (hC _ _ gt)
 have vz:@LE.le E _ s.heap.objs.size a3.objs.size:=by rw[<- By];exact jp oN
 have tl:@jn E _ a3.objs.size (a3.push (hN (.ref If) 0 (.ref S) bd.size WF)).objs.size:=by rw[rm];exact gp _
 {aa:=⟨_,r,rfl,λb T g=>cP _ (hC b T g)⟩
  W:=λhb t1=>lst t1 (ep dy) (ep oN) wn ln wT
  rl:=⟨cP _ (hC _ _ gt),cP _ (OO▸bM),dK _ rfl⟩
  perm:=p2
  Hc:=mU.mpr ⟨.inr ⟨vz,tl⟩,mU.mpr ⟨.inl rfl,uf.mpr (.inr ⟨(by rw[By];exact Da _),Kf oN tl⟩)⟩⟩
  Hd:=uf.mpr vz
  ge:=vz}
theorem OP{r}{x q:E}{g2 v:m0×cd}(gt:s.heap.get? S=j (eV bd WF ak))(wn:ak.fits bd.size=V)(cO:bd.size=2)(ln:bd[x]?=j g2)(wT:bd[q]?=j v)(p2:[g2.2,v.2].Perm (bd.toList.map (·.2)))(h:∀lv s0 f1 hM wr St,vy prog w s S bd lv s0 f1 hM wr St->C (.ref lv) s0):f4 (aE prog w) A (do let first <- Dg ([x,q].map λ(i:E)=>gr i);let g <- setEpoch S;let l <- Km "set_iterator" [first,gr 0,e9 S,gr (2:E),gr g];ret l) (OK C) a1 {s with drawn:=r}:=
 g1 (T4 (ON (s:={s with heap:=s.heap.push (d3 #[.int x 0,.int q 0] 0),drawn:=r}) (cP _ gt) wn (GT Nat.cast cO.symm) (h _ _ _ _ _ _ (ltQ rfl rfl rfl gt wn ln wT p2))) (by size_fits))
abbrev OQ(S lv:kt)(bd:bD (m0×cd))(WF:E)(ak:qq)(mr:E->E->Prop)(i:E)(h:bl):Prop:=h.get? S=j (eV bd WF ak)/\∃e:E,mr e i/\h.get? lv=j (hN (.int e 0) i (.ref S) bd.size WF)
theorem OR{mr:E->E->Prop}{f1:p cd}(gt:s.heap.get? S=j (eV bd WF ak))(az:mr 0 0)(ln:f1.Perm (bd.toList.map (·.2)))(Bn:∀hb:xs,hb.handled=bn->r8 prog w hb s.heap.objs.size [s.heap.objs.size,S] [s.heap.objs.size] f1.length (λi v=>f1[i]?=j v) (OQ S s.heap.objs.size bd WF ak mr)):
  vy prog w s S bd s.heap.objs.size {s with heap:=s.heap.push (hN (gr 0) 0 (.ref S) bd.size WF)} f1 [s.heap.objs.size,S] [s.heap.objs.size] (OQ S s.heap.objs.size bd WF ak mr) where
 aa:=⟨_,s.drawn,rfl,λb T g=>cP _ g⟩
 W:=Bn
 rl:=⟨cP _ gt,0,az,dK _ rfl⟩
 perm:=ln
 Hc:=mU.mpr ⟨.inr ⟨Da _,(f6 ..).symm▸gp _⟩,uf.mpr (.inl rfl)⟩
 Hd:=uf.mpr (Da _)
 ge:=Da _
theorem OS{i e:E}{C:Y (cd×E)->nl->Prop}(kd:w.params.followText "set-order"=V)(wn:ak.fits bd.size=V)(gt:s.heap.get? S=j (eV bd WF ak))(hm:C (((KC (w.params.setOrder S WF) bd)[i]?).map λg=>(g.2,e)) s):f4 (aE prog w) A (qC S e i WF) C (λa a=>gG) s:=by unfold qC DI;refine g1 (si gt rfl wn (g1 (g1 (sa (s2 (qB (λa=>?_) (λq=>aB kd q)))))));rw[ss (λh=>aB h (by rw[zU];decide))];unfold setWalk DI;exact g1 (g1 (si gt rfl wn (g1 (g1 (sa (s2 (qB (λa=>g1 (sa (s2 (s2 hm)))) (λq=>aB kd q))))))))
noncomputable def zu(bd:bD (m0×cd))(ak:qq)(e:E):Y (cd×E):=match bd[wW ak.place e]?,ak.place[wW ak.place e]? with|some (_,c),j ev=>j (c,ev+1)|_,_=>bn
theorem OT{i e:E}{C:Y (cd×E)->nl->Prop}(kd:w.params.followText "set-order"=G)(rn:ak.led=V)(jJ:bd.size≤1)(wn:ak.fits bd.size=V)(gt:s.heap.get? S=j (eV bd WF ak))(hm:C (zu bd ak e) s):f4 (aE prog w) A (qC S e i WF) C (λa a=>gG) s:=by unfold qC DI;refine g1 (si gt rfl wn (g1 (g1 (sa (s2 (qB (λq=>aB (kd.symm.trans q) (by decide)) (λa=>qB (λq=>aB ((show(!ak.plain&&decide (bd.size>1))=G by rw[lL (dJ.mpr jJ),Kk]).symm.trans q) (by decide)) (λa=>?_))))))));show f4 _ _ ((if(!ak.led&&!bd.isEmpty)=V then unsupported "set:maker-not-led" else pure ())>>=_) _ _ _;rw[rn];exact g1 (s2 (s2 hm))
theorem ltV(kd:w.params.followText "set-order"=V)(gt:s.heap.get? S=j (eV bd WF ak))(wn:ak.fits bd.size=V):∃f1 hM wr St,vy prog w s S bd s.heap.objs.size {s with heap:=s.heap.push (hN (gr 0) 0 (.ref S) bd.size WF)} f1 hM wr St:=
 have ln:=lid (w.params.setOrder S WF) bd
 have aV:((KC (w.params.setOrder S WF) bd).toList.map (·.2)).length=bd.size:=(aK ..).trans (ln.length_eq.trans qz)
 ⟨_,_,_,_,OR (mr:=λa a=>g6) gt trivial (ln.map _) λhb t1=>OJ t1 (ep (b1 gt)) wn aV
  (λs0 e i v nE a FB=>⟨e,trivial,λck tm=>OS kd wn nE (by
   rw[hX,zJ]at FB
   obtain⟨g2,g,rfl⟩:=wX.mp FB
   rw[g];exact tm)⟩)
  λs0 e i nE a np ck tm=>OS kd wn nE (by rw[agf (by rw[np,aK,qz];exact Da _)];exact tm)⟩
theorem SI{e:E}(h:bK.size=1):wW bK e=if bK.getD 0 e<e then 1 else 0:=by show agg bK e bK.size 0 bK.size=_;rw[h];rfl
theorem ltZ(h:bK.size=1):wW bK 0=0:=(SI h).trans (ss (J9 _))
theorem lEq{e:E}(h:bK.size=1)(h1:bK[0]?=j (e - 1))(ex:0<e):wW bK e=1:=(SI h).trans (tt (by rw[Array.getD_eq_getD_getElem?,h1];exact Nat.sub_lt ex Nat.one_pos))
theorem l1z{e:E}(h:bK.size=0):wW bK e=0:=by show agg bK e bK.size 0 bK.size=_;rw[h];rfl
def Bz(ak:qq)(e i:E):Prop:=(i=0->e=0)/\(i=1->ak.place[0]?=j (e - 1)/\0<e)
theorem l2z{e i:E}(eJ:ak.place.size=bd.size)(jJ:bd.size≤1)(db:Bz ak e i)(FB:(bd.toList.map (·.2))[i]?=j v):∃er,Bz ak er (i+1)/\zu bd ak e=j (v,er):=by rw[hX,zJ]at FB;obtain⟨⟨ahF,ahG⟩,g,rfl⟩:=wX.mp FB;have np:=(t6.mp g).1;have map:i=0:=T5.mp (afq (hs np jJ));subst map;have may:=db.1 rfl;subst may;have vA:ak.place.size=1:=eJ.trans (DL jJ np);have OU:ak.place[0]?=j ak.place[0]:=mN _;refine⟨ak.place[0]+1,⟨nofun,λa=>⟨OU,DF _⟩⟩,?_⟩;unfold zu;rw[ltZ vA,OU,g]
theorem mem{e i:E}(eJ:ak.place.size=bd.size)(jJ:bd.size≤1)(db:Bz ak e i)(np:i=bd.size):zu bd ak e=bn:=by
 have cr:wW ak.place e=bd.size:=by
  rcases sd 0 bd.size with h|h;·have h1:bd.size=1:=DL jJ h;rw[h1,lEq (eJ.trans h1) (db.2 (np.trans h1)).1 (db.2 (np.trans h1)).2]
  ·rw[T5.mp h,l1z (eJ.trans (T5.mp h))]
 unfold zu;rw[cr,agf (Da _)]
theorem met(kd:w.params.followText "set-order"=G)(rn:ak.led=V)(jJ:bd.size≤1)(gt:s.heap.get? S=j (eV bd WF ak))(wn:ak.fits bd.size=V):∃f1 hM wr St,vy prog w s S bd s.heap.objs.size {s with heap:=s.heap.push (hN (gr 0) 0 (.ref S) bd.size WF)} f1 hM wr St:=
 have eJ:ak.place.size=bd.size:=bt.mp (f3.mp wn).1
 have ae:(bd.toList.map (·.2)).length=bd.size:=(aK ..).trans qz
 ⟨_,_,_,_,OR (mr:=Bz ak) gt ⟨λa=>rfl,nofun⟩ (.refl _) λhb t1=>OJ t1 (ep (b1 gt)) wn ae (λs0 e i v nE db FB=>(l2z eJ jJ db FB).elim λer q=>⟨er,q.1,λck tm=>OT kd rn jJ wn nE (q.2.symm▸tm)⟩) λs0 e i nE db np ck tm=>OT kd rn jJ wn nE ((mem eJ jJ db (np.trans ae)).symm▸tm)⟩
theorem mid(gt:s.heap.get? S=j (eV bd WF ak))(rn:ak.led=!(w.params.followText "set-order"))(wn:ak.fits bd.size=V)(eA:bd.size≤1\/ak.plain=G)(ex:bd.size≤2)(h:∀lv s0 f1 hM wr St,vy prog w s S bd lv s0 f1 hM wr St->C (.ref lv) s0):f4 (aE prog w) A (d9 (.ref S)) C a1 s:=by
 have bM:s.TypeIs (.ref S) "set":=⟨_,gt,rfl⟩;refine age bM agh (mW agh bM lex ?_ (F.args_set_iter_1 _));unfold Builtin.«frozenset.__iter__» aiT setDrawn DI;refine g1 (m:=aiU "__iter__" _) (s2 (g1 (g1 (DJ gt rfl wn (s2 (g1 (g1 (si gt rfl wn (g1 (g1 (sa (s2 (s2 (qB (λf0=>?_) λf0=>?_))))))))))))));·have cO:bd.size=2:=DL ex (mQ (f3.mp (f3.mp f0).2).2);obtain⟨e,b,g⟩:=ym (n:=bd.toList) (qz.trans cO);have az:bd[0]?=j e:=zJ▸g▸rfl;have h1:bd[1]?=j b:=zJ▸g▸rfl;show f4 _ A.in1 (KA bd.size (bE bd.size)>>=_) _ _ s;rw[cO];refine g1 (lib λit fd=>fd.elim λr aT=>aT▸⟨OP gt wn cO az h1 (g▸.refl _) h,OP gt wn cO h1 az (g▸.swap _ _ _) h⟩)
 ·refine g1 (s2 (ON gt wn rfl ?_));cases kd:w.params.followText "set-order" with
  |true=>obtain⟨_,_,_,_,im⟩:=ltV kd gt wn;exact h _ _ _ _ _ _ im
  |false=>
   have jJ:bd.size≤1:=eA.elim id λq=>by have f_:¬(!(w.params.followText "set-order")&&(!ak.plain&&decide (bd.size>1)))=V:=f0;rw[kd,q]at f_;exact dJ.mp λU=>f_ (by rw[hV U];rfl)
   obtain⟨_,_,_,_,im⟩:=met kd (rn.trans (by rw[kd];rfl)) jJ gt wn;exact h _ _ _ _ _ _ im
end
section
variable{A:xs}{bd:bD (m0×cd)}
theorem mk8(bM:s.TypeIs (.ref S) "set"){C:ga->nl->Prop}(h:C G s):f4 (aE prog w) A (agi (.ref S)) C a1 s:=by unfold agi;refine g1 (wpAny_specialOf bM leZ ?_);generalize OV:("set.__len__":wK)=mod;wp_delta;rw[show splitId mod=j ("set","__len__")from by subst OV;decide+kernel];subst OV;refine g1 (wG (T:="set") (b:=V) bM (by rw[ua];kernel_rfl) ?_);refine qB (λp3=>aB p3 (by decide)) (λa=>?_);refine qB (λa=>?_) (λp3=>aB (by decide+kernel) p3);refine g1 (r4 bM ?_);exact s2 h
theorem mon{C:p cd->nl->Prop}(t1:A.handled=bn)(gt:s.heap.get? S=j (eV bd WF ak))(rn:ak.led=!(w.params.followText "set-order"))(wn:ak.fits bd.size=V)(eA:bd.size≤1\/ak.plain=G)(ex:bd.size≤2)(h:∀(a3:bl) (r:Drawn) (ao:E) (f1:p cd),(∀b T,s.heap.get? b=j T->a3.get? b=j T)->f1.Perm (bd.toList.map (·.2))->C f1 {s with heap:=a3,drawn:=r,toks:=ao}):f4 (aE prog w) A (collect (.ref S)) C a1 s:=by
 have dy:@jn E _ S s.heap.objs.size:=b1 gt;unfold collect;refine g1 (Ki (n' F.entry_proto_collect ?_));rw[r6 F.plain_proto_collect _];show f4 _ A.in1 (newList []>>=λn=>again (.builtin "list.__iadd__" ⟨[n,.ref S],[]⟩)) _ _ s;refine g1 (k2 ?_);refine s2 ⟨zT agj _,n' F.entry_list_iadd ?_⟩;rw[r6 agj _];let s0:nl:={s with heap:=s.heap.push {cls:=.type "list",data:=.seq ([]:p cd).toArray}};have nE:s0.heap.get? S=j (eV bd WF ak):=cP _ gt;have mro:s0.TypeIs (.ref S) "set":=⟨_,nE,rfl⟩;have msb:s0.heap.get? s.heap.objs.size=j {cls:=.type "list",data:=.seq ([]:p cd).toArray}:=dK _ rfl;have OW:s0.heap.objs.size=s.heap.objs.size+1:=f6 ..;have aC:s.heap.objs.size≠S:=r7 dy;show f4 _ A.in1 (agk (.ref s.heap.objs.size) (.ref S) (.ref s.heap.objs.size)) _ _ s0;unfold agk;refine g1 (r4 mro ?_);have h1:agl (.ref s.heap.objs.size) (.ref S)=G:=by simp[agl,aC]
 have eX:(k3 "set"==k3 "list")=G:=by decide
 have la:(k3 "set"==k3 "tuple")=G:=by decide
 simp only[h1,eX,la,Bool.or_false,pg,n5];refine g1 (mid nE rn wn eA ex λlv aD f1 hM wr St im=>?_);obtain⟨gd,r,rfl,Hf⟩:=im.aa;have mul:Th {s0 with heap:=gd,drawn:=r} (.ref S) "set":=⟨_,Hf _ _ nE,rfl⟩;refine g1 (dF (mk8 mul ?_));refine qB (λa=>?_) (λq=>aB (by decide) q);refine g1 (ob ?_);have OX:=Hf _ _ msb;refine g1 ?_;show f4 _ _ (J4 s.heap.objs.size (·.push .none)>>=λa=>J4 s.heap.objs.size (·.pop)) _ _ _;refine g1 (J5 OX rfl ?_);have OY:=mS (dR (·.push jX)) OX rfl;refine J5 (hz:=by seq_fits) OY rfl ?_;have nan:=mS (dR (·.pop)) OY rfl;have OZ:∀b T,b≠s.heap.objs.size->gd.get? b=j T->((gd.update s.heap.objs.size (dR (·.push jX))).update s.heap.objs.size (dR (·.pop))).get? b=j T:=λb T cr g=>(pv _ _ (Ne.symm cr)).trans ((pv _ _ (Ne.symm cr)).trans g);have O0:s.heap.objs.size∉hM:=λq=>by
  rcases im.Hc _ q with g|⟨g,_⟩;·exact aC g
  ·rw[OW]at g;exact Nat.not_succ_le_self _ g
 have nn:=im.W A.in1 t1;have nat:St 0 ((gd.update s.heap.objs.size (dR (·.push jX))).update s.heap.objs.size (dR (·.pop))):=nn.frame 0 _ _ im.rl λb cr T g=>OZ b T (λq=>O0 (q▸cr)) g;have i6:f1.length≤gH:=by rw[im.perm.length_eq,aK,qz];exact aJ ex (by decide)
 refine s2 ⟨zT F.plain_extend_loop _,codeAny_extend_loopS nn.toS i6 _ O0 _ f1.length 0 _ _ _ (T6 _) (e6 _) nat nan (ItemsOf.nil _) λit BA aL pc nD yn=>?_⟩;show f4 _ A (load s.heap.objs.size>>=_) _ _ it;refine g1 (Dj nD ?_);have nay:BA.toList=f1:=by
  apply List.ext_getElem?;intro i;rcases sd i f1.length with np|np
  ·have G4:i<BA.size:=by rw[yn.1];exact np
   have SZ:BA[i]?=j BA[i]:=mN G4;rw[zJ,SZ];exact(yn.2 i _ SZ).symm
  ·rw[DM np,DM (by rw[qz,yn.1];exact np)]
 have Os:it.gens=s.gens:=pc.gens;have hd:it.drawn=r:=pc.drawn;have nv:it.os=s.os:=pc.os;have O1:it={s with heap:=it.heap,drawn:=r,toks:=it.toks}:=by obtain⟨e,b,t,g,f⟩:=it;simp only at Os hd nv⊢;subst Os hd nv;rfl
 refine s2 ?_;rw[O1];refine h it.heap r it.toks _ (λb T g=>?_) (nay▸im.perm);have cr:@jn E _ b s.heap.objs.size:=b1 g;refine pc.heap b T (λq=>?_) (OZ b T (ep cr) (Hf b T (cP _ g)));rcases cq.mp q with q|q
 ·exact aB q (ep cr)
 ·have:=im.Hd b q;rw[OW]at this;exact aB cr (dJ.mpr (zX this))
end
section
variable{A:xs}
theorem CZ:plainId "list.__eq__.loop"=V:=by decide+kernel
theorem SJ:us ut "list.__eq__.loop"=j Builtin.«list.__eq__.loop»:=entryFor_of_fast (by kernel_rfl)
noncomputable abbrev iG(c I:X):ga:=decide (c.cps.toList<I.cps.toList)
theorem neg(h:c.cps.toList=I.cps.toList):c=I:=by obtain⟨⟨n⟩⟩:=c;obtain⟨⟨k⟩⟩:=I;simp only at h;subst h;rfl
theorem ne1(c:X):iG c c=G:=by simp[iG]
theorem ne2(n b:kt)(z mm:E):Dm (Builtin.«list.__eq__.loop» ⟨[.ref n,.ref b,gr (1:E),gr (0:E)],[]⟩) (λa wf s=>(∃v,s.heap.get? n=j (SL #[v] z))/\(∃v,s.heap.get? b=j (SL #[v] mm))/\wf (.ok (.ret (.bool G))) s):=by intro prog w A wf s h;obtain⟨ln,d,r,ao,os⟩:=s;obtain⟨⟨v,ae⟩,⟨g2,cr⟩,h⟩:=h;wp_walk using wJ ae,wJ cr;exact h
theorem ne3(n b:kt)(z mm:E)(c I:X)(u g2:be):Dm (Builtin.«list.__eq__.loop» ⟨[.ref n,.ref b,gr (0:E),gr (0:E)],[]⟩) (λa wf s=>s.heap.get? n=j (SL #[.str c u] z)/\s.heap.get? b=j (SL #[.str I g2] mm)/\wf (.ok (.ret (.bool (iG c I)))) s):=by
 intro prog w A wf s h;obtain⟨ln,d,r,ao,os⟩:=s;obtain⟨ae,cr,h⟩:=h;wp_walk using wJ ae,wJ cr;show f4 _ A.in1 (eqBool (.str c u) (.str I g2)) _ _ _;refine wpAny_eqBool_str ?_;by_cases q:c=I;·subst q;rw[hV rfl];rw[tt rfl];refine s2 ⟨zT CZ _,n' SJ ?_⟩;rw[r6 CZ _];rw[ne1]at h;exact ne2 n b z mm prog w A wf _ ⟨⟨_,ae⟩,⟨_,cr⟩,h⟩
 ·rw[lL q];rw[ss hW];refine g1 (DN ae rfl (g1 (DN cr rfl ?_)));show f4 _ A.in1 (richCompare .Lt (.str c u) (.str I g2)>>=λl=>ret l) _ _ _;refine g1 (wpAny_richCompare_same (t' _ _ _) (t' _ _ _) aiV (call_str_lt ⟨by simp,?_⟩));exact s2 h
theorem ne4(n b:kt)(z mm:E)(c I:X)(u g2:be):Dm (Builtin.«list.__lt__» ⟨[.ref n,.ref b],[]⟩) (λa wf s=>s.heap.get? n=j (SL #[.str c u] z)/\s.heap.get? b=j (SL #[.str I g2] mm)/\wf (.ok (.ret (.bool (iG c I)))) s):=by intro prog w A wf s h;obtain⟨ln,d,r,ao,os⟩:=s;obtain⟨ae,cr,h⟩:=h;have O2:=AutoSeq1.sub_list_list;wp_walk using wJ ae,wJ cr;refine⟨zT CZ _,n' SJ ?_⟩;rw[r6 CZ _];exact ne3 n b z mm c I u g2 prog w A wf _ ⟨ae,cr,h⟩
theorem ne5{n b:kt}{z mm:E}{u g2:be}{C:ga->nl->Prop}(fe:A.units<t7)(ae:s.heap.get? n=j (SL #[.str c u] z))(cr:s.heap.get? b=j (SL #[.str I g2] mm))(h:C (iG c I) s):f4 (aE prog w) A (keyLt' T7 (.ref n) (.ref b)) C a1 s:=by rw[keyLt'_oneType,oneLt'_eq];simp only[r'];refine g1 (wpAny_cRoomFor fe ?_);refine g1 (wpAny_callSpecialIfBound?_slot (T:="list") ⟨_,ae,rfl⟩ agm (r3 agm ⟨_,ae,rfl⟩ F.entry_list_lt (F.args_list_lt_2 _ _) (ne4 n b z mm c I u g2) ⟨ae,cr,?_⟩));exact SY h
end
section
variable{A:xs}{R dV:kt}
structure cA(s it:nl):Prop extends Mv [] s it where
 ge:it.gens=s.gens
theorem cA.trans{eG:nl}(h:cA s it)(k:cA it eG):cA s eG:=⟨h.toMv.trans k.toMv,k.ge.trans h.ge⟩
theorem cA.push(T:cE):cA s {s with heap:=s.heap.push T}:=⟨Mv.push T,rfl⟩
theorem cA.upd(m:cA KF s)(db:KF.heap.objs.size≤e)(f:cE->cE):cA KF {s with heap:=s.heap.update e f}:=⟨⟨aJ m.size (by rw[agn];exact Da _),λb T g q=>(pv _ _ (λU:e=b=>aB (b1 g) (dJ.mpr (U▸db)))).trans (m.keep b T g q),m.gens,m.os,m.toks⟩,m.ge⟩
noncomputable def tn(b:ga)(c I:t0):p t0:=c9 b [I,c] [c,I]
theorem O3{b:ga}{c I:t0}:(tn b c I).length=2:=b.rec rfl rfl
theorem now{f:t0->cY}{b:ga}{c I:t0}:(tn b c I).map f=tn b (f c) (f I):=b.rec rfl rfl
noncomputable def ms(n:p X):p X:=n.rec [] λc l a=>l.rec [c] λI eb a=>eb.rec (tn (iG I c) c I) λa a a=>n
inductive Hg(s:nl)(R dV:kt)(x:Y (X×be)):cd->Prop|mk (dH:kt) (g2:be) (t:E) (c:X) (u:be):x=j (c,u)->dH≠dV->dH≠R->s.heap.get? dH=j (SL #[.str c g2] t)->Hg s R dV x (.ref dH)
inductive O4(KF:nl)(R dV:kt)(he:p (X×be))(SZ:E)(z:E)(s:nl):Prop|mk (t3:p cd) (g:E):t3.length=z->cA KF s->s.heap.get? dV=j (SL t3.toArray g)->s.heap.get? R=j (SL #[] SZ)->(∀(i:E) (k:cd),t3[i]?=j k->Hg s R dV he[i]? k)->O4 KF R dV he SZ z s
noncomputable abbrev eB(he:p (X×be)):p cd:=he.map λx=>.str x.1 x.2
theorem nul{P:E->t0->Prop}{n:p t0}{e:t0}(h:∀i k,n[i]?=j k->P i k)(ex:P n.length e):∀i k,(n++[e])[i]?=j k->P i k:=λi k np=>if q:i<n.length then h i k (JO q▸np)else by rw[TB (dJ.mp q)]at np;obtain⟨h1,rfl⟩:=rY.mp np;have g:i=n.length:=DL (Nat.sub_eq_zero_iff_le.mp (aga.mp h1)) (dJ.mp q);subst g;rw[List.getElem_singleton];exact ex
theorem O5{aa:SortSt}{out:p cd}{O6:bD cd}{g SZ:E}{P:jq->nl->Prop}(num:(arrOf aa).map (·.2)=out.toArray)(wn:failedOf aa=bn)(sc:out.length<64)(ahH:O6.size<64)(gl:s.heap.get? dV=j (SL O6 g))(fT:s.heap.get? R=j (SL #[] SZ))(aC:dV≠R)(m:cA KF s)(tp:KF.heap.objs.size≤dV)(lm:KF.heap.objs.size≤R)(h:∀it t,cA KF it->it.heap.get? R=j (SL out.toArray t)->P (.done (.ret .none)) it):f4 (aE prog w) A (ksk_tail R G SZ (.ref dV) aa) P a1 s:=by
 unfold ksk_tail;try dsimp only
 rw[num];have ji:=lN s.heap dV (dR λa=>(#[]:bD cd));have Hh:(s.heap.update dV (dR λa=>(#[]:bD cd))).get? R=j (SL #[] SZ):=(ji.2 R aC.symm).trans fT;refine g1 (zY gl rfl ?_ (by rw[k6];left) (e6 _));refine g1 (wpAny_letGo ?_);refine g1 (KE Hh rfl ?_);refine g1 (zY Hh rfl ?_ (e6 _) (aJ (mT (by simp)) (by rw[k6];left:out.length≤_)));rw[wn];simp only[zU,pg,n5];have hF:cA KF {s with heap:=s.heap.update dV (dR λa=>(#[]:bD cd))}:=m.upd tp _;have tq:=hF.upd lm (dR λa=>out.toArray);obtain⟨gy,yo⟩:∃gy,((s.heap.update dV (dR λa=>(#[]:bD cd))).update R (dR λa=>out.toArray)).get? R=j (SL out.toArray gy):=⟨_,get?_update_seq Hh λa=>out.toArray⟩;exact s2 (h _ gy tq yo)
theorem nBT{he:p (X×be)}{t3:p cd}{g SZ:E}{P:jq->nl->Prop}(fe:A.units<t7)(aV:he.length=1\/he.length=2)(ae:t3.length=he.length)(gl:s.heap.get? dV=j (SL t3.toArray g))(fT:s.heap.get? R=j (SL #[] SZ))(aC:dV≠R)(m:cA KF s)(tp:KF.heap.objs.size≤dV)(lm:KF.heap.objs.size≤R)(oR:∀(i:E) (k:cd),t3[i]?=j k->Hg s R dV he[i]? k)(h:∀it t (e3:p (X×be)),cA KF it->it.heap.get? R=j (SL (eB e3).toArray t)->e3.map (·.1)=ms (he.map (·.1))->P (.done (.ret .none)) it):f4 (aE prog w) A (ksk_end R G (eB he).toArray SZ (.ref dV) t3.toArray) P a1 s:=by
 unfold ksk_end;dsimp only;rw[ss hW];rcases aV with h1|ex
 ·obtain⟨x,rfl⟩:=CY h1;obtain⟨k,rfl⟩:=CY ae;have ex:(eB [x]).toArray.size<2:=gp 1;rw[tt ex,tt ex];refine g1 (s2 ?_);rw[ago];exact g1 (s2 (O5 (out:=eB [x]) (by simp[arrOf]) rfl (show 1<64 by decide) (show(#[k]:bD cd).size<64 from show 1<64 by decide) gl fT aC m tp lm λit t hO lp=>h it t [x] hO lp rfl))
 ·obtain⟨⟨c,u⟩,⟨I,g2⟩,rfl⟩:=ym ex;obtain⟨obj,aeG,rfl⟩:=ym ae;obtain⟨dH,ahI,aiE,ahJ,ahK,obs,_,_,db⟩:=oR 0 obj rfl;obtain⟨lg,O7,yp,O8,ak,odd,_,_,cr⟩:=oR 1 aeG rfl;cases obs;cases odd;have ex:¬(eB [(c,u),(I,g2)]).toArray.size<2:=lQ 2;rw[ss ex,ss ex];refine g1 (kas_kind (T:=.type "list") (Da 2) (mU.mpr ⟨(Ti db).andThen .now,uf.mpr ((Ti cr).andThen .now)⟩) (by decide) (by decide) ?_);refine g1 (cJ (kat_run (ks:=[.ref dH,.ref lg]) (vs:=eB [(c,u),(I,g2)]) (κ:=T7) (G:=λx it=>it=s/\x=if iG I c then #[1,0]else #[0,1]) (Q:=λc7 it=>it=s/\failedOf c7=bn/\(arrOf c7).map (·.2)=(eB (tn (iG I c) (c,u) (I,g2))).toArray) rfl (Da 2) (show 2<64 by decide) (λx c7 it JK C0 Hi yq=>⟨yq.1,Hi,?_⟩) ?_) (λl it q=>q.1▸O5 q.2.2 q.2.1 (by rw[aK,O3];decide) (show(#[e9 dH,e9 lg]:bD cd).size<64 from show 2<64 by decide) gl fT aC m tp lm (λit t hO lp=>h it t _ hO lp now)) λa a c=>c);·rw[kat_snds (ks:=[.ref dH,.ref lg]) (vs:=eB [(c,u),(I,g2)]) rfl C0,yq.2];cases iG I c<;>rfl
  ·show f4 _ A (keyLt' T7 (.ref lg) (.ref dH)) _ _ s;refine ne5 fe cr db ?_;cases wT:iG I c with|true=>exact⟨rfl,by kernel_rfl⟩|false=>exact⟨rfl,rfl⟩
theorem ofD{he:p (X×be)}{SZ:E}{f:cd}{P:jq->nl->Prop}(fe:A.units<t7)(aV:he.length=1\/he.length=2)(gl:s.heap.get? dV=j (SL #[] 0))(fT:s.heap.get? R=j (SL #[] SZ))(aC:dV≠R)(m:cA KF s)(tp:KF.heap.objs.size≤dV)(lm:KF.heap.objs.size≤R)(qk:∀(it:nl) (c:X) (u:be),c∈he.map (·.1)->cA KF it->f4 (aE prog w) A (call f [.str c u]) (λk eG=>∃dH g2 t,k=.ref dH/\cA it eG/\it.heap.objs.size≤dH/\eG.heap.get? dH=j (SL #[.str c g2] t)) (λa a=>gG) it)(h:∀it t (e3:p (X×be)),cA KF it->it.heap.get? R=j (SL (eB e3).toArray t)->e3.map (·.1)=ms (he.map (·.1))->P (.done (.ret .none)) it):f4 (aE prog w) A (ksk_rest R f G (eB he).toArray SZ (.ref dV)) P a1 s:=by
 unfold ksk_rest;refine g1 (ob ?_);first|rw[List.forIn_toArray]|(rw[<- agp];simp only[ae9])|rw[<- agp]
 have Hj:(eB he).length=he.length:=aK _;refine g1 (ksk_fold (O4 KF R dV he SZ) (eB he) 0 s ⟨[],0,rfl,m,gl,fT,λa a h=>a' h⟩ ?step ?done);case step=>
  rintro ev v it FB ⟨t3,g,ae,hO,dz,lp,oR⟩;rw[jZ]at ae⊢;rw[hX]at FB;obtain⟨⟨c,u⟩,ln,rfl⟩:=wX.mp FB;have s3:ev<he.length:=(rY.mp ln).1;refine g1 (uq (cJ (qk it c u (dM.mpr ⟨(c,u),Dx ln,rfl⟩) hO) (λk eG rs=>?_) λa a gf=>gf.elim));obtain⟨dH,g2,t,rfl,BB,oF,ofM⟩:=rs;try dsimp only
  have tq:cA KF eG:=hO.trans BB;have oS:=BB.keep _ _ dz (m4);have ofT:=BB.keep _ _ lp (m4);have O9:dH≠dV:=r7 (hs (b1 dz) oF);have ofU:dH≠R:=r7 (hs (b1 lp) oF);have ji:=lN eG.heap dV (dR (·.push (e9 dH)));obtain⟨gy,yo⟩:∃gy,(eG.heap.update dV (dR (·.push (e9 dH)))).get? dV=j (SL (t3++[e9 dH]).toArray gy):=⟨_,by have:=get?_update_seq oS (·.push (e9 dH));rw[Ta]at this;exact this⟩;refine g1 (zY oS rfl ?_ (by rw[jj,k6];left) (aJ (mT (Tc ..)) (by rw[jj,k6];left)));exact s2 ⟨rfl,t3++[.ref dH],gy,by rw[ct,ae];rfl,tq.upd tp _,yo,(ji.2 R aC.symm).trans ofT,nul (λi k np=>(oR i k np).casesOn λlg O7 yp O8 ak nF lq Hk Hl=>⟨lg,O7,yp,O8,ak,nF,lq,Hk,(ji.2 lg lq).trans (BB.keep _ _ Hl m4)⟩) ⟨dH,g2,t,c,u,ae▸ln,O9,ofU,(ji.2 dH O9).trans ofM⟩⟩
 case done=>
  rintro it ⟨t3,g,ae,hO,dz,lp,oR⟩;rw[jZ,Hj]at ae;try dsimp only
  refine g1 (DN dz rfl ?_);exact nBT fe aV ae dz lp aC hO tp lm oR h
theorem of0{he:p (X×be)}{z:E}{f:cd}{P:jq->nl->Prop}(fe:A.units<t7)(aV:he.length=1\/he.length=2)(fT:s.heap.get? R=j (SL (eB he).toArray z))(m:cA KF s)(lm:KF.heap.objs.size≤R)(qk:∀(it:nl) (c:X) (u:be),c∈he.map (·.1)->cA KF it->f4 (aE prog w) A (call f [.str c u]) (λk eG=>∃dH g2 t,k=.ref dH/\cA it eG/\it.heap.objs.size≤dH/\eG.heap.get? dH=j (SL #[.str c g2] t)) (λa a=>gG) it)(h:∀it t (e3:p (X×be)),cA KF it->it.heap.get? R=j (SL (eB e3).toArray t)->e3.map (·.1)=ms (he.map (·.1))->P (.done (.ret .none)) it):f4 (aE prog w) A (T8 R f G) P a1 s:=by
 have db:@jn E _ R s.heap.objs.size:=b1 fT;have Hj:(eB he).length=he.length:=aK _;have ji:=lN s.heap R (dR λa=>(#[]:bD cd));obtain⟨SZ,vB⟩:∃SZ,(s.heap.update R (dR λa=>(#[]:bD cd))).get? R=j (SL #[] SZ):=⟨_,get?_update_seq fT λa=>#[]⟩;have O':((s.heap.update R (dR λa=>(#[]:bD cd))).push (hv "tuple" (eB he).toArray 0)).objs.size=s.heap.objs.size+1:=by rw[size_push',agn]
 unfold T8;refine g1 (DN fT rfl ?_);refine g1 (zY fT rfl ?_ (by rw[jj,k6];left) (e6 _));refine g1 (KE vB rfl ?_);refine g1 (T4 ?_ (by show(eB he).length≤_;rw[k6];left));refine g1 (KG ?_ (e6 _));refine dF ?_;have hF:=m.upd lm (dR λa=>(#[]:bD cd));have Hm:cA KF {s with heap:=((s.heap.update R (dR λa=>(#[]:bD cd))).push (hv "tuple" (eB he).toArray 0)).push (hv "list" #[] 0)}:=(hF.trans (cA.push _)).trans (cA.push (s:={s with heap:=(s.heap.update R (dR λa=>(#[]:bD cd))).push (hv "tuple" (eB he).toArray 0)}) _);refine ofD (s:={s with heap:=((s.heap.update R (dR λa=>(#[]:bD cd))).push (hv "tuple" (eB he).toArray 0)).push (hv "list" #[] 0)}) (dV:=((s.heap.update R (dR λa=>(#[]:bD cd))).push (hv "tuple" (eB he).toArray 0)).objs.size) fe aV (dK _ rfl) (cP _ (cP _ vB)) (by rw[O'];exact r7 (wU db)) Hm (by rw[O'];exact aJ lm (jp (wU db))) lm qk h
theorem O_:∀{f1:p cd},(∀v∈f1,∃k u,v=.str k u)->∃he:p (X×be),f1=eB he|[],_=>⟨[],rfl⟩|v::f1,h=>by obtain⟨k,u,rfl⟩:=h v (.head _);obtain⟨he,rfl⟩:=O_ (f1:=f1) λv FB=>h v (.tail _ FB);exact⟨(k,u)::he,rfl⟩
theorem of2{bd:bD (m0×cd)}{f:cd}{e5:p (X×cd)}{n:p X}(fe:A.units+2<t7)(t1:A.handled=bn)(gt:s.heap.get? S=j (eV bd WF ak))(nw:l0 w (eV bd WF ak) n)(lh:n≠[])(ops:uw "sorted" ⟨[.ref S],e5⟩)(opt:∀c,uw "list.sort" ⟨[.ref c],e5⟩)(ty:∀c,Builtin.«list.sort» ⟨[.ref c],e5⟩=T8 c f G)(qk:∀(it:nl) (c:X) (u:be),c∈n->cA s it->f4 (aE prog w) A.in1.in1 (call f [.str c u]) (λk eG=>∃dH g2 t,k=.ref dH/\cA it eG/\it.heap.objs.size≤dH/\eG.heap.get? dH=j (SL #[.str c g2] t)) (λa a=>gG) it)(h:∀it R t (e3:p (X×be)) (bo:p X),cA s it->s.heap.objs.size≤R->it.heap.get? R=j (SL (eB e3).toArray t)->bo.Perm n->e3.map (·.1)=ms bo->C (.ref R) it):f4 (aE prog w) A (call (.builtin "sorted") [.ref S] e5) C a1 s:=by
 obtain⟨O1,ahL,ahM,eq,Pa,Pb,Pc,Pd,BC,Pe⟩:=nw;cases eq;refine call_function_entry_kw kind_sorted plain_sorted entry_sorted ops ?_;unfold Builtin.«sorted»;refine g1 (m:=checkCount "sorted" 1 1 _) (s2 ?_);refine g1 (fc (mon (A:=A.in1) t1 gt Pa Pb Pc Pe λa3 r ao f1 tj p2 cT gQ=>?_));obtain⟨he,rfl⟩:=O_ (f1:=f1) λv FB=>by obtain⟨g,rs,rfl⟩:=dM.mp (p2.mem_iff.mp FB);exact Pd g rs
 have vA:(he.map (·.1)).Perm n:=by have SZ:=p2.map ol;rw[dG,dG]at SZ;exact SZ.trans BC
 have aV:he.length=1\/he.length=2:=by have SZ:=vA.length_eq;have bu:=BC.length_eq;rw[aK]at SZ bu;rw[qz]at bu;have oT:n.length≠0:=λq=>lh (zW q);left
 have Hj:(eB he).length=he.length:=aK _;have hF:cA s {s with heap:=a3,drawn:=r,toks:=ao}:=⟨⟨cT,λe T g a=>tj e T g,λa a g=>g,rfl,gQ⟩,rfl⟩;refine g1 (KG ?_ (by rw[k6];left));have fT:(a3.push (hv "list" (eB he).toArray 0)).get? a3.objs.size=j (SL (eB he).toArray 0):=dK _ rfl;have tq:cA s {s with heap:=a3.push (hv "list" (eB he).toArray 0),drawn:=r,toks:=ao}:=hF.trans (cA.push (s:={s with heap:=a3,drawn:=r,toks:=ao}) _);refine g1 (dF (wpAny_call_entry_kw slot_list_sort ⟨_,fT,rfl⟩ entry_list_sort ?body (opt _)));case body=>show f4 (aE prog w) A.in1.in1 (Builtin.«list.sort» ⟨[.ref a3.objs.size],e5⟩) _ _ _;rw[ty];refine of0 (s:={s with heap:=a3.push (hv "list" (eB he).toArray 0),drawn:=r,toks:=ao}) (by show A.units+1+1<t7;left) aV fT tq cT (λit c u f8=>qk it c u (vA.mem_iff.mp f8)) λit t e3 hO lp wT=>⟨_,rfl,?_⟩;exact s2 ⟨_,rfl,h it _ t e3 _ hO cT lp vA wT⟩
end
theorem opQ{e b:m0}{t ax:cd}(n:p cd)(h:SQ n)(f0:zz h0 (n++[gr e,gr b,t])=j ax):zz h0 n=j ax\/ax=t:=by
 fun_induction SQ n with
 |case1=>
  simp only[wx,zz,gr]at f0;split at f0;·cases f0;exact .inr rfl
  ·cases f0
 |case2 er u sv g2 c rest ih=>
  simp only[jW,zz]at f0⊢;split at f0;·rename_i q;rw[tt q];exact .inl f0
  ·rename_i q;rw[ss q];exact ih h f0
 |case3 n h1 ex=>exact h.elim
section
variable{d:sw}{sK:p kt}
theorem nb.ab.Hn(Z:W.ab d)(m:Mv [d.tab] W.s it)(cr:rZ it.gens)(gt:it.heap.get? e=j T)(db:W.h.objs.size≤e)(ty:W.ak=V->uM d it.heap ((W.to it).aq e T).B):((W.to it).aq e T).ab d:=by
 have f:=Z.fresh db;have AT:(W.to it).B e=bn\/(W.to it).B e=j T:=.inl f.1;have bw:∀b x,W.B b=j x->it.heap.get? b=j x:=λb x g=>m.keep b x (Z.bw b x g) λq=>by have aT:W.B b=j x:=g;rw[a9.mp q,Z.iZ]at aT;cases aT
 refine⟨λb x g=>nb.g_ AT b x (Z.base b x g),λb x g=>?_,Z.len,λi t g=>?_,Z.apart,λb cr=>⟨?_,(Z.off b cr).2⟩,?_,?_,⟨hs Z.fL.1 m.size,ty⟩,cr,hs Z.toks m.toks,Z.gen.av m⟩
 ·have aT:(if b=e then j T else W.B b)=j x:=g;by_cases q:b=e;·subst q;rw[tt rfl]at aT;cases aT;exact gt
  ·rw[ss q]at aT;exact bw b x aT
 ·obtain⟨x,ln,q⟩:=Z.cells i t g;exact⟨x,ln,qO (W:=W) (y:=(W.to it).aq e T) (nb.g_ (W:=W.to it) AT) (lI _) (λn T h=>m.keep _ T h λU=>(Z.off _ (j5 ln g n)).2 (a9.mp U)) q⟩
 ·show(if b=e then j T else W.B b)=bn;have aC:b≠e:=λq=>f.2.1 (q▸cr);rw[ss aC];exact(Z.off b cr).1
 ·show(if d.tab=e then j T else W.B d.tab)=bn;rw[ss (Ne.symm f.2.2)];exact Z.iZ
 ·obtain⟨x,q⟩:=Z.jv;exact⟨x,nb.g_ (W:=W.to it) AT _ _ q⟩
theorem kw.Hn(n:kw d sK un W)(ty:un.ak=V)(m:Mv [d.tab] W.s it):kw d sK un (W.to it) where
 size:=aJ n.size m.size
 keep:=λe T g pc Tk h=>m.keep e T (n.keep e T g pc Tk h) λq=>h ty (a9.mp q)
 aH:=n.aH
 B:=n.B
 eW:=n.eW
 ag:=n.ag
 gens:=⟨n.gens.old,n.gens.new,λi c g Tk=>m.gens i c (n.gens.keep i c g Tk),aJ n.gens.size m.EA,n.gens.ak⟩
 os:=m.os.trans n.os
 toks:=aJ n.toks m.toks
end
section
variable{d:sw}{A:xs}{O:IN}{H:hf}
theorem orr(ds:d.ab)(vx:O.code=.ref d.et)(t1:zV d.az d.et d.tab)(Ho:d.az.BuiltinsAt d.mg d.tab)(Hp:k0≠d.tab)(Z:W.ab d)(aj:Tl d O H W)(fg:W.ak=V){params:rX}{body:bv}(wT:O.qual++"<lambda>"=d.hB)(fi:closureFor scope O=pure [])(DT:defaultsOf params O=([],[]))(hm:∀(y:nb) (f aL:kt) (iH:cd),y.ab d->kw d [] W y->y.o=W.o->W.h.objs.size≤f->y.B f=j (wY "<lambda>" d.hB params body scope [] ((d.mg "__name__").getD .none) aL iH)->(∃ft L u,y.B aL=j ft/\ft.data=.fields L/\L[1]?=j (.str d.hB u))->C (.ref f) y.s):f4 d.M A (eval (.Lambda params body scope h0) O) C a1 W.s:=by
 refine kla_eval DT ?_;rw[wT];obtain⟨he,iD,bM,eJ⟩:=Z.fL.2 fg;have Pf:zV W.h d.et d.tab:=t1.keeps λa a g=>Z.old g;have kD:W.h.Ns k0 d.mg:=Z.fs ds;have Pg:W.h.BuiltinsAt d.mg d.tab:=by obtain⟨bm,T,nF,lr,lq,Hk,Hl,l⟩:=Ho;exact⟨bm,T,nF,lr,lq,Hk,Z.old Hl,l⟩
 have bN:∀(nn:nb) (f aL:kt) (iH:cd),nn.ab d->kw d [] W nn->nn.o=W.o->f∉nn.aH->nn.B f=bn->nn.h.get? f=j (wY "<lambda>" d.hB params body scope [] ((d.mg "__name__").getD .none) aL iH)->W.h.objs.size≤f->(∃ft L u,nn.B aL=j ft/\ft.data=.fields L/\L[1]?=j (.str d.hB u))->C (.ref f) nn.s:=by intro nn f aL iH Db Ok cm pc Br wn hK ⟨ft,L,u,nF,lr,lq⟩;have own:=Z.fresh hK;have AT:nn.B f=bn\/nn.B f=j (wY "<lambda>" d.hB params body scope [] ((d.mg "__name__").getD .none) aL iH):=.inl Br;have P3:=Db.aq wn pc own.2.2;have Ix:=Ok.aq AT hK;exact hm (nn.aq f (wY "<lambda>" d.hB params body scope [] ((d.mg "__name__").getD .none) aL iH)) f aL iH P3 Ix cm hK (nb.hD ..) ⟨ft,L,u,nb.g_ AT _ _ nF,lr,lq⟩
 cases s9:zz h0 he.toList with
 |some ax=>obtain⟨aL,ft,L,u,rfl,nF,lr,lq⟩:=eJ h0 ax s9;refine fc (kla_makeFunctionHit fi aj.glob kD vx Pf iD bM s9 Pg λiH eg ao gl cO cT gQ=>?_);have m:Mv [] W.s {W.s with heap:=eg.push (wY "<lambda>" d.hB params body scope [] ((d.mg "__name__").getD .none) aL iH),toks:=ao}:=⟨cT,λe T g a=>cP _ (gl e T g),λa a g=>g,rfl,gQ⟩;exact bN _ eg.objs.size aL iH (Z.av m (cR) Z.bare) (kw.refl.av m cR) rfl (Z.fresh cO).2.1 (Z.fresh cO).1 (dK _ rfl) cO ⟨ft,L,u,nF,lr,lq⟩
 |none=>
  refine fc (kla_makeFunction fi aj.glob kD vx Pf iD bM s9 Hp Pg λaL iH eg ao f8 nB bU ows oAd cT gQ=>?_);obtain⟨pd,ft,L,u,bu,nF,lr,lq⟩:=ows;cases bu;have hK:W.h.objs.size≤eg.objs.size:=aJ nB (jp bU);let ra:cE:=wY "<lambda>" d.hB params body scope [] ((d.mg "__name__").getD .none) aL iH;have m:Mv [d.tab] W.s {W.s with heap:=eg.push ra,toks:=ao}:=⟨cT,λe T g q=>cP _ (f8 e T (λU=>q (by rw[U];exact .head _)) g),λa a g=>g,rfl,gQ⟩;have oEq:(eg.push ra).get? aL=j ft:=cP _ nF;have Ph:=Z.fresh nB;have q4:W.ak=V->uM d (eg.push ra) ((W.to {W.s with heap:=eg.push ra,toks:=ao}).aq aL ft).B:=λa=>by
   refine⟨_,cP _ oAd,?_,λaeH ax hh=>?_⟩;·rw[agq];exact TriplesOk_snoc _ _ _ _ bM
   ·rw[agq]at hh;rcases opQ _ bM hh with hh|rfl
    ·obtain⟨BD,oLe,oLt,nr,SZ,bu,l⟩:=eJ aeH ax hh;exact⟨BD,oLe,oLt,nr,SZ,nb.g_ (W:=W.to _) (.inl Ph.1) _ _ bu,l⟩
    ·exact⟨aL,ft,L,u,rfl,nb.hD ..,lr,lq⟩
  have Db:=Z.Hn m Z.bare oEq nB q4;have Ok:kw d [] W ((W.to {W.s with heap:=eg.push ra,toks:=ao}).aq aL ft):=(kw.refl.Hn fg m).aq (.inl Ph.1) nB;have Pj:=Z.fresh hK;refine bN _ eg.objs.size aL iH Db Ok rfl Pj.2.1 ?_ (dK _ rfl) hK ⟨ft,L,u,nb.hD ..,lr,lq⟩;show(if eg.objs.size=aL then j ft else W.B eg.objs.size)=bn;rw[ss (r7 bU)];exact Pj.1
end
section
open PySem.Builtin PySem.Builtin.Str
noncomputable abbrev tr(x:wS):rX:={posonlyargs:=[],args:=[{arg:="n",annotation:=bn,pos:=x}],vararg:=bn,kwonlyargs:=[],kw_defaults:=[],kwarg:=bn,defaults:=[]}
noncomputable abbrev vC(a_ bF eU hy f7:wS):bv:=.Call (.Attribute (.Name "n" a_) "split" bF) [.Constant (.str "}") 0 eU,.Constant (.int 1) 0 hy] [] f7
noncomputable abbrev ts:KT:={kind:=.function,names:=[("n",.local)],isGenerator:=G,isCoroutine:=G,more:=[]}
noncomputable def yr(c:X):ga:=(decide (c.length<1) ||decide (strKind c<strKind ("}":X))) ||(qt c ("}":X) 0 c.length (limitOf c 1)).isEmpty
section
variable{d:sw}{A:xs}{O:IN}{H:hf}
theorem pin{u g2 v:be}(f8:yr c=V)(h:C (.ref s.heap.objs.size) {s with heap:=s.heap.push (SL #[.str c u] 0)}):f4 d.M A (call (.builtin "str.split") [.str c u,.str ("}":X) g2,.int 1 v]) C a1 s:=by
 unfold yr at f8;have gl:(decide ((1:m0)< -(2^63:m0)) ||decide ((1:m0)≥2^63))=G:=by decide
 cases h1:(decide (c.length<("}":X).length) ||decide (strKind c<strKind ("}":X)));·rw[show(("}":X).length)=1 from rfl]at h1;rw[h1,KH]at f8;exact r3 Dk (t' _ _ _) Dl (agr _ _ _) (meets_str_split_max_not_found c ("}":X) 1 u g2 v gl h1 rfl f8) h
 ·exact r3 Dk (t' _ _ _) Dl (agr _ _ _) (meets_str_split_max_cannot_occur c ("}":X) 1 u g2 v gl h1) h
theorem piF(ds:d.ab)(Z:W.ab d){aL:kt}{iH C1:cd}{nG:wS}(ln:(bF.endLine==f7.line)=V)(AT:W.B f=j (wY "<lambda>" d.hB (tr nG) (vC a_ bF eU hy f7) ts [] C1 aL iH))(q1:∃ft L u,W.B aL=j ft/\ft.data=.fields L/\L[1]?=j (.str d.hB u)){z:E}(lf:zs (z+2) A){u:be}(f8:yr c=V)(m:cA W.s it):f4 d.M A (call (.ref f) [.str c u]) (λk eG=>∃dH g2 t,k=.ref dH/\cA it eG/\it.heap.objs.size≤dH/\eG.heap.get? dH=j (SL #[.str c g2] t)) (λa a=>gG) it:=by
 have xz:(W.to it).ab d:=Z.av m.toMv (cR) (by rw[m.ge];exact Z.bare);obtain⟨ft,L,pri,nF,lr,lq⟩:=q1;have base:∀b T,d.az.get? b=j T->it.heap.get? b=j T:=λb T g=>xz.old g;refine n9 (kla_callFunE (fd:=kla_fn "<lambda>" d.hB (tr nG) (vC a_ bF eU hy f7) ts [] C1 (.ref aL) iH) lf.room (xz.bw _ _ AT) rfl rfl rfl rfl ⟨aL,ft,L,pri,rfl,xz.bw _ _ nF,lr,lq⟩ ?_);rw[show k7 (kla_fn "<lambda>" d.hB (tr nG) (vC a_ bF eU hy f7) ts [] C1 (.ref aL) iH) ⟨[.str c u],[]⟩=pure [(("n":X),.str c u)]from rfl];refine s2 (wpAny_newFunctionEnv (λI KM=>by rcases a9.mp KM with rfl;decide) (λI KM=>by rcases a9.mp KM with rfl;rfl) (λa3 jG gO=>⟨(ds.nolimit.keeps base).fresh _ gO,?_⟩) rfl);have ri:a3.objs.size=it.heap.objs.size+1:=by rw[gO.1];exact f6 ..
 have Pk:∀b T,it.heap.get? b=j T->a3.get? b=j T:=λb T g=>(gO.2 b (ep (b1 g))).trans (cP _ g);have SK:cA it {it with heap:=a3,toks:=it.toks+1}:=⟨⟨by show it.heap.objs.size≤a3.objs.size;rw[ri];exact cu _,λb T g a=>Pk b T g,λa a g=>g,rfl,cu _⟩,rfl⟩;refine kla_codeExpr (sQ (d:=d) rfl ln (by simp) rfl (jY (aeZ (v:=.str c u) rfl rfl jG rfl ?_)));refine GM.split ?_;refine J7 rfl (l9 rfl ?_);refine ud (zB (ud (S4 (ue ?_))));refine pin f8 ?_;have aeI:cA it {it with heap:=a3.push (SL #[.str c u] 0),toks:=it.toks+1+1+1}:=by refine⟨⟨aJ SK.size (by show a3.objs.size≤(a3.push _).objs.size;rw[f6];exact cu _),λb T g a=>cP _ (Pk b T g),λa a g=>g,rfl,?_⟩,rfl⟩;exact aJ (cu _) (aJ (cu _) (cu _))
 exact⟨_,u,0,rfl,aeI,SK.size,dK _ rfl⟩
end
end
theorem boot_sorted:mM "sorted"=j (.builtin "sorted"):=by decide+kernel
theorem pPi(h1:iG c I=G)(ex:iG I c=G):c=I:=by rw[T9]at h1 ex;exact neg (List.le_antisymm (ags.mp ex) (ags.mp h1))
theorem raw(h1:iG c I=V):iG I c=G:=by rw[decide_eq_true_eq]at h1;rw[T9];exact List.lt_asymm h1
theorem rec{c I:t0}{k:p t0}(h:[c,I].Perm k):k=[c,I]\/k=[I,c]:=by
 obtain⟨e,b,rfl⟩:=ym (h.length_eq.symm:k.length=2);rcases cq.mp (h.symm.mem_iff.mp (.head _))with rfl|db;·rw[T'.mp ((agt _).mp h).symm];exact .inl rfl
 ·have db:=a9.mp db;subst db;rw[T'.mp ((agt _).mp ((List.Perm.swap ..).trans h)).symm];exact .inr rfl
theorem rel:tn (iG I c) c I=tn (iG c I) I c:=by cases h1:iG I c with|true=>rw[raw h1];rfl|false=>cases ex:iG c I with|true=>rfl|false=>rw[pPi h1 ex]
theorem rem{n k:p X}(h:n.Perm k)(sc:n.length=1\/n.length=2):ms n=ms k:=sc.elim (λq=>(CY q).elim λc g=>by subst g;rw[T'.mp h.symm]) λq=>(ym q).elim λc q=>q.elim λI g=>by subst g;exact(rec h).elim (λg=>g▸rfl) λg=>g▸rel
theorem Pl{d:sw}{B:aX}:∀{e3:p (X×be)} {n:p X},e3.map (·.1)=n->Is d B (eB e3) (n.map .str)|[],_,h=>by subst h;exact .nil|q::e3,_,h=>by subst h;exact .cons (.str _ _) (Pl rfl)
section
variable{d:sw}{A:xs}{O:IN}{H:hf}
theorem evalArgs_kw{Ch:iw}{f:cd}{u:aP cd}{kx:p (Y X×aP cd)}{C:t_->nl->Prop}(gl:kx.all (·.1.isSome)=V)(h:f4 Ch A u (λv s0=>f4 Ch A (evalAll (kx.map (·.2))) (λt3 aD=>C ⟨[v],(kx.filterMap (·.1)).zip t3⟩ aD) a1 s0) a1 s):f4 Ch A (JY f V [(G,u)] kx) C a1 s:=by unfold JY;show f4 Ch A (r1 [(G,u)]>>=_) C a1 s;refine g1 (JW (cJ h (λv s0 a3=>Df ?_) λa a c=>c));refine dF ?_;dsimp only;rw[tt gl];exact g1 (cJ a3 (λt3 aD gd=>g1 (s2 (s2 gd))) λa a c=>c)
theorem req(ds:d.ab)(vx:O.code=.ref d.et)(t1:zV d.az d.et d.tab)(Ho:d.az.BuiltinsAt d.mg d.tab)(Hp:k0≠d.tab)(cp:O.scope.isGenerator=G)(wT:O.qual++"<lambda>"=d.hB){z:E}(lf:zs (z+4) A){nG bK:wS}(ln:(bF.endLine==f7.line)=V){n:p X}(f8:bb c=V)(Os:df O.scope "sorted"=V)(pc:d.mg "sorted"=bn)(Uf:H.lookup c=j (.iA n))(ae:n≠[])(d8:n.all yr=V):bH d A O H (eval (.Call (.Name "sorted" x) [.Name c KB] [⟨j "key",.Lambda (tr nG) (vC a_ bF eU hy f7) ts bK,ju⟩] h0) O) o (.ah ((ms n).map .str),o):=by
 intro a1 C W Z aj ap hm;have ig:=fx f8;show f4 d.M A (do wL h0 (<- eval (.Name "sorted" x) O) [] (iy h0 (ht [.Name c KB] O)) (Tj h0 (Tn [⟨j "key",.Lambda (tr nG) (vC a_ bF eU hy f7) ts bK,ju⟩] O))) C a1 W.s;refine g1 (qV (ds:=ds) Z aj (by decide) Os pc boot_sorted (by decide) ?_);refine qx (P:=λh=>ha d (.builtin "sorted") h) rfl (λh gl=>gl) ?_;refine evalArgs_kw rfl ?_;refine jY (aj.load Uf ig.2.1 λg2 l=>?_) ig.1;refine wp.EM l λe T G' nw=>?_;refine T1 (g1 ?_);refine orr ds vx t1 Ho Hp Z aj (aj.ak cp) wT rfl rfl λnn f aL iH Db Ok cm wn res q1=>?_;refine g1 (fF (s2 (T2 ⟨qZ _,?_⟩)));show f4 d.M A (call (.builtin "sorted") [.ref e] [(("key":X),.ref f)]) _ _ nn.s;have ta:=nw;obtain⟨bd,WF,ak,rfl,Pa,Pb,Pc,Pd,BC,Pe⟩:=ta;have row:=Db.bw _ _ (Ok.B _ _ G');have ti:n.length=1\/n.length=2:=by have SZ:=BC.length_eq;rw[aK,qz]at SZ;have oT:n.length≠0:=λq=>ae (zW q);left
 refine of2 (f:=.ref f) (e5:=[(("key":X),.ref f)]) (by have:=lf.line;left) lf.handled row nw ae (ksk_s1 _ _) (λc=>ksk_l1 _ _) (λc=>ksk_t1 f c)
  (λit c u ys m=>piF ds Db ln res q1 (z:=z) lf.in1.in1 (lO.mp d8 c ys) m) λit R t e3 bo m fT rws i9 BE=>?_
 have P3:(nn.to it).ab d:=Db.av m.toMv (cR) (by rw[m.ge];exact Db.bare);have Ix:kw d [] W (nn.to it):=Ok.av m.toMv cR;have oU:=Db.fresh fT;have cy:=P3.aq rws oU.2.1 oU.2.2;have bL:=Ix.aq (T:=SL (eB e3).toArray t) (.inl oU.1) (aJ Ok.size fT);refine hm _ _ cy bL (cm.trans ap) (.aq (.ah (nb.hD ..) (Pl (BE.trans (rem i9 ?_)))));rw[i9.length_eq];exact ti
end
section
variable{d:sw}{J:Sc}{A:xs}{O:IN}{H:hf}
def sec(d:sw)(A:xs)(O:IN)(ro j3:bv)(e:kt)(im:nl->Prop)(a1:cd->nl->Prop)(s:nl):Prop:=f4 d.M A (eval ro O) (λsS=>f4 d.M A (eval j3 O) (λPm=>f4 d.M A (dictSet e sS Pm) (λa=>im) a1) a1) a1 s
theorem seg{ro:bv}{ai:cd}{XV:kt}(lv:E->nl->Prop)(qk:∀z s,lv z s->∀a1:cd->nl->Prop,f4 d.M A (hu ai) (AZ d A ai gE O (wf (.ok .next)) (FD d A O aI (sec d A O ro j3 XV (vd lv z) a1) (vd lv z) a1) a1) a1 s)(z:E)(h:lv z s):iV d.M A (.compLoop (.DictComp ro j3 [⟨gE,iter,aI,0⟩] scope h0) 0 ai (.ref XV) O) wf s:=by refine codeAny_loop rfl lv (λz s bg=>?_) z h;show f4 _ A ((compTurn (.DictComp ro j3 [⟨gE,iter,aI,0⟩] scope h0) 0 ai (.ref XV) O).onRaise (λc=>do noteFrame c O;theTreesLotGoes c)) _ _ s;refine wpAny_noted ?_;rw[compTurn_dict];refine g1 (fF (g1 (cJ (qk z s bg _) (λl s0 a3=>?_) λa a eg=>eg)));cases l with|none=>exact s2 a3|some v=>refine g1 (cJ a3 (λa Yy FE=>?_) λa a eg=>eg);refine g1 (cJ FE (λa aD gd=>g1 (cJ gd (λZ ve pP=>?_) λa a eg=>eg)) λa a eg=>eg);cases Z with|false=>exact s2 ⟨rfl,pP⟩|true=>exact g1 (g1 (cJ pP (λsS Yz FF=>g1 (dF (cJ FF (λPm FG FH=>g1 (fF (dF (cJ FH (λa vg sel=>s2 ⟨rfl,sel⟩) λa a eg=>eg)))) λa a eg=>eg))) λa a eg=>eg))
theorem aeJ(h:c∉ba.map (·.1)):stored ba c v=ba++[(c,v)]:=by unfold stored;rw[ss];rw[Dq];rintro ⟨x,ln,wT⟩;exact h (dM.mpr ⟨x,ln,mQ wT⟩)
theorem sep{h:bl}(c:h.DictOf (aG prog w) e ba)(k:∀T,h.get? e=j T->eg.get? e=j T):eg.DictOf (aG prog w) e ba:=c.at k
def nH(d:sw)(e:kt)(n:p (X×R))(W:nb):Prop:=∃ba:p (X×cd),W.h.DictOf (aG d.prog d.w) e ba/\ba.map (·.1)=n.map (·.1)/\Is d W.B (ba.map (·.2)) (n.map (·.2))
theorem nH.k{n:p (X×R)}:A0 d e (nH d e n):=λfv le Tk q=>q.elim λba q=>⟨ba,sep q.1 λa g=>fv.keep le Tk (.head _) g,q.2.1,le.oo q.2.2⟩
noncomputable def p4(af:X->p ca->Y (R×p ca))(n:p X):p ca->Y (p (X×R)×p ca):=n.rec (λo=>j ([],o)) λI a ih o=>s4 (af I o) λr al=>s4 (d4 r al) λaR f2=>s4 (ih f2) λn ew=>j ((I,aR)::n,ew)
theorem sgn{af:X->p ca->Y (R×p ca)}{l:p X}{n:p (X×R)}{P:p (X×R)->Prop}(h:p4 af (I::l) o=j (n,wE))(a2:∀r al aR f2 p5,af I o=j (r,al)->d4 r al=j (aR,f2)->p4 af l f2=j (p5,wE)->P ((I,aR)::p5)):P n:=b8 (show s4 (af I o) (λr al=>s4 (d4 r al) λaR f2=>s4 (p4 af l f2) λn ew=>j ((I,aR)::n,ew))=_ from h) λr al h1 h=>b8 h λaR f2 ex h=>b8 h λp5 ew h3 h=>kr (P:=λn wE=>(∀r al aR f2 p5,af I o=j (r,al)->d4 r al=j (aR,f2)->p4 af l f2=j (p5,wE)->P ((I,aR)::p5))->P n) h (λa2=>a2 r al aR f2 p5 h1 ex h3) a2
theorem Pn:∀n:p (X×R),(n.map (·.1)).zip (n.map (·.2))=n|[]=>rfl|x::n=>GT (x::·) (Pn n)
theorem yt{n:p t0}{c:t0}{f:t0->cY}:(n++[c]).map f=n.map f++[f c]:=jo
section
variable{ai:cd}{Inv:p R->nb->Prop}{tup:ga}{aY:IN}{XV:kt}{z:X}
theorem ez.aaa{n:p (X×R)}(t:kA d A ai lv Inv tup dj un aY H XV u)(aa:ez d un aY bk XV (nH d XV n) W){ao:be}{I:R}(f:x0 d W.B g2 I)(sY:c∉n.map (·.1))(sc:n.length≤gH){C:g7->nl->Prop}(hm:∀y,kw d [XV] W y->y.o=W.o->ez d un aY bk XV (nH d XV (n++[(c,I)])) y->C () y.s):f4 d.M A (dictSet XV (.str c ao) g2) C a1 W.s:=aa.acc.elim λba q=>wpAny_dictSet_pairs (knd:=aG d.prog d.w) (gI _ _ c ao) q.1 (λeg fT fd=>by
  rw[aeJ (q.2.1.symm▸sY)]at fT;obtain⟨xz,aw⟩:=aa.ar.av aa.ok (Mv.sD fd (cu _)) aa.ok.bare;exact hm (W.to {W.s with heap:=eg,toks:=W.s.toks+1}) aw rfl ⟨nH.k,xz,aa.le.then' t.ok aw (λe db=>.inr (a9.mp db▸aa.base)),aa.md.le aw (λe db np=>t.FJ e np db),⟨ba++[(c,g2)],fT,by rw[yt,yt,q.2.1],by rw[yt,yt];exact q.2.2.append (.one f)⟩,aa.ar.xF λe db=>a9.mp db▸fT.elim λT U=>U.elim λbd U=>U.elim λWF U=>⟨T,U.1⟩,aa.base⟩)
  (aJ (mT (((aK _).symm.trans (GT pl q.2.1)).trans (aK _))) sc)
inductive Po(St:p (X×R)->nb->Prop)(F:X->p ca->Y (R×p ca))(wE:p ca)(Inv:p R->nb->Prop)(eE:p (X×R))(f1:p X):E->nl->Prop|mk (W:nb) (l:p X) (done n:p (X×R)) (h:p4 F l W.o=j (n,wE)) (Ns:Inv (l.map .str) W) (aa:St done W) (d8:done++n=eE) (f8:done.map (·.1)++l=f1):Po St F wE Inv eE f1 (l.length+1) W.s
theorem shl(t:kA d A ai lv Inv tup G un aY bk XV (.Name z oh))(lf:zs au A){af:hf->aN}(pQ:∀o0,a0 d A aY o0 (af o0))(pi:bb z=V)(yu:bV aY.scope z=V){f1:p X}{eE:p (X×R)}(sc:f1.length≤900)(ni:f1.Nodup)(BF:p4 (λc o=>af (Pv bk z (.str c)) j3 o) f1 W.o=j (eE,wE))(Ns:Inv (f1.map .str) W)(aa:ez d un aY bk XV (nH d XV []) W)(fw:∀y,ez d un aY bk XV (nH d XV eE) y->y.o=wE->wf (.ok .next) y.s):iV d.M A (.compLoop (.DictComp (.Name z ju) j3 [⟨.Name z oh,iter,[],0⟩] inner h0) 0 ai (.ref XV) aY) wf W.s:=by have tu:=fx pi;refine seg (Po (λn=>ez d un aY bk XV (nH d XV n)) (λc o=>af (Pv bk z (.str c)) j3 o) wE Inv eE f1) ?_ (f1.length+1) (.mk W f1 [] eE BF Ns aa rfl rfl);clear BF aa Ns;intro k s a7 a1;induction a7 with|mk W l done n h Ns aa d8 f8=>cases l with|nil=>have g:=aO h;exact t.bN Ns aa λy c7 bG=>fw y (((GT (done++·) (GT k1 g)).trans d8)▸(c2 done).symm▸c7) (bG.trans (GT ko g))|cons c l=>refine sgn (P:=λn=>done++n=eE->_) h (λyv al Hq f2 p5 shr sim sin d8=>t.turn lf Ns aa (show pp (bV aY.scope z) _=_ from Re yu) λu8 aD q5 xR=>s2 ?_) d8;refine jY (aD.md.load (gL bk z (.str c) z▸tt rfl) tu.2.1 λsS six=>wp.e_ six λao=>(pQ _ _ _ _ shr).seq aD.ok aD.md xR λg2 e1 gS q7 fh nj xS=>?_) tu.1;obtain⟨xT,ic,jF,vf,FN,FO⟩:=oy gS xS ((show e1.o=al from nj).symm▸sim);rw[<- FN];have Pp:=fh.trans jF;have pc:∀I∈done.map (·.1),I≠c:=λI KM g=>(SS.mp (f8.symm▸ni)).2.2 _ KM _ (.head _) g;exact(aD.FK ic Pp).aaa t FO (λq=>pc c q rfl) (aJ (aJ (by rw[<- f8,ct,aK];exact e7 _ _) sc) (by decide)) λpR kB q8 vg=>⟨l.length+1,gp _,.mk pR l (done++[(c,Hq)]) p5 ((q8.trans vf).symm▸sin) (t.ec.fP ic vg.ok (t.ec.fP aD.ok ic q5 Pp jr dN) kB (λe db np=>t.FI e np db) λa=>q8) (t.less (show pp (bV aY.scope z) _=j (Pv bk z (.str c))from Re yu) vg) ((e8 ..).trans d8) (by rw[yt,e8];exact f8)⟩
end
theorem sle(ds:d.ab)(lf:zs au A){z:X}{Pq:wS}{ai:bv}{f1:p X}{eE:p (X×R)}{af:hf->aN}(S:ib d A O H ai o (f1.map .str,0,al))(gv:h8 O.scope inner (.Name z oh)=V)(slt:(inner.names.all λx=>x.2 !=.cell)=V)(pi:bb z=V)(pQ:∀iF,iF.scope=n_ inner O->∀o0,a0 d A iF o0 (af o0))(sc:f1.length≤900)(ni:f1.Nodup)(BF:p4 (λI o=>af (Pv (dU inner H) z (.str I)) j3 o) f1 al=j (eE,wE))(f8:bV O.scope c=V)(ys:O.scope.names.lookup c=j .local)(snd:(KB.line==h0.line)=V)(sol:(inner.names.any λ(m,k)=>m==c&&(k==.local ||k==.cell))=G):aW d A O (exec (.Assign [.Name c KB] (.DictComp (.Name z ju) j3 [⟨.Name z oh,ai,[],0⟩] inner h0) Pq) O) H o (.next,Pv H c (.cF eE),wE):=λa1 C W Z aj ap hm=>by
 have x5:qA (.DictComp (.Name z ju) j3 [⟨.Name z oh,ai,[],0⟩] inner h0) (j (.Name c KB)) Pq.line O=pure V:=by
  have cr:(O.blockKind==.function)=V:=by unfold TF;rw[aj.kind];rfl
  show(pure (O.blockKind==.function&&O.kindOf c==j .local&&KB.line==h0.line&&!(inner.names.any λ(z,k)=>z==c&&(k==.local ||k==.cell))):aP ga)=pure V;have xI:(O.kindOf c==j .local)=V:=by show(O.scope.names.lookup c==j .local)=V;rw[ys];decide
  rw[cr,xI,snd,sol];rfl
 rw[afI _ _ _ _ x5];refine g1 (fF (g1 ?_));refine g1 (M7 (M1 (oG:={cls:=.type "dict",dict:=bn,data:=.dict #[]}) (sW:=λe=>nH d e []) (vh:=λe=>nH d e eE) S gv nofun rfl (λh=>k2 h (by size_fits)) rfl (λh=>⟨[],⟨_,#[],0,h,⟨rfl,rfl,rfl⟩,rfl,λa rs=>aB rs (Array.not_mem_empty _),Pairs.nil,ui⟩,rfl,.nil⟩) nH.k codeAny_compStart_dict (λfd t aa Ns ap fw=>shl t lf (pQ _ fd) pi ?_ sc ni (ap.symm▸BF) Ns aa fw) λZ cr q=>?_) Z aj ap f8 λa y xz hc aw bG=>s2 (s2 (hm _ y xz hc aw bG .next)));·have ae:inner.names.lookup z=j .local:=((h8.of gv).AY z (.head _)).elim id λq=>Ts (show G=V from lO.mp slt _ (afz q));rw[fd];unfold bV;rw[show(n_ inner O).names.lookup z=j .local from afy ae];rfl
 ·exact q.elim λba q=>(MJ q.1 q.2.2).elim λbd U=>U.elim λne U=>⟨_,U.1,λB AT gt=>.cF (eo.mpr λg=>(Z.fs ds).elim λT I=>I.elim λbd I=>I.elim λWF I=>dJ.mpr (g▸cr:_≤mL) (zH (by decide:mL≤k0) (b1 I.1))) gt (cG.mono AT ((GT (List.zip · _) q.2.1).trans (Pn eE)▸U.2))⟩
theorem Pr(lf:zs au A)(aC:∀c,pq g O c=pure c)(sc:H1 n.length=V)(a7:bH d A O H (eval g O) o (.ah n,al)):ib d A O H g o (n,0,al):=by refine⟨aC,λa1 bP C W Z aj ap hm=>?_⟩;refine a7.seq Z aj ap λv nn Db cS Ok cm Pi=>?_;simp only at cm Pi;subst cm;refine wp.hG Pi λe L z AT f=>?_;exact AW lf (dj:=G) Db sc (.inl ⟨_,_,AT,by simpa using f⟩) λai lv Inv y xz aw bG np Ns bg=>hm ai lv Inv y xz (Ok.trans aw) bG np Ns λe h=>aJ Ok.size (bg e h)
end
structure Pt(d:sw)(t:kt)(e:X)(f:kt):Prop where
 get:zF d.K t e=V
 dict:J1 d.K t=V
 find:pj d.K (.ref t) e=j (j (.ref f))
 fn:isFn d.K (.ref f)=V
 desc:specialIn d.K (.ref f) "__get__"=j (j (.builtin "function.__get__"))
 ao:takesIn d.K (.ref f)=j G
 aab:copiedNames.contains e=G
section
variable{d:sw}{A:xs}{O:IN}{H:hf}
theorem src(ds:d.ab){e:X}{i:E}(f8:bb c=V)(Uf:H.lookup c=j (.am i))(np:o[i]?=j (.inst t s1))(ae:s1.lookup e=bn)(B:Pt d t e f):bH d A O H (eval (.Attribute (.Name c KB) e h0) O) o (.fI i f,o):=by
 intro a1 C W Z aj ap hm;have ig:=fx f8;show f4 d.M A (do
  let T <- eval (.Name c KB) O
  lM h0.atName
  let l <- pk [T] (wD T e V)
  J0 (.Name c KB) T l
  pure l) C a1 W.s
 refine g1 (jY (aj.load Uf ig.2.1 λv l=>g1 (fF (g1 (dF ?_)))) ig.1);refine wp.Gm l λx m bf=>?_;obtain⟨d',i9,q⟩:=Z.cells i _ (by rw[ap];exact np);rw[bf]at i9;cases i9;obtain⟨AT,bd,z,gt,i3⟩:=q;have Fh:W.B x=j (h6 t m):=AT;have A8:=Z.bw _ _ Fh;refine get_bind (Z.l7 ds) (xx A8 gt) (wF B.get).1 (findObj_fn B.dict B.find B.desc B.ao B.aab (by show lookIn e (Dh bd z)=_;rw[S8];rw[(i3.look e).2 ae])) (wF B.get).2 (n9 (fn_get (s:={W.s with toks:=W.s.toks+1}) (Z.l7 ds) (bt.mp B.fn) (handed_on rfl ?_)));refine g1 (s2 (s2 ?_));have Db:=Z.ao (u:=W.s.toks+1) (cu _);have Ok:kw d [] W (W.to {W.s with toks:=W.s.toks+1}):=kw.refl.ao (cu _);exact hm _ ((W.to {W.s with toks:=W.s.toks+1}).new (sA f (.ref x))) (Db.new rfl) (Ok.new Db _) ap (.fI (e:=x) (m:=m) bf (nb.uO _))
theorem stM(ds:d.ab)(cp:O.scope.isGenerator=G)(lf:zs au A){z:X}{i:E}{l:R×p ca}{xL:p R->p ca->Y (R×p ca)}(KM:bb I=V)(pi:bb z=V)(gl:fnIn d.K f=V)(F:x6 d au (.ref f) xL)(Uf:H.lookup I=j (.fI i f))(oN:H.lookup z=j r)(hK:d4 r o=j (r,o))(fd:xL [.am i,r] o=j l):bH d A O H (eval (.Call (.Name I py) [.Name z oh] [] h0) O) o l:=by intro a1 C W Z aj ap hm;have rh:=fx KM;have tu:=fx pi;rw[l'];refine g1 (jY (aj.load Uf rh.2.1 λv ay=>?_) rh.1);refine wp.EO ay λq e m bf AT=>?_;have wT:=Z.bw _ _ AT;refine qx (P:=MethP d.K q f (.ref e)) rfl (keeps_M gl) (l9 rfl ?_);refine ud (jY (aj.load oN tu.2.1 λg2 ma=>ue ⟨⟨wT,Z.l7 ds⟩,?_⟩) tu.1);obtain⟨u8,P3,Ix,bI,fN,pH⟩:=oy Z ma (by rw[ap];exact hK);rw[<- fN];have sEq:=P3.bw _ _ (Ix.B _ _ AT);refine n9 (method_call sEq ?_);exact F.call lf P3 ((aj.f' Ix).ak cp) (.am (m7 Ix.ag bf)) (.cons pH .nil) (by rw[bI];exact fd) λeH y xz aw bG jB=>hm eH y xz (Ix.trans aw) bG (.aq jB)
end
section
variable{A:xs}{R:kt}
theorem tan{z:E}{P:jq->nl->Prop}(ae:L.length≤1)(gt:s.heap.get? R=j (SL L.toArray z))(m:cA KF s)(lm:KF.heap.objs.size≤R)(h:∀it t,cA KF it->it.heap.get? R=j (SL L.toArray t)->(∀b T,b≠R->s.heap.get? b=j T->it.heap.get? b=j T)->P (.done (.ret .none)) it):f4 (aE prog w) A (Builtin.«list.sort» ⟨[.ref R],[]⟩) P a1 s:=by
 rw[list_sort_plain];have db:@jn E _ R s.heap.objs.size:=b1 gt;have ji:=lN s.heap R (dR λa=>(#[]:bD cd));obtain⟨SZ,vB⟩:∃SZ,(s.heap.update R (dR λa=>(#[]:bD cd))).get? R=j (SL #[] SZ):=⟨_,get?_update_seq gt λa=>#[]⟩;refine g1 (DN gt rfl ?_);refine g1 (zY gt rfl ?_ (by rw[jj,k6];left) (e6 _));refine g1 (KE vB rfl ?_);refine g1 (T4 ?_ (by show L.length≤_;rw[k6];left));refine g1 (KG ?_ (e6 _));refine dF ?_;have Hr:(((s.heap.update R (dR λa=>(#[]:bD cd))).push (hv "tuple" L.toArray 0)).push (hv "list" #[] 0)).get? R=j (SL #[] SZ):=cP _ (cP _ vB);have Hm:cA KF {s with heap:=((s.heap.update R (dR λa=>(#[]:bD cd))).push (hv "tuple" L.toArray 0)).push (hv "list" #[] 0)}:=((m.upd lm (dR λa=>(#[]:bD cd))).trans (cA.push _)).trans (cA.push (s:={s with heap:=(s.heap.update R (dR λa=>(#[]:bD cd))).push (hv "tuple" L.toArray 0)}) _);show f4 (aE prog w) A _ P a1 {s with heap:=((s.heap.update R (dR λa=>(#[]:bD cd))).push (hv "tuple" L.toArray 0)).push (hv "list" #[] 0)};dsimp only;have ex:L.toArray.size<2:=by rw[jj];left
 rw[tt ex,tt ex];refine g1 (s2 ?_);rw[ago];refine g1 (s2 ?_);dsimp only;refine g1 (KE Hr rfl ?_);have tok:(arrOf (SortSt.mk' general' (L.toArray.zip L.toArray) #[] 7 bn)).map (·.2)=L.toArray:=by rcases Ou ae with rfl|⟨v,rfl⟩<;>simp[arrOf]
 rw[tok];refine g1 (zY Hr rfl ?_ (e6 _) (by rw[jj,k6];left));simp only[zU,pg,n5];obtain⟨gy,yo⟩:=(⟨_,get?_update_seq Hr λa=>L.toArray⟩:∃gy,((((s.heap.update R (dR λa=>(#[]:bD cd))).push (hv "tuple" L.toArray 0)).push (hv "list" #[] 0)).update R (dR λa=>L.toArray)).get? R=j (SL L.toArray gy));exact s2 (h _ gy (Hm.upd lm _) yo λb T cr g=>(pv _ _ (Ne.symm cr)).trans (cP _ (cP _ ((ji.2 b cr).trans g))))
end
section
variable{d:sw}{A:xs}{O:IN}{H:hf}
theorem top(ds:d.ab)(lf:zs (au+4) A){n:p (X×R)}(f8:bb c=V)(p1:(bX.endLine==bF.line)=V)(Os:df O.scope "sorted"=V)(pc:d.mg "sorted"=bn)(Uf:H.lookup c=j (.cF n))(ae:n.length≤1):bH d A O H (eval (.Call (.Name "sorted" x) [.Call (.Attribute (.Name c KB) "items" bX) [] [] bF] [] h0) O) o (.ah (n.map λq=>.tup [.str q.1,q.2]),o):=by
 intro a1 C W Z aj ap hm;have ig:=fx f8;rw[l'];refine g1 (qV (ds:=ds) Z aj (by decide) Os pc boot_sorted (by decide) ?_);refine qx (P:=λh=>ha d (.builtin "sorted") h) rfl (λh gl=>gl) (l9 rfl ?_);refine ud (sQ (d:=d) rfl p1 (by simp) rfl (jY (aj.load Uf ig.2.1 λv l=>?_) ig.1));cases l with|aq l=>cases l with|@cF r bd z _ jG AT sT=>
 have hd:=Z.bw _ _ AT;obtain⟨ba,oP⟩:=sT.jC ae;obtain⟨Bv,Pu,ni,Hs⟩:=oP.pairs;have tk:W.h.DictAt (aG d.prog d.w) r ba z:=⟨_,_,hd,⟨rfl,rfl,rfl⟩,rfl,Bv,Pu,ni⟩;refine Tp (T:="dict") ⟨_,hd,rfl⟩ Tq KI agu (λe g=>by cases g;exact⟨_,hd,rfl⟩) ?_;refine J7 rfl (l9 rfl (ue ?_));refine Tg KI ⟨_,hd,rfl⟩ agv (agw _) (agx (aG d.prog d.w) r jG) ⟨⟨ba,_,_,_,hd,⟨rfl,rfl,rfl⟩,rfl,Bv,Pu,ni⟩,?_⟩;refine ue ⟨qZ _,?_⟩;let p6:cE:={cls:=.type "dict_items",data:=.fields #[.ref r]};let nn:nb:=W.to {W.s with heap:=W.h.push p6};have Db:nn.ab d:=Z.push p6;have Ok:kw d [] W nn:=kw.refl.push p6;show f4 d.M A (call (.builtin "sorted") [.ref W.h.objs.size] []) _ _ nn.s;refine call_function_entry kind_sorted plain_sorted entry_sorted (args_sorted1 _) ?_;unfold Builtin.«sorted»;refine g1 (m:=checkCount "sorted" 1 1 _) (s2 ?_);have Ht:nn.h.DictAt (aG d.prog d.w) r ba z:=tk.at' λT g=>cP _ g;have Hu:nn.h.IsItemsView W.h.objs.size r:=⟨p6,dK _ rfl,rfl,rfl⟩;refine g1 (fc (kdx_collect (A:=A.in1) (s:=nn.s) lf.handled Hu Ht (by rw[k6];left) λeg ao s5 gl has vD cT gQ=>?_));have hF:cA nn.s {nn.s with heap:=eg,toks:=ao}:=⟨⟨cT,λe T g a=>gl e T g,λa a g=>g,rfl,gQ⟩,rfl⟩;have Pw:(s5.map e9).length≤1:=by rw[aK,has];exact Hs
 refine g1 (KG ?_ (by rw[k6];left));have fT:(eg.push (hv "list" (s5.map e9).toArray 0)).get? eg.objs.size=j (SL (s5.map e9).toArray 0):=dK _ rfl;have tq:cA nn.s {nn.s with heap:=eg.push (hv "list" (s5.map e9).toArray 0),toks:=ao}:=hF.trans (cA.push (s:={nn.s with heap:=eg,toks:=ao}) _);refine g1 (dF (mW slot_list_sort ⟨_,fT,rfl⟩ entry_list_sort ?body (args_list_sort _)));case body=>
  refine tan (s:={nn.s with heap:=eg.push (hv "list" (s5.map e9).toArray 0),toks:=ao}) Pw fT tq cT λit t hO lp dz=>⟨_,rfl,?_⟩;refine s2 ⟨_,rfl,?_⟩;have P3:(nn.to it).ab d:=Db.av hO.toMv (cR) (by rw[hO.ge];exact Db.bare);have Ix:kw d [] W (nn.to it):=Ok.av hO.toMv cR;have oU:=Db.fresh cT;have Px:W.h.objs.size≤eg.objs.size:=aJ Ok.size cT;cases oP with
  |nil=>have toF:s5=[]:=zW has;subst toF;refine hm _ _ (P3.aq lp oU.2.1 oU.2.2) (Ix.aq (T:=SL #[] t) (.inl oU.1) Px) ap (.aq (.ah (L:=[]) (z:=t) (nb.hD ..) .nil))
  |@one g k u mq gl t1 bZ=>
   obtain⟨e,rfl⟩:=CY has;obtain⟨bR,jw,nc,SZ,bu,oT⟩:=vD.pairs 0 e rfl;cases SZ;obtain⟨u,rfl⟩:∃u,bR=.str k u:=by cases bR<;>first|exact⟨_,by rw[(aG d.prog d.w).inj _ _ _ bu (gI d.prog d.w _ _)]⟩|(cases bu)
   have db:nn.h.objs.size≤e:=jp (vD.above e (.head _));have aC:e≠eg.objs.size:=ep (b1 oT);have E7:it.heap.get? e=j (d3 [j1 k u,g.val].toArray 0):=dz e _ aC (cP _ oT);have mc:=Db.fresh db;have cy:=P3.aq E7 mc.2.1 mc.2.2;have bL:=Ix.aq (T:=d3 [j1 k u,g.val].toArray 0) (.inl mc.1) (aJ Ok.size db);have Py:((nn.to it).aq e (d3 [j1 k u,g.val].toArray 0)).B eg.objs.size=bn:=by show(if eg.objs.size=e then _ else nn.B eg.objs.size)=bn;rw[ss (Ne.symm aC)];exact oU.1
   have gS:=cy.aq (e:=eg.objs.size) (T:=SL [e9 e].toArray t) lp oU.2.1 oU.2.2;have fh:=bL.aq (T:=SL [e9 e].toArray t) (.inl Py) Px;refine hm _ _ gS fh ap (.aq (.ah (L:=[.ref e]) (z:=t) (nb.hD ..) (.one (.tup (L:=[.str k u,g.val]) (z:=0) (nb.g_ (.inl Py) _ _ (nb.hD ..)) (.two (.str _ _) ?_)))));exact fh.bZ bZ
end
section
variable{d:sw}{A:xs}
theorem zs.made{z:E}(e:zs (z+1) A){rest:p cd}{e5:p (X×cd)}:zs z (A.under (.builtin "type.__call__" ⟨.ref t::rest,e5⟩)):=⟨e.handled,by
  have:=e.depth;have g:(A.under (.builtin "type.__call__" ⟨.ref t::rest,e5⟩)).depth=A.depth+(zG "type.__call__" ⟨.ref t::rest,e5⟩).weight:=rfl;have bu:(zG "type.__call__" ⟨.ref t::rest,e5⟩).weight=1:=by kernel_rfl
  left,by
  have:=e.units;have g:(A.under (.builtin "type.__call__" ⟨.ref t::rest,e5⟩)).units=A.units+(zG "type.__call__" ⟨.ref t::rest,e5⟩).cUnits:=rfl;have bu:(zG "type.__call__" ⟨.ref t::rest,e5⟩).cUnits=1:=by kernel_rfl
  left⟩
noncomputable def nb.rp(W:nb)(t:kt):nb:=((W.to {W.s with heap:=W.h.push sj}).new (h6 t W.h.objs.size)).cell (W.h.objs.size+1,W.h.objs.size) (.inst t [])
theorem toG:(W.rp t).s={W.s with heap:=(W.h.push sj).push (instObj t W.h.objs.size)}:=rfl
theorem Pz(Z:W.ab d):(W.rp t).ab d/\kw d [] W (W.rp t)/\(W.rp t).o=W.o++[.inst t []]/\(W.rp t).B (W.h.objs.size+1)=j (h6 t W.h.objs.size)/\(W.rp t).ag=W.ag++[(W.h.objs.size+1,W.h.objs.size)]:=by
 have Db:=Z.push sj;have Ok:kw d [] W (W.to {W.s with heap:=W.h.push sj}):=kw.refl.push _;have P3:=Db.new (T:=h6 t W.h.objs.size) rfl;have Ix:=Ok.new Db (h6 t W.h.objs.size);have f:=Z.fresh (Da W.h.objs.size);have AT:((W.to {W.s with heap:=W.h.push sj}).new (h6 t W.h.objs.size)).B (W.h.objs.size+1)=j (h6 t W.h.objs.size):=by have:=nb.uO (W:=W.to {W.s with heap:=W.h.push sj}) (h6 t W.h.objs.size);have g:(W.to {W.s with heap:=W.h.push sj}).h.objs.size=W.h.objs.size+1:=f6 ..;rwa [g]at this
 refine⟨P3.cell ⟨AT,[],0,?_,.nil⟩ λa=>⟨f.2.1,?_,f.2.2⟩,Ix.cell P3 (Da _),rfl,AT,rfl⟩;·show((W.h.push sj).push (h6 t W.h.objs.size)).get? W.h.objs.size=_;exact cP _ (dK _ rfl)
 ·show(if W.h.objs.size=(W.h.push sj).objs.size then _ else W.B W.h.objs.size)=bn;rw[ss (by rw[f6];exact ep (gp _))];exact f.1
structure BG(d:sw)(t f:kt):Prop where
 makes:makesIn d.K t=V
 init:pj d.K (.ref t) "__init__"=j (j (.ref f))
 fn:typeIn d.K (.ref f)=j (.type "function")
theorem PA(ds:d.ab)(Z:W.ab d)(a2:BG d t f){rest:p cd}{e5:p (X×cd)}(h:iV d.M (A.under (.builtin "type.__call__" ⟨.ref t::rest,e5⟩)) (.call (.ref f) ⟨.ref (W.h.objs.size+1)::rest,e5⟩) (InitBack (W.h.objs.size+1) wf) (W.rp t).s):iV d.M A (.call (.ref t) ⟨rest,e5⟩) wf W.s:=by have sK:=Z.l7 ds;rw[toG]at h;obtain⟨ag,o,B,⟨t1,gF,r,u,os⟩,N,ak⟩:=W;exact make_core (makes_of sK a2.makes) (looks_findIn sK a2.init) (λaeK=>bind_fn sK aeK a2.fn) (.inl rfl) h
@[elab_as_elim] theorem PB{N:Type}{P:R->Prop}{c:Y N}{l:N}(h:pp (r.ctorIdx==0) c=j l)(a2:c=j l->P .none):P r:=Gt h λq h=>@R.none.elim P r (eq_of_beq q) (a2 h)
noncomputable def oV(t:kt)(xL:p R->p ca->Y (R×p ca))(g3:p R):Y R:=s4 (xL (.am 0::g3) [.inst t []]) λr o=>pp (r.ctorIdx==0) ((d4 (.am 0) o).map (·.1))
theorem toK(ds:d.ab)(a2:BG d t f)(gl:jm d.K (.ref t)=V){xL:p R->p ca->Y (R×p ca)}(F:x6 d au (.ref f) xL):j7 d (au+1) (.ref t) (oV t xL) where
 keep:=λds Z=>sO ds Z gl
 call:=by
  intro A lf a1 C W L g3 r Z fg bZ h hm
  refine b8 h λhi Hv fd h=>Gt h λhd h=>d0 (P:=λr=>(∀v y,y.ab d->kw d [] W y->y.o=W.o->x0 d y.B v r->C v y.s)->f4 d.M A (call (.ref t) L) C a1 W.s) h (λU sc hm=>?_) hm
  have PC:=Z.region
  obtain⟨Db,Ok,cm,ahN,xy⟩:=Pz PC (t:=t)
  refine n9 (PA (W:=W.A_) ds PC a2 ?_)
  refine F.call (a1:=λg it=>a1 g it) (lf.made) Db (Ok.gens.ak.trans fg) (.am (i:=0) (e:=W.h.objs.size+1) (m:=W.h.objs.size) (by rw[xy];rfl)) (Ok.oo bZ) (by rw[cm];exact fd) λeH y xz aw bG jB=>?_
  have FB:eH=.none:=PB (P:=λr=>x0 d y.B eH r->eH=.none) (Re hd:pp (hi.ctorIdx==0) (j ())=j ()) (λa f=>f.i) jB
  subst FB
  refine⟨rfl,?_⟩
  have ay:wp d y.B y.ag (.ref (W.h.objs.size+1)) (.am 0):=.am (m7 aw.ag (by rw[xy];rfl))
  obtain⟨ZB,cy,bL,eY,oA,pL⟩:=oy xz ay ((show y.o=Hv from bG).symm▸sc)
  obtain⟨gS,fh⟩:=NG Z cy ((Ok.trans aw).trans bL)
  have bR:=hm (.ref (W.h.objs.size+1)) (ZB.back W) gS fh rfl pL
  rw[<- oA]
  exact bR
end
theorem toN:Slot "method_descriptor" "__get__" "method_descriptor.__get__":=.of (owner:="method_descriptor") (n:="__get__") (by rw[sf,sg];kernel_rfl) (by decide+kernel) (by decide+kernel) (by decide+kernel) (by first|exact .inl (by decide+kernel)|exact .inr (by decide+kernel)) (by rw[ua];kernel_rfl)
theorem toS:us ut "method_descriptor.__get__"=j Builtin.«method_descriptor.__get__»:=TS (by kernel_rfl)
theorem toT(e b t:cd):uw "method_descriptor.__get__" ⟨[e,b,t],[]⟩:=by unfold uw;kernel_rfl
theorem PD:typeOf (.builtin "list.append")=pure (.type "method_descriptor"):=by show builtinType _=_;rw[builtinType_eq_fast];kernel_rfl
theorem toU:wV (.type "list") "append"=pure (j (.builtin "list.append")):=by rw[sf,sg];kernel_rfl
theorem toV:wV (.type "method_descriptor") "__get__"=pure (j (.builtin "method_descriptor.__get__")):=by rw[sf,sg];kernel_rfl
theorem to2:wV (.type "method_descriptor") "__set__"=pure bn:=by rw[sf,sg];kernel_rfl
theorem to3:wV (.type "method_descriptor") "__delete__"=pure bn:=by rw[sf,sg];kernel_rfl
theorem txt:Manifest.toldItsClass.contains "list.append"=G:=by decide+kernel
theorem typ:(kfb_private%"nameAndClass") (.builtin "list.append")=(pure ((("append":X),k3 "list"):X×cd):aP (X×cd)):=by first|rfl|kernel_rfl
section
variable{Ch:iw}{A:xs}
theorem tys{f1:bD cd}{k:E}{P:jq->nl->Prop}(gt:s.heap.get? e=j (SL f1 k))(h:P (.done (.ret (.ref s.heap.objs.size))) {s with heap:=s.heap.push (lZ (.builtin "list.append") (.ref e))}):f4 Ch A (Builtin.«method_descriptor.__get__» ⟨[.builtin "list.append",.ref e,.type "list"],[]⟩) P a1 s:=by
 unfold Builtin.«method_descriptor.__get__»;refine g1 (qw (a:=(.builtin "list.append",j (.ref e),j (.type "list"))) (by first|rfl|kernel_rfl) ?_);dsimp only;rw[ss (by rw[txt];decide)]
 show f4 Ch A ((do
  let(name,qm) <- (kfb_private%"nameAndClass") (.builtin "list.append")
  if !(<- isInstance (.ref e) qm)then
   rule "descr.get.wrong-instance"
   raiseError "TypeError" s!"descriptor '{name.toString}' for '{← typeName qm}' objects doesn't apply to a '{← typeNameOf (.ref e)}' object")>>=λa=>Km "builtin_function_or_method" [.builtin "list.append",.ref e]>>=λv=>ret v) P a1 s
 rw[typ];refine g1 (g1 (s2 ?_));dsimp only;refine g1 (wG (T:="list") (b:=V) ⟨_,gt,rfl⟩ (by rw[ua];kernel_rfl) ?_);refine s2 ?_;exact g1 (k2 (s2 h))
end
theorem tyB(e:kt)(f1:bD cd)(k:E)(g2:be):Dm (Builtin.«object.__getattribute__» ⟨[.ref e,.str "append" g2],[]⟩) (λA wf s=>s.heap.get? e=j (SL f1 k)/\wf (.ok (.ret (.ref s.heap.objs.size))) {s with heap:=s.heap.push (lZ (.builtin "list.append") (.ref e))}):=Meets.of_wp λprog w A wf s fd=>by
  obtain⟨ln,d,r,ao,os⟩:=s;obtain⟨f8,fd⟩:=fd;have bM:(⟨ln,d,r,ao,os⟩:nl).TypeIs (.ref e) "list":=⟨_,f8,rfl⟩;have ir:=toU;have iu:=toV;have O2:=PD;have aeL:=to2;have ahO:=to3;unfold Builtin.«object.__getattribute__»;repeat (any_goals (first|assumption|((with_reducible show f4 _ _ (call (agy "method_descriptor.__get__") _ _) _ _ _);refine mW toN PD toS (tys f8 ⟨_,rfl,?_⟩) (toT _ _ _))|wp_step))
  exact⟨_,rfl,fd⟩
section
variable{A:xs}
theorem tyP{f1:bD cd}{k:E}(f8:s.heap.get? e=j (SL f1 k))(h:C (.ref s.heap.objs.size) {s with heap:=s.heap.push (lZ (.builtin "list.append") (.ref e)),toks:=s.toks+1}):f4 (aE prog w) A (wD (.ref e) "append" V) C a1 s:=by
 obtain⟨ln,d,r,ao,os⟩:=s;have bM:∀ule,(⟨ln,d,r,ule,os⟩:nl).TypeIs (.ref e) "list":=λa=>⟨_,f8,rfl⟩;have O2:=T_.lookup;have aeL:=T_.bind (.ref e);unfold wD getAttrBy;repeat (any_goals (first|assumption|exact bM _|((with_reducible show f4 _ _ (call (agy "list.__getattribute__") _ _) _ _ _);refine r3 T_ (bM _) am_entry_list_getattribute (F.args_list_getattribute_2 _ _) (tyB e f1 k _) ⟨f8,?_⟩)|wp_step))
 all_goals exact s2 h
end
section
variable{d:sw}{A:xs}{O:IN}{H:hf}
theorem ulp{i:E}(f8:bb c=V)(Uf:H.lookup c=j (.am i))(np:o[i]?=j (.list n)):bH d A O H (eval (.Attribute (.Name c KB) "append" h0) O) o (.app i,o):=by
 intro a1 C W Z aj ap hm;have ig:=fx f8;show f4 d.M A (do
  let T <- eval (.Name c KB) O
  lM h0.atName
  let l <- pk [T] (wD T "append" V)
  J0 (.Name c KB) T l
  pure l) C a1 W.s
 refine g1 (jY (aj.load Uf ig.2.1 λv l=>g1 (fF (g1 (dF ?_)))) ig.1);refine wp.Gm l λx m bf=>?_;obtain⟨d',i9,q⟩:=Z.cells i _ (by rw[ap];exact np);rw[bf]at i9;cases i9;obtain⟨g,L,z,gt,bZ⟩:=q;have aT:x=m:=g;subst aT;refine tyP gt ?_;refine g1 (s2 (s2 ?_));have Db:=Z.ao (u:=W.s.toks+1) (cu _);have Ok:kw d [] W (W.to {W.s with toks:=W.s.toks+1}):=kw.refl.ao (cu _);exact hm _ ((W.to {W.s with toks:=W.s.toks+1}).new (lZ (.builtin "list.append") (.ref x))) (Db.new rfl) (Ok.new Db _) ap (.app (e:=x) (m:=x) bf (nb.uO _))
end
structure Hw(d:sw)(au:E)(f:kt)(e5:X)(xL:R->R->E->p ca->Y (p ca)):Prop where
 call:∀{A:xs},zs au A->∀{a1:cd->nl->Prop} {C:cd->nl->Prop} {W:nb} {c I U:cd} {i:E} {yw mu:R} {wE:p ca},W.ab d->W.ak=V->wp d W.B W.ag c (.am i)->wp d W.B W.ag I yw->wp d W.B W.ag U mu->xL yw mu i W.o=j wE->
  (∀y,y.ab d->kw d [] W y->y.o=wE->C .none y.s)->iV d.M A (.call (.ref f) ⟨[c,I],[(e5,U)]⟩) (wants C a1) W.s
noncomputable def Hx(J:Sc)(z:E)(bs:KT)(body:p wP)(he:p X)(C2:p R)(yw mu:R)(i:E)(o:p ca):Y (p ca):=s4 (pV J z bs body he (.am i::yw::(C2++[mu])) o) λr o=>pp (r.ctorIdx==0) (j o)
section
variable{d:sw}{J:Sc}{A:xs}{O:IN}{H:hf}
theorem ult(ds:d.ab)(Ps:∀A lw,zs (J.au+8) A->gw d J A (cQ GE lw e)){he:p X}(bJ:j_ d e GE body he){z:E}{e5:X}{sR:p cd}{C2:p R}(unq:∀B:aX,(∀e T,d.az.get? e=j T->B e=j T)->Is d B sR C2)(aV:sR.length+3=he.length)(fR:∀{W:nb},W.ab d->∀c I U:cd,∀(A:xs) (P:p (X×cd)->nl->Prop) (a1:cd->nl->Prop),P (he.zip (c::I::(sR++[U]))) W.s->f4 d.M A (k7 GE ⟨[c,I],[(e5,U)]⟩) P a1 W.s):
  Hw d (J.au+9) e e5 (Hx J z GE.scope body he C2) where
 call:=by
  intro A lf a1 C W c I U i yw mu wE Z fg x7 ups uri h hm
  refine b8 h λhi Hv nw h=>Gt h λhd h=>?_
  have var:∀{L:p cd} {g3:p R},cn d W.B W.ag L g3->cn d W.B W.ag (L++[U]) (g3++[mu]):=by
   intro L g3 l
   induction l with
   |nil=>exact .cons uri .nil
   |cons h _ ih=>exact .cons h ih
  exact Gh ds Ps bJ lf Z fg (by simp only[iW,ct,Kw];left) (fR Z c I U) (.cons x7 (.cons ups (var (Is.xa (unq _ Z.base))))) nw λv y xz aw bG jB=>
   (show v=.none from PB (P:=λr=>x0 d y.B v r->v=.none) (Re hd:pp (hi.ctorIdx==0) (j ())=j ()) (λa f=>f.i) jB)▸hm y xz aw ((show y.o=Hv from bG).trans (aO h))
theorem vec(ds:d.ab)(cp:O.scope.isGenerator=G)(lf:zs (au+1) A)(a2:BG d t f)(gl:jm d.K (.ref t)=V){e5:X}{xL:R->R->E->p ca->Y (p ca)}(F:Hw d au f e5 xL){qm:X}{af:aN}(vEq:a0 d A O H af){i:E}{mu:R}(Os:df O.scope qm=V)(h_:(qm==("__debug__":X))=G)(pc:d.mg qm=j (.ref t))(f8:bb c=V)(Uf:H.lookup c=j (.am i))(np:o[i]?=j (.list n))(rs:af g o=j (mu,al))(fd:xL (.app i) mu al.length (al++[.inst t []])=j wE):bH d A O H (eval (.Call (.Name qm x) [.Attribute (.Name c KB) "append" bX] [⟨j e5,g,ju⟩] h0) O) o (.am al.length,wE):=by
 intro a1 C W Z aj ap hm;show f4 d.M A (do wL h0 (<- eval (.Name qm x) O) [] (iy h0 (ht [.Attribute (.Name c KB) "append" bX] O)) (Tj h0 (Tn [⟨j e5,g,ju⟩] O))) C a1 W.s;refine g1 (sL (ds:=ds) Z aj h_ Os pc ?_);refine qx (P:=λh=>ha d (.ref t) h) rfl (λh gl=>gl) ?_;refine evalArgs_kw rfl ?_;refine((ulp f8 Uf np).seq Z aj ap λg2 nn Db cS Ok cm Pi=>?_);refine T1 (g1 ((vEq _ _ _ rs).seq Db cS cm λU u8 P3 dO Ix bI eI=>g1 (fF (s2 (T2 ⟨sO ds P3 gl,?_⟩)))));show f4 d.M A (call (.ref t) [g2] [(e5,U)]) _ _ u8.s;obtain⟨v10,BH,v11,ahP,v20⟩:=Pz P3 (t:=t);refine n9 (PA ds P3 a2 ?_);have ae:(u8.rp t).ag[al.length]?=j (u8.h.objs.size+1,u8.h.objs.size):=by
  rw[v20];have SZ:u8.ag.length=al.length:=by rw[P3.len,bI]
  rw[<- SZ];simp
 refine F.call (a1:=λg it=>a1 g it) lf.made v10 ((Ok.trans (Ix.trans BH)).gens.ak.trans (aj.ak cp)) (.am ae) ((Ix.trans BH).ay Pi) (BH.ay eI) (by rw[v11,bI];exact fd) λy xz aw bG=>?_;exact⟨rfl,hm _ y xz (Ok.trans (Ix.trans (BH.trans aw))) bG (.am (m7 aw.ag ae))⟩
end
section
variable{d:sw}{A:xs}{O:IN}{H:hf}
structure PE(d:sw)(B:aX)(bd:p f5)(n:p (X×R))(ba:p (X×cd)):Prop where
 keys:∀g∈bd,∃k,(aG d.prog d.w).is k g.key=V/\g.hash=(aG d.prog d.w).hash k
 pairs:C_ (aG d.prog d.w) bd ba
 names:ba.map (·.1)=n.map (·.1)
 at_:∀(ev:E) k v,ba[ev]?=j (k,v)->∃mq,n[ev]?=j (k,mq)/\x0 d B v mq
theorem v30{B:aX}{n:p (X×R)}(l:cG d B bd n):∃ba,PE d B bd n ba:=l.ind (P:=λbd n=>∃ba,PE d B bd n ba) ⟨[],λg rs=>aB rs r_,.nil,rfl,λev k v h=>a' (List.getElem?_nil.symm.trans h)⟩ λ{g c u r bd n} gl t1 bZ a ih=>ih.elim λba q=>
  have np:(aG d.prog d.w).is c g.key=V:=gl▸gI _ _ _ _
  ⟨(c,g.val)::ba,λaT rs=>(cq.mp rs).elim (λU=>U▸⟨c,np,t1⟩) (q.keys aT),.cons np rfl q.pairs,GT (c::·) q.names,λev=>by cases ev with|zero=>exactλk v h=>by cases h;exact⟨r,rfl,bZ⟩|succ ev=>exact q.at_ ev⟩
inductive nI(d:sw)(W:nb)(lo:E):p kt->p (X×R)->Prop|nil:nI d W lo [] []|cons {e:kt} {k:X} {u:be} {v:cd} {mq:R} {s5:p kt} {n:p (X×R)}:W.h.get? e=j (d3 [j1 k u,v].toArray 0)->x0 d W.B v mq->lo≤e->nI d W lo s5 n->nI d W lo (e::s5) ((k,mq)::n)
inductive PF(d:sw)(un W:nb)(s5:p kt)(n:p (X×R)):Prop|mk (y:nb) (Z:y.ab d) (le:kw d [] un y) (aH:y.aH=un.aH) (fd:y.s=W.s) (ap:y.o=W.o) (B:∀e T,W.B e=j T->y.B e=j T) (aiF:∀e,e∉s5->y.B e=W.B e) (f:Is d y.B (s5.map e9) (n.map λq=>.tup [.str q.1,q.2])):PF d un W s5 n
theorem nI.mono{lo:E}{s5:p kt}{n:p (X×R)}(h:y.h=W.h)(AT:∀e T,W.B e=j T->y.B e=j T)(l:nI d W lo s5 n):nI d y lo s5 n:=l.rec (motive:=λs5 n a=>nI d y lo s5 n) .nil λh1 ex h3 a ih=>.cons (h.symm▸h1) (ex.mono AT) h3 ih
theorem way{lo:E}(GZ:un.h.objs.size≤lo)(pc:∀e,lo≤e->e∉un.aH/\e≠d.tab){s5:p kt}:∀{n:p (X×R)} {W:nb},W.ab d->kw d [] un W->W.aH=un.aH->nI d W lo s5 n->PF d un W s5 n:=by
 induction s5 with
 |nil=>intro n W Z le hE l;cases l;exact⟨W,Z,le,hE,rfl,rfl,λa a g=>g,λa a=>rfl,.nil⟩
 |cons e s5 ih=>
  intro n W Z le hE l;cases l with
  |@cons _ k u v mq _ n db bZ ae l=>
   have z:=pc e ae;have AT:W.B e=bn\/W.B e=j (d3 [j1 k u,v].toArray 0):=by cases g:W.B e with|none=>exact .inl rfl|some x=>exact .inr ((Z.bw e x g).symm.trans db)
   obtain⟨y,xz,aw,why,e0,bG,Hy,wit,jB⟩:=ih (Z.aq db (hE.symm▸z.1) z.2) (le.aq (T:=d3 [j1 k u,v].toArray 0) AT (aJ GZ ae)) hE (nI.mono (W:=W) rfl (nb.g_ AT) l);exact⟨y,xz,aw,why,e0,bG,λb T g=>Hy _ _ (nb.g_ AT _ _ g),λb cr=>(wit b λq=>cr (.tail _ q)).trans (ss λq:b=e=>cr (q▸.head _)),.cons (.tup (L:=[.str k u,v]) (z:=0) (Hy _ _ (nb.hD ..)) (.two (.str _ _) (bZ.mono λb T g=>Hy _ _ (nb.g_ AT _ _ g)))) jB⟩
theorem wCs(ds:d.ab){z:E}(lf:zs z A){n:p (X×R)}(f8:df O.scope c=V)(h_:(c==("__debug__":X))=G)(p1:(bX.endLine==bF.line)=V)(Os:df O.scope "list"=V)(pc:d.mg "list"=bn)(wEo:E4 d c (.cF n))(ni:(n.map (·.1)).Nodup)(ae:n.length≤1000):bH d A O H (eval (.Call (.Name "list" x) [.Call (.Attribute (.Name c KB) "items" bX) [] [] bF] [] h0) O) o (.ah (n.map λq=>.tup [.str q.1,q.2]),o):=by
 intro a1 C W Z aj ap hm;rw[l'];refine g1 (qV (ds:=ds) Z aj (by decide) Os pc (v:=.type "list") (by decide+kernel) (by decide) ?_);refine qx (P:=λh=>ha d (.type "list") h) rfl (λh gl=>gl) (l9 rfl ?_);obtain⟨VG,wEs,gf⟩:=wEo;refine ud (sQ (d:=d) rfl p1 (by simp) rfl (sL (ds:=ds) Z aj h_ f8 wEs ?_));have l:=gf W.B Z.base;refine x0.ov l λr bd z jG AT sT=>?_;have hd:=Z.bw _ _ AT;obtain⟨ba,hC,eX,la,Hz⟩:=v30 sT;have Hs:ba.length=n.length:=by have:=GT pl la;simpa using this
 have tk:W.h.DictAt (aG d.prog d.w) r ba z:=⟨_,_,hd,⟨rfl,rfl,rfl⟩,rfl,λg rs=>hC g (by simpa using rs),by simpa using eX,by rw[la];exact ni⟩;refine Tp (T:="dict") ⟨_,hd,rfl⟩ Tq KI agu (λe g=>by cases g;exact⟨_,hd,rfl⟩) ?_;refine J7 rfl (l9 rfl (ue ?_));refine Tg KI ⟨_,hd,rfl⟩ agv (agw _) (agx (aG d.prog d.w) r jG) ⟨⟨ba,tk.dictOf⟩,?_⟩;refine ue ⟨q0 _,?_⟩;let p6:cE:={cls:=.type "dict_items",data:=.fields #[.ref r]};let nn:nb:=W.to {W.s with heap:=W.h.push p6};have Db:nn.ab d:=Z.push p6;have Ok:kw d [] W nn:=kw.refl.push p6;show f4 d.M A (call (.type "list") [.ref W.h.objs.size] []) _ _ nn.s;have Ht:nn.h.DictAt (aG d.prog d.w) r ba z:=tk.at' λT g=>cP _ g;have Hu:nn.h.IsItemsView W.h.objs.size r:=⟨p6,dK _ rfl,rfl,rfl⟩;refine fc (kdx_call (A:=A) (s:=nn.s) lf.handled Hu Ht (by rw[k6];left) λeg ao acc t s5 gl dy aV vD yn cT gQ=>?_);have hF:Mv [] nn.s {nn.s with heap:=eg,toks:=ao}:=⟨cT,λe T g a=>gl e T g,λa a g=>g,rfl,gQ⟩;have P3:=Db.av hF (cR) Db.bare;have Ix:=Ok.av hF (cR);have oF:∀e,nn.h.objs.size≤e->e∉W.aH/\e≠d.tab:=λe db=>⟨(Db.fresh db).2.1,(Db.fresh db).2.2⟩;have wHs:nI d (nn.to {nn.s with heap:=eg,toks:=ao}) (nn.h.objs.size+1) s5 n:=by
  have bR:∀(vE:p kt) (bo:p (X×R)) (i:E),vE.length=bo.length->(∀ev,vE[ev]?=s5[i+ev]?)->(∀ev,bo[ev]?=n[i+ev]?)->nI d (nn.to {nn.s with heap:=eg,toks:=ao}) (nn.h.objs.size+1) vE bo:=by
   intro vE;induction vE with
   |nil=>intro bo i ae _ _;cases bo with|nil=>exact .nil|cons _ _=>simp at ae
   |cons e vE ih=>
    intro bo i ae h1 ex;cases bo with
    |nil=>simp at ae
    |cons q bo=>
     have db:s5[i]?=j e:=by have:=h1 0;simpa using this.symm
     have wT:n[i]?=j q:=by have:=ex 0;simpa using this.symm
     obtain⟨bR,jw,nc,SZ,bu,oT⟩:=vD.pairs i e db;obtain⟨mq,PG,bZ⟩:=Hz i jw nc SZ;rw[wT]at PG;cases PG;obtain⟨u,rfl⟩:∃u,bR=.str jw u:=by cases bR<;>first|exact⟨_,by rw[(aG d.prog d.w).inj _ _ _ bu (gI d.prog d.w _ _)]⟩|(cases bu)
     have p3:nn.h.objs.size<e:=vD.above e (Dx db);exact .cons oT bZ p3 (ih bo (i+1) (by simpa using ae) (λev=>by have:=h1 (ev+1);rw[KJ]at this;rw[this];congr 1;left) (λev=>by have:=ex (ev+1);rw[KJ]at this;rw[this];congr 1;left))
  exact bR s5 n 0 (aV.trans Hs) (λev=>by rw[jZ]) (λev=>by rw[jZ])
 obtain⟨ZB,cy,bL,wKs,oA,eY,_,wPo,pL⟩:=way (un:=W) (lo:=nn.h.objs.size+1) (aJ Ok.size (cu _)) (λe db=>oF e (zX db)) P3 Ix rfl wHs;have wPs:ZB.h.get? nn.h.objs.size=j (SL (s5.map e9).toArray t):=by
  show ZB.s.heap.get? _=_;rw[oA];have:acc=(s5.map e9).toArray:=by rw[<- yn]
  rw[<- this];exact dy
 have pi:nn.h.objs.size∉s5:=λq=>aB (vD.above _ q) (lQ _);have PH:ZB.B nn.h.objs.size=bn:=by rw[wPo _ pi];exact(Db.fresh (Da _)).1
 have gS:=cy.aq wPs (by rw[wKs];exact(oF _ (Da _)).1) (oF _ (Da _)).2;have fh:=bL.aq (T:=SL (s5.map e9).toArray t) (.inl PH) Ok.size;have bR:=hm (.ref nn.h.objs.size) (ZB.aq nn.h.objs.size (SL (s5.map e9).toArray t)) gS fh (eY.trans ap) (.aq (.ah (nb.hD ..) (Is.mono (nb.g_ (.inl PH)) pL)));rw[nb.VE,oA]at bR;exact bR
open Classical in
theorem a0.plus{af:aN}(a2:a0 d A O H af){tv:bv}{hi:R}(h:∀o,bH d A O H (eval tv O) o (hi,o)):a0 d A O H (λg o=>if g=tv then j (hi,o)else af g o):=by
 intro g o l rs;dsimp only at rs;split at rs;·rename_i q;subst q;cases rs;exact h o
 ·exact a2 g o l rs
noncomputable def PI(J:Sc)(z:E)(bs:KT)(T:bv)(m:X)(hi:R)(H:hf)(o:p ca):Y (hf×p ca):=s4 (sB J z bs T H o) λr al=>b9 (ow J r m al) λk=>(fb J k r m [hi] al).map λl=>(H,l.2)
open Classical in
theorem wSs{J:Sc}(ds:d.ab)(Ps:CtxOk d J)(lf:zs (J.au+8) A)(cp:O.scope.isGenerator=G){z:E}{T tv:bv}{m:X}{G1:wS}{hi:R}(aC:T≠tv)(pi:jz T=V)(fd:jU tv=V)(ae:(bX.endLine==h0.line)=V)(az:∀o,bH d A O H (eval tv O) o (hi,o))(h:PI J z O.scope T m hi H o=j (o0,wE)):aW d A O (exec (.Expr (.Call (.Attribute T m bX) [tv] [] h0) G1) O) H o (.next,o0,wE):=b8 h λr al h1 h=>dd h λk gl h=>gK h λl nw g=>kr g (F3 (l:=l) rfl (MH ds Ps.toCxOk lf (a0.plus (nq ds Ps lf z O H).1 az) ((Re ae).trans ((Re rfl).trans ((Re pi).trans ((Re (by rw[cp];rfl)).trans ((Op ((ss aC).trans h1)).trans ((eS gl).trans ((Op ((Re fd).trans ((Op (tt rfl)).trans rfl))).trans nw)))))))))
end
noncomputable def tw{N:Type}(r:Data)(k:zx->N)(U:N):N:=if h:r.ctorIdx=7 then Data.func.elim r h k else U
noncomputable def fdOf(K:dY)(e:kt):zx:=eF (K.lookup e) (λT=>tw T.data id default) default
noncomputable def PJ(b:FuncBody):p wP:=b.rec id λa=>[]
noncomputable abbrev c0(GE:zx):p wP:=PJ GE.body
noncomputable def b2(GE:zx):p X:=(GE.params.args++GE.params.kwonlyargs).map (·.arg)
noncomputable abbrev fZ:E:=40
@[irreducible] noncomputable def a8(J:Sc)(K:dY)(e:kt)(cK:p R):p R->Y R:=Ba J fZ (fdOf K e).scope (c0 (fdOf K e)) (b2 (fdOf K e)) cK
@[irreducible] noncomputable def cU(J:Sc)(K:dY)(e:kt)(cK:p R):p R->p ca->Y (R×p ca):=s_ J fZ (fdOf K e).scope (c0 (fdOf K e)) (b2 (fdOf K e)) cK
noncomputable def PK(g3:p R):Y R:=bY g3 λr=>h4 r λn=>b9 (pG n) λf1=>pp (Dt f1.length 1000) (j (.set (f1.foldl eK [])))
noncomputable def yx(t:kt)(e:X):ga:=(t==121&&(["raw","n","nt","norm","is_simple"]:p X).contains e) ||(t==237&&(["_write","_data","_with_comments","_strip_text","_exclude_attrs","_exclude_tags","_rewrite_prefixes","_qname_aware_tags","_find_qname_aware_attrs","_declared_ns_stack","_ns_stack","_prefix_map","_preserve_space","_pending_start","_root_seen","_root_done","_ignored_depth"]:p X).contains e)
noncomputable def HA(r:R):ga:=oi r (λn=>n.isEmpty) G
noncomputable def PL(n:p R):Y R:=qJ n λr f1=>h4 r λk=>bY k λu=>pp (f1.all HA) (j u)
theorem wTs{u:R}(h:PL n=j u):∃f1,n=.ah [u]::f1/\f1.all HA=V:=qK h λa f1 h=>qN h λa h=>d2 h λa h=>Gt h λq h=>aQ h ⟨f1,rfl,q⟩
noncomputable def wTP(H:hf)(o:p ca):Y (p R×p ca):=lY (H.lookup ("self":X)) λi=>Ew o[i]? 237 λs1=>kq (s1.lookup ("_iter_namespaces":X))<|lY (s1.lookup ("_declared_ns_stack":X)) λev=>k_ o[ev]? λn=>(PL n).map λu=>([u],o)
noncomputable def xor(c:X)(H:hf)(o:p ca):Y (p R×p ca):=Em (H.lookup c) λn=>pp (lK n.length 1)<|j (n.map λq=>.tup [.str q.1,q.2],o)
noncomputable def HB(c:X)(H:hf)(o:p ca):Y (p R×p ca):=uG (H.lookup c) λs=>j (m' s,o)
abbrev yy:=hf->p ca->Y (p R×p ca)
abbrev eC:=hf->p ca->Y (hf×p ca)
noncomputable def BI(bs:KT)(g:bv):Y yy:=kp g λf s5 t3 a=>cZ f λf a=>b' f "_iter_escaped_chars"<|bY s5 λe=>dS t3<|cZ e λc a=>pp (bb c)<|pp (df bs "_iter_escaped_chars")<|j (HB c)
noncomputable def PM(g:bv):Y yy:=kp g λf s5 t3 h0=>dS t3<|lU f λT m bX=>b' m "_iter_namespaces"<|cZ T λs a=>b' s "self"<|bY s5 λe=>lU e λT f a=>b' f "_declared_ns_stack"<|cZ T λs a=>b' s "self"<|pp (bX.endLine==h0.line)<|j wTP
noncomputable def PN(bs:KT)(g:bv):Y yy:=kp g λf s5 t3 a=>dS t3<|cZ f λf a=>b' f "sorted"<|bY s5 λe=>kp e λf s5 t3 bF=>dS s5<|dS t3<|lU f λT m bX=>b' m "items"<|cZ T λc a=>pp (bb c)<|pp (df bs "sorted")<|pp (bX.endLine==bF.line)<|j (xor c)
noncomputable def PO(bs:KT)(g:bv):Y yy:=dZ (BI bs g)<|dZ (PM g)<|PN bs g
noncomputable def HC:p (X×X):=[("http://www.w3.org/XML/1998/namespace","xml"),("http://www.w3.org/1999/xhtml","html"),("http://www.w3.org/1999/02/22-rdf-syntax-ns#","rdf"),("http://schemas.xmlsoap.org/wsdl/","wsdl"),("http://www.w3.org/2001/XMLSchema","xs"),("http://www.w3.org/2001/XMLSchema-instance","xsi"),("http://purl.org/dc/elements/1.1/","dc")]
noncomputable def HD:R:=.ah ((HC.map λx=>(x.1,R.str x.2)).map λq=>.tup [.str q.1,q.2])
noncomputable def BJ:Sc:={Gv with fld:=yx,au:=12}
noncomputable def yes(c I:X):eC:=λH o=>lY (H.lookup c) λev=>uG (H.lookup I) λx=>Lx o[ev]? λn=>pp (!n.contains x)<|pp (Dt n.length 1000)<|j (H,o.set ev (.set (n++[x])))
noncomputable def zev(c I:X):eC:=λH o=>lY (H.lookup I) λi=>Ew o[i]? 237 λs1=>kq (s1.lookup ("_qname":X))<|j (Pv H c (.fI i 177),o)
noncomputable def Abc(c e b:X):eC:=λH o=>uG (H.lookup e) λu=>Em (H.lookup b) λn=>pp (lK n.length 1)<|j (Pv H c (.iA ((n.map (·.1)).foldl eK [u])),o)
noncomputable def vF(bs:KT)(aa:wP)(k:X->wS->bv->wS->Y eC):Y eC:=La aa λRs v x=>bY Rs λu=>cZ u λc KB=>pp (bV bs c)<|k c KB v x
@[elab_as_elim] theorem yz{P:wP->Prop}{bs:KT}{aa:wP}{k:X->wS->bv->wS->Y eC}{f:eC}(h:vF bs aa k=j f)(a2:∀c KB v x,bV bs c=V->k c KB v x=j f->P (.Assign [.Name c KB] v x)):P aa:=UY h λa v x h=>d2 h λa h=>c5 h λc KB h=>Gt h λb h=>a2 c KB v x b h
noncomputable def BK(bs:KT)(aa:wP):Y eC:=vF bs aa λc a v a=>kp v λf s5 t3 a=>cZ f λf a=>b' f "set"<|dS s5<|dS t3<|pp (df bs "set")<|j λH o=>j (Pv H c (.am o.length),o++[.set []])
noncomputable def BL(aa:wP):Y eC:=D' aa λg a=>kp g λf s5 t3 h0=>lU f λT m bX=>b' m "add"<|cZ T λc a=>bY s5 λe=>cZ e λI a=>dS t3<|pp (bb c)<|pp (bb I)<|pp (bX.endLine==h0.line)<|j (yes c I)
noncomputable def BM(bs:KT)(aa:wP):Y eC:=D' aa λg a=>kp g λf s5 t3 h0=>lU f λT m bX=>b' m "append"<|bY s5 λe=>dS t3<|kp e λf s5 t3 a=>cZ f λf a=>b' f "list"<|bY s5 λe=>dS t3<|kp e λf s5 t3 bF=>dS s5<|dS t3<|lU f λz i Aff=>b' i "items"<|cZ z λI a=>b' I "_namespace_map"<|pp (jz T)<|pp (df bs "_namespace_map")<|pp (df bs "list")<|pp (bX.endLine==h0.line)<|pp (Aff.endLine==bF.line)<|j (PI BJ fZ bs T "append" HD)
noncomputable def BN(bs:KT)(aa:wP):Y eC:=vF bs aa λc a v a=>lU v λT m a=>b' m "_qname"<|cZ T λI a=>pp (bb I)<|j (zev c I)
noncomputable def BO(bs:KT)(aa:wP):Y eC:=vF bs aa λc a v a=>KZ v λbd k a=>b' k 0<|eT bd λe b=>cZ e λe a=>K6 b λb a=>cZ b λb a=>pp (bb e)<|pp (bb b)<|pp (bs.names.lookup ("parsed_qnames":X)).isSome<|j (Abc c e b)
noncomputable def rq(bs:KT)(aa:wP):Y eC:=dZ (BK bs aa)<|dZ (BL aa)<|dZ (BM bs aa)<|dZ (BN bs aa) (BO bs aa)
noncomputable def a5:Sc:={
 fn:=λf=>look f [("set",PK)]
 i1:=λc e=>b' c "Whitespace"<|look e [("S",.str " "),("T",.str "\t")]
 fs:=λa=>bn
 fld:=yx
 gN:=λa a=>bn
 fv:=λa a=>bn
 hH:=λe=>e==185
 gen:=λa=>bn
 hI:=PO
 ext:=rq
 au:=12
 turns:=64}
noncomputable def yA(K:dY):p R->p ca->Y (R×p ca):=cU a5 K 177 [.none]
noncomputable def Alg(K:dY)(c s q:X):eC:=λH o=>Lr (H.lookup s) λn=>Ep (H.lookup q) λi f=>b' f 177<|pp (!n.isEmpty)<|pp (n.all yr)<|pp (lK n.length 2)<|pp (decide (ms n).Nodup)<|(p4 (λI o=>yA K [.am i,.str I] o) (ms n) o).map λx=>(Pv H c (.cF x.1),x.2)
noncomputable def PP(s5:rX)(c:Y eC):Y eC:=dS s5.posonlyargs<|bY s5.args λe=>b' e.arg "n"<|kq e.annotation<|kq s5.vararg<|dS s5.kwonlyargs<|dS s5.kw_defaults<|kq s5.kwarg<|dS s5.defaults c
@[elab_as_elim] theorem Any{P:rX->Prop}{s5:rX}{c:Y eC}{l:eC}(h:PP s5 c=j l)(a2:∀x,c=j l->P (tr x)):P s5:=match s5,h with|⟨e,b,t,r,g,f,n⟩,h=>d1 (n:=e) h λh=>d2 (n:=b) h λe h=>match e,h with|⟨e,b,x⟩,h=>b5 (e:=e) h λh=>qL (T:=b) h λh=>qL (T:=t) h λh=>d1 (n:=r) h λh=>d1 (n:=g) h λh=>qL (T:=f) h λh=>d1 (n:=n) h (a2 x)
noncomputable def PQ(g:bv)(c:Y eC):Y eC:=KY g λs5 b n a=>b' n ts<|PP s5<|kp b λf s5 t3 f7=>dS t3<|lU f λT m bF=>b' m "split"<|cZ T λz a=>b' z "n"<|eT s5 λe b=>sp e λt k a=>b' t (.str "}")<|b' k 0<|sp b λt k a=>b' t (.int 1)<|b' k 0<|pp (bF.endLine==f7.line) c
@[elab_as_elim] theorem Arr{P:bv->Prop}{c:Y eC}{l:eC}(h:PQ g c=j l)(a2:∀nG a_ bF eU hy f7 bK,(bF.endLine==f7.line)=V->c=j l->P (.Lambda (tr nG) (vC a_ bF eU hy f7) ts bK)):P g:=UH h λa a a bK h=>b5 h λh=>Any h λnG h=>k' h λa a a f7 h=>d1 h λh=>m2 h λa a bF h=>b5 h λh=>c5 h λa a_ h=>b5 h λh=>pA h λa a h=>uB h λa a eU h=>b5 h λh=>b5 h λh=>uB h λa a hy h=>b5 h λh=>b5 h λh=>Gt h (a2 nG a_ bF eU hy f7 bK)
noncomputable def PR(bs inner:KT)(c:X)(KB h0:wS)(z q s:X):ga:=(bs.names.lookup ("parsed_qnames":X)).isSome&&(bs.names.lookup c==j .local&&(KB.line==h0.line&&(!(inner.names.any λ(m,k)=>m==c&&(k==.local ||k==.cell))&&(h8 bs inner (.Name z KB)&&(inner.names.all (λx=>x.2 !=.cell)&&(bb z&&(bb q&&(bb s&&(df bs "sorted"&&(inner.names.lookup q==j .free&&(!(q==z)&&!inner.isGenerator)))))))))))
noncomputable def BP(K:dY)(bs:KT)(aa:wP):Y eC:=vF bs aa λc KB v a=>K1 v λe b qj inner h0=>cZ e λz a=>kp b λf s5 t3 a=>dS t3<|cZ f λq a=>bY s5 λe=>cZ e λaeM a=>b' aeM z<|bY qj λt=>Lk t λu ai=>cZ u λAsk a=>b' Ask z<|kp ai λf s5 t3 a=>cZ f λf a=>b' f "sorted"<|bY s5 λe=>cZ e λs a=>bY t3 λk=>Ei k "key" λg a=>PQ g<|pp (PR bs inner c KB h0 z q s)<|j (Alg K c s q)
noncomputable def SM(K:dY)(bs:KT)(aa:wP):Y eC:=dZ (BP K bs aa) (rq bs aa)
noncomputable def c4(K:dY):Sc:={a5 with
 fn:=λf=>dZ (look f [("_escape_cdata_c14n",a8 a5 K 248 []),("_escape_attrib_c14n",a8 a5 K 255 []),("_law_columns",a8 a5 K 262 []),("_law_rows",a8 a5 K 267 []),("_strip_quoted_realnames",a8 a5 K 52 []),("Whitespace",oV 121 (cU a5 K 76 [])),
  ("_law_written",a8 a5 K 287 []),("_law_left",a8 a5 K 292 []),("_law_pieces",a8 a5 K 282 [])]) (a5.fn f)
 gN:=λt m=>b' t 121<|look m [("longest_run_of_spaces",a8 a5 K 83 []),("indent_level",a8 a5 K 90 []),("equal",a8 a5 K 97 [])]
 fv:=λt m=>b' t 237<|look m [("_qname",yA K),("data",cU a5 K 184 [])]
 ext:=SM K
 au:=24}
noncomputable def dn(K:dY):Sc:={c4 K with
 fn:=λf=>dZ (look f [("_check_parenthesis",a8 (c4 K) K 59 []),("_law_above",a8 (c4 K) K 272 [])]) ((c4 K).fn f)
 gN:=λt m=>dZ (b' t 121<|look m [("less",a8 (c4 K) K 111 [])]) ((c4 K).gN t m)
 fv:=λt m=>dZ (b' t 237<|look m [("_start",cU (c4 K) K 213 [.none]),("_flush",cU (c4 K) K 193 [.cg (.ref 185)])]) ((c4 K).fv t m)
 au:=36}
noncomputable def AIG(K:dY)(J:Sc)(bs:KT)(c T:X)(g:bv):eC:=λH o=>lY (H.lookup T) λi=>k_ o[i]? λa=>s4 (sB J fZ bs g H o) λmu al=>(Hx a5 fZ (fdOf K 154).scope (c0 (fdOf K 154)) (b2 (fdOf K 154)) [.bool G,.bool G,.bool G,.none,.none,.none] (.app i) mu al.length (al++[.inst 237 []])).map λwE=>(Pv H c (.am al.length),wE)
noncomputable def BQ(K:dY)(bs:KT)(aa:wP):Y eC:=vF bs aa λc a v a=>kp v λf s5 t3 a=>cZ f λt a=>b' t "C14NWriterTarget"<|bY s5 λe=>lU e λT m a=>b' m "append"<|cZ T λT a=>bY t3 λk=>Ei k "exclude_tags" λg a=>pp (df bs "C14NWriterTarget")<|pp (bb T)<|j (AIG K (dn K) bs c T g)
noncomputable def yB(K:dY)(bs:KT)(aa:wP):Y eC:=dZ (BQ K bs aa) (rq bs aa)
noncomputable def kH(K:dY):Sc:={dn K with
 fn:=λf=>dZ (look f [("_law_ways",a8 (dn K) K 299 []),("_law_kept",a8 (dn K) K 306 [])]) ((dn K).fn f)
 fv:=λt m=>dZ (b' t 237<|look m [("start",cU (dn K) K 207 []),("end",cU (dn K) K 220 [])]) ((dn K).fv t m)
 ext:=yB K
 au:=48}
noncomputable def gz(K:dY):Sc:={kH K with
 fn:=λf=>dZ (look f [("_law_told",a8 (kH K) K 277 [])]) ((kH K).fn f)
 au:=60}
noncomputable def ANY:kZ:={strHash:=λa=>0,shareClass:=λa=>0,mergeTok:=id,idOf:=λa=>0,idOfShared:=λa a=>0,followText:=λa=>G,idOfImm:=λa=>0}
noncomputable abbrev dp(P:kZ):dY:=lT P
noncomputable def hw:dY:=lT ANY
structure wv(d:sw):Prop where
 ok:d.ab
 lT:d.K=dp d.P
 tab:d.tab=210
 et:d.et=212
 hB:d.hB="C14NWriterTarget._start.<locals>.<lambda>"
 hd:zV d.az 212 210
 bm:d.az.BuiltinsAt d.mg 210
 HE:∃T,d.az.get? 212=j T
section
variable{d:sw}
theorem wv.vG(R:wv d):∃P,d.K=dp P:=⟨_,R.lT⟩
theorem wv.fact(R:wv d){f:dY->ga}(h:∀P,f (dp P)=V):f d.K=V:=by obtain⟨P,g⟩:=R.vG;rw[g];exact h P
theorem wv.mg(R:wv d){z:X}(h:∀P,nsIn (dp P) k0 z=j (j v)):d.mg z=j v:=by obtain⟨P,g⟩:=R.vG;exact mg_of R.ok.K R.ok.fs (by rw[g];exact h P)
theorem wv.vH(R:wv d){z:X}(h:∀P,nsIn (dp P) k0 z=j bn):d.mg z=bn:=by obtain⟨P,g⟩:=R.vG;exact mg_none_of R.ok.K R.ok.fs (by rw[g];exact h P)
noncomputable def HF(e:kt)(lj:ga)(K:dY):ga:=eF (K.lookup e) (λT=>tw T.data (λGE=>codeIn K GE.code GE.qualname&&GE.closure.isEmpty&&!GE.scope.isCoroutine&&GE.scope.isGenerator==lj&&GE.scope.kind==.function&&GE.globals==k0&&GE.builtins==C9&&decide (GE.scope.names.map (·.1)).Nodup&&GE.scope.names.all (λx=>x.2 !=.free)&&(b2 GE).all (bV GE.scope)&&decide (b2 GE).Nodup&&GE.body.ctorIdx==0) G) G
theorem AST{K:dY}{lj:ga}(sK:K.In d.az)(h:HF e lj K=V):j_ d e (fdOf K e) (c0 (fdOf K e)) (b2 (fdOf K e)) lj:=by
 refine j2 h (λT gt h=>?_) λa=>dN;rw[show fdOf K e=tw T.data id default from m5 gt];obtain⟨t,Buf,PS,s'⟩:=T;by_cases q:PS.ctorIdx=7;·refine Data.func.elim (motive:=λr=>K.lookup e=j ⟨t,Buf,r,s'⟩->tw r _ G=V->j_ d e (tw r id default) (c0 (tw r id default)) (b2 (tw r id default)) lj) PS q (λGE gt h=>?_) gt h;have h:(_&&_)=V:=h;simp only[iT,bt,decide_eq_true_eq,uc,agz]at h;obtain⟨⟨⟨⟨⟨⟨⟨⟨⟨⟨⟨h1,ex⟩,h3⟩,aS⟩,dT⟩,ls⟩,rr⟩,BR⟩,HG⟩,Bz2⟩,OC⟩,BS⟩:=h;exact⟨⟨_,sK _ _ gt,rfl⟩,codeRec_of sK h1,FuncBody.stmts.elim (motive:=λb=>b=.stmts (PJ b)) GE.body BS λa=>rfl,ex,h3,aS,dT,ls,rr,BR,λc f8=>Ua.mp (lO.mp HG _ (mem_of_lookup f8)) rfl,λc f8=>lO.mp Bz2 c f8,OC⟩
 ·exact aB ((t5 q).symm.trans h) dN
theorem wv.defn(R:wv d)(e:kt)(lj:ga)(h:∀P,HF e lj (dp P)=V)(g:∀P,fdOf (dp P) e=fdOf hw e):j_ d e (fdOf hw e) (c0 (fdOf hw e)) (b2 (fdOf hw e)) lj:=by obtain⟨P,iD⟩:=R.vG;rw[<- g P];exact AST (iD▸R.ok.K) (h P)
theorem wv.binds(R:wv d)(Z:W.ab d){TE:t_}{zo:p (X×cd)}(h:∀P S,peek (dp P) S (k7 GE TE)=j zo):DC W.s GE TE zo:=by obtain⟨P,iD⟩:=R.vG;exact kp_binds (K:=dp P) (iD▸Z.l7 R.ok) (h P)
theorem j7.up{vt:E}(F:j7 d au v xL)(h:au≤vt):j7 d vt v xL:=⟨F.keep,λlf=>F.call (lf.less h)⟩
theorem qY.up{vt:E}{xL:p R->p ca->Y (R×p ca)}(F:qY d au v xL)(h:au≤vt):qY d vt v xL:=⟨F.keep,λlf=>F.call (lf.less h)⟩
end
section
variable{d:sw}
noncomputable def PT(K:dY)(t:kt)(e:X):ga:=zF K t e&&J1 K t&&pj K (.ref t) e==j bn&&TH K t&&takerIn K t e==j bn&&(clsIn K t).any (·.hasDict)&&pj K (.ref t) "__setattr__"==j (j (.builtin "object.__setattr__"))
noncomputable def BU:p (kt×X):=(["raw","n","nt","norm","is_simple"].map λc=>(121,mV c))++(["_write","_data","_with_comments","_strip_text","_exclude_attrs","_exclude_tags","_rewrite_prefixes","_qname_aware_tags","_find_qname_aware_attrs","_declared_ns_stack","_ns_stack","_prefix_map","_preserve_space","_pending_start","_root_seen","_root_done","_ignored_depth"].map λc=>(237,mV c))
theorem Cfg{e:X}(h:yx t e=V):(t,e)∈BU:=by
 unfold yx at h;rw[ps]at h;rcases h with h|h<;>(rw[iT,wI]at h;obtain⟨h1,ex⟩:=h;have h1:=eq_of_beq h1;subst h1)
 ·exact oc _ (by simpa[BU]using ex)
 ·exact pu _ (by simpa[BU]using ex)
theorem wv.fld(R:wv d){e:X}(h:yx t e=V):AQ d t e/\Gc d t e:=by have k:=R.fact (f:=λK=>BU.all λx=>PT K x.1 x.2) (λa=>by kernel_rfl);have:=lO.mp k _ (Cfg h);unfold PT at this;simp only[iT,bt]at this;obtain⟨⟨⟨⟨⟨⟨h1,ex⟩,h3⟩,aS⟩,dT⟩,ls⟩,rr⟩:=this;exact⟨⟨h1,ex,h3⟩,⟨aS,dT,ls,rr⟩⟩
theorem Cut{f:X}{b:cd}(wn:mM f=j b):(f,b)∈(Manifest.builtinsNames.map λI=>(mV I.1,bootValue I.2 I.1)).reverse:=mem_of_lookup wn
noncomputable def PU:p X:=["len","max","list","tuple","range","zip"]
theorem wv.tx(R:wv d):vn d:=by
 intro f b wn cr;have h1:∀x∈(Manifest.builtinsNames.map λI=>(mV I.1,bootValue I.2 I.1)).reverse,(x.2=.builtin "len"\/x.2=.builtin "max"\/x.2=.type "list"\/x.2=.type "tuple"\/x.2=.type "range"\/x.2=.type "zip")->x.1∈PU:=by decide+kernel
 have ex:=h1 _ (Cut wn) cr;have k:=R.fact (f:=λK=>PU.all λz=>nsIn K k0 z==j bn) (λa=>by kernel_rfl);have h3:=lO.mp k _ ex;exact mg_none_of R.ok.K R.ok.fs (bt.mp h3)
noncomputable def HH(s:X)(c:X)(K:dY):ga:=nsIn K k0 "Whitespace"==j (j (.ref 121))&&readsIn K 121 (.type "type")&&eF (findCls K (.ref 121) (.type "type") s) (λl=>l.rec (λv=>v.ctorIdx==6&&v.isStr c) λa a a a=>G) G
theorem wv.PV(R:wv d){s:X}(h:∀P,HH s c (dp P)=V):u3 d "Whitespace" s (.str c):=by
 have k:=R.fact (f:=HH s c) h;unfold HH at k;simp only[iT,bt]at k;obtain⟨⟨hC,eX⟩,la⟩:=k;refine j2 la (λl g h=>?_) λa=>dN;cases l with
 |get=>nomatch h
 |val v=>have h:=f3.mp h;exact Value.str.elim (motive:=λv=>findCls d.K (.ref 121) (.type "type") s=j (.val v)->v.isStr c=V->u3 d "Whitespace" s (.str c)) v (bt.mp h.1) (λI u g h=>⟨121,_,_,mg_of R.ok.K R.ok.fs hC,eX,g,rfl,λB a=>(eq_of_beq h:I=c)▸.str _ _⟩) g h.2
theorem CNF(R:wv d)(au:E):j7 d au (.type "set") PK where
 keep:=λa a=>q0 _
 call:=λ{A} lf a1 C W L g3 r Z fg bZ h hm=>d2 (P:=λg3=>Is d W.B L g3->f4 d.M A (call (.type "set") L) C a1 W.s) h (λyv h bZ=>qN (P:=λr=>Is d W.B L [r]->f4 d.M A (call (.type "set") L) C a1 W.s) h (λn h bZ=>dd h λf1 f8 h=>Gt h λsc h=>by
  obtain⟨v,b7,rfl,f,s1⟩:=bZ.i
  rw[show b7=[]from s1.i]
  obtain⟨e,zr,z,rfl,AT,Bs⟩:=f.i
  obtain⟨he,rfl,rfl⟩:=Fc Bs f8
  have sc:=Dv.mp sc
  have SZ:(ub he).length=(he.map (·.1)).length:=(aK _).trans (aK _).symm
  refine fc (imp (f1:=he.map (·.1)) (UF:=(ub he).toArray) lf.handled ⟨_,Z.bw _ _ AT,rfl,_,rfl⟩ (SZ.symm.trans jj.symm) (λi v FB=>?_) (zH (Nat.succ_le_of_lt (by rw[jj,SZ];exact sc)) (by decide)) λeg ao dy gl cT gQ=>?_)
  ·rw[t9]at FB
   obtain⟨x,ln,g⟩:=wX.mp (hX.symm.trans FB)
   exact⟨x.1,x.2,by rw[hX,ln];rfl,g.symm⟩
  ·have ff:=Z.fresh (Da W.h.objs.size)
   have av:Mv [] W.s {W.s with heap:=eg,toks:=ao}:=⟨cT,λb T g a=>gl b T (b1 g) g,λa a g=>g,rfl,gQ⟩
   exact dy.elim λT q=>q.elim λbd q=>q.elim λWF q=>q.elim λSG q=>hm _ _ ((Z.av av cR Z.bare).aq (e:=W.h.objs.size) q.1 ff.2.1 ff.2.2) ((kw.refl.av av cR).aq (e:=W.h.objs.size) (T:=T) (.inl ff.1) (Da _)) rfl
    (aO h▸.set (nb.hD ..) λh e g=>⟨T,bd,WF,SG,g,q.2⟩)) bZ) bZ
end
noncomputable def vI(z:E):bv->p wS:=z.rec (λa=>[]) λa f g=>lV g (λa x=>[x])<|so g (λa a x=>[x])<|m3 g (λbd a x=>bd.flatMap f++[x])<|uA g (λn a l x=>f n++f l++[x])<|qF g (λn a No x=>f n++No.flatMap f++[x])<|m1 g (λd s5 a x=>f d++s5.flatMap f++[x])<|if h:g.ctorIdx=13 then Expr.Yield.elim g h λT x=>T.toList.flatMap f++[x]else if h:g.ctorIdx=14 then Expr.YieldFrom.elim g h λg x=>f g++[x]else[]
noncomputable def PW(z:E):wP->p wS:=z.rec (λa=>[]) λa f s=>uC s (λRs g x=>Rs.flatMap (vI 20)++vI 20 g++[x])<|wExpr s (λg x=>vI 20 g++[x])<|sr s (λu b T x=>vI 20 u++b.flatMap f++T.flatMap f++[x])<|uD s (λu i b T x=>vI 20 u++vI 20 i++b.flatMap f++T.flatMap f++[x]) []
noncomputable def HI(Dec:(E->wS)->p wP)(b:p wP):E->wS:=λz=>((b.flatMap (PW 20))[(((Dec λk=>⟨k,0,0,0⟩).flatMap (PW 20)).map (·.line)).idxOf z]?).getD ⟨0,0,0,0⟩
theorem Dig:c0 (fdOf hw 45)=pZ (HI pZ (c0 (fdOf hw 45))):=by kernel_rfl
theorem DNS:c0 (fdOf hw 162)=nC (HI nC (c0 (fdOf hw 162))):=by kernel_rfl
section
variable{d:sw}{A:xs}{O:IN}{H:hf}
theorem Ent(lf:zs au A)(aC:∀c,pq g O c=pure c)(sc:H1 n.length=V)(a7:bH d A O H (eval g O) o (.ah n,al)):pU d A O H g o (n,al):=
 let S:=Pr lf aC sc a7
 ⟨S.1,λa1 bP C W Z aj ap hm=>S.2 a1 bP C W Z aj ap λai lv Inv y xz aw bG ec Ns bg=>hm ai lv _ y xz aw bG ec.toD ⟨rfl,Ns⟩ bg⟩
theorem Flt(ds:d.ab){xL:R->Y (p R)}(F:GL d au v xL)(lf:zs au A){f:X}(Os:df O.scope f=V)(pc:d.mg f=j v)(h_:(f==("__debug__":X))=G)(f8:bb c=V)(Uf:H.lookup c=j r)(hK:d_ r=V)(ex:xL r=j n):pU d A O H (.Call (.Name f x) [.Name c KB] [] h0) o (n,o):=by
 refine⟨λa=>rfl,λa1 bP C W Z aj ap hm=>?_⟩;have ig:=fx f8;rw[l'];refine g1 (sL (ds:=ds) Z aj h_ Os pc ?_);refine qx (P:=λh=>ha d v h) rfl (λh gl=>gl) (l9 rfl ?_);refine ud (jY (aj.load Uf ig.2.1 λg2 l=>ue ⟨F.keep ds Z,?_⟩) ig.1);have GO:x0 d W.B g2 r:=by cases l with|aq f=>exact f|am=>cases hK|app=>cases hK|fI=>cases hK
 exact F.call lf Z GO ex λai lv Inv y xz aw bG ec Ns bg=>hm ai lv Inv y xz aw (bG.trans ap) ec Ns bg
theorem wv.cL(R:wv d):GL d 12 (.ref 45) (λr=>match r with|.str c=>j (m' c)|_=>bn):=by have bJ:=R.defn 45 V (λa=>by kernel_rfl) (λa=>by kernel_rfl);rw[Dig,show b2 (fdOf hw 45)=([("addr":X)]:p X)from by kernel_rfl]at bJ;exact chg R.ok (by rw[R.et];exact R.HE) R.tx (R.vH (λa=>by kernel_rfl)) bJ ⟨by kernel_rfl,by kernel_rfl,by kernel_rfl,by kernel_rfl,by kernel_rfl,by kernel_rfl,by kernel_rfl,by kernel_rfl⟩ (R.fact (f:=λK=>jm K (.ref 45)) λa=>by kernel_rfl) (λv=>by kernel_rfl)
noncomputable def yC(t:kt)(m:X)(f:kt)(K:dY):ga:=zF K t m&&pj K (.ref t) m==j (j (.ref f))&&isFn K (.ref f)
theorem wv.HJ(R:wv d){m:X}(h:∀P,yC t m f (dp P)=V):qX d t m f:=by have k:=R.fact (f:=yC t m f) h;unfold yC at k;simp only[iT,bt]at k;exact⟨k.1.1,k.1.2,k.2⟩
noncomputable def HK(t:kt)(m:X)(f:kt)(K:dY):ga:=zF K t m&&J1 K t&&pj K (.ref t) m==j (j (.ref f))&&isFn K (.ref f)&&specialIn K (.ref f) "__get__"==j (j (.builtin "function.__get__"))&&takesIn K (.ref f)==j G&&!copiedNames.contains m
theorem wv.fI(R:wv d){m:X}(h:∀P,HK t m f (dp P)=V):Pt d t m f:=by have k:=R.fact (f:=HK t m f) h;unfold HK at k;simp only[iT,bt,uc]at k;obtain⟨⟨⟨⟨⟨⟨h1,ex⟩,h3⟩,aS⟩,dT⟩,ls⟩,rr⟩:=k;exact⟨h1,ex,h3,aS,dT,ls,rr⟩
end
section
variable{d:sw}{A:xs}{O:IN}{H:hf}
theorem wv.yp(R:wv d):CtxOk d BJ where
 fs:=λa a h=>by cases h
 i1:=λa a a h=>by cases h
 fld:=λa a h=>(R.fld h).1
 fn:=λa a h=>by cases h
 blt:=λf b a h k=>R.tx f b h k
 gN:=λa a a h=>by cases h
 fv:=λa a a h=>by cases h
 hH:=λa h=>by cases h
 gen:=λa a h=>by cases h
 range:=rfl
 zip:=rfl
theorem aeN{f1:p R}(h:f1.all HA=V):∀r∈f1,r=.ah []:=λr hd=>sy (P:=(·=.ah [])) (lO.mp h r hd) (λn h=>by rw[agz.mp h]) dN
variable{f:yy}{H:hf}{l:p R×p ca}
theorem wv.BI(R:wv d)(lf:zs 20 A)(h:BI O.scope g=j f):f H o=j l->pU d A O H g o l:=k' h λa a a h0 h=>c5 h λa x h=>b5 h λh=>d2 h λa h=>d1 h λh=>c5 h λc KB h=>Gt h λex h=>Gt h λh3 h=>aQ h λh=>Ae h λs fd h=>aQ h (Flt (r:=.str s) R.ok R.cL (lf.less (by decide)) h3 (R.mg λa=>by kernel_rfl) (by decide) ex fd rfl rfl)
theorem wv.aac(R:wv d):j_ d 162 (fdOf hw 162) (nC (HI nC (c0 (fdOf hw 162)))) ["self","ns_stack","_reversed"] V:=by have bJ:=R.defn 162 V (λa=>by kernel_rfl) (λa=>by kernel_rfl);rw[DNS,show b2 (fdOf hw 162)=([("self":X),"ns_stack","_reversed"]:p X)from by kernel_rfl]at bJ;exact bJ
theorem wv.ns(R:wv d)(lf:zs 20 A)(h:PM g=j f):f H o=j l->pU d A O H g o l:=k' h λa a a h0 h=>d1 h λh=>m2 h λa a bX h=>b5 h λh=>c5 h λa a h=>b5 h λh=>d2 h λa h=>m2 h λa a a h=>b5 h λh=>c5 h λa a h=>b5 h λh=>Gt h λdT h=>aQ h λh=>pC h λi np h=>Ly h λs1 f0 h=>Eh h λFor h=>pC h λev s3 h=>sz h λn f8 h=>d0 h λu ty=>(wTs ty).elim λf1 q=>fwd (J:=BJ) R.ok (by rw[R.et];exact R.HE) R.yp (lf.less (by decide)) (lf.less (by decide)) R.aac ⟨by kernel_rfl,by kernel_rfl,by kernel_rfl,by kernel_rfl⟩ (R.fact (f:=λK=>jm K (.ref 162)) λa=>by kernel_rfl) (λZ v g2=>R.binds Z λa a=>by kernel_rfl) (by rw[eq_of_beq dT];exact jl _) np f0 For (R.HJ λa=>by kernel_rfl) s3 (by decide+kernel) (f8.trans (GT (λn=>j (ca.list n)) q.1)) (aeN q.2)
theorem wv.items(R:wv d)(lf:zs 20 A)(h:PN O.scope g=j f):f H o=j l->pU d A O H g o l:=k' h λa a a h0 h=>d1 h λh=>c5 h λa x h=>b5 h λh=>d2 h λa h=>k' h λa a a bF h=>d1 h λh=>d1 h λh=>m2 h λa a bX h=>b5 h λh=>c5 h λc KB h=>Gt h λh3 h=>Gt h λaS h=>Gt h λdT h=>aQ h λh=>Lp h λn ae h=>Gt h λsc h=>aQ h (Ent (lf.less (e6 _)) (λa=>rfl) (b6 (by rw[aK];have:=qr sc;left)) (top R.ok (au:=16) lf h3 (by rw[eq_of_beq dT];exact jl _) aS (R.vH λa=>by kernel_rfl) ae (qr sc)))
theorem wv.hI(R:wv d)(lf:zs 20 A):∀g f,PO O.scope g=j f->∀H o l,f H o=j l->pU d A O H g o l:=λg f h H o l=>fq h (R.BI lf) λh=>fq h (R.ns lf) (R.items lf)
end
noncomputable def PX{N:Type}(r:Data)(k:bD f5->E->N)(U:N):N:=if h:r.ctorIdx=3 then Data.dict.elim r h k else U
noncomputable def PY(K:dY)(e:kt):p f5:=eF (K.lookup e) (λT=>PX T.data (λbd a=>bd.toList) []) []
noncomputable def Frs(K:dY)(e:kt):E:=eF (K.lookup e) (λT=>PX T.data (λa z=>z) 0) 0
noncomputable def BV(P:kZ)(g:f5):f5:={g with hash:=lG P (ol g.key)}
noncomputable def GtE(g:f5):ga:=g.key.ctorIdx==6&&g.val.ctorIdx==6
section
variable{d:sw}{A:xs}{O:IN}{H:hf}
theorem GMI{B:aX}:bd.all GtE=V->cG d B (bd.map (BV d.P)) (bd.map λg=>(ol g.key,R.str (ol g.val))):=bd.rec (λa=>.nil) λg bd ih h=>by have h:=f3.mp h;have q:=f3.mp h.1;obtain⟨t1,k,v⟩:=g;refine Value.str.elim (motive:=λk=>cG d B (BV d.P ⟨t1,k,v⟩::_) ((ol k,_)::_)) k (bt.mp q.1) λc u=>?_;exact Value.str.elim (motive:=λv=>cG d B (BV d.P ⟨t1,.str c u,v⟩::_) ((_,R.str (ol v))::_)) v (bt.mp q.2) λI g2=>.cons (u:=u) rfl rfl (.str I g2) (ih h.2)
theorem Hid:(PY hw 131).map (λg=>(ol g.key,R.str (ol g.val)))=HC.map λx=>(x.1,R.str x.2):=by kernel_rfl
theorem aeO(P:kZ):(dp P).lookup 131=j (fJ ((PY hw 131).map (BV P)).toArray (Frs hw 131)):=by kernel_rfl
theorem wv.aad(im:wv d):E4 d "_namespace_map" (.cF (HC.map λx=>(x.1,R.str x.2))):=by refine⟨.ref 131,im.mg λa=>by kernel_rfl,λB base=>?_⟩;have gt:d.az.get? 131=_:=im.ok.K _ _ (by rw[im.lT];exact aeO d.P);rw[<- Hid];exact .cF (by decide) (base _ _ gt) (GMI (by kernel_rfl))
end
section
variable{d:sw}{A:xs}{O:IN}{H:hf}
def mv(d:sw)(O:IN):Prop:=(O.scope.names.lookup ("parsed_qnames":X)).isSome=V->O.code=.ref d.et/\O.qual++"<lambda>"=d.hB
section
variable{aa:wP}{f:eC}
theorem wv.BK(im:wv d)(h:BK O.scope aa=j f):f H o=j (o0,wE)->aW d A O (exec aa O) H o (.next,o0,wE):=yz h λc KB a a ex h=>k' h λa a a a h=>c5 h λa a h=>b5 h λh=>d1 h λh=>d1 h λh=>Gt h λh3 h=>aQ h λh=>kr h (gil im.ok ex h3 (im.vH λa=>by kernel_rfl))
theorem wv.BL(im:wv d)(h:BL aa=j f):f H o=j (o0,wE)->aW d A O (exec aa O) H o (.next,o0,wE):=Lc h λa a h=>k' h λa a a a h=>m2 h λa a a h=>b5 h λh=>c5 h λa a h=>d2 h λa h=>c5 h λa a h=>d1 h λh=>Gt h λex h=>Gt h λh3 h=>Gt h λaS h=>aQ h λh=>pC h λev f8 h=>Ae h λx KM h=>Vy h λn ae h=>iX h λoW h=>Gt h λgy h=>kr h (got im.ok ex h3 f8 ae KM oW (Dv.mp gy) (by rw[eq_of_beq aS];exact jl _))
theorem wv.BM(im:wv d)(lf:zs 20 A)(cp:O.scope.isGenerator=G)(h:BM O.scope aa=j f):f H o=j (o0,wE)->aW d A O (exec aa O) H o (.next,o0,wE):=Lc h λa a h=>k' h λa a a a h=>m2 h λa a a h=>b5 h λh=>d2 h λa h=>d1 h λh=>k' h λa a a a h=>c5 h λa a h=>b5 h λh=>d2 h λa h=>d1 h λh=>k' h λa a a a h=>d1 h λh=>d1 h λh=>m2 h λa a a h=>b5 h λh=>c5 h λa a h=>b5 h λh=>Gt h λBu h=>Gt h λdT h=>Gt h λls h=>Gt h λrr h=>Gt h λBR h=>aQ h λh=>wSs (J:=BJ) im.ok im.yp lf cp (λg=>by subst g;cases Bu) Bu rfl (by rw[eq_of_beq rr];exact jl _) (λo=>wCs im.ok lf dT (by decide) (by rw[eq_of_beq BR];exact jl _) ls (im.vH λa=>by kernel_rfl) im.aad (by decide+kernel) (by decide+kernel)) h
theorem wv.BN(im:wv d)(h:BN O.scope aa=j f):f H o=j (o0,wE)->aW d A O (exec aa O) H o (.next,o0,wE):=yz h λc KB a a ex h=>m2 h λa a a h=>b5 h λh=>c5 h λa a h=>Gt h λh3 h=>aQ h λh=>pC h λi np h=>Ly h λs1 f0 h=>Eh h λpi h=>kr h (x3 (l:=(.fI i 177,o)) ex rfl (src im.ok h3 np f0 pi (im.fI λa=>by kernel_rfl)))
theorem wv.BO(im:wv d)(lf:zs 20 A)(ef:mv d O)(h:BO O.scope aa=j f):f H o=j (o0,wE)->aW d A O (exec aa O) H o (.next,o0,wE):=yz h λc KB a a h1 h=>UL h λa a a h=>b5 h λh=>pA h λa a h=>c5 h λa a h=>UT h λa a h=>c5 h λa a h=>Gt h λex h=>Gt h λh3 h=>Gt h λaS h=>aQ h λh=>Ae h λu ty h=>Lp h λn ae h=>Gt h λsc h=>kr h (x3 (l:=(.iA _,o)) h1 rfl (key im.ok (ef aS).1 (by rw[im.et,im.tab];exact im.hd) lf.handled ex h3 ty ae (qr sc)))
end
theorem wv.rq(im:wv d)(lf:zs 20 A)(cp:O.scope.isGenerator=G)(ef:mv d O):∀aa f,rq O.scope aa=j f->∀H o o0 wE,f H o=j (o0,wE)->aW d A O (exec aa O) H o (.next,o0,wE):=λaa f h H o o0 wE=>fq h im.BK λh=>fq h im.BL λh=>fq h (im.BM lf cp) λh=>fq h im.BN (im.BO lf ef)
theorem wv.hH(im:wv d):∃u,d.az.get? 185=j (lZ (.builtin "str.join") (.str ⟨#[]⟩ u)):=im.vG.elim λP g=>⟨573,im.ok.K 185 _ ((GT (·.lookup 185) g).trans (by kernel_rfl))⟩
theorem wv.oW(im:wv d)(lf:zs 20 A)(cp:O.scope.isGenerator=G)(ef:mv d O):gw d a5 A O where
 fs:=λa a h=>by cases h
 i1:=λc e r h=>b5 (P:=λc=>u3 d c e r) h (iY.look (P:=λe r=>u3 d "Whitespace" e r) (.cons (im.PV λa=>by kernel_rfl) (.cons (im.PV λa=>by kernel_rfl) .nil)))
 fld:=λa a h=>(im.fld h).1
 fn:=λf xL=>iY.look (P:=λf xL=>∃v,(d.mg f=j v\/(d.mg f=bn/\mM f=j v))/\j7 d 12 v xL) (.cons ⟨.type "set",.inr ⟨im.vH λa=>by kernel_rfl,boot_set⟩,CNF im _⟩ .nil)
 blt:=λf b a h k=>im.tx f b h k
 gN:=λa a a h=>by cases h
 fv:=λa a a h=>by cases h
 hH:=λe h=>eq_of_beq h▸im.hH
 gen:=λa a h=>by cases h
 range:=rfl
 zip:=rfl
 put:=λa a h=>(im.fld h).2
 hI:=im.hI lf
 ext:=im.rq lf cp ef
end
section
variable{d:sw}
abbrev p7(d:sw)(J:Sc):Prop:=∀(A:xs) (O:IN),zs (J.au+8) A->O.scope.isGenerator=G->mv d O->gw d J A O
structure eh(e:kt):Prop where
 yD:∀P,HF e G (dp P)=V
 eq:∀P,fdOf (dp P) e=fdOf hw e
 keep:∀P,jm (dp P) (.ref e)=V
 gen:(fdOf hw e).scope.isGenerator=G
 aa:(!((fdOf hw e).scope.names.lookup ("parsed_qnames":X)).isSome ||((fdOf hw e).code==.ref 212&&(fdOf hw e).qualname++".<locals>."++"<lambda>"==("C14NWriterTarget._start.<locals>.<lambda>":X)))=V
abbrev ei(d:sw)(e:kt)(di:p cd):Prop:=∀{W:nb},W.ab d->∀eQ:p cd,eQ.length+di.length=(b2 (fdOf hw e)).length->∀(A:xs) (P:p (X×cd)->nl->Prop) (a1:cd->nl->Prop),P ((b2 (fdOf hw e)).zip (eQ++di)) W.s->f4 d.M A (k7 (fdOf hw e) ⟨eQ,[]⟩) P a1 W.s
@[elab_as_elim] theorem C3{P:p t0->Prop}{n:p t0}(h:n.length=0)(a2:P []):P n:=zW h▸a2
@[elab_as_elim] theorem oX{P:p t0->Prop}{n:p t0}{z:E}(h:n.length=z+1)(a2:∀e n,n.length=z->P (e::n)):P n:=match n,h with|e::n,h=>a2 e n (Nat.succ.inj h)
theorem wv.bind1(im:wv d)(ae:(b2 (fdOf hw e)).length=1+di.length)(h:∀P S v,peek (dp P) S (k7 (fdOf hw e) ⟨[v],[]⟩)=j ((b2 (fdOf hw e)).zip ([v]++di))):ei d e di:=λZ eQ FB A P a1=>oX (z:=0) (KL (FB.trans ae)) λv a q=>C3 q λln=>im.binds Z (λP S=>h P S v) _ _ _ _ ln
theorem wv.oY(im:wv d)(ae:(b2 (fdOf hw e)).length=2+di.length)(h:∀P S v g2,peek (dp P) S (k7 (fdOf hw e) ⟨[v,g2],[]⟩)=j ((b2 (fdOf hw e)).zip ([v,g2]++di))):ei d e di:=λZ eQ FB A P a1=>oX (z:=1) (KL (FB.trans ae)) λv a q=>oX q λg2 a q=>C3 q λln=>im.binds Z (λP S=>h P S v g2) _ _ _ _ ln
theorem wv.PZ(im:wv d)(ae:(b2 (fdOf hw e)).length=3+di.length)(h:∀P S v g2 c,peek (dp P) S (k7 (fdOf hw e) ⟨[v,g2,c],[]⟩)=j ((b2 (fdOf hw e)).zip ([v,g2,c]++di))):ei d e di:=λZ eQ FB A P a1=>oX (z:=2) (KL (FB.trans ae)) λv a q=>oX q λg2 a q=>oX q λc a q=>C3 q λln=>im.binds Z (λP S=>h P S v g2 c) _ _ _ _ ln
theorem wv.aae(im:wv d)(ae:(b2 (fdOf hw e)).length=4+di.length)(h:∀P S v g2 c I,peek (dp P) S (k7 (fdOf hw e) ⟨[v,g2,c,I],[]⟩)=j ((b2 (fdOf hw e)).zip ([v,g2,c,I]++di))):ei d e di:=λZ eQ FB A P a1=>oX (z:=3) (KL (FB.trans ae)) λv a q=>oX q λg2 a q=>oX q λc a q=>oX q λI a q=>C3 q λln=>im.binds Z (λP S=>h P S v g2 c I) _ _ _ _ ln
theorem eh.co(F:eh e)(im:wv d){J:Sc}(Ps:p7 d J):∀A lw,zs (J.au+8) A->gw d J A (cQ (fdOf hw e) lw e):=λA lw lf=>Ps A _ lf F.gen λh=>by have k:=F.aa;have eg:((fdOf hw e).scope.names.lookup ("parsed_qnames":X)).isSome=V:=h;rw[eg,Ub,KH,iT,bt,bt]at k;obtain⟨SZ,bu⟩:=k;exact⟨by rw[im.et];exact SZ,by rw[im.hB];exact bu⟩
theorem wv.i_(im:wv d){J:Sc}(Ps:p7 d J)(F:eh e)(jH:∀B:aX,Is d B di cK)(cr:ei d e di):j7 d (J.au+9) (.ref e) (a8 J hw e cK):=by unfold a8;exact Z4 im.ok (F.co im Ps) (im.defn e G F.yD F.eq) (im.fact (f:=λK=>jm K (.ref e)) F.keep) (λB a=>jH B) cr
theorem wv.vJ(im:wv d){J:Sc}(Ps:p7 d J)(F:eh e)(jH:∀B:aX,Is d B di cK)(cr:ei d e di):qY d (J.au+9) (.ref e) (cU J hw e cK):=by unfold cU;exact Z5 im.ok (F.co im Ps) (im.defn e G F.yD F.eq) (im.fact (f:=λK=>jm K (.ref e)) F.keep) (λB a=>jH B) cr
theorem wv.P0(im:wv d){J:Sc}(Ps:p7 d J)(F:eh e)(jH:∀B:aX,Is d B di cK)(cr:ei d e di):x6 d (J.au+9) (.ref e) (cU J hw e cK):=by unfold cU;exact NI im.ok (F.co im Ps) (im.defn e G F.yD F.eq) (im.fact (f:=λK=>jm K (.ref e)) F.keep) (λB a=>jH B) cr
theorem hj:∀B:aX,Is d B [] []:=λa=>.nil
theorem HL:∀B:aX,Is d B [.none] [.none]:=λa=>.cons .none .nil
theorem Idx:eh 248:=⟨λa=>by kernel_rfl,λa=>by kernel_rfl,λa=>by kernel_rfl,by kernel_rfl,by kernel_rfl⟩
theorem Inf:eh 255:=⟨λa=>by kernel_rfl,λa=>by kernel_rfl,λa=>by kernel_rfl,by kernel_rfl,by kernel_rfl⟩
theorem Inj:eh 262:=⟨λa=>by kernel_rfl,λa=>by kernel_rfl,λa=>by kernel_rfl,by kernel_rfl,by kernel_rfl⟩
theorem Key:eh 267:=⟨λa=>by kernel_rfl,λa=>by kernel_rfl,λa=>by kernel_rfl,by kernel_rfl,by kernel_rfl⟩
theorem KAf:eh 52:=⟨λa=>by kernel_rfl,λa=>by kernel_rfl,λa=>by kernel_rfl,by kernel_rfl,by kernel_rfl⟩
theorem KBa:eh 76:=⟨λa=>by kernel_rfl,λa=>by kernel_rfl,λa=>by kernel_rfl,by kernel_rfl,by kernel_rfl⟩
theorem KBc:eh 287:=⟨λa=>by kernel_rfl,λa=>by kernel_rfl,λa=>by kernel_rfl,by kernel_rfl,by kernel_rfl⟩
theorem KBd:eh 292:=⟨λa=>by kernel_rfl,λa=>by kernel_rfl,λa=>by kernel_rfl,by kernel_rfl,by kernel_rfl⟩
theorem KBe:eh 282:=⟨λa=>by kernel_rfl,λa=>by kernel_rfl,λa=>by kernel_rfl,by kernel_rfl,by kernel_rfl⟩
theorem KBw:eh 83:=⟨λa=>by kernel_rfl,λa=>by kernel_rfl,λa=>by kernel_rfl,by kernel_rfl,by kernel_rfl⟩
theorem KBy:eh 90:=⟨λa=>by kernel_rfl,λa=>by kernel_rfl,λa=>by kernel_rfl,by kernel_rfl,by kernel_rfl⟩
theorem KFm:eh 97:=⟨λa=>by kernel_rfl,λa=>by kernel_rfl,λa=>by kernel_rfl,by kernel_rfl,by kernel_rfl⟩
theorem P1:eh 177:=⟨λa=>by kernel_rfl,λa=>by kernel_rfl,λa=>by kernel_rfl,by kernel_rfl,by kernel_rfl⟩
theorem KIC:eh 184:=⟨λa=>by kernel_rfl,λa=>by kernel_rfl,λa=>by kernel_rfl,by kernel_rfl,by kernel_rfl⟩
theorem KIN:eh 59:=⟨λa=>by kernel_rfl,λa=>by kernel_rfl,λa=>by kernel_rfl,by kernel_rfl,by kernel_rfl⟩
theorem KLn:eh 272:=⟨λa=>by kernel_rfl,λa=>by kernel_rfl,λa=>by kernel_rfl,by kernel_rfl,by kernel_rfl⟩
theorem KMa:eh 111:=⟨λa=>by kernel_rfl,λa=>by kernel_rfl,λa=>by kernel_rfl,by kernel_rfl,by kernel_rfl⟩
theorem KPc:eh 213:=⟨λa=>by kernel_rfl,λa=>by kernel_rfl,λa=>by kernel_rfl,by kernel_rfl,by kernel_rfl⟩
theorem KPt:eh 193:=⟨λa=>by kernel_rfl,λa=>by kernel_rfl,λa=>by kernel_rfl,by kernel_rfl,by kernel_rfl⟩
theorem KTb:eh 299:=⟨λa=>by kernel_rfl,λa=>by kernel_rfl,λa=>by kernel_rfl,by kernel_rfl,by kernel_rfl⟩
theorem KTD:eh 306:=⟨λa=>by kernel_rfl,λa=>by kernel_rfl,λa=>by kernel_rfl,by kernel_rfl,by kernel_rfl⟩
theorem KWd:eh 207:=⟨λa=>by kernel_rfl,λa=>by kernel_rfl,λa=>by kernel_rfl,by kernel_rfl,by kernel_rfl⟩
theorem KWk:eh 220:=⟨λa=>by kernel_rfl,λa=>by kernel_rfl,λa=>by kernel_rfl,by kernel_rfl,by kernel_rfl⟩
theorem KXf:eh 277:=⟨λa=>by kernel_rfl,λa=>by kernel_rfl,λa=>by kernel_rfl,by kernel_rfl,by kernel_rfl⟩
theorem HM:eh 311:=⟨λa=>by kernel_rfl,λa=>by kernel_rfl,λa=>by kernel_rfl,by kernel_rfl,by kernel_rfl⟩
theorem HN:eh 154:=⟨λa=>by kernel_rfl,λa=>by kernel_rfl,λa=>by kernel_rfl,by kernel_rfl,by kernel_rfl⟩
end
section
variable{d:sw}{A:xs}{O:IN}{H:hf}
theorem wv.aaf(im:wv d):ei d 248 []:=im.bind1 (by kernel_rfl) λa a a=>by kernel_rfl
theorem wv.aag(im:wv d):ei d 255 []:=im.bind1 (by kernel_rfl) λa a a=>by kernel_rfl
theorem wv.aah(im:wv d):ei d 262 []:=im.bind1 (by kernel_rfl) λa a a=>by kernel_rfl
theorem wv.aai(im:wv d):ei d 267 []:=im.bind1 (by kernel_rfl) λa a a=>by kernel_rfl
theorem wv.aaj(im:wv d):ei d 52 []:=im.bind1 (by kernel_rfl) λa a a=>by kernel_rfl
theorem wv.aak(im:wv d):ei d 76 []:=im.oY (by kernel_rfl) λa a a a=>by kernel_rfl
theorem wv.aal(im:wv d):ei d 287 []:=im.oY (by kernel_rfl) λa a a a=>by kernel_rfl
theorem wv.aam(im:wv d):ei d 292 []:=im.oY (by kernel_rfl) λa a a a=>by kernel_rfl
theorem wv.aan(im:wv d):ei d 282 []:=im.oY (by kernel_rfl) λa a a a=>by kernel_rfl
theorem wv.aao(im:wv d):ei d 83 []:=im.bind1 (by kernel_rfl) λa a a=>by kernel_rfl
theorem wv.aap(im:wv d):ei d 90 []:=im.oY (by kernel_rfl) λa a a a=>by kernel_rfl
theorem wv.aaq(im:wv d):ei d 97 []:=im.oY (by kernel_rfl) λa a a a=>by kernel_rfl
theorem wv.P2(im:wv d):ei d 177 [.none]:=im.oY (by kernel_rfl) λa a a a=>by kernel_rfl
theorem wv.aar(im:wv d):ei d 184 []:=im.oY (by kernel_rfl) λa a a a=>by kernel_rfl
theorem wv.aas(im:wv d):ei d 59 []:=im.bind1 (by kernel_rfl) λa a a=>by kernel_rfl
theorem wv.aat(im:wv d):ei d 272 []:=im.bind1 (by kernel_rfl) λa a a=>by kernel_rfl
theorem wv.aau(im:wv d):ei d 111 []:=im.oY (by kernel_rfl) λa a a a=>by kernel_rfl
theorem wv.aav(im:wv d):ei d 213 [.none]:=im.aae (by kernel_rfl) λa a a a a a=>by kernel_rfl
theorem wv.aaw(im:wv d):ei d 193 [.ref 185]:=im.bind1 (by kernel_rfl) λa a a=>by kernel_rfl
theorem wv.aax(im:wv d):ei d 299 []:=im.bind1 (by kernel_rfl) λa a a=>by kernel_rfl
theorem wv.aay(im:wv d):ei d 306 []:=im.bind1 (by kernel_rfl) λa a a=>by kernel_rfl
theorem wv.aaz(im:wv d):ei d 207 []:=im.PZ (by kernel_rfl) λa a a a a=>by kernel_rfl
theorem wv.aaA(im:wv d):ei d 220 []:=im.oY (by kernel_rfl) λa a a a=>by kernel_rfl
theorem wv.aaB(im:wv d):ei d 277 []:=im.PZ (by kernel_rfl) λa a a a a=>by kernel_rfl
theorem wv.cls(im:wv d)(h:∀P,(makesIn (dp P) t&&pj (dp P) (.ref t) "__init__"==j (j (.ref f))&&typeIn (dp P) (.ref f)==j (.type "function"))=V):BG d t f:=by have k:=im.fact (f:=λK=>makesIn K t&&pj K (.ref t) "__init__"==j (j (.ref f))&&typeIn K (.ref f)==j (.type "function")) h;simp only[iT,bt]at k;exact⟨k.1.1,k.1.2,k.2⟩
theorem wv.jK(im:wv d):p7 d a5:=λa a lf h1 ex=>im.oW lf h1 ex
theorem wv.aaC(im:wv d):x6 d 21 (.ref 177) (yA hw):=im.P0 im.jK P1 HL im.P2
end
section
variable{d:sw}{A:xs}{O:IN}{H:hf}
theorem KXi{H:hf}{q:X}(h:inner.names.lookup q=j .free):(dU inner H).lookup q=H.lookup q:=by
 unfold dU;induction H with
 |nil=>rfl
 |cons x H ih=>
  obtain⟨I,g⟩:=x;rw[k5];by_cases wT:q=I;·subst wT;rw[tt (by simp[h]),en,en];simp
  ·have cr:(q==I)=G:=eo.mpr wT;split;·rw[en,en,cr];exact ih
   ·rw[en,cr];exact ih
open Classical in
noncomputable def vK(q z:X)(j3:bv)(o0:hf):aN:=λg o=>if g=j3 then Ep (o0.lookup q) λi f=>uG (o0.lookup z) λI=>b' f 177<|yA hw [.am i,.str I] o else bn
theorem KXs(im:wv d)(lf:zs 21 A){iF:IN}(cp:iF.scope.isGenerator=G){q z:X}{ke C4:wS}(wT:bb q=V)(pi:bb z=V)(o0:hf):a0 d A iF o0 (vK q z (.Call (.Name q ke) [.Name z oh] [] C4) o0):=λg o l h=>(Classical.em (g=.Call (.Name q ke) [.Name z oh] [] C4)).elim (λrs=>by
  rw[vK,tt rs]at h;rw[rs];exact Lv h λi f KXt h=>Ae h λI u7 h=>Gt h λwn h=>stM im.ok cp lf wT pi (im.fact (f:=λK=>fnIn K 177) λa=>by kernel_rfl) im.aaC (eq_of_beq wn▸KXt) u7 rfl h)
  λrs=>by rw[vK,ss rs]at h;cases h
theorem KXw{q z:X}{i:E}{H:hf}(h1:inner.names.lookup q=j .free)(ex:(q==z)=G)(wT:H.lookup q=j (.fI i 177)):(λI o=>vK q z j3 (Pv (dU inner H) z (.str I)) j3 o)=λI o=>yA hw [.am i,.str I] o:=by funext I eu;rw[vK,tt rfl,gL,gL,tt rfl,ss (eo.mp ex),KXi h1,wT];rfl
theorem Led:∀{n:p X},(ms n).length=n.length|[]=>rfl|[_]=>rfl|[_,_]=>O3|_::_::_::_=>rfl
theorem Lex{n:p X}(h:n.length≤2):(ms n).length≤2:=aJ (mT Led) h
theorem LtE{P:Prop}{bs:KT}{z q s:X}(h:PR bs inner c KB h0 z q s=V)(a2:(bs.names.lookup ("parsed_qnames":X)).isSome=V->(bs.names.lookup c==j .local)=V->(KB.line==h0.line)=V->(inner.names.any λ(m,k)=>m==c&&(k==.local ||k==.cell))=G->h8 bs inner (.Name z KB)=V->inner.names.all (λx=>x.2 !=.cell)=V->bb z=V->bb q=V->bb s=V->df bs "sorted"=V->(inner.names.lookup q==j .free)=V->(q==z)=G->inner.isGenerator=G->P):P:=
 have e:=hg h;have b:=hg e.2;have t:=hg b.2;have r:=hg t.2;have g:=hg r.2;have f:=hg g.2;have d:=hg f.2;have h:=hg d.2;have i:=hg h.2;have ev:=hg i.2;have k:=hg ev.2;have n:=hg k.2
 a2 e.1 b.1 t.1 (su r.1) g.1 f.1 d.1 h.1 i.1 ev.1 k.1 (su n.1) (su n.2)
theorem wv.BP(im:wv d)(lf:zs 32 A)(cp:O.scope.isGenerator=G)(ef:mv d O){aa:wP}{f:eC}(h:BP hw O.scope aa=j f):f H o=j (o0,wE)->aW d A O (exec aa O) H o (.next,o0,wE):=yz h λc KB v xL LCg h=>UO h λe b qj inner h0 h=>c5 h λz ju h=>k' h λa a a C4 h=>d1 h λh=>c5 h λq ke h=>d2 h λa h=>c5 h λa oh h=>b5 h λh=>d2 h λa h=>Va h λa a h=>c5 h λa ahQ h=>b5 h λh=>k' h λa a a ahR h=>c5 h λa ahS h=>b5 h λh=>d2 h λa h=>c5 h λs he h=>d2 h λa h=>Lh h λa ahT h=>Arr h λnG a_ bF eU hy f7 bK LCp h=>Gt h λk h=>aQ h λh=>LtE k λP4 LCt LGe LSm Map Mem P5 Met Mon MGF Ns1 Num Out=>Vm h λn fd h=>Lv h λi f wT h=>Gt h λoW h=>iX h λgy h=>Gt h λyE h=>Gt h λBW h=>Gt h λHO h=>(wX.mp h).elim λx h=>kr (GT j h.2) (
  have sc:=Lex (qr BW)
  sle (eE:=x.1) (wE:=x.2) (af:=vK q z (.Call (.Name q ke) [.Name z oh] [] C4)) im.ok (lf.less (e6 _)) (Pr (lf.less (e6 _)) (λa=>rfl) (b6 (by rw[aK];exact aJ sc (by decide))) (req im.ok (ef P4).1 (by rw[im.et,im.tab];exact im.hd) (by rw[im.tab];exact im.bm) (by rw[im.tab];decide) cp (ef P4).2 (z:=28) lf LCp Mon MGF (im.vH λa=>by kernel_rfl) fd (λg=>by rw[g]at gy;cases gy) yE)) Map Mem P5 (λiF rs o0=>KXs im (lf.less (by decide)) (by rw[rs];exact Out) Met P5 o0) (aJ sc (by decide)) (mQ HO) ((GT (λF=>p4 F (ms n) o) (KXw (eq_of_beq Ns1) Num (eq_of_beq oW▸wT))).trans h.1) LCg (eq_of_beq LCt) LGe LSm)
theorem wv.ext2(im:wv d)(lf:zs 32 A)(cp:O.scope.isGenerator=G)(ef:mv d O):∀aa f,SM hw O.scope aa=j f->∀H o o0 wE,f H o=j (o0,wE)->aW d A O (exec aa O) H o (.next,o0,wE):=λaa f h H o o0 wE=>fq h (im.BP lf cp ef) λh=>im.rq (lf.less (by decide)) cp ef aa f h H o o0 wE
end
section
variable{d:sw}{A:xs}{O:IN}{H:hf}
abbrev mw(d:sw)(au:E)(f:X)(xL:p R->Y R):Prop:=∃v,(d.mg f=j v\/(d.mg f=bn/\mM f=j v))/\j7 d au v xL
theorem wv.kI(im:wv d){f:X}{z:E}(h:∀P,nsIn (dp P) k0 f=j (j (.ref e)))(F:j7 d z (.ref e) xL)(le:z≤m):mw d m f xL:=⟨.ref e,.inl (im.mg h),F.up le⟩
theorem mw.up{f:X}{z:E}(h:mw d z f xL)(le:z≤m):mw d m f xL:=h.elim λv h=>⟨v,h.1,h.2.up le⟩
abbrev nJ(d:sw)(au:E)(t:kt)(m:X)(xL:p R->Y R):Prop:=∃f,qX d t m f/\j7 d au (.ref f) xL
theorem wv.BX(im:wv d){m:X}{z k:E}(h:∀P,yC t m f (dp P)=V)(F:j7 d z (.ref f) xL)(le:z≤k):nJ d k t m xL:=⟨f,im.HJ h,F.up le⟩
theorem nJ.up{m:X}{z k:E}(h:nJ d z t m xL)(le:z≤k):nJ d k t m xL:=h.elim λv h=>⟨v,h.1,h.2.up le⟩
abbrev lu(d:sw)(au:E)(t:kt)(m:X)(xL:p R->p ca->Y (R×p ca)):Prop:=∃f,qX d t m f/\qY d au (.ref f) xL
theorem wv.vL(im:wv d){m:X}{xL:p R->p ca->Y (R×p ca)}{z k:E}(h:∀P,yC t m f (dp P)=V)(F:qY d z (.ref f) xL)(le:z≤k):lu d k t m xL:=⟨f,im.HJ h,F.up le⟩
theorem lu.up{m:X}{xL:p R->p ca->Y (R×p ca)}{z k:E}(h:lu d z t m xL)(le:z≤k):lu d k t m xL:=h.elim λv h=>⟨v,h.1,h.2.up le⟩
theorem wv.gy(im:wv d)(lf:zs 32 A)(cp:O.scope.isGenerator=G)(ef:mv d O):gw d (c4 hw) A O:=
 have t:=im.oW (lf.less (by decide)) cp ef
 {fs:=nofun,i1:=t.i1,fld:=t.fld,blt:=λf b a h k=>im.tx f b h k,hH:=t.hH,gen:=nofun,range:=by kernel_rfl,zip:=by kernel_rfl,put:=t.put,hI:=t.hI
  fn:=λf xL h=>fq h (iY.look (P:=mw d 24) (.cons (im.kI (λa=>by kernel_rfl) (im.i_ im.jK Idx hj im.aaf) (by decide))<|.cons (im.kI (λa=>by kernel_rfl) (im.i_ im.jK Inf hj im.aag) (by decide))<|
   .cons (im.kI (λa=>by kernel_rfl) (im.i_ im.jK Inj hj im.aah) (by decide))<|.cons (im.kI (λa=>by kernel_rfl) (im.i_ im.jK Key hj im.aai) (by decide))<|.cons (im.kI (λa=>by kernel_rfl) (im.i_ im.jK KAf hj im.aaj) (by decide))<|
   .cons (im.kI (λa=>by kernel_rfl) (toK im.ok (im.cls λa=>by kernel_rfl) (im.fact (f:=λK=>jm K (.ref 121)) λa=>by kernel_rfl) (im.P0 im.jK KBa hj im.aak)) (by decide))<|
   .cons (im.kI (λa=>by kernel_rfl) (im.i_ im.jK KBc hj im.aal) (by decide))<|.cons (im.kI (λa=>by kernel_rfl) (im.i_ im.jK KBd hj im.aam) (by decide))<|.cons (im.kI (λa=>by kernel_rfl) (im.i_ im.jK KBe hj im.aan) (by decide)) .nil))
   λh=>mw.up (t.fn f xL h) (by decide)
  gN:=λr m xL h=>b5 (P:=λr=>nJ d 24 r m xL) h (iY.look (P:=nJ d 24 121) (.cons (im.BX (λa=>by kernel_rfl) (im.i_ im.jK KBw hj im.aao) (by decide))<|.cons (im.BX (λa=>by kernel_rfl) (im.i_ im.jK KBy hj im.aap) (by decide))<|.cons (im.BX (λa=>by kernel_rfl) (im.i_ im.jK KFm hj im.aaq) (by decide)) .nil))
  fv:=λr m xL h=>b5 (P:=λr=>lu d 24 r m xL) h (iY.look (P:=lu d 24 237) (.cons (im.vL (λa=>by kernel_rfl) (im.vJ im.jK P1 HL im.P2) (by decide))<|.cons (im.vL (λa=>by kernel_rfl) (im.vJ im.jK KIC hj im.aar) (by decide)) .nil))
  ext:=im.ext2 lf cp ef}
theorem wv.yF(im:wv d):p7 d (c4 hw):=λa a lf h1 ex=>im.gy lf h1 ex
end
section
variable{d:sw}{A:xs}{O:IN}{H:hf}
theorem wv.yE(im:wv d)(lf:zs 44 A)(cp:O.scope.isGenerator=G)(ef:mv d O):gw d (dn hw) A O:=
 have t:=im.gy (lf.less (by decide)) cp ef
 {fs:=nofun,i1:=t.i1,fld:=t.fld,blt:=λf b a h k=>im.tx f b h k,hH:=t.hH,gen:=nofun,range:=by kernel_rfl,zip:=by kernel_rfl,put:=t.put,hI:=t.hI
  fn:=λf xL h=>fq h (iY.look (P:=mw d 36) (.cons (im.kI (λa=>by kernel_rfl) (im.i_ im.yF KIN hj im.aas) (by decide))<|.cons (im.kI (λa=>by kernel_rfl) (im.i_ im.yF KLn hj im.aat) (by decide)) .nil)) λh=>mw.up (t.fn f xL h) (by decide)
  gN:=λr m xL h=>fq h (λh=>b5 (P:=λr=>nJ d 36 r m xL) h (iY.look (P:=nJ d 36 121) (.cons (im.BX (λa=>by kernel_rfl) (im.i_ im.yF KMa hj im.aau) (by decide)) .nil))) λh=>nJ.up (t.gN r m xL h) (by decide)
  fv:=λr m xL h=>fq h (λh=>b5 (P:=λr=>lu d 36 r m xL) h (iY.look (P:=lu d 36 237) (.cons (im.vL (λa=>by kernel_rfl) (im.vJ im.yF KPc HL im.aav) (by decide))<|.cons (im.vL (λa=>by kernel_rfl) (im.vJ im.yF KPt (λa=>.cons (.cg _) .nil) im.aaw) (by decide)) .nil))) λh=>lu.up (t.fv r m xL h) (by decide)
  ext:=im.ext2 (lf.less (by decide)) cp ef}
theorem wv.BY(im:wv d):p7 d (dn hw):=λa a lf h1 ex=>im.yE lf h1 ex
theorem wv.aaD(im:wv d):Hw d 21 154 "exclude_tags" (Hx a5 fZ (fdOf hw 154).scope (c0 (fdOf hw 154)) (b2 (fdOf hw 154)) [.bool G,.bool G,.bool G,.none,.none,.none]):=ult (sR:=[.bool G,.bool G,.bool G,.none,.none,.none]) im.ok (HN.co im im.jK) (im.defn 154 G HN.yD HN.eq) (λa a=>.cons (.bool _) (.cons (.bool _) (.cons (.bool _) (.cons .none (.cons .none (.cons .none .nil)))))) (by kernel_rfl) (λZ c I U A P a1 ln=>im.binds Z (λa a=>by kernel_rfl) _ _ _ _ ln)
theorem wv.BQ(im:wv d)(lf:zs 56 A)(cp:O.scope.isGenerator=G)(ef:mv d O){aa:wP}{f:eC}(h:BQ hw O.scope aa=j f):f H o=j (o0,wE)->aW d A O (exec aa O) H o (.next,o0,wE):=yz h λc KB a a Hz h=>k' h λa a a a h=>c5 h λa a h=>b5 h λh=>d2 h λa h=>m2 h λa a a h=>b5 h λh=>c5 h λa a h=>d2 h λa h=>Lh h λg ju h=>Gt h λPin h=>Gt h λPre h=>aQ h λh=>pC h λi np h=>sz h λn ae h=>b8 h λmu al sc h=>(wX.mp h).elim λeu h=>kr (GT j h.2) (x3 (l:=(.am al.length,eu)) Hz rfl (vec (au:=21) im.ok cp (lf.less (by decide)) (im.cls λa=>by kernel_rfl) (im.fact (f:=λK=>jm K (.ref 237)) λa=>by kernel_rfl) im.aaD (nq im.ok (im.yE (lf.less (by decide)) cp ef).toCtxOk (lf.less (by decide)) fZ O H).1 Pin (by decide) (im.mg λa=>by kernel_rfl) Pre np ae sc h.1))
theorem wv.yB(im:wv d)(lf:zs 56 A)(cp:O.scope.isGenerator=G)(ef:mv d O):∀aa f,yB hw O.scope aa=j f->∀H o o0 wE,f H o=j (o0,wE)->aW d A O (exec aa O) H o (.next,o0,wE):=λaa f h H o o0 wE=>fq h (im.BQ lf cp ef) λh=>im.rq (lf.less (by decide)) cp ef aa f h H o o0 wE
theorem wv.BW(im:wv d)(lf:zs 56 A)(cp:O.scope.isGenerator=G)(ef:mv d O):gw d (kH hw) A O:=
 have t:=im.yE (lf.less (by decide)) cp ef
 {fs:=nofun,i1:=t.i1,fld:=t.fld,blt:=λf b a h k=>im.tx f b h k,hH:=t.hH,gen:=nofun,range:=by kernel_rfl,zip:=by kernel_rfl,put:=t.put,hI:=t.hI
  fn:=λf xL h=>fq h (iY.look (P:=mw d 48) (.cons (im.kI (λa=>by kernel_rfl) (im.i_ im.BY KTb hj im.aax) (by decide))<|.cons (im.kI (λa=>by kernel_rfl) (im.i_ im.BY KTD hj im.aay) (by decide)) .nil)) λh=>mw.up (t.fn f xL h) (by decide)
  gN:=λr m xL h=>nJ.up (t.gN r m xL h) (by decide)
  fv:=λr m xL h=>fq h (λh=>b5 (P:=λr=>lu d 48 r m xL) h (iY.look (P:=lu d 48 237) (.cons (im.vL (λa=>by kernel_rfl) (im.vJ im.BY KWd hj im.aaz) (by decide))<|.cons (im.vL (λa=>by kernel_rfl) (im.vJ im.BY KWk hj im.aaA) (by decide)) .nil))) λh=>lu.up (t.fv r m xL h) (by decide)
  ext:=im.yB lf cp ef}
theorem wv.aaE(im:wv d):p7 d (kH hw):=λa a lf h1 ex=>im.BW lf h1 ex
theorem wv.HO(im:wv d)(lf:zs 68 A)(cp:O.scope.isGenerator=G)(ef:mv d O):gw d (gz hw) A O:=
 have t:=im.BW (lf.less (by decide)) cp ef
 {fs:=nofun,i1:=t.i1,fld:=t.fld,blt:=λf b a h k=>im.tx f b h k,hH:=t.hH,gen:=nofun,range:=by kernel_rfl,zip:=by kernel_rfl,put:=t.put,hI:=t.hI
  fn:=λf xL h=>fq h (iY.look (P:=mw d 60) (.cons (im.kI (λa=>by kernel_rfl) (im.i_ im.aaE KXf hj im.aaB) (by decide)) .nil)) λh=>mw.up (t.fn f xL h) (by decide)
  gN:=λr m xL h=>nJ.up (t.gN r m xL h) (by decide)
  fv:=λr m xL h=>lu.up (t.fv r m xL h) (by decide)
  ext:=im.yB (lf.less (by decide)) cp ef}
theorem wv.aaF(im:wv d):p7 d (gz hw):=λa a lf h1 ex=>im.HO lf h1 ex
end
section
variable{Ch:iw}{A:xs}
theorem PId{globals:kt}{qual:X}{func:Y kt}{code:cd}{builtins:kt}{C:IN->nl->Prop}(gl:scope.kind=.function)(f8:scope.names.lookup c=j .local)(hm:∀O,O=newEnv scope s.heap.objs.size globals (eR (s.heap.objs.size+1) scope.names []) qual func code bn builtins->∀it,Kn s O.locals (bindL O.kindOf [(c,v)] λa=>bn) O.cells (bindC O.kindOf [(c,v)] λa=>bn) it->s.toks+1≤it.toks->C O it):f4 Ch A (Kc scope globals [] [(c,v)] qual func code bn builtins) C a1 s:=by
 simp only[Kc,Option.isSome_none,pg,n5];refine g1 (Tt ?_);refine g1 (wpAny_layCells _ (λname kind cells=>by cases FC:kind==wz<;>simp[FC]) _ _ _ _ ?_);have Z:=cellsFrom_ok scope.names (s.heap.push {cls:=.type "frame",data:=.dict #[]}) (s.heap.objs.size+1) [] ⟨λa a pc=>(nomatch pc),afu⟩ (by rw[f6];exact Da _);rw[f6]at Z;rw[show({s with heap:=s.heap.push {cls:=.type "frame",data:=.dict #[]}}:nl).heap.objs.size=s.heap.objs.size+1 from f6 ..];have jG:=(afv s.heap (.type "frame")).keeps (Ke scope.names _);have nz:∀b T,s.heap.get? b=j T->(Tu (s.heap.push {cls:=.type "frame",data:=.dict #[]}) scope.names).get? b=j T:=λb T g=>Ke _ _ b T (cP _ g);refine g1 ?_;rw[uj];refine g1 (g1 (ae0 (env:=newEnv scope s.heap.objs.size globals (eR (s.heap.objs.size+1) scope.names []) qual func code bn builtins) f8 jG (λeg tu e0=>s2 ?_) (by show(scope.kind==.class ||(scope.kind==.module&&_))=G;rw[gl];rfl)));dsimp only;rw[Kd];refine s2 (s2 (hm _ rfl _ ?_ (Da _)));have ro:(newEnv scope s.heap.objs.size globals (eR (s.heap.objs.size+1) scope.names []) qual func code bn builtins).kindOf c=j .local:=f8;unfold bindL bindC;rw[tt ro,tt ro];unfold bindL bindC;refine⟨⟨⟨eg,_,rfl⟩,tu,λb T g=>?_,Da _⟩,λz t f0=>?_,Z.apart,λz t f0=>(Z.empty z t f0).2⟩;·exact e0.extBut b T (ep (b1 g)) (nz b T g)
 ·have h1:=Z.empty z t (mem_of_lookup f0);exact h1.1.sameBut e0 (λ(g:@Eq E _ _)=>by have ex:@LE.le E _ (s.heap.objs.size+1) t:=h1.2;have aT:@Eq E t s.heap.objs.size:=g;left)
end
section
variable{d:sw}{A:xs}
theorem Raw(im:wv d)(Z:(W.to {W.s with toks:=W.s.toks+1}).ab d)(fg:W.ak=V)(bf:W.ag=[])(ap:W.o=[])(lf:zs 69 A){n:R}(bZ:x0 d W.B v n)(h:a8 (gz hw) hw 311 [] [n]=j r)(hm:∀eH y,y.ab d->kw d [] (W.to {W.s with toks:=W.s.toks+1}) y->x0 d y.B eH r->C eH y.s):f4 d.M A (call (.ref 311) [v]) C a1 W.s:=by
 have bJ:=im.defn 311 G HM.yD HM.eq;obtain⟨T,gt,hd⟩:=bJ.at_;have base:∀b T,d.az.get? b=j T->W.h.get? b=j T:=λb T g=>Z.old g;refine n9 (afJ (fd:=fdOf hw 311) (body:=c0 (fdOf hw 311)) lf.room (base _ _ gt) hd bJ.co bJ.gen bJ.body (bJ.code.keeps base) ?_);have eJ:b2 (fdOf hw 311)=([("script":X)]:p X):=by kernel_rfl
 have Rcc:DC W.s (fdOf hw 311) ⟨[v],[]⟩ [(("script":X),v)]:=kp_binds (K:=dp d.P) (λe T g=>base _ _ (im.ok.K _ _ (by rw[im.lT];exact g))) (λa=>by kernel_rfl);refine Rcc _ _ _ _ ?_;rw[bJ.Gf];refine fc (PId bJ.kind (by kernel_rfl) λO rs s0 sK ty fd a=>?_);have yj:O=cQ (fdOf hw 311) W.h.objs.size 311:=rs;subst yj;refine⟨(im.ok.nolimit.keeps base).keeps sK.toInCall.keep,?_⟩;let un:nb:=W.to {W.s with toks:=W.s.toks+1};have Rci:Kn un.s (cQ (fdOf hw 311) un.h.objs.size 311).locals (bindL (cQ (fdOf hw 311) un.h.objs.size 311).kindOf ((b2 (fdOf hw 311)).zip [v]) λa=>bn) (cQ (fdOf hw 311) un.h.objs.size 311).cells (bindC (cQ (fdOf hw 311) un.h.objs.size 311).kindOf ((b2 (fdOf hw 311)).zip [v]) λa=>bn) s0:=by rw[eJ];refine⟨⟨?_,sK.toInCall.ns,sK.toInCall.keep,sK.toInCall.fresh⟩,sK.cell,sK.apart,sK.above⟩;obtain⟨a3,ao,g⟩:=sK.toInCall.same;exact⟨a3,ao,g⟩
 obtain⟨Db,Ok,cS⟩:=Gg bJ Z (λa=>fg) (.cons (.aq bZ) .nil:cn d un.B un.ag [v] [n]) Rci fd ty;have fS:zs 68 (A.deeper (cQ (fdOf hw 311) W.h.objs.size 311)):=lf.deeper _;have a2:=Ge im.ok (HM.co im im.aaF _ W.h.objs.size fS) fS fZ;have e2:∀er∈T0 (cQ (fdOf hw 311) W.h.objs.size 311),W.h.objs.size≤er:=by
  intro b cr;rcases cq.mp cr with rfl|cr;·exact Da _
  ·obtain⟨⟨c,t⟩,f0,rfl⟩:=dM.mp cr;exact jp (sK.above c t f0)
 unfold a8 Ba at h;refine Gt h λa h=>d0 (P:=λr=>(∀v y,y.ab d->kw d [] un y->x0 d y.B v r->C v y.s)->_) h (λl nw hm=>?_) hm;rw[eJ]at cS nw;refine codeAny_func ?_;refine pz nw λdm o0 wE f8 nw=>cJ (s6 a2 f8 (λa a=>gG) (λf it=>C (match f with|.ret v=>v|_=>.none) it) (un.to s0) Db cS ap λf u8 P3 dO Ix bI cD=>NF cD ((show u8.o=wE from bI).symm▸nw) (λg=>?_) λv r ay h=>?_) (λa a q=>q) λa a q=>q.elim;·exact hm .none u8 P3 (Ok.then' Z Ix λb cr=>.inr (e2 b cr)) ((show R.none=l.1 from GT k1 (aO g))▸.none)
 ·obtain⟨ZB,cy,bL,eY,oA,pL⟩:=oy P3 ay h;have bR:=hm v ZB cy ((Ok.then' Z Ix λb cr=>.inr (e2 b cr)).trans bL) pL;rw[oA]at bR;exact bR
end
noncomputable def fl:p X:=[" ","\t","  "," \t","\t "," \t\t","\t \t","  \t "]
noncomputable def fm:p X:=["a","b","x"]
abbrev gA:=X×X×X
noncomputable def mx:p (Y gA):=[bn,j ("(","(","("),j ("\"\t<\n\r","&quot;&#x9;&lt;&#xA;&#xD;",""),j ("&)","&amp;)",")")]
noncomputable def p8:p gA:=[("","",""),("(","(","("),("\\\"<&>","\\\"&lt;&amp;&gt;",""),(")",")",")")]
noncomputable def rt:p gA:=[("","",""),("\n\t","\n\t",""),("(","(","("),("\\\")","\\\")",")"),("\r","&#xD;","")]
set_option genInjectivity false in
set_option genSizeOf false in
structure aZ where
 aA:X
 name:X
 value:Y gA
 words:gA
 quoted:gA
noncomputable def c_(u:gA):R:=.tup [.str u.1,.str u.2.1,.str u.2.2]
noncomputable def hP:Y gA->R|none=>.none|some u=>c_ u
noncomputable def dA(l:aZ):R:=.tup [.str l.aA,.str l.name,hP l.value,c_ l.words,c_ l.quoted]
structure aZ.Good(l:aZ):Prop where
 aA:l.aA∈fl
 name:l.name∈fm
 value:l.value∈mx
 words:l.words∈p8
 quoted:l.quoted∈rt
noncomputable def cB(c:X):p m0:=[1,2,3,4].map λsize=>c.cps.toList.foldl (λJL t=>if t==32 then JL+1 else JL+(size - JL.fmod size)) 0
noncomputable def bA:p X:=""::fl
theorem Rco:(bA.map λc=>a8 a5 hw 262 [] [.str c])=bA.map λc=>j (.ah ((cB c).map .int)):=by kernel_rfl
variable{Q:p aZ}
section
variable{J:Sc}{z:E}{bs:KT}{H:hf}{e b yv Hq T i:R}
noncomputable def Rec(g:bv):ga:=!(g.ctorIdx==26)
theorem neN{e b:E}(h:(!(e==b))=V):e≠b:=λg=>aB h (by rw[g,jl];decide)
theorem gh{c:Y t0}{f:t0->cY}{e:t0}(h:c=j e):c.map f=j (f e):=h▸rfl
theorem ru{k:m0}{g2}:sB J (z+1) bs (.Constant (.int k) g2 x) H o=j (.int k,o):=rfl
theorem vM{g2}:sB J (z+1) bs (.Constant (.str c) g2 x) H o=j (.str c,o):=rfl
theorem ahU{g2}:sB J (z+1) bs (.Constant .none g2 x) H o=j (.none,o):=rfl
theorem gB(gt:bb c=V)(h:H.lookup c=j r):sB J (z+1) bs (.Name c x) H o=j (r,o):=(Re gt).trans (m5 h)
theorem hQ{n l:bv}(h1:sB J z bs n H o=j (e,al))(ex:sB J z bs l H al=j (b,f2))(ae:jy po (view f2 e) (view f2 b)=bn)(h:iB po (view f2 e) (view f2 b)=j r):sB J (z+1) bs (.BinOp n po l x) H o=j (r,f2):=AG.trans<|(Op h1).trans<|(Op ex).trans<|(fH ae).trans<|gh h
theorem vN{n l:bv}{k:p R}(h1:sB J z bs n H o=j (e,al))(ex:sB J z bs l H al=j (b,f2))(ae:jy po (view f2 e) (view f2 b)=j k):sB J (z+1) bs (.BinOp n po l x) H o=j (.ah k,f2):=AG.trans<|(Op h1).trans<|(Op ex).trans<|m5 ae
theorem ahV{k:m0}{g2}:sB J (z+1) bs (.UnaryOp .USub (.Constant (.int k) g2 a_) x) H o=j (.int (-k),o):=rfl
theorem P6{af:aN}{n l:bv}{po:lH}{t:ga}(pc:De po l=G)(h1:af n o=j (e,al))(ex:af l al=j (b,f2))(h:ci po (view f2 e) (view f2 b)=j t):qU af n [po] [l] o=j (t,f2):=(Re (pc▸rfl)).trans<|(Op h1).trans<|(Op ex).trans<|gh h
theorem HP{n l:bv}{po:lH}{t:ga}(pc:De po l=G)(h1:sB J z bs n H o=j (e,al))(ex:sB J z bs l H al=j (b,f2))(h:ci po (view f2 e) (view f2 b)=j t):sB J (z+1) bs (.Compare n [po] [l] x) H o=j (.bool t,f2):=gh (P6 (af:=λg o=>sB J z bs g H o) pc h1 ex h)
theorem yG(h1:cx J z bs u H o=j (V,al))(ex:sB J z bs g' H al=j (r,f2)):sB J (z+1) bs (.IfExp u g' jt x) H o=j (r,f2):=Me.trans<|(Op h1).trans ex
theorem yH(h1:cx J z bs u H o=j (G,al))(ex:sB J z bs jt H al=j (r,f2)):sB J (z+1) bs (.IfExp u g' jt x) H o=j (r,f2):=Me.trans<|(Op h1).trans ex
theorem ahW{bd:p bv}(h1:c3 (λg o=>sB J z bs g H o) bd o=j (g3,al))(ex:fa g3 al=j (bQ,f2))(h3:H1 bQ.length=V):sB J (z+1) bs (.List bd x) H o=j (.ah bQ,f2):=Wd.trans<|(Op h1).trans<|(Op ex).trans<|Re h3
theorem tz{bd:p bv}{k:E}(h1:c3 (λg o=>sB J z bs g H o) bd o=j (g3,al))(ex:fa g3 al=j (bQ,f2))(h3:H1 bQ.length=V):sB J (z+1) bs (.Tuple bd k x) H o=j (.tup bQ,f2):=Mf.trans<|(Op h1).trans<|(Op ex).trans<|Re h3
theorem Red:sB J (z+1) bs (.Dict [] [] x) H o=j (.cF [],o):=rfl
theorem Ref{g2}{v:bv}(h1:sB J z bs v H o=j (yv,al))(ex:d4 yv al=j (r,f2)):sB J (z+1) bs (.Dict [j (.Constant (.str c) g2 a_)] [v] x) H o=j (R.cF [(c,r)],f2):=We.trans<|show s4 (sB J z bs v H o) (λr al=>s4 (d4 r al) λaR f2=>j (R.cF [(c,aR)],f2))=_ from(Op h1).trans (Op ex)
theorem fo{v s:bv}(fd:Rec s=V)(h1:sB J z bs v H o=j (T,al))(ex:sB J z bs s H al=j (i,f2))(h:gM (view f2 T) (view f2 i)=j r):sB J (z+1) bs (.Subscript v s x) H o=j (r,f2):=AH.trans<|(t5 (neN fd)).trans<|(Op h1).trans<|(Op ex).trans<|gh h
theorem BZ{e b t r:ga}(h:(e&&b&&t&&r)=V):e=V/\b=V/\t=V/\r=V:=have c:=hg h;have I:=hg c.1;have U:=hg I.1;⟨U.1,U.2,I.2,c.2⟩
theorem SN{e b t:ga}(h:(e ||b ||!t)=G):(!(e ||b))=V/\t=V:=have c:=Kg.mp h;⟨GT (!·) c.1,(agA t).symm.trans (GT (!·) c.2)⟩
theorem P7(gt:bb c=V)(Uf:H.lookup c=j T)(FB:view o T=.inst t s1)(wn:s1.lookup I=j r)(f0:(J.fld t I&&l6 r)=V):sB J (z+1) bs (.Attribute (.Name c a_) I x) H o=j (r,o):=Mg.trans<|(Re gt).trans<|(m5 Uf).trans<|(GT (λr=>Lu r _) FB).trans<|(eS wn).trans (Re f0)
theorem HQ{l:R×p ca}(gt:bb c=V)(Uf:H.lookup c=j T)(h1:c3 (λg o=>sB J z bs g H o) TE o=j (g3,al))(ex:qS J T g3 al=j l):sB J (z+1) bs (.Call (.Name c a_) TE [] x) H o=j l:=AI.trans<|(Re gt).trans<|(m5 Uf).trans<|(Op h1).trans ex
theorem dq{l:R×p ca}(gt:bb c=V)(Uf:H.lookup c=bn)(Os:(df bs c&&!bs.isGenerator)=V)(h1:c3 (λg o=>sB J z bs g H o) TE o=j (g3,al))(ex:sI J c g3 al=j l):sB J (z+1) bs (.Call (.Name c a_) TE [] x) H o=j l:=AI.trans<|(Re gt).trans<|(fH Uf).trans<|(Re Os).trans<|(Op h1).trans ex
theorem ej{l_:bv}{m:X}{k:u1}{l:R×p ca}(pc:(m=="replace")=G)(f0:(bX.endLine==h0.line&&decide (TE.length<30)&&jz l_&&!bs.isGenerator)=V)(az:sB J z bs l_ H o=j (r,al))(gl:ow J r m al=j k)(h1:c3 (λg o=>sB J z bs g H o) TE al=j (g3,f2))(ex:fb J k r m g3 f2=j l):sB J (z+1) bs (.Call (.Attribute l_ m bX) TE [] h0) H o=j l:=AI.trans<|(Eg pc).trans<|(Re (BZ f0).1).trans<|(Re (BZ f0).2.1).trans<|(Re (BZ f0).2.2.1).trans<|(Re (BZ f0).2.2.2).trans<|(Op az).trans<|(eS gl).trans<|(Op h1).trans ex
theorem B0{ai:bv}{bo f1:p R}{yI:E}(h1:iC J z bs ai H o=j (n,cb,al))(ex:AB H ai o (gc bj&&aI.all gc) (j (n,cb,al))=j (bo,yI,f2))(f0:((yI==1&&!(gc bj&&aI.all gc)) ||(yI==2&&!qi u) ||!h8 bs inner u)=G)(h3:kv (i2 (yI==1) (d6 bs inner) u (dU inner H) (λH g o=>sB J z (d6 bs inner) g H o) (λH g o=>cx J z (d6 bs inner) g H o) aI bj) bo f2=j (f1,eu))(sc:H1 bo.length=V):sB J (z+1) bs (.ListComp bj [⟨u,ai,aI,0⟩] inner x) H o=j (.ah f1,eu):=Mi.trans<|show js (AB H ai o (gc bj&&aI.all gc) (iC J z bs ai H o)) (λn cb al=>pp (!((cb==1&&!(gc bj&&aI.all gc)) ||(cb==2&&!qi u)))<|pp (h8 bs inner u)<|s4 (kv (i2 (cb==1) (d6 bs inner) u (dU inner H) (λH g o=>sB J z (d6 bs inner) g H o) (λH g o=>cx J z (d6 bs inner) g H o) aI bj) n al) λf1 f2=>pp (H1 n.length)<|j (R.ah f1,f2))=_ from(qH (h1.symm▸ex)).trans<|(Re (SN f0).1).trans<|(Re (SN f0).2).trans<|(Op h3).trans (Re sc)
theorem fz{af:aN}:c3 af [] o=j ([],o):=rfl
theorem cC{af:aN}{l:p bv}(fd:jU g=V)(h1:af g o=j (r,al))(ex:c3 af l al=j (g3,f2)):c3 af (g::l) o=j (r::g3,f2):=(Re fd).trans<|(Op h1).trans (Op ex)
theorem lx:fa [] o=j ([],o):=rfl
theorem jL(wn:d_ r=V)(h:fa g3 o=j (bQ,al)):fa (r::g3) o=j (r::bQ,al):=Ax.trans<|(Op (uY wn)).trans (Op h)
theorem P8{t:ga}(h:cx J z bs g H o=j (t,al)):cx J (z+1) bs (.UnaryOp .Not g x) H o=j (!t,al):=Wi.trans<|gh h
theorem gi{n l:bv}{po:lH}{t:ga}(pc:De po l=G)(h1:sB J z bs n H o=j (e,al))(ex:sB J z bs l H al=j (b,f2))(h:ci po (view f2 e) (view f2 b)=j t):cx J (z+1) bs (.Compare n [po] [l] x) H o=j (t,f2):=P6 (af:=λg o=>sB J z bs g H o) pc h1 ex h
theorem Rel{t:ga}(h1:sB J z bs (.Name c x) H o=j (r,al))(h:gu (view al r)=j t):cx J (z+1) bs (.Name c x) H o=j (t,al):=Mh.trans<|(Op h1).trans (gh h)
theorem P9{l_:bv}{t:ga}(h1:sB J z bs (.Attribute l_ I x) H o=j (r,al))(h:gu (view al r)=j t):cx J (z+1) bs (.Attribute l_ I x) H o=j (t,al):=Wf.trans<|(Op h1).trans (gh h)
theorem P'{f:bv}{t3}{t:ga}(h1:sB J z bs (.Call f s5 t3 x) H o=j (r,al))(h:gu (view al r)=j t):cx J (z+1) bs (.Call f s5 t3 x) H o=j (t,al):=Wg.trans<|(Op h1).trans (gh h)
theorem my{po:pf}{L:p bv}{l:ga×p ca}(h:h9 (λg o=>cx J z bs g H o) po L o=j l):cx J (z+1) bs (.BoolOp po L x) H o=j l:=h
theorem HR{ax:c6}{l:p bv}{q:ga×p ca}(h:ax g o=j (V,al))(ex:h9 ax .And l al=j q):h9 ax .And (g::l) o=j q:=ox.trans<|(Op h).trans ex
theorem Rep{ax:c6}{l:p bv}(h:ax g o=j (V,al)):h9 ax .Or (g::l) o=j (V,al):=ox.trans<|Op h
theorem vO{ax:c6}{l:p bv}{q:ga×p ca}(h:ax g o=j (G,al))(ex:h9 ax .Or l al=j q):h9 ax .Or (g::l) o=j q:=ox.trans<|(Op h).trans ex
theorem kJ{ax:c6}:h' ax [] o=j (V,o):=rfl
theorem Res{ax:c6}{t:ga}(h:ax g o=j (t,al)):h' ax [g] o=j (t,al):=EV.trans<|(Op h).trans (t.rec rfl rfl)
theorem vP{r:t0}{n:p (X×t0)}:((c,r)::n).lookup c=j r:=by rw[en,jl]
theorem ahX{r g:t0}{n:p (X×t0)}(pi:(c==I)=G)(h:n.lookup c=j r):((I,g)::n).lookup c=j r:=by rw[en,pi];exact h
theorem ahY{g:t0}{n:p (X×t0)}(pi:(c==I)=G)(h:n.lookup c=bn):((I,g)::n).lookup c=bn:=by rw[en,pi];exact h
theorem ahZ:Pv ((c,e)::H) c r=(c,r)::H:=tt (jl c)
theorem ah0(pi:(c==I)=G)(h:Pv H c r=o0):Pv ((I,e)::H) c r=(I,e)::o0:=by rw[Al,pi,ss (by decide)];rw[h]
theorem ah1:Pv [] c r=[(c,r)]:=rfl
variable{aa:wP}{f:bz}
theorem zn{s:wP}{l:p wP}{q:bz×hf×p ca}(h:cj s H o=j (.next,bx,al))(ex:TT cj l bx al=j q):TT cj (s::l) H o=j q:=vj.trans<|(qH h).trans ex
theorem jM{s:wP}{l:p wP}(h:cj s H o=j (f,bx,al))(wn:f≠.next):TT cj (s::l) H o=j (f,bx,al):=by refine vj.trans<|(qH h).trans ?_;cases f<;>first|rfl|exact aB rfl wn
theorem cM:TT cj [] H o=j (.next,H,o):=rfl
theorem HS(rs:J.ext bs (.Return (j g) x)=bn)(h:sB J z bs g H o=j (r,al)):bq J (z+1) bs (.Return (j g) x) H o=j (.ret r,H,al):=i8.trans<|(fH rs).trans (gh h)
theorem fU(rs:J.ext bs (.Expr g x)=bn)(f0:(g.ctorIdx==16)=V)(h:sB J z bs g H o=j (r,al)):bq J (z+1) bs (.Expr g x) H o=j (.next,H,al):=i8.trans<|(fH rs).trans<|(Re f0).trans (gh h)
theorem p9{ly:p wP}{t:ga}{q:bz×hf×p ca}(rs:J.ext bs (.If u hz ly x)=bn)(h:cx J z bs u H o=j (t,al))(ex:TT (bq J z bs) (if t then hz else ly) H al=j q):bq J (z+1) bs (.If u hz ly x) H o=j q:=i8.trans<|(fH rs).trans<|show s4 (cx J z bs u H o) (λt al=>TT (bq J z bs) (c9 t hz ly) H al)=_ from(Op h).trans (t.casesOn (motive:=λt=>TT (bq J z bs) (if t then hz else ly) H al=j q->TT (bq J z bs) (c9 t hz ly) H al=j q) id id ex)
theorem tA{q:bz×hf×p ca}(rs:J.ext bs (.While u hz [] x)=bn)(h:gT (λH o=>cx J z bs u H o) (λH o=>TT (bq J z bs) hz H o) J.turns H o=j q):bq J (z+1) bs (.While u hz [] x) H o=j q:=i8.trans<|(fH rs).trans h
theorem vQ{ai:bv}{q:bz×hf×p ca}(rs:J.ext bs (.For u ai hz [] x)=bn)(fd:J.hI bs ai=bn)(h1:iC J z bs ai H o=j (n,0,al))(h:fQ bs u (λH o=>TT (bq J z bs) hz H o) n H al=j q):bq J (z+1) bs (.For u ai hz [] x) H o=j q:=i8.trans<|(fH rs).trans<|(fH fd).trans<|(qH h1).trans h
theorem HT{ai:bv}{d:hf->p ca->Y (p R×p ca)}{q:bz×hf×p ca}(rs:J.ext bs (.For u ai hz [] x)=bn)(fd:J.hI bs ai=j d)(h1:d H o=j (n,al))(h:fQ bs u (λH o=>TT (bq J z bs) hz H o) n H al=j q):bq J (z+1) bs (.For u ai hz [] x) H o=j q:=i8.trans<|(fH rs).trans<|(m5 fd).trans<|(Op h1).trans h
noncomputable def P_(g:bv):ga:=!(g.ctorIdx==24)&&!(g.ctorIdx==2)&&!ie g
theorem HU{e b t:ga}(h:(e&&b&&t)=V):e=V/\b=V/\t=V:=have c:=hg h;have I:=hg c.1;⟨I.1,I.2,c.2⟩
theorem Ric{b:ga}(h:P_ g=V):(!(ie g&&!b))=V:=by rw[su (HU h).2.2];rfl
theorem Rii{e b:ga}(h:e=V):(!(b&&!e))=V:=by rw[h];cases b<;>rfl
theorem ja(rs:J.ext bs (.Assign [.Name c a_] g x)=bn)(cr:bV bs c=V)(ln:P_ g=V)(h:sB J z bs g H o=j (r,al))(Uf:Pv H c r=o0):bq J (z+1) bs (.Assign [.Name c a_] g x) H o=j (.next,o0,al):=Uf▸(i8.trans<|(fH rs).trans<|(Re cr).trans<|(Re (Ric ln)).trans<|(t5 (neN (HU ln).1)).trans<|(t5 (neN (HU ln).2.1)).trans<|gh h)
theorem vR{gF}(rs:J.ext bs (.Assign [.Name c a_] (.ListComp bj gF inner bF) x)=bn)(cr:bV bs c=V)(ln:(q_ bs c a_ (.ListComp bj gF inner bF) ||vk bs c (.ListComp bj gF inner bF))=V)(h:sB J z bs (.ListComp bj gF inner bF) H o=j (r,al))(Uf:Pv H c r=o0):bq J (z+1) bs (.Assign [.Name c a_] (.ListComp bj gF inner bF) x) H o=j (.next,o0,al):=Uf▸(i8.trans<|(fH rs).trans<|(Re cr).trans<|(Re (Rii ln)).trans<|gh h)
theorem ah2{bd:p bv}(rs:J.ext bs (.Assign [.Name c a_] (.List bd bF) x)=bn)(cr:bV bs c=V)(h1:c3 (λg o=>sB J z bs g H o) bd o=j (g3,al))(ex:fa g3 al=j (bQ,f2))(h3:H1 bQ.length=V)(Uf:Pv H c (.am f2.length)=o0):bq J (z+1) bs (.Assign [.Name c a_] (.List bd bF) x) H o=j (.next,o0,f2++[.list bQ]):=Uf▸(i8.trans<|(fH rs).trans<|(Re cr).trans<|(Re rfl).trans<|show pI (λg o=>sB J z bs g H o) bd o (λg3 f2=>j (bz.next,Pv H c (R.am f2.length),f2++[ca.list g3]))=_ from(Op h1).trans<|(Op ex).trans<|Re h3)
theorem Qa{n l:bv}(rs:J.ext bs (.Assign [.Name c a_] (.BinOp n po l bF) x)=bn)(cr:bV bs c=V)(h1:sB J z bs n H o=j (e,al))(ex:sB J z bs l H al=j (b,f2))(ae:jy po (view f2 e) (view f2 b)=bn)(h:iB po (view f2 e) (view f2 b)=j r)(Uf:Pv H c r=o0):bq J (z+1) bs (.Assign [.Name c a_] (.BinOp n po l bF) x) H o=j (.next,o0,f2):=Uf▸(i8.trans<|(fH rs).trans<|(Re cr).trans<|(Re rfl).trans<|show s4 (sB J z bs n H o) (λe al=>s4 (sB J z bs l H al) λb f2=>eF (jy po (view f2 e) (view f2 b)) (λk=>j (bz.next,Pv H c (R.am f2.length),f2++[ca.list k]))<|(iB po (view f2 e) (view f2 b)).map λr=>(bz.next,Pv H c r,f2))=_ from(Op h1).trans<|(Op ex).trans<|(fH ae).trans (gh h))
theorem Qb{k:E}(rs:J.ext bs (.Assign [.Tuple Rs k a_] g x)=bn)(ty:(!(g.ctorIdx==25))=V)(f0:ie g=G)(h:sB J z bs g H o=j (r,al))(cr:d5 bs (.Tuple Rs k a_) r H=j o0):bq J (z+1) bs (.Assign [.Tuple Rs k a_] g x) H o=j (.next,o0,al):=i8.trans<|(fH rs).trans<|(t5 (neN ty)).trans<|(Re (GT not f0)).trans<|(Op h).trans (gh cr)
theorem Rio(rs:J.ext bs (.AugAssign (.Name c a_) po g x)=bn)(gt:bb c=V)(cr:bV bs c=V)(f8:H.lookup c=j e)(h:sB J z bs g H o=j (b,al))(np:qQ po (view al e) (view al b)=j r)(Uf:Pv H c r=o0):bq J (z+1) bs (.AugAssign (.Name c a_) po g x) H o=j (.next,o0,al):=Uf▸(i8.trans<|(fH rs).trans<|(Re gt).trans<|(Re cr).trans<|(eS f8).trans<|(Op h).trans (eS np))
end
section
variable{J:Sc}{z:E}{bs:KT}{H:hf}{e b yv Hq T i:R}
theorem kK{e:kt}{hi:R}{uZ:p ca}(ae:g3.length+cK.length=(b2 (fdOf hw e)).length)(h:TT (bq J fZ (fdOf hw e).scope) (c0 (fdOf hw e)) ((b2 (fdOf hw e)).zip (g3++cK)) []=j (.ret hi,o0,wE))(wn:d4 hi wE=j (r,uZ)):a8 J hw e cK g3=j r:=by unfold a8 Ba pV;rw[Re (by rw[ae];exact jl _),h];exact GT (n7 _) wn
theorem ah3:([]:p (X×t0)).lookup c=bn:=rfl
theorem kL(f0:jz g=V)(h:sB J z bs g H o=j (.ah n,al))(sc:H1 n.length=V):iC J (z+1) bs g H o=j (n,0,al):=(show iC J (z+1) bs g H o=m1 g (λf s5 t3 a=>dS t3<|cZ f λf a=>pp (df bs f&&(H.lookup f).isNone&&bb f)<|s4 (c3 (λg o=>sB J z bs g H o) s5 o) (xq J f)) (s4 (sB J z bs g H o) xr)from rfl).trans<|(z9 (P:=λg=>∀k:bv->p bv->p n4->wS->Y (p R×E×p ca),∀U,m1 g k U=U) f0 nofun (λh k U=>t5 λq=>by unfold jz m1 at f0;rw[dif_pos q]at f0;exact @Expr.Call.elim (λg=>∀h,Expr.Call.elim g h (λa a a a=>G)=V->gG) g q (λa a a a a h=>nomatch h) q f0) _ _).trans<|(Op h).trans (Re sc)
theorem kM{ai:bv}{f1:p R}(gv:h8 bs inner u=V)(hh:dU inner H=bk)(h1:iC J z bs ai H o=j (n,0,al))(sc:H1 n.length=V)(h3:kv (i2 G (d6 bs inner) u bk (λH g o=>sB J z (d6 bs inner) g H o) (λH g o=>cx J z (d6 bs inner) g H o) aI bj) n al=j (f1,eu)):sB J (z+1) bs (.ListComp bj [⟨u,ai,aI,0⟩] inner x) H o=j (.ah f1,eu):=B0 h1 rfl (by rw[gv];rfl) (by rw[hh];exact h3) sc
theorem ij{c nc:R}(h1:d5 rS u r H=j o0)(ex:h' (gb o0) aI o=j (V,al))(h3:fM o0 bj al=j (c,f2))(aS:d4 c f2=j (nc,ew)):i2 G rS u H fM gb aI bj r o=j (j nc,ew):=(eS h1).trans<|(Op ex).trans<|show s4 (fM o0 bj al) (λc f2=>s4 (d4 c f2) λnc ew=>j (j nc,ew))=_ from(Op h3).trans (Op aS)
theorem B1(h1:d5 rS u r H=j o0)(ex:h' (gb o0) aI o=j (G,al)):i2 G rS u H fM gb aI bj r o=j (bn,al):=(eS h1).trans (Op ex)
theorem nK{f:t0->R}{d:t0->Y R}{step:R->p ca->Y (Y R×p ca)}:∀{n:p t0},(∀c∈n,step (f c) o=j (d c,o))->kv step (n.map f) o=j (n.filterMap d,o)|[],_=>rfl|c::n,h=>by refine L9.trans<|(Op (h c (.head _))).trans<|(Op (nK λI KM=>h I (.tail _ KM))).trans ?_;rw[r2];cases d c<;>rfl
theorem HV(cr:bV bs c=V):d5 bs (.Name c x) r H=j (Pv H c r):=Re cr
theorem ah4{k:E}(h:bindAll bs Rs g3 H=j o0):d5 bs (.Tuple Rs k x) (.tup g3) H=j o0:=h
theorem ah5:bindAll bs [] [] H=j H:=rfl
theorem ah6(cr:bV bs c=V)(Uf:Pv H c r=bx)(h:bindAll bs Rs g3 bx=j o0):bindAll bs (.Name c x::Rs) (r::g3) H=j o0:=(Re cr).trans (Uf▸h)
theorem ah7:dU inner []=[]:=rfl
theorem ah8(h:(inner.names.lookup c==j .free)=V)(ex:dU inner H=bk):dU inner ((c,r)::H)=(c,r)::bk:=by unfold dU at ex⊢;rw[k5,tt h,ex]
theorem Qc(h:(inner.names.lookup c==j .free)=G)(ex:dU inner H=bk):dU inner ((c,r)::H)=bk:=by unfold dU at ex⊢;rw[k5,ss (by rw[h];decide),ex]
theorem ah9{m:X}:ow J (.str c) m o=j .val:=rfl
theorem HW{m:X}{l:R}(h:xn r m (g3.map (view o))=j l):fb J .val r m g3 o=j (l,o):=gh h
theorem Roc{m:X}{f1:p X}(pc:(m=="join")=V)(FB:view o e=.ah n)(fd:pG n=j f1)(s3:mR c f1=V):fb J .val (.str c) m [e] o=j (.str (jk c f1),o):=by refine HW ?_;rw[cs,zM,FB,eq_of_beq pc];exact(eS fd).trans (Re s3)
theorem strs_map:∀n:p X,pG (n.map .str)=j n:=λcc=>cc.rec (rfl) λc n ih=>gh (ih)
end
set_option genInjectivity false in
set_option genSizeOf false in
structure dI where
 text:X
 kind:E
 nL:X
noncomputable def eL(x:dI):R:=.tup [.str x.text,.int x.kind,.str x.nL]
noncomputable def nM(k:p E):R:=.tup (k.map λi=>.int (i:E))
noncomputable def gW(he:p dI)(t3:p E):p X:=(he.filter λx=>t3.contains x.kind).map (·.text)
noncomputable def yJ:p (p E):=[[0],[0,1],[0,2],[0,3],[0,1,2,3],[0,1,2,3,4]]
theorem HX:∀k<5,∀t3∈yJ,ci .In (.int (k:E)) (nM t3)=j (t3.contains k):=by decide+kernel
theorem Roi{he:p dI}(gl:∀x∈he,x.kind<5)(oR:t3∈yJ)(sc:H1 he.length=V)(s3:mR "" (gW he t3)=V):a8 a5 hw 292 [] [.ah (he.map eL),nM t3]=j (.str (jk "" (gW he t3))):=by
 have i5:H1 (he.map eL).length=V:=by rw[aK];exact sc
 apply kK;·kernel_rfl
 ·conv=>
   lhs
   arg 2
   whnf
  rw[show b2 (fdOf hw 292)=([("pieces":X),"kinds"]:p X) by kernel_rfl];simp only[c2,hY,lS];apply jM;right;case h.h.h.h1.h1.h3=>
   refine nK (d:=λx=>if t3.contains x.kind then j (.str x.text)else bn) λx ln=>?_;have iI:=HX x.kind (gl x ln) t3 oR;by_cases f0:t3.contains x.kind=V
   ·rw[tt f0];unfold eL;apply ij;right;·rw[<- f0];exact iI
    ·rfl
   ·rw[ss f0];unfold eL;apply B1;right;·rw[sb]at f0;rw[<- f0];exact iI
  ·exact i5
  ·exact i5
  ·right
  ·have g:he.filterMap (λx=>if t3.contains x.kind=V then j (R.str x.text)else bn)=(gW he t3).map .str:=by
    unfold gW;rw[dG];clear sc i5 s3 gl;induction he with
    |nil=>rfl
    |cons x he ih=>
     rw[r2,k5];by_cases f0:t3.contains x.kind=V;·rw[tt f0,tt f0,cs,ih];rfl
     ·rw[ss f0,ss f0,ih]
   rw[g];rfl
  ·exact strs_map _
  ·exact s3
  ·intro h;cases h
 ·rfl
variable{he:p dI}
noncomputable def tB(x:dI):X:=if x.kind==1 ||x.kind==3 then("\"":X)++x.text++"\"" else x.text
noncomputable def nN(he:p dI)(t3:p E):p X:=(he.filter λx=>t3.contains x.kind).map tB
theorem HY(h:c.length+I.length≤1000000):iB .Add (.str c) (.str I)=j (.str (c++I)):=Re (b6 h)
theorem qn(c I:X):(c++I).length=c.length+I.length:=Ao c I
theorem Roo(gl:∀x∈he,x.kind<5)(ae:∀x∈he,x.text.length≤1000)(oR:t3∈yJ)(sc:H1 he.length=V)(s3:mR "" (nN he t3)=V):a8 a5 hw 287 [] [.ah (he.map eL),nM t3]=j (.str (jk "" (nN he t3))):=by
 have i5:H1 (he.map eL).length=V:=by rw[aK];exact sc
 apply kK;·kernel_rfl
 ·conv=>
   lhs
   arg 2
   whnf
  rw[show b2 (fdOf hw 287)=([("pieces":X),"kinds"]:p X) by kernel_rfl];simp only[c2,hY,lS];apply jM;right;case h.h.h.h1.h1.h3=>
   refine nK (d:=λx=>if t3.contains x.kind then j (.str (tB x))else bn) λx ln=>?_;have iI:=HX x.kind (gl x ln) t3 oR;have vS:∀k<5,ci .In (.int (k:E)) (.tup [.int 1,.int 3])=j (k==1 ||k==3):=by decide+kernel
   have vS:=vS x.kind (gl x ln);have aia:=ae x ln;by_cases f0:t3.contains x.kind=V
   ·rw[tt f0];unfold eL;by_cases wT:(x.kind==1 ||x.kind==3)=V
    ·rw[wT]at vS;rw[show tB x=("\"":X)++x.text++"\"" by unfold tB;rw[tt wT]];apply ij;right;·rw[<- f0];exact iI
     ·apply yG;·right;all_goals first|rfl|exact vS
      ·apply hQ
       ·apply hQ;right;·rfl
        ·exact HY (c:="\"") (by
          have:("\"":X).length=1:=by decide+kernel
          left)
       ·right
       ·rfl
       ·exact HY (I:="\"") (by
         have:("\"":X).length=1:=by decide+kernel
         rw[qn];left)
     ·rfl
    ·have yK:=wT;rw[sb]at wT;rw[wT]at vS;rw[show tB x=x.text by unfold tB;rw[ss yK]];apply ij;right;·rw[<- f0];exact iI
     ·apply yH;·right;all_goals first|rfl|exact vS
      ·right
     ·rfl
   ·rw[ss f0];unfold eL;apply B1;right;·rw[sb]at f0;rw[<- f0];exact iI
  ·exact i5
  ·exact i5
  ·right
  ·have g:he.filterMap (λx=>if t3.contains x.kind=V then j (R.str (tB x))else bn)=(nN he t3).map .str:=by
    unfold nN;rw[dG];clear sc i5 s3 gl ae;induction he with
    |nil=>rfl
    |cons x he ih=>
     rw[r2,k5];by_cases f0:t3.contains x.kind=V;·rw[tt f0,tt f0,cs,ih];rfl
     ·rw[ss f0,ss f0,ih]
   rw[g];rfl
  ·exact strs_map _
  ·exact s3
  ·intro h;cases h
 ·rfl
noncomputable abbrev na(c:X):p E:=c.cps.toList
noncomputable def Lt(n:p E):X:=⟨n.toArray⟩
theorem dB(n:p E):na (Lt n)=n:=by unfold na Lt;simp
theorem vT(c:X):Lt (na c)=c:=by cases c;unfold na Lt;simp
theorem vU(c I:X):na (c++I)=na c++na I:=by show(c.cps++I.cps).toList=_;simp
theorem tC(h:na c=na I):c=I:=by rw[<- vT c,<- vT I,h]
theorem ik(c:X):(na c).length=c.length:=by unfold na;simp[JQ]
theorem tD(U:X):∀(c:X) (l:p X),na (Uc U (c::l))=na c++l.flatMap λx=>na U++na x|c,[]=>by simp[Uc]|c,I::l=>by show na (c++U++Uc U (I::l))=_;rw[vU,vU,tD U I l];simp
theorem HZ(f1:p X):na (jk "" f1)=f1.flatMap na:=by
 unfold jk;rw[agB];cases f1 with
 |nil=>decide+kernel
 |cons c l=>
  rw[tD];have:na ("":X)=[]:=by decide+kernel
  simp[this]
noncomputable def gX(t:E)(U:p E)(n:p E):p E:=n.flatMap λk=>if k=t then U else[k]
theorem H0{t:E}{U n:p E}(h:t∉n):gX t U n=n:=by induction n with|nil=>rfl|cons k n ih=>rw[cq,wQ]at h;unfold gX at ih⊢;rw[g9,ss (λg=>h.1 g.symm),ih h.2];rfl
theorem H2{t:E}{U e b:p E}:gX t U (e++b)=gX t U e++gX t U b:=by unfold gX;simp
theorem Qd{t:E}{U:X}:∀{l:p X},(∀x∈l,t∉na x)->gX t (na U) (l.flatMap λx=>t::na x)=l.flatMap λx=>na U++na x
 |[],_=>rfl
 |x::l,h=>by
  rw[g9,H2,Qd λq wT=>h q (.tail _ wT),g9];have:gX t (na U) (t::na x)=na U++na x:=by have g:=H0 (U:=na U) (h x (.head _));unfold gX at g⊢;rw[g9,tt rfl,g]
  rw[this]
theorem Rxc(c:X)(t:E)(U:X):na (Txt.replace c ⟨#[t]⟩ U)=gX t (na U) (na c):=by
 rw[StrLaws.replace_one];have wn:=agC c t;have s3:=agD c ⟨#[t]⟩;cases fd:Txt.split c ⟨#[t]⟩with
 |nil=>
  rw[fd]at s3;have:na c=[]:=by rw[<- s3];rfl
  rw[this];rfl
 |cons x l=>
  rw[fd]at wn s3;rw[tD];have g:na c=na x++l.flatMap λq=>t::na q:=by rw[<- s3,tD];rfl
  rw[g,H2,H0 (wn x (.head _)),Qd λq wT=>wn q (.tail _ wT)]
noncomputable def gj(t:E):p E->p (p E)|[]=>[[]]|k::l=>if k=t then[]::gj t l else match gj t l with|[]=>[[k]]|n::op=>(k::n)::op
theorem B2{t k:E}{l:p E}:gj t (k::l)=if k=t then[]::gj t l else match gj t l with|[]=>[[k]]|n::op=>(k::n)::op:=rfl
theorem Qe{t:E}{e b:p E}(h:t∉e):gj t (e++t::b)=e::gj t b:=by induction e with|nil=>show gj t (t::b)=_;rw[B2,tt rfl]|cons k e ih=>rw[cq,wQ]at h;rw[jW,B2,ss (λg=>h.1 g.symm),ih h.2]
theorem Qf{t:E}{e:p E}(h:t∉e):gj t e=[e]:=by induction e with|nil=>rfl|cons k e ih=>rw[cq,wQ]at h;rw[B2,ss (λg=>h.1 g.symm),ih h.2]
theorem Qg{t:E}:∀{l:p X} {x:X},t∉na x->(∀q∈l,t∉na q)->gj t (na x++l.flatMap λq=>t::na q)=(x::l).map na|[],x,h,_=>by simp[Qf h]|q::l,x,h,nw=>by rw[g9,jW,Qe h,Qg (nw q (.head _)) λes yK=>nw es (.tail _ yK)];rfl
theorem Rxi(c:X)(t:E):(Txt.split c ⟨#[t]⟩).map na=gj t (na c):=by
 have wn:=agC c t;have s3:=agD c ⟨#[t]⟩;have ln:=split_pos c ⟨#[t]⟩;cases fd:Txt.split c ⟨#[t]⟩with
 |nil=>rw[fd]at ln;simp at ln
 |cons x l=>
  rw[fd]at wn s3;have g:na c=na x++l.flatMap λq=>t::na q:=by rw[<- s3,tD];rfl
  rw[g,Qg (wn x (.head _)) λq wT=>wn q (.tail _ wT)]
theorem Rxo(c:X)(t:E):Txt.split c ⟨#[t]⟩=(gj t (na c)).map Lt:=by
 rw[<- Rxi,dG];have:(Lt∘na)=id:=by funext I;exact vT I
 rw[this,agE]
theorem Sat(c:X)(t:E):ci .In (.str ⟨#[t]⟩) (.str c)=j (decide (t∈na c)):=by show j (!(qt c ⟨#[t]⟩ 0 c.length 1).isEmpty)=_;rw[agF]
theorem Qh(c:X)(t:E):ci .NotIn (.str ⟨#[t]⟩) (.str c)=j (!decide (t∈na c)):=by show j (!(!(qt c ⟨#[t]⟩ 0 c.length 1).isEmpty))=_;rw[agF]
theorem vV{f1:p X}(h:(f1.flatMap na).length≤1000000):mR "" f1=V:=by
 have bR:∀(n:p X) (z:E),n.foldl (λe x=>e+x.length+("":X).length) z=z+(n.flatMap na).length:=by intro n;induction n with|nil=>intro z;rfl|cons x n ih=>intro z;rw[Ud,ih,g9,ct,ik,show("":X).length=0 by decide+kernel];left
 unfold mR Builtin.Str.tooLong;rw[List.foldl_toArray,bR];have:=k6;rw[uc,T9];left
section
variable{J:Sc}{z:E}{bs:KT}{H:hf}{U:X}
theorem Sel{b:p wP}{h:zw}{fd:p zw}{q:bz×hf×p ca}(rs:J.ext bs (.Try b (h::fd) [] [] x)=bn)(h1:TT (bq J z bs) b H o=j q):bq J (z+1) bs (.Try b (h::fd) [] [] x) H o=j q:=i8.trans<|(fH rs).trans h1
theorem Qi{T:bv}{m:X}{g2 v:E}(pc:(m=="replace")=V)(f0:(bX.endLine==h0.line&&jz T)=V)(az:sB J z bs T H o=j (.str c,al))(xE:(I==U)=G)(cr:c.length+(c.length+1)*U.length≤16777216):sB J (z+1) bs (.Call (.Attribute T m bX) [.Constant (.str I) g2 a_,.Constant (.str U) v bF] [] h0) H o=j (.str (Txt.replace c I U),al):=by rw[iT]at f0;exact AI.trans<|(Ef pc).trans<|show s4 (sB J z bs T H o) (λr al=>h2 r λc=>pp (bX.endLine==h0.line)<|pp (jz T)<|pp (!(I==U))<|pp (lK (c.length+(c.length+1)*U.length) 16777216)<|j (R.str (Txt.replace c I U),al))=_ from(Op az).trans<|(Re f0.1).trans<|(Re f0.2).trans<|(Re (GT not xE)).trans<|Re (SV cr)
theorem Set{g:R}:Pv [(c,r)] c g=[(c,g)]:=tt (jl c)
theorem B3{t:E}{n:p E}{g2 v w:E}{Qj:wS}(rs:J.ext bs (.If (.Compare (.Constant (.str I) g2 x) [.In] [.Name c a_] bF) [.Assign [.Name c eU] (.Call (.Attribute (.Name c hy) "replace" bX) [.Constant (.str I) v f7,.Constant (.str U) w pB] [] w7) w8] [] Qj)=bn)(Src:J.ext bs (.Assign [.Name c eU] (.Call (.Attribute (.Name c hy) "replace" bX) [.Constant (.str I) v f7,.Constant (.str U) w pB] [] w7) w8)=bn)(pc:De .In (.Name c a_)=G)(gt:bb c=V)(cr:bV bs c=V)(p1:(bX.endLine==w7.line&&V)=V)(KM:I=⟨#[t]⟩)(xE:(I==U)=G)(sc:U.length=4\/U.length=5\/U.length=6)(ae:n.length≤1000000):bq J (z+5) bs (.If (.Compare (.Constant (.str I) g2 x) [.In] [.Name c a_] bF) [.Assign [.Name c eU] (.Call (.Attribute (.Name c hy) "replace" bX) [.Constant (.str I) v f7,.Constant (.str U) w pB] [] w7) w8] [] Qj) [(c,.str (Lt n))] o=j (.next,[(c,.str (Lt (gX t (na U) n)))],o):=by
 subst KM;have pi:∀k,sB J (k+1) bs (.Name c a_) [(c,R.str (Lt n))] o=j (.str (Lt n),o):=λk=>gB gt vP;have Sre:∀k,sB J (k+1) bs (.Name c hy) [(c,R.str (Lt n))] o=j (.str (Lt n),o):=λk=>gB gt vP;have tE:=Sat (Lt n) t;rw[dB]at tE;refine p9 rs (t:=decide (t∈n)) (gi pc vM (pi _) tE) ?_;by_cases f0:t∈n
 ·rw[hV f0,tt rfl];have aV:(Lt n).length=n.length:=by rw[<- ik,dB]
  have g:Txt.replace (Lt n) ⟨#[t]⟩ U=Lt (gX t (na U) n):=tC (by rw[Rxc,dB,dB]);refine zn (ja Src cr rfl (Qi (by decide+kernel) p1 (Sre _) xE (by rw[aV];rcases sc with h|h|h<;>rw[h]<;>left)) Set) ?_;rw[g];rfl
 ·rw[lL f0,ss hW,H0 f0];rfl
theorem H3{t:E}{yL n:p E}(sc:yL.length≤6):(gX t yL n).length≤6*n.length:=by induction n with|nil=>simp[gX]|cons k n ih=>unfold gX at ih⊢;rw[g9,ct];split<;>simp only[iW,Kw]at*<;>left
end
noncomputable def jb(n:p E):p E:=gX 13 (na "&#xD;") (gX 62 (na "&gt;") (gX 60 (na "&lt;") (gX 38 (na "&amp;") n)))
theorem Suf(e b:p E):jb (e++b)=jb e++jb b:=by unfold jb;simp only[H2]
theorem Sys{n:p E}(ae:n.length≤4000):a8 a5 hw 248 [] [.str (Lt n)]=j (.str (Lt (jb n))):=by
 have bY:=H3 (t:=38) (yL:=na "&amp;") (n:=n) (by decide+kernel);have eT:=H3 (t:=60) (yL:=na "&lt;") (n:=gX 38 (na "&amp;") n) (by decide+kernel);have G7:=H3 (t:=62) (yL:=na "&gt;") (n:=gX 60 (na "&lt;") (gX 38 (na "&amp;") n)) (by decide+kernel);apply kK;·kernel_rfl
 ·conv=>
   lhs
   arg 2
   whnf
  rw[show b2 (fdOf hw 248)=([("text":X)]:p X) by kernel_rfl];simp only[c2,hY,lS];apply jM
  ·apply Sel;·kernel_rfl
   ·refine zn (B3 (t:=38) (by kernel_rfl) (by kernel_rfl) (by kernel_rfl) (by kernel_rfl) (by kernel_rfl) (by kernel_rfl) (by kernel_rfl) (by kernel_rfl) (.inr (.inl (by kernel_rfl))) (by left)) ?_;refine zn (B3 (t:=60) (by kernel_rfl) (by kernel_rfl) (by kernel_rfl) (by kernel_rfl) (by kernel_rfl) (by kernel_rfl) (by kernel_rfl) (by kernel_rfl) (.inl (by kernel_rfl)) (by left)) ?_;refine zn (B3 (t:=62) (by kernel_rfl) (by kernel_rfl) (by kernel_rfl) (by kernel_rfl) (by kernel_rfl) (by kernel_rfl) (by kernel_rfl) (by kernel_rfl) (.inl (by kernel_rfl)) (by left)) ?_;refine zn (B3 (t:=13) (by kernel_rfl) (by kernel_rfl) (by kernel_rfl) (by kernel_rfl) (by kernel_rfl) (by kernel_rfl) (by kernel_rfl) (by kernel_rfl) (.inr (.inl (by kernel_rfl))) (by left)) ?_;apply jM;right;intro h;cases h
  ·intro h;cases h
 ·rfl
section
variable{J:Sc}{z:E}{bs:KT}{H:hf}{T:R}{U s:X}
theorem vW{lo:Y bv}{n h:Y m0}(h1:sB J z bs (.Name c x) H o=j (T,al))(ex:lc (λg o=>sB J z bs g H o) lo al=j (n,f2))(h3:lc (λg o=>sB J z bs g H o) np f2=j (h,ew))(FB:view ew T=.str s)(sc:H1 s.length=V):sB J (z+1) bs (.Subscript (.Name c x) (.Slice lo np bn a_) bF) H o=j (.str (ph s n h),ew):=by exact AH.trans<|show xo (λg o=>sB J z bs g H o) (.Name c x) lo np o=_ from(Op h1).trans<|(Op ex).trans<|(Op h3).trans<|by rw[FB];exact Re sc
theorem yM{af:aN}:lc af bn o=j (bn,o):=rfl
theorem nO{af:aN}{i:m0}(h:af g o=j (.int i,al)):lc af (j g) o=j (j i,al):=L8.trans (Op h)
theorem tF{i:E}{m:X}(ae:o[i]?=j (.list n))(pc:(m=="append")=V):ow J (.am i) m o=j .app:=(eS ae).trans (eq_of_beq pc▸rfl)
theorem rv{i:E}{m:X}(wn:d_ r=V)(ae:o[i]?=j (.list n))(sc:H1 n.length=V):fb J .app (.am i) m [r] o=j (.none,o.set i (.list (n++[r]))):=by exact(Op (k:=λaR wE=>k_ wE[i]? λn=>pp (H1 n.length)<|j (R.none,wE.set i (ca.list (n++[aR])))) (uY wn)).trans<|(w' ae).trans (Re sc)
theorem kf{ly:p wP}{q:bz×hf×p ca}(rs:J.ext bs (.If u hz ly x)=bn)(h:cx J z bs u H o=j (V,al))(ex:TT (bq J z bs) hz H al=j q):bq J (z+1) bs (.If u hz ly x) H o=j q:=p9 rs h ex
theorem iJ{ly:p wP}{q:bz×hf×p ca}(rs:J.ext bs (.If u hz ly x)=bn)(h:cx J z bs u H o=j (G,al))(ex:TT (bq J z bs) ly H al=j q):bq J (z+1) bs (.If u hz ly x) H o=j q:=p9 rs h ex
theorem jc{dQ:hf->p ca->St}{l:p R}{q:bz×hf×p ca}(cr:d5 bs u r H=j bx)(h:dQ bx o=j (.next,e',f2))(nw:fQ bs u dQ l e' f2=j q):fQ bs u dQ (r::l) H o=j q:=by exact FX.trans<|(eS cr).trans<|(qH h).trans nw
end
theorem Qk{n:p E}{e b:E}(h:e≤b)(ex:b≤n.length):ph (Lt n) (j (e:m0)) (j (b:m0))=Lt ((n.drop e).take (b - e)):=by have:=slice_closesL (x:=Lt n) (i:=(e:m0)) (j:=(b:m0)) (by left) (by left) (by rw[<- ik,dB];left);have g:=eq_of_beq this;rw[g];show Lt (((na (Lt n)).drop ((e:m0)).toNat).take ((b:m0) - (e:m0)).toNat)=_;rw[dB,DD,show((b:m0) - (e:m0)).toNat=b - e by left]
theorem SBG{n:p E}{e:E}(ex:e≤n.length):ph (Lt n) (j (e:m0)) bn=Lt (n.drop e):=by
 have ae:((Lt n).length:m0)=n.length:=by rw[<- ik,dB]
 have:=slice_from_eq (x:=Lt n) (i:=(e:m0)) (b:=n.length) (by left) (by rw[ae];left) ae.symm;rw[this];show Lt (((na (Lt n)).drop ((e:m0)).toNat).take ((n.length:m0) - (e:m0)).toNat)=_;rw[dB,DD];congr 1;rw[Ue];rw[Ks];left
noncomputable def Do(e k:E):wP:=((c0 (fdOf hw e))[k]?).getD (.Pass ⟨0,0,0,0⟩)
noncomputable def nP:bv:=.Constant .none 0 ⟨0,0,0,0⟩
noncomputable def dC(s:wP):p wP:=uD s (λa a b a a=>b)<|w5 s (λa b a a=>b)<|sr s (λa b a a=>b) []
noncomputable def jN(s:wP):bv:=uD s (λu a a a a=>u) nP
noncomputable def oZ(H:hf)(o:p ca):St:=TT (bq a5 39 (fdOf hw 52).scope) (dC (Do 52 4)) H o
noncomputable def B4:Y E->R|none=>.none|some k=>.int (k:E)
noncomputable def kg(lw:p E)(aa:E)(po:Y E)(he:E)(ch:p E):hf:=[("addr",.str (Lt lw)),("start",.int (aa:E)),("open_pos",B4 po),("result",.am 0),("pos",.int (he:E)),("ch",.str (Lt ch))]
theorem yN{lw:p E}{aa:E}{po:Y E}{he:E}{ch:p E}(h:ch≠[34]):oZ (kg lw aa po he ch) o=j (.next,kg lw aa po he ch,o):=by
 unfold oZ kg
 conv=>
  lhs
  arg 2
  whnf
 apply zn
 ·apply iJ;·kernel_rfl
  ·right;show j (na (Lt ch)==na "\"")=_;rw[dB,show na "\""=[34] by decide+kernel,eo.mpr h]
  ·right
 ·right
theorem SBH{lw:p E}{aa he:E}:oZ (kg lw aa bn he [34]) o=j (.next,kg lw aa (j he) he [34],o):=by
 unfold oZ kg
 conv=>
  lhs
  arg 2
  whnf
 apply zn
 ·apply kf;·kernel_rfl
  ·right;kernel_rfl
  ·apply zn
   ·apply kf;·kernel_rfl
    ·right;rfl
    ·apply zn;·right
     ·rfl
   ·rfl
 ·rfl
theorem SBL{lw:p E}{aa he:E}:oZ (kg lw aa (j aa) he [34]) o=j (.next,kg lw (he+1) bn he [34],o):=by
 unfold oZ kg
 conv=>
  lhs
  arg 2
  whnf
 apply zn
 ·apply kf;·kernel_rfl
  ·right;kernel_rfl
  ·apply zn
   ·apply iJ;·kernel_rfl
    ·right;rfl
    ·apply zn
     ·apply iJ;·kernel_rfl
      ·right;show j ((aa:m0) !=(aa:m0))=_;rw[zU]
      ·right
     ·apply zn
      ·apply Qa;·kernel_rfl
       ·kernel_rfl
       ·right
       ·right
       ·rfl
       ·rfl
       ·right
      ·apply zn;·right
       ·rfl
   ·rfl
 ·rfl
theorem SCG{lw:p E}{aa T he:E}{wf:p R}(h1:aa≤T)(aC:aa≠T)(ex:T≤lw.length)(fy:lw.length≤100000)(fw:wf.length≤100000):oZ (kg lw aa (j T) he [34]) [.list wf]=j (.next,kg lw (he+1) bn he [34],[.list (wf++[.str (Lt ((lw.drop aa).take (T - aa)))])]):=by
 have aV:H1 (Lt lw).length=V:=b6 (by rw[<- ik,dB];left);have SCH:H1 wf.length=V:=b6 (by left);have cr:((aa:m0) !=(T:m0))=V:=by rw[Ua];left
 unfold oZ kg;simp only[B4]
 conv=>
  lhs
  arg 2
  whnf
 apply zn
 ·apply kf;·kernel_rfl
  ·right;kernel_rfl
  ·apply zn
   ·apply iJ;·kernel_rfl
    ·right;rfl
    ·apply zn
     ·apply kf;·kernel_rfl
      ·right;exact GT j cr
      ·apply zn
       ·apply fU;·kernel_rfl
        ·kernel_rfl
        ·apply ej;·kernel_rfl
         ·kernel_rfl
         ·right
         ·apply tF;·rfl
          ·kernel_rfl
         ·apply cC;·kernel_rfl
          ·apply vW;·right
           ·apply nO;right
           ·apply nO;right
           ·rfl
           ·exact aV
          ·right
         ·apply rv;·rfl
          ·rfl
          ·exact SCH
       ·right
     ·rw[Qk h1 ex];apply zn
      ·apply Qa;·kernel_rfl
       ·kernel_rfl
       ·right
       ·right
       ·rfl
       ·rfl
       ·right
      ·apply zn;·right
       ·rfl
   ·rfl
 ·rfl
noncomputable def dr:ga->ga->p E->p E|q,V,[]=>if q then[]else[92]|_,G,[]=>[]|q,V,t::l=>(if q then[]else[92,t])++dr q G l|q,G,t::l=>if t=92 then dr q V l else if t=34 then dr (!q) G l else(if q then[]else[t])++dr q G l
noncomputable def hR:ga->ga->p E->ga|q,_,[]=>q|q,V,_::l=>hR q G l|q,G,t::l=>if t=92 then hR q V l else if t=34 then hR (!q) G l else hR q G l
theorem Ql{q:ga}{t:E}{l:p E}:dr q V (t::l)=(if q then[]else[92,t])++dr q G l:=rfl
theorem H4{q:ga}{t:E}{l:p E}:dr q G (t::l)=if t=92 then dr q V l else if t=34 then dr (!q) G l else(if q then[]else[t])++dr q G l:=rfl
theorem Qm{q:ga}{t:E}{l:p E}:hR q G (t::l)=if t=92 then hR q V l else if t=34 then hR (!q) G l else hR q G l:=rfl
inductive jO:hf->Prop|nil:jO []|two (e b:R):jO [("pos",e),("ch",b)]
noncomputable def yO(lw:p E)(aa:E)(po:Y E)(f1:hf):hf:=("addr",.str (Lt lw))::("start",.int (aa:E))::("open_pos",B4 po)::("result",.am 0)::f1
theorem rx{lw:p E}{aa k:E}{po:Y E}{t:p E}(f8:jO f1):d5 (fdOf hw 52).scope (jN (Do 52 4)) (.tup [.int (k:E),.str (Lt t)]) (yO lw aa po f1)=j (kg lw aa po k t):=by unfold yO kg;cases f8<;>kernel_rfl
noncomputable abbrev SCL:p R->hf->p ca->St:=fQ (fdOf hw 52).scope (jN (Do 52 4)) oZ
theorem H5{lw:p E}{e b t:E}(h1:e≤b)(ex:b≤t):(lw.drop e).take (b - e)++(lw.drop b).take (t - b)=(lw.drop e).take (t - e):=by
 have g:t - e=(b - e)+(t - b):=by rw[afU,Nat.sub_add_sub_cancel ex h1]
 rw[g,List.take_add,DB,Nat.add_sub_cancel' h1]
theorem H6{lw:p E}{e:E}:(lw.drop e).take (lw.length - e)=lw.drop e:=Ue (mT Ks)
inductive ry(lw:p E)(UF:p R)(H:hf)(wf:p X)(z:E)(out:p E):Prop|mk (c7:E) (gU:p X) (aF:hf):jO aF->SCL UF H [.list (wf.map .str)]=j (.next,yO lw c7 bn aF,[.list (gU.map .str)])->c7≤lw.length->gU.length≤z->gU.flatMap na++lw.drop c7=out->ry lw UF H wf z out
theorem ry.step{lw:p E}{UF:p R}{H:hf}{wf gU:p X}{z ou:E}{out rz:p E}(h:ry lw UF o0 gU ou rz)(cr:d5 (fdOf hw 52).scope (jN (Do 52 4)) r H=j bx)(fd:oZ bx [.list (wf.map .str)]=j (.next,o0,[.list (gU.map .str)]))(pi:ou≤z)(gt:rz=out):ry lw (r::UF) H wf z out:=h.casesOn λc7 gU aF h1 ex h3 aS dT=>⟨c7,gU,aF,h1,jc cr fd ex,h3,aJ aS pi,dT.trans gt⟩
theorem ry.more{lw:p E}{UF:p R}{H:hf}{wf:p X}{z ou:E}{out rz:p E}(h:ry lw UF H wf ou rz)(pi:ou≤z)(gt:rz=out):ry lw UF H wf z out:=h.casesOn λc7 gU aF h1 ex h3 aS dT=>⟨c7,gU,aF,h1,ex,h3,aJ aS pi,dT.trans gt⟩
noncomputable def B5(cL:ga)(po:Y E)(h0:E):E:=po.getD (if cL then h0 - 1 else h0)
def H7(aa:E)(cL:ga)(po:Y E)(h0:E):Prop:=aa≤B5 cL po h0/\B5 cL po h0≤h0
theorem SOM{lw:p E}(fy:lw.length≤100000):∀(rest:p E) (h0:E) (cL:ga) (po:Y E) (aa:E) (wf:p X) (f1:hf),jO f1->lw.drop h0=rest->h0≤lw.length->(cL=V->∃k,h0=k+1/\lw.drop k=92::rest)->H7 aa cL po h0->wf.length+rest.length≤100000->hR po.isSome cL rest=G->ry lw (ea h0 cL rest) (yO lw aa po f1) wf (wf.length+rest.length) (wf.flatMap na++(lw.drop aa).take (B5 cL po h0 - aa)++dr po.isSome cL rest):=λcc=>cc.rec
 (λh0 cL po aa wf f1 f8 hd ln rs kN fw wT=>by
  have yK:po.isSome=G:=by cases cL<;>exact wT
  cases po with
  |some T=>cases yK
  |none=>
  have eA:h0=lw.length:=DL ln (agG.mp hd)
  cases cL with
  |false=>
   refine⟨aa,wf,f1,f8,rfl,aJ kN.1 ln,e7 _ _,?_⟩
   show _=wf.flatMap na++(lw.drop aa).take (h0 - aa)++[]
   rw[eA,H6,c2]
  |true=>
   obtain⟨k,rfl,oS⟩:=rs rfl
   have dk:aa≤k:=kN.1
   refine⟨aa,wf,_,jO.two (.int (k:E)) (.str (Lt [92])),jc (bx:=kg lw aa bn k [92]) (rx (t:=[92]) f8) (yN (by decide)) rfl,aJ dk (jp ln),e7 _ _,?_⟩
   show _=wf.flatMap na++(lw.drop aa).take (k - aa)++[92]
   have g:[92]=(lw.drop k).take (lw.length - k):=by rw[H6,oS]
   rw[e8,g,H5 dk (jp ln),H6])
 λt l ih h0 cL po aa wf f1 f8 hd ln rs kN fw wT=>by
  have bU:h0<lw.length:=TY.mp λh=>nomatch (agG.mpr h).symm.trans hd;have nQ:lw.drop (h0+1)=l:=by rw[<- DB,hd];rfl
  have tG:wf.length+l.length≤100000:=zX fw;have pi:wf.length+l.length≤wf.length+(t::l).length:=cu _;have two:∀I,jO [("pos",.int (h0:E)),("ch",.str (Lt I))]:=λI=>jO.two _ _;have vB:∀T,po=j T->aa≤T/\T≤h0:=λT g=>by subst g;exact kN
  cases cL with
  |true=>
   obtain⟨k,rfl,oS⟩:=rs rfl;have yP:hR po.isSome G l=G:=wT;cases po with
   |none=>
    have dk:aa≤k:=kN.1;have g:[92,t]=(lw.drop k).take (k+1+1 - k):=by rw[oS,Nat.add_assoc,agH];rfl
    refine(ih (k+1+1) G bn aa wf _ (two [92,t]) nQ bU nofun ⟨qD (qD dk),Da _⟩ tG yP).step (rx (t:=[92,t]) f8) (yN nofun) pi ?_;show wf.flatMap na++(lw.drop aa).take (k+1+1 - aa)++_=wf.flatMap na++(lw.drop aa).take (k - aa)++([92,t]++dr G G l);rw[<- H5 dk (qD (cu k)),<- g,<- e8,<- e8];rfl
   |some T=>exact(ih (k+1+1) G (j T) aa wf _ (two [92,t]) nQ bU nofun ⟨kN.1,qD kN.2⟩ tG yP).step (rx (t:=[92,t]) f8) (yN nofun) pi rfl
  |false=>
   by_cases kO:t=92;·subst kO;exact(ih (h0+1) V po aa wf f1 f8 nQ bU (λa=>⟨h0,rfl,hd⟩) (po.casesOn (motive:=λpo=>H7 aa G po h0->H7 aa V po (h0+1)) (λh=>⟨h.1,cu _⟩) (λT h=>⟨h.1,qD h.2⟩) kN) tG wT).more pi (po.rec rfl λa=>rfl)
   ·by_cases rA:t=34
    ·subst rA;cases po with
     |none=>exact(ih (h0+1) G (j h0) aa wf _ (two [34]) nQ bU nofun ⟨kN.1,cu _⟩ tG wT).step (rx (t:=[34]) f8) SBH pi rfl
     |some T=>
      by_cases ef:aa=T;·subst ef;refine(ih (h0+1) G bn (h0+1) wf _ (two [34]) nQ bU nofun ⟨Da _,Da _⟩ tG wT).step (rx (t:=[34]) f8) SBL pi ?_;show wf.flatMap na++(lw.drop (h0+1)).take (h0+1 - (h0+1))++_=wf.flatMap na++(lw.drop aa).take (aa - aa)++_;rw[Dp,Dp];rfl
      ·have lh:(wf++[Lt ((lw.drop aa).take (T - aa))]).length=wf.length+1:=ct;refine(ih (h0+1) G bn (h0+1) (wf++[Lt ((lw.drop aa).take (T - aa))]) _ (two [34]) nQ bU nofun ⟨Da _,Da _⟩ (by rw[lh,Tv];exact fw) wT).step (rx (t:=[34]) f8) (jo▸SCG kN.1 ef (aJ kN.2 ln) fy (by rw[aK];exact aJ (e7 _ _) fw)) (by rw[lh,Tv];exact Da _) ?_;show(wf++[Lt ((lw.drop aa).take (T - aa))]).flatMap na++(lw.drop (h0+1)).take (h0+1 - (h0+1))++_=wf.flatMap na++(lw.drop aa).take (T - aa)++_;rw[Dp,KN,List.flatMap_singleton,dB,List.take_zero,c2];rfl
    ·have yP:hR po.isSome G l=G:=by have h:=wT;rw[Qm,ss kO,ss rA]at h;exact h
     have bT:∀q,dr q G (t::l)=(if q then[]else[t])++dr q G l:=λq=>by show(if t=92 then _ else if t=34 then _ else _)=_;rw[ss kO,ss rA]
     have cI:ea h0 G (t::l)=.tup [.int h0,.str ⟨#[t]⟩]::ea (h0+1) G l:=ss (λh=>kO (eq_of_beq h));rw[cI,bT];cases po with
     |none=>
      have dk:aa≤h0:=kN.1;have g:[t]=(lw.drop h0).take (h0+1 - h0):=by rw[hd,agH];rfl
      refine(ih (h0+1) G bn aa wf _ (two [t]) nQ bU nofun ⟨qD dk,Da _⟩ tG yP).step (rx (t:=[t]) f8) (yN (λh=>rA (J8 h).1)) pi ?_;show wf.flatMap na++(lw.drop aa).take (h0+1 - aa)++_=wf.flatMap na++(lw.drop aa).take (h0 - aa)++([t]++dr G G l);rw[<- H5 dk (cu h0),<- g,<- e8,<- e8];rfl
     |some T=>exact(ih (h0+1) G (j T) aa wf _ (two [t]) nQ bU nofun ⟨kN.1,qD kN.2⟩ tG yP).step (rx (t:=[t]) f8) (yN (λh=>rA (J8 h).1)) pi rfl
theorem B6:∀{n:p E},34∉n->∀g,dr G g n=(if g then[92]else[])++n
 |[],_,g=>by cases g<;>rfl
 |t::l,h,V=>by have nw:34∉l:=λeg=>h (.tail _ eg);show[92,t]++dr G G l=_;rw[B6 nw];rfl
 |t::l,h,G=>by
  have nw:34∉l:=λeg=>h (.tail _ eg);have f0:t≠34:=λg=>h (by rw[g];exact .head _);by_cases kO:t=92;·subst kO;show dr G V l=_;rw[B6 nw];rfl
  ·rw[H4,ss kO,ss f0,B6 nw];rfl
theorem mz{J:Sc}{f:X}(h:J.fn f=bn)(ex:qR f (g3.map (view o))=j r):sI J f g3 o=j (r,o):=(fH h).trans (gh ex)
theorem H8{lw:p E}{H:hf}(h:H.lookup c=j (.str (Lt lw))):HB c H o=j (ea 0 G lw,o):=by rw[HB,Vg h,m',show(Lt lw).cps.toList=lw from dB lw]
theorem vX:∀(n:p E) (q g:ga),(dr q g n).length≤n.length+(if g then 1 else 0)
 |[],q,g=>by cases q<;>cases g<;>first|exact Da _|exact e6 _
 |t::l,q,V=>by have:=vX l q G;rw[Ql];cases q<;>simp at this⊢<;>left
 |t::l,q,G=>by
  have h1:=vX l q G;have ex:=vX l q V;have h3:=vX l (!q) G;rw[H4];by_cases kO:t=92;·rw[tt kO];simp at ex⊢;left
  ·rw[ss kO];by_cases rA:t=34;·rw[tt rA];simp at h3⊢;left
   ·rw[ss rA];cases q<;>simp at h1⊢<;>left
theorem H9{lw:p E}(fy:lw.length≤100000)(wT:hR G G lw=G):a8 a5 hw 52 [] [.str (Lt lw)]=j (.str (Lt (dr G G lw))):=by
 have aV:H1 (Lt lw).length=V:=b6 (by rw[<- ik,dB];left);obtain⟨c7,gU,aF,h1,ex,h3,aS,dT⟩:=SOM fy lw 0 G bn 0 [] [] jO.nil rfl (e6 _) (λh=>by cases h) ⟨Da 0,Da 0⟩ (by simpa using fy) wT;have fw:H1 gU.length=V:=b6 (by simp at aS;left);have Tab:qR "len" [.str (Lt lw)]=j (.int lw.length):=by show dZ (pp (H1 (Lt lw).length) (j (R.int (Lt lw).length))) _=_;rw[Re aV,<- ik,dB];rfl
 have ls:gU.flatMap na++lw.drop c7=dr G G lw:=by simpa[B5]using dT
 have vY:=vX lw G G;have cO:(gU.flatMap na++lw.drop c7).length≤1000000:=by rw[ls];simp at vY;left
 by_cases pc:34∈lw
 ·have H':ci .NotIn (.str "\"") (.str (Lt lw))=j G:=by have:=Qh (Lt lw) 34;rw[dB,hV pc]at this;exact this
  have bU:ci .Lt (.int (c7:E)) (.int (lw.length:E))=j (decide (c7<lw.length)):=by show j (decide ((c7:m0)<(lw.length:m0)))=_;congr 1;rw[DO];left
  apply kK;·kernel_rfl
  ·conv=>
    lhs
    arg 2
    whnf
   rw[show b2 (fdOf hw 52)=([("addr":X)]:p X) by kernel_rfl];simp only[c2,hY,lS];apply zn
   ·apply iJ;·kernel_rfl
    ·right;exact H'
    ·right
   apply zn;·right
   apply zn;·right
   apply zn;·right;rfl
   apply zn
   ·apply HT;·kernel_rfl
    ·kernel_rfl
    ·exact H8 vP
    ·refine iz ?_ ex;kernel_rfl
   unfold yO;apply zn (bx:=("addr",.str (Lt lw))::("start",.int (c7:E))::("open_pos",B4 bn)::("result",.am 0)::aF) (al:=[.list ((gU++if c7<lw.length then[Lt (lw.drop c7)]else[]).map .str)])
   ·apply p9;·kernel_rfl
    ·right;apply dq;·kernel_rfl
     ·cases h1<;>right
     ·kernel_rfl
     ·right
     ·exact mz (by kernel_rfl) Tab
     ·exact bU
    ·by_cases dk:c7<lw.length
     ·rw[hV dk,tt rfl,tt dk];apply zn
      ·apply fU;·kernel_rfl
       ·kernel_rfl
       ·apply ej;·kernel_rfl
        ·kernel_rfl
        ·right
        ·apply tF;·rfl
         ·kernel_rfl
        ·apply cC;·kernel_rfl
         ·apply vW;·right
          ·apply nO;right
          ·exact yM
          ·rfl
          ·exact aV
         ·right
        ·apply rv;·rfl
         ·rfl
         ·rw[aK];exact fw
      ·rw[SBG h3,jo];exact cM
     ·rw[lL dk,ss hW,ss dk,c2];exact cM
   ·apply jM
    ·right;·rfl
     ·exact strs_map _
     ·refine vV ?_;refine aJ ?_ cO;by_cases dk:c7<lw.length;·rw[tt dk];simp[dB]
      ·rw[ss dk];simp
    ·intro h;cases h
  ·show j (R.str (jk "" (gU++if c7<lw.length then[Lt (lw.drop c7)]else[])),_)=_;congr 3;refine tC ?_;rw[HZ,dB,<- ls];by_cases dk:c7<lw.length;·rw[tt dk];simp[dB]
   ·rw[ss dk,List.drop_of_length_le (by left)];simp
 ·have H':ci .NotIn (.str "\"") (.str (Lt lw))=j V:=by have:=Qh (Lt lw) 34;rw[dB,lL pc]at this;exact this
  apply kK;·kernel_rfl
  ·conv=>
    lhs
    arg 2
    whnf
   rw[show b2 (fdOf hw 52)=([("addr":X)]:p X) by kernel_rfl];simp only[c2,hY,lS];apply jM
   ·apply kf;·kernel_rfl
    ·right;exact H'
    ·apply jM;·right
     ·intro h;cases h
   ·intro h;cases h
  ·rw[B6 pc];rfl
noncomputable def fp:E->ga->p E->Y E|z,_,[]=>j z|z,V,_::l=>fp z G l|z,G,t::l=>if t=92 then fp z V l else if t=40 then fp (z+1) G l else if t=41 then(match z with|0=>bn|m+1=>fp m G l)else fp z G l
noncomputable def rB(H:hf)(o:p ca):St:=TT (bq (c4 hw) 39 (fdOf hw 59).scope) (dC (Do 59 2)) H o
noncomputable def kP(e:X)(z:m0)(k:E)(ch:p E):hf:=[("addr",.str e),("opens",.int z),("pos",.int (k:E)),("ch",.str (Lt ch))]
noncomputable def rC(e:X)(z:E)(f1:hf):hf:=("addr",.str e)::("opens",.int (z:E))::f1
theorem fV{J:Sc}{f:X}(h:J.fn f=j xL)(wn:fa g3 o=j (bQ,wE))(ex:xL bQ=j r):sI J f g3 o=j (r,wE):=(m5 h).trans<|(Op wn).trans (gh ex)
theorem p'{e:X}{z k:E}{t:p E}(f8:jO f1):d5 (fdOf hw 59).scope (jN (Do 59 2)) (.tup [.int (k:E),.str (Lt t)]) (rC e z f1)=j (kP e z k t):=by unfold rC kP;cases f8<;>kernel_rfl
theorem eq_str{c I:p E}:ci .Eq (.str (Lt c)) (.str (Lt I))=j (c==I):=by show j (na (Lt c)==na (Lt I))=_;rw[dB,dB]
theorem H_{e:X}{z:m0}{k:E}{ch:p E}(h:ch≠[40])(eg:ch≠[41]):rB (kP e z k ch) []=j (.next,kP e z k ch,[]):=by
 have SZ:ci .Eq (.str (Lt ch)) (.str "(")=j G:=by have:=eq_str (c:=ch) (I:=[40]);rw[eo.mpr h]at this;exact this
 have bu:ci .Eq (.str (Lt ch)) (.str ")")=j G:=by have:=eq_str (c:=ch) (I:=[41]);rw[eo.mpr eg]at this;exact this
 unfold rB kP
 conv=>
  lhs
  arg 2
  whnf
 apply zn
 ·apply iJ;·kernel_rfl
  ·right;exact SZ
  ·apply zn
   ·apply iJ;·kernel_rfl
    ·right;exact bu
    ·right
   ·right
 ·right
theorem Qn{e:X}{z:E}{k:E}:rB (kP e (z:m0) k [40]) []=j (.next,kP e ((z+1:E):m0) k [40],[]):=by kernel_rfl
theorem Qo{e:X}{z:E}{k:E}:rB (kP e ((z+1:E):m0) k [41]) []=j (.next,kP e (z:m0) k [41],[]):=by
 have g:(((z+1:E):m0) - 1)=(z:m0):=by left
 unfold rB kP
 conv=>
  lhs
  arg 2
  whnf
 apply zn
 ·apply iJ;·kernel_rfl
  ·right;kernel_rfl
  ·apply zn
   ·apply kf;·kernel_rfl
    ·right;kernel_rfl
    ·apply zn
     ·apply Rio;·kernel_rfl
      ·kernel_rfl
      ·kernel_rfl
      ·right
      ·right
      ·exact GT (λU=>j (R.int U)) g
      ·right
     ·apply zn
      ·apply iJ;·kernel_rfl
       ·right;show j (decide ((z:m0)<0))=_;rw[lL (by left)]
       ·right
      ·right
   ·right
 ·right
theorem Tag{e:X}{k:E}:rB (kP e ((0:E):m0) k [41]) []=j (.ret (.bool G),kP e (-1) k [41],[]):=by kernel_rfl
noncomputable abbrev yQ:p R->hf->p ca->St:=fQ (fdOf hw 59).scope (jN (Do 59 2)) rB
theorem Try{bs:KT}{dQ:hf->p ca->St}{v:R}{l:p R}{H:hf}(cr:d5 bs u r H=j bx)(h:dQ bx o=j (.ret v,e',f2)):fQ bs u dQ (r::l) H o=j (.ret v,e',f2):=by exact FX.trans<|(eS cr).trans (qH h)
theorem vZ{e:X}:∀(n:p E) (h0:E) (cL:ga) (z:E) (f1:hf),jO f1->∃(o0:hf),match fp z cL n with|none=>yQ (ea h0 cL n) (rC e z f1) []=j (.ret (.bool G),o0,[])|some m=>∃aF,yQ (ea h0 cL n) (rC e z f1) []=j (.next,rC e m aF,[])
 |[],h0,G,z,f1,f8=>⟨[],f1,rfl⟩
 |[],h0,V,z,f1,f8=>by refine⟨[],[("pos",.int ((h0 - 1:E):E)),("ch",.str (Lt [92]))],?_⟩;unfold yQ;rw[show ea h0 V []=[.tup [.int (h0 - 1:E),.str ⟨#[92]⟩]]from rfl];exact jc (p' (t:=[92]) f8) (H_ (by decide) (by decide)) rfl
 |t::l,h0,V,z,f1,f8=>by obtain⟨o0,h⟩:=vZ l (h0+1) G z _ (jO.two (.int (h0:E)) (.str (Lt [92,t])));refine⟨o0,?_⟩;have cr:fp z V (t::l)=fp z G l:=rfl;rw[cr];have step:∀q,yQ (ea (h0+1) G l) (rC e z [("pos",.int (h0:E)),("ch",.str (Lt [92,t]))]) []=j q->yQ (ea h0 V (t::l)) (rC e z f1) []=j q:=λq wT=>jc (p' (t:=[92,t]) f8) (H_ (by intro h;cases h) (by intro h;cases h)) wT;cases pc:fp z G l with|none=>rw[pc]at h;exact step _ h|some m=>rw[pc]at h;obtain⟨aF,h⟩:=h;exact⟨aF,step _ h⟩
 |t::l,h0,G,z,f1,f8=>by
  by_cases kO:t=92;·subst kO;obtain⟨o0,h⟩:=vZ l (h0+1) V z f1 f8;exact⟨o0,h⟩
  ·have cI:ea h0 G (t::l)=.tup [.int h0,.str ⟨#[t]⟩]::ea (h0+1) G l:=by show(if(t==92)=V then _ else _)=_;rw[ss (by simpa using kO)]
   rw[cI];by_cases Ia:t=40;·subst Ia;obtain⟨o0,h⟩:=vZ l (h0+1) G (z+1) _ (jO.two (.int (h0:E)) (.str (Lt [40])));refine⟨o0,?_⟩;have cr:fp z G (40::l)=fp (z+1) G l:=rfl;rw[cr];cases pc:fp (z+1) G l with|none=>rw[pc]at h;exact jc (p' (t:=[40]) f8) Qn h|some m=>rw[pc]at h;obtain⟨aF,h⟩:=h;exact⟨aF,jc (p' (t:=[40]) f8) Qn h⟩
   ·by_cases Ib:t=41;·subst Ib;cases z with|zero=>exact⟨_,Try (p' (t:=[41]) f8) Tag⟩|succ z=>obtain⟨o0,h⟩:=vZ l (h0+1) G z _ (jO.two (.int (h0:E)) (.str (Lt [41])));refine⟨o0,?_⟩;have cr:fp (z+1) G (41::l)=fp z G l:=rfl;rw[cr];cases pc:fp z G l with|none=>rw[pc]at h;exact jc (p' (t:=[41]) f8) Qo h|some m=>rw[pc]at h;obtain⟨aF,h⟩:=h;exact⟨aF,jc (p' (t:=[41]) f8) Qo h⟩
    ·obtain⟨o0,h⟩:=vZ l (h0+1) G z _ (jO.two (.int (h0:E)) (.str (Lt [t])));refine⟨o0,?_⟩;have cr:fp z G (t::l)=fp z G l:=(ss kO).trans<|(ss Ia).trans (ss Ib);rw[cr];have gt:rB (kP e z h0 [t]) []=j (.next,kP e z h0 [t],[]):=H_ (by simpa using Ia) (by simpa using Ib);cases pc:fp z G l with|none=>rw[pc]at h;exact jc (p' (t:=[t]) f8) gt h|some m=>rw[pc]at h;obtain⟨aF,h⟩:=h;exact⟨aF,jc (p' (t:=[t]) f8) gt h⟩
noncomputable def yR(n:p E):ga:=fp 0 G n==j 0
theorem TCP{lw:p E}(fy:lw.length≤100000)(wT:hR G G lw=G):a8 (c4 hw) hw 59 [] [.str (Lt lw)]=j (.bool (yR (dr G G lw))):=by
 obtain⟨o0,h⟩:=vZ (e:=Lt (dr G G lw)) (dr G G lw) 0 G 0 [] jO.nil;have dt:(c4 hw).fn "_strip_quoted_realnames"=j (a8 a5 hw 52 []):=by kernel_rfl
 cases pc:fp 0 G (dr G G lw)with
 |none=>
  rw[pc]at h;unfold yR;rw[pc];apply kK;·kernel_rfl
  ·conv=>
    lhs
    arg 2
    whnf
   rw[show b2 (fdOf hw 59)=([("addr":X)]:p X) by kernel_rfl];simp only[c2,hY,lS];apply zn
   ·right;apply dq;·kernel_rfl
    ·right
    ·kernel_rfl
    ·right
    ·exact fV dt rfl (H9 fy wT)
   apply zn;·right
   apply jM
   ·apply HT;·kernel_rfl
    ·kernel_rfl
    ·exact H8 vP
    ·refine iz ?_ h;kernel_rfl
   ·intro h;cases h
  ·rfl
 |some m=>
  rw[pc]at h;obtain⟨aF,h⟩:=h;unfold yR;rw[pc];apply kK;·kernel_rfl
  ·conv=>
    lhs
    arg 2
    whnf
   rw[show b2 (fdOf hw 59)=([("addr":X)]:p X) by kernel_rfl];simp only[c2,hY,lS];apply zn
   ·right;apply dq;·kernel_rfl
    ·right
    ·kernel_rfl
    ·right
    ·exact fV dt rfl (H9 fy wT)
   apply zn;·right
   apply zn
   ·apply HT;·kernel_rfl
    ·kernel_rfl
    ·exact H8 vP
    ·refine iz ?_ h;kernel_rfl
   unfold rC;apply jM;·right;show j (((m:E):m0)==0)=_;rfl
   ·intro h;cases h
  ·show j (R.bool (((m:E):m0)==0),_)=_;congr 3;cases m<;>rfl
theorem rD:∀{e b:p wP} {H:hf} {o:p ca},TT cj (e++b) H o=match TT cj e H o with
  |some (.next,o0,wE)=>TT cj b o0 wE
  |c=>c
 |[],_,_,_=>rfl
 |s::e,b,H,o=>by rw[jW,vj,vj];cases cj s H o with|none=>rfl|some q=>obtain⟨f,o0,wE⟩:=q;cases f<;>first|rfl|exact rD
noncomputable abbrev rE:p wP:=c0 (fdOf hw 76)
noncomputable abbrev tH:oH:=bq a5 40 (fdOf hw 76).scope
noncomputable def Qp(U:St):Y R:=s4 (s4 (js U λf a o=>A' f o) λr o=>pp ((o.take 1).all (pW 1)) (j (r,o.take 1))) λr o=>pp (r.ctorIdx==0) ((d4 (.am 0) o).map (·.1))
noncomputable def Ic(c1:X):hf:=[("self",.am 0),("ws",.str c1),("T",.str "\t"),("S",.str " "),("count",.am 1),("b",.int 0),("n",.int 0),("nt",.int 0)]
noncomputable def B7(c1:X):p ca:=[.inst 121 [("raw",.str c1)],.list []]
noncomputable def v0(n:p R)(c1:X):St:=fQ (fdOf hw 76).scope (jN (Do 76 4)) (λH o=>TT (bq a5 39 (fdOf hw 76).scope) (dC (Do 76 4)) H o) n (Ic c1) (B7 c1)
noncomputable def B8(c1:X)(n:p R):Y R:=Qp (match v0 n c1 with|some (.next,H,o)=>TT tH (rE.drop 5) H o|c=>c)
theorem TIz(c1:X):TT tH (rE.take 4) [("self",.am 0),("ws",.str c1)] [.inst 121 []]=(j (.next,Ic c1,B7 c1):St):=by kernel_rfl
theorem TLg{c1:X}(sc:H1 c1.length=V){q:bz×hf×p ca}(wT:v0 (gn c1) c1=j q):tH (Do 76 4) (Ic c1) (B7 c1)=j q:=by
 unfold tH
 conv=>
  lhs
  arg 4
  whnf
 apply vQ;·kernel_rfl
 ·kernel_rfl
 ·exact(show _=pp (H1 c1.length) (j (gn c1,0,B7 c1)) by kernel_rfl).trans (Re sc)
 ·refine iz ?_ wT;kernel_rfl
theorem Qq{c1:X}(sc:H1 c1.length=V){q:bz×hf×p ca}(h:v0 (gn c1) c1=j q):oV 121 (cU a5 hw 76 []) [.str c1]=B8 c1 (gn c1):=by
 have cr:rE=rE.take 4++(Do 76 4::rE.drop 5):=by kernel_rfl
 have g:TT tH rE [("self",.am 0),("ws",.str c1)] [.inst 121 []]=match v0 (gn c1) c1 with|some (.next,H,o)=>TT tH (rE.drop 5) H o|c=>c:=by refine(GT (λb=>TT tH b _ _) cr).trans ?_;rw[rD,TIz];dsimp only;rw[vj,TLg sc h,h];obtain⟨f,H,o⟩:=q;cases f<;>rfl
 have ae:(([.str c1]:p R).length+([]:p R).length+1==(b2 (fdOf hw 76)).length)=V:=by kernel_rfl
 unfold cU;show oV 121 (s_ a5 40 (fdOf hw 76).scope rE (b2 (fdOf hw 76)) []) [.str c1]=_;unfold oV s_ pV;rw[Re (by kernel_rfl),show b2 (fdOf hw 76)=([("self":X),"ws"]:p X) by kernel_rfl];exact GT Qp g
noncomputable def hS(aA c1:X):R:=(B8 c1 (gn aA)).getD .none
theorem Qr(c1:X)(n:p R):(bA.map λc=>(B8 c1 (gn c),B8 c1 (gn c++.str ⟨#[60]⟩::n),(v0 (gn c) c1).isSome,(v0 (gn c++.str ⟨#[60]⟩::n) c1).isSome))=bA.map λc=>(j (hS c c1),j (hS c c1),V,V):=by kernel_rfl
theorem TOz(n:p E):gn (Lt n)=n.map λt=>.str ⟨#[t]⟩:=by show(na (Lt n)).map _=_;rw[dB]
def n2(l:p E):Prop:=l=[]\/∃k,l=60::k
theorem cV{f d:t0->cY}:∀{n:p t0},n.map f=n.map d->∀c∈n,f c=d c|_::_,h,c,f8=>by rw[cs,cs,List.cons.injEq]at h;cases f8 with|head=>exact h.1|tail _ f8=>exact cV h.2 c f8
theorem Qs(f8:c∈bA){l:p E}(nw:n2 l)(sc:l.length≤100000):oV 121 (cU a5 hw 76 []) [.str (Lt (na c++l))]=j (hS c (Lt (na c++l))):=by
 have ys:(na c).length≤10:=(by decide+kernel:∀c∈bA,(na c).length≤10) c f8;have i5:H1 (Lt (na c++l)).length=V:=b6 (by rw[<- ik,dB,ct];left);rcases nw with rfl|⟨k,rfl⟩
 ·have ty:=cV (Qr (Lt (na c++[])) []) c f8;simp only[KO]at ty;have f0:gn (Lt (na c++[]))=gn c:=by rw[c2,vT]
  obtain⟨q,wT⟩:=wy.mp ty.2.2.1;rw[Qq i5 (by rw[f0];exact wT),f0];exact ty.1
 ·have ty:=cV (Qr (Lt (na c++60::k)) (k.map λt=>.str ⟨#[t]⟩)) c f8;simp only[KO]at ty;have f0:gn (Lt (na c++60::k))=gn c++.str ⟨#[60]⟩::k.map λt=>.str ⟨#[t]⟩:=by rw[TOz,jo];rfl
  obtain⟨q,wT⟩:=wy.mp ty.2.2.2;rw[Qq i5 (by rw[f0];exact wT),f0];exact ty.2.1
noncomputable def fA(e b:X):ga:=((cB e).zip (cB b)).all λx=>decide (x.1<x.2)
theorem TWM(g2 v:X):(bA.map λe=>bA.map λb=>a8 (c4 hw) hw 111 [] [hS e g2,hS b v])=bA.map λe=>bA.map λb=>j (.bool (fA e b)):=by kernel_rfl
theorem UCD(g2 v:X):(bA.map λe=>bA.map λb=>a8 a5 hw 97 [] [hS e g2,hS b v])=bA.map λe=>bA.map λb=>j (.bool (cB e==cB b)):=by kernel_rfl
theorem UDP{e b:X}(db:e∈bA)(cr:b∈bA)(g2 v:X):a8 (c4 hw) hw 111 [] [hS e g2,hS b v]=j (.bool (fA e b)):=cV (cV (TWM g2 v) e db) b cr
theorem URI{e b:X}(db:e∈bA)(cr:b∈bA)(g2 v:X):a8 a5 hw 97 [] [hS e g2,hS b v]=j (.bool (cB e==cB b)):=cV (cV (UCD g2 v) e db) b cr
noncomputable def nR(l:R):p (X×R):=match l with|.inst _ s1=>s1|_=>[]
theorem Val(g2:X):(bA.map λe=>hS e g2)=bA.map λe=>.inst 121 (nR (hS e g2)):=by kernel_rfl
theorem Var(g2:X):(bA.map λe=>(nR (hS e g2)).lookup ("n":X))=bA.map λe=>j (.int ((na e).length:E)):=by kernel_rfl
theorem Way{e:X}(db:e∈bA)(g2:X):hS e g2=.inst 121 (nR (hS e g2)):=cV (Val g2) e db
theorem Qt{e:X}(db:e∈bA)(g2:X):(nR (hS e g2)).lookup ("n":X)=j (.int ((na e).length:E)):=cV (Var g2) e db
noncomputable def hp(z:E):aZ:=⟨(fl[z %8]?).getD "",(fm[z/8 %3]?).getD "",(mx[z/24 %4]?).getD bn,(p8[z/96 %4]?).getD ("","",""),(rt[z/384 %5]?).getD ("","","")⟩
noncomputable def B9:St->hf|some (_,H,_)=>H|none=>[]
noncomputable def Qu:St->p ca|some (_,_,o)=>o|none=>[]
noncomputable def tI(r:R):St:=TT (bq a5 fZ (fdOf hw 267).scope) ((c0 (fdOf hw 267)).take 4) [("numbers",r)] []
theorem Zip(r:R):tI r=j (.next,B9 (tI r),Qu (tI r)):=by kernel_rfl
theorem aaG(r:R):B9 (tI r)=([("numbers",r),("leads",.am 0),("values",.am 1),("words",.am 2),("quoted",.am 3)]:hf):=by kernel_rfl
noncomputable def yS(s:wP):bv:=Ab s (λg a=>g.getD nP)<|uC s (λa g a=>g)<|wExpr s (λg a=>g) nP
noncomputable def aaH(g:bv):bv:=oe g (λg a a a=>g) g
noncomputable def Qv(g:bv):bv:=oe g (λa gF a a=>(gF.head?.map (·.target)).getD g) g
noncomputable def B'(g:bv)(bs:KT):KT:=oe g (λa a i a=>d6 bs i) bs
noncomputable def aaI(g:bv):p bv:=oe g (λa gF a a=>(gF.head?.map (·.ifs)).getD []) []
noncomputable def Ie(J:Sc)(z:E)(bs:KT)(g:bv)(bk:hf):R->p ca->Y (Y R×p ca):=i2 G (B' g bs) (Qv g) bk (λH c o=>sB J z (B' g bs) c H o) (λH c o=>cx J z (B' g bs) c H o) (aaI g) (aaH g)
noncomputable def Ig(r:R):R->p ca->Y (Y R×p ca):=Ie a5 38 (fdOf hw 267).scope (yS (Do 267 4)) (dU (oe (yS (Do 267 4)) (λa a i a=>i) (fdOf hw 267).scope) (B9 (tI r)))
theorem aaJ(z m:E):(z:m0).fdiv (m:m0)=((z/m:E):m0):=by rw[Int.fdiv_eq_ediv_of_nonneg _ (by left)];rfl
theorem aaK(z m:E):(z:m0).fmod (m:m0)=((z %m:E):m0):=by rw[Int.fmod_eq_emod_of_nonneg _ (by left)];rfl
theorem yT{z:E}(pc:m≠0):iB .Mod (.int (z:E)) (.int (m:E))=j (.int ((z %m:E):m0)):=by show n7 R.int (pp (!((m:m0)==0)) (j ((z:m0).fmod m)))=_;rw[Re (by simpa using pc),aaK];rfl
theorem B_{z:E}(pc:m≠0)(sc:fu (m:m0)=V):iB .FloorDiv (.int (z:E)) (.int (m:E))=j (.int ((z/m:E):m0)):=by show n7 R.int (pp (!((m:m0)==0)) (pp (fu (m:m0)) (j ((z:m0).fdiv m))))=_;rw[Re (by simpa using pc),Re sc,aaJ];rfl
theorem yU{f:E->Y R}{d:E->R}{k:E}(h:(bE k).map f=(bE k).map λi=>j (d i)){z:E}(gl:0<k):f (z %k)=j (d (z %k)):=cV h _ (hZ.mpr (Kz _ gl))
noncomputable def v1:p ca:=[.list (fl.map .str),.list (mx.map hP),.list (p8.map c_),.list (rt.map c_)]
noncomputable def Qw(z:E):hf:=[("leads",.am 0),("values",.am 1),("words",.am 2),("quoted",.am 3),("n",.int (z:E))]
theorem aaL(r:R):Qu (tI r)=v1:=by kernel_rfl
theorem row_bind(r:R)(z:E):d5 (B' (yS (Do 267 4)) (fdOf hw 267).scope) (Qv (yS (Do 267 4))) (.int (z:E)) (dU (match yS (Do 267 4)with|.ListComp _ _ i _=>i|_=>(fdOf hw 267).scope) (B9 (tI r)))=j (Qw z):=by kernel_rfl
theorem aaM(v:Y gA):d_ (hP v)=V:=by cases v<;>rfl
theorem row_step(r:R)(z:E):Ig r (.int (z:E)) v1=j (j (dA (hp z)),v1):=by
 have ae:=yU (f:=λi=>gM (.ah (fl.map .str)) (.int (i:E))) (d:=λi=>.str ((fl[i]?).getD "")) (k:=8) (z:=z) (by kernel_rfl) (by decide);have pi:=yU (f:=λi=>gM (.str "abx") (.int (i:E))) (d:=λi=>.str ((fm[i]?).getD "")) (k:=3) (z:=z/8) (by kernel_rfl) (by decide);have FB:=yU (f:=λi=>gM (.ah (mx.map hP)) (.int (i:E))) (d:=λi=>hP ((mx[i]?).getD bn)) (k:=4) (z:=z/24) (by kernel_rfl) (by decide);have d8:=yU (f:=λi=>gM (.ah (p8.map c_)) (.int (i:E))) (d:=λi=>c_ ((p8[i]?).getD ("","",""))) (k:=4) (z:=z/96) (by kernel_rfl) (by decide);have wT:=yU (f:=λi=>gM (.ah (rt.map c_)) (.int (i:E))) (d:=λi=>c_ ((rt[i]?).getD ("","",""))) (k:=5) (z:=z/384) (by kernel_rfl) (by decide);unfold Ig Ie;apply ij (al:=v1);·exact row_bind r z
 ·kernel_rfl
 ·unfold Qw
  conv=>
   lhs
   arg 4
   whnf
  apply tz
  ·apply cC;·kernel_rfl
   ·apply fo;·kernel_rfl
    ·right
    ·apply hQ;·right
     ·right
     ·rfl
     ·exact yT (m:=8) (by decide)
    ·exact ae
   ·apply cC;·kernel_rfl
    ·apply fo;·kernel_rfl
     ·right
     ·apply hQ
      ·apply hQ;·right
       ·right
       ·rfl
       ·exact B_ (m:=8) (by decide) (by decide+kernel)
      ·right
      ·rfl
      ·exact yT (m:=3) (by decide)
     ·exact pi
    ·apply cC;·kernel_rfl
     ·apply fo;·kernel_rfl
      ·right
      ·apply hQ
       ·apply hQ;·right
        ·right
        ·rfl
        ·exact B_ (m:=24) (by decide) (by decide+kernel)
       ·right
       ·rfl
       ·exact yT (m:=4) (by decide)
      ·exact FB
     ·apply cC;·kernel_rfl
      ·apply fo;·kernel_rfl
       ·right
       ·apply hQ
        ·apply hQ;·right
         ·right
         ·rfl
         ·exact B_ (m:=96) (by decide) (by decide+kernel)
        ·right
        ·rfl
        ·exact yT (m:=4) (by decide)
       ·exact d8
      ·apply cC;·kernel_rfl
       ·apply fo;·kernel_rfl
        ·right
        ·apply hQ
         ·apply hQ;·right
          ·right
          ·rfl
          ·exact B_ (m:=384) (by decide) (by decide+kernel)
         ·right
         ·rfl
         ·exact yT (m:=5) (by decide)
        ·exact wT
       ·exact fz
  ·exact jL rfl (jL rfl (jL (aaM _) (jL rfl (jL rfl lx))))
  ·rfl
 ·rfl
theorem aaN{ns:p E}(sc:ns.length≤1000):a8 a5 hw 267 [] [.ah (ns.map λz=>.int (z:E))]=j (.ah ((ns.map hp).map dA)):=by
 have i5:H1 (ns.map λz=>R.int (z:E)).length=V:=b6 (by rw[aK];left);have cr:c0 (fdOf hw 267)=(c0 (fdOf hw 267)).take 4++[Do 267 4]:=by kernel_rfl
 apply kK (hi:=.ah ((ns.map hp).map dA)) (o0:=[("numbers",.ah (ns.map λz=>.int (z:E))),("leads",.am 0),("values",.am 1),("words",.am 2),("quoted",.am 3)]) (wE:=v1);·kernel_rfl
 ·rw[show b2 (fdOf hw 267)=([("numbers":X)]:p X) by kernel_rfl];simp only[c2,hY,lS];refine(GT (λb=>TT _ b _ _) cr).trans ?_;have bT:=Zip (.ah (ns.map λz=>.int (z:E)));rw[aaG,aaL]at bT;rw[rD,show TT (bq a5 fZ (fdOf hw 267).scope) ((c0 (fdOf hw 267)).take 4) [("numbers",R.ah (ns.map λz=>.int (z:E)))] []=_ from bT];dsimp only;apply jM
  ·conv=>
    lhs
    arg 4
    whnf
   apply HS;·kernel_rfl
   ·apply kM;·kernel_rfl
    ·rfl
    ·apply kL;·kernel_rfl
     ·right
     ·exact i5
    ·exact i5
    ·have:=nK (n:=ns) (f:=λz=>R.int (z:E)) (d:=λz=>j (dA (hp z))) (o:=v1) (step:=Ig (.ah (ns.map λz=>.int (z:E)))) λz a=>row_step _ z;rw[show ns.filterMap (λz=>j (dA (hp z)))=(ns.map hp).map dA by rw[dG];exact zZ (z0 (f:=dA∘hp)) ns]at this;refine iz ?_ this;kernel_rfl
  ·intro h;cases h
 ·rfl
section
variable{J:Sc}{z:E}{bs:KT}{H:hf}{e b T:R}
theorem p_{k:E}(h:n[k]?=j r)(sc:n.length≤100000):gM (.ah n) (.int (k:E))=j r:=by
 have gl:k<n.length:=by
  rcases sd k n.length with eg|eg;·exact eg
  ·rw[DM eg]at h;cases h
 refine(Re (by rw[LG (by left) (by left),b6 (by left)];rfl)).trans ?_;have:r0 (k:m0) n.length=j k:=by unfold r0;dsimp only;rw[ss (show¬((k:m0)<0) by left),tt (by simp;left)];rfl
 exact(eS this).trans h
theorem item_last(sc:n.length≤100000):gM (.ah (n++[r])) (.int (-1))=j r:=by
 have ae:(n++[r]).length=n.length+1:=by simp
 refine(Re (by rw[b6 (by left)];rfl)).trans ?_;have:r0 (-1) (n++[r]).length=j n.length:=by unfold r0;dsimp only;rw[tt (show(-1:m0)<0 by left),ae,tt (by simp;left)];congr 1;left
 exact(eS this).trans (by simp)
theorem Qx{ai:bv}{f1:p R}(gv:h8 bs inner u=V)(ty:qi u=V)(hh:dU inner H=bk)(h1:iC J z bs ai H o=j (n,2,al))(sc:H1 n.length=V)(h3:kv (i2 G (d6 bs inner) u bk (λH g o=>sB J z (d6 bs inner) g H o) (λH g o=>cx J z (d6 bs inner) g H o) aI bj) n al=j (f1,eu)):sB J (z+1) bs (.ListComp bj [⟨u,ai,aI,0⟩] inner x) H o=j (.ah f1,eu):=B0 h1 rfl (by rw[gv,ty];rfl) (by rw[hh];exact h3) sc
theorem Qy{k:p R}(Os:df bs "zip"=V)(jI:J.gen "zip"=bn)(Uf:H.lookup ("zip":X)=bn)(h:c3 (λg o=>sB J z bs g H o) s5 o=j (g3,al))(wn:fa g3 al=j ([.ah n,.ah k],f2))(ae:H1 n.length=V)(gl:H1 k.length=V):iC J (z+1) bs (.Call (.Name "zip" a_) s5 [] x) H o=j (ku n k,2,f2):=by
 have gt:bb "zip"=V:=by decide+kernel
 have nw:(("zip":X)=="range")=G:=by decide+kernel
 have sc:(("zip":X)=="zip")=V:=by decide+kernel
 refine(show iC J (z+1) bs (.Call (.Name "zip" a_) s5 [] x) H o=pp (df bs "zip"&&(H.lookup ("zip":X)).isNone&&bb "zip") (s4 (c3 (λg o=>sB J z bs g H o) s5 o) (xq J "zip"))from rfl).trans<|(Re (by rw[Os,Uf,gt];rfl)).trans<|(Op h).trans<|(fH jI).trans ?_;exact(Op (k:=λbQ f2=>eT bQ λe b=>h4 e λn=>h4 b λk=>pp (H1 n.length&&H1 k.length)<|j (ku n k,2,f2)) wn).trans (show pp (H1 n.length&&H1 k.length) (j (ku n k,2,f2))=_ from Re (by rw[ae,gl];rfl))
theorem src_range(Os:df bs "range"=V)(jI:J.gen "range"=bn)(Uf:H.lookup ("range":X)=bn)(h:c3 (λg o=>sB J z bs g H o) [g] o=j ([.int (m:E)],al))(pc:m≤100000):iC J (z+1) bs (.Call (.Name "range" a_) [g] [] x) H o=j ((bE m).map λi=>.int (i:E),0,al):=by
 have gt:bb "range"=V:=by decide+kernel
 have nw:(("range":X)=="range")=V:=by decide+kernel
 have np:fu (m:m0)=V:=LG (by left) (by left);refine(show iC J (z+1) bs (.Call (.Name "range" a_) [g] [] x) H o=pp (df bs "range"&&(H.lookup ("range":X)).isNone&&bb "range") (s4 (c3 (λg o=>sB J z bs g H o) [g] o) (xq J "range"))from rfl).trans<|(Re (by rw[Os,Uf,gt];rfl)).trans<|(Op h).trans<|(fH jI).trans ?_;show dZ (n7 (λn=>(n,0,al)) (dZ (pp (fu (m:m0)) (j (lb 0 m))) bn)) _=_;rw[Re np];show j ((bE ((m:m0) - 0).toNat).map (λi=>R.int (0+(i:E))),0,al)=_;rw[Int.sub_zero,DD];simp only[Int.zero_add]
theorem Ih{i:E}{m:X}(ae:o[i]?=j (.list n))(pc:(m=="append")=G)(aaO:(m=="pop")=V):ow J (.am i) m o=j .pop:=(eS ae).trans (eq_of_beq aaO▸rfl)
theorem Ca{i:E}{m:X}(ae:o[i]?=j (.list (n++[r])))(sc:n.length≤100000):fb J .pop (.am i) m [] o=j (r,o.set i (.list n)):=by have:H1 (n++[r]).length=V:=b6 (by rw[ct];simp;left);refine(w' ae).trans<|(Re this).trans ?_;simp
theorem yV{dQ:hf->p ca->St}{z:E}{q:bz×hf×p ca}(h1:jh H o=j (V,al))(ex:dQ H al=j (.next,e',f2))(h3:gT jh dQ z e' f2=j q):gT jh dQ (z+1) H o=j q:=by exact xY.trans<|(Op h1).trans<|show js (dQ H al) (λf e' f2=>i7 f e' f2 (gT jh dQ z e' f2))=_ from(qH ex).trans h3
theorem o1{dQ:hf->p ca->St}{z:E}(h1:jh H o=j (G,al)):gT jh dQ (z+1) H o=j (.next,H,al):=by exact xY.trans (Op h1)
theorem qa{k:E}(gl:n.length=k)(sc:k≤100000):qR "len" [.ah n]=j (.int (k:E)):=by subst gl;show dZ (pp (H1 n.length) (j (R.int n.length))) bn=_;rw[Re (b6 (by left))];rfl
theorem Qz(sc:n.length≤100000):qR "list" [.ah n]=j (.ah n):=by show dZ (pp (H1 n.length) (j (R.ah n))) _=_;rw[Re (b6 (by left))];rfl
end
theorem aib{bs:KT}{H:hf}(cr:bV bs c=V)(Uf:Pv H c r=o0):d5 bs (.Name c x) r H=j o0:=by subst Uf;exact HV cr
theorem aic:H1 ([]:p R).length=V:=rfl
theorem aid:H1 ([r]:p R).length=V:=rfl
theorem Ii{ax:c6}{t:ga}(h:ax g o=j (t,al)):h9 ax .And [g] o=j (t,al):=ox.trans<|(Op h).trans (t.rec rfl rfl)
structure Enc{t0:Type}[KP t0](f:t0->R)(x:t0->mO)(P:t0->Prop)(k:E):Prop where
 py:∀c,iR (f c)=j (x c)
 o2:∀c,P c->(x c).canLay0=V
 dep:∀c,(x c).depth≤k
 eqv:∀c I,t8 (x c) (x I)=decide (c=I)
theorem Enc.int:Enc (λk:E=>R.int k) (λk=>.int k) (λa=>g6) 0 where
 py _:=rfl
 o2 _ _:=rfl
 dep _:=Da _
 eqv c I:=by
  show((c:m0)==(I:m0))=_
  rw[j0,bt,mX];exact agI
theorem Enc.bool:Enc (λk:ga=>R.bool k) (λk=>.bool k) (λa=>g6) 0 where
 py _:=rfl
 o2 _ _:=rfl
 dep _:=Da _
 eqv c I:=by
  show(c==I)=_
  rw[j0];simp
theorem Enc.list[KP t0]{f:t0->R}{x:t0->mO}{P:t0->Prop}{k:E}(g:Enc f x P k):Enc (λn:p t0=>R.ah (n.map f)) (λn=>.list (n.map x)) (λn=>∀c∈n,P c) (k+1) where
 py n:=GT (n7 S0) (n.rec (motive:=λn=>l3 (n.map f)=j (n.map x)) rfl λc n ih=>(eS (g.py c)).trans (GT (n7 (x c::·)) ih))
 o2 n:=n.rec (motive:=λn=>(∀c∈n,P c)->wA (n.map x)=V) (λa=>rfl) λc n ih h=>f3.mpr ⟨g.o2 c (h c (.head _)),ih λI KM=>h I (.tail _ KM)⟩
 dep n:=r5 (n.rec (motive:=λn=>ae7 (n.map x)≤k) (e6 _) λc n ih=>Nat.max_le.mpr ⟨g.dep c,ih⟩)
 eqv n m:=by
  show KQ (n.map x) (m.map x)=_
  induction n generalizing m with
  |nil=>cases m<;>simp[KQ]
  |cons c n ih=>
   cases m with
   |nil=>simp[KQ]
   |cons I m=>rw[cs,cs,KQ,g.eqv,ih];simp
theorem v2[KP t0]{f:t0->R}{x:t0->mO}{P:t0->Prop}{k:E}(g:Enc f x P k)(gl:k≤60){n m:p t0}(ae:∀c∈n,P c)(pc:∀c∈m,P c):ci .NotEq (.ah (n.map f)) (.ah (m.map f))=j (!decide (n=m)):=by
 refine(GT (n7 not) ((eS (g.list.py n)).trans<|(eS (g.list.py m)).trans (Re ?_))).trans (by rw[<- g.list.eqv];rfl);have yW:∀n:p t0,(∀c∈n,P c)->n6 (.list (n.map x))=V:=λn ae=>by unfold n6;rw[g.list.o2 n ae,Ds];have:=g.list.dep n;exact hV (by left)
 rw[yW n ae,yW m pc];rfl
theorem QA[KP t0]{f:t0->R}{x:t0->mO}{P:t0->Prop}{k:E}(g:Enc f x P k)(gl:k≤60){n m:p t0}(ae:∀c∈n,P c)(pc:∀c∈m,P c):ci .Eq (.ah (n.map f)) (.ah (m.map f))=j (decide (n=m)):=by
 refine((eS (g.list.py n)).trans<|(eS (g.list.py m)).trans (Re ?_)).trans (by rw[<- g.list.eqv]);have yW:∀n:p t0,(∀c∈n,P c)->n6 (.list (n.map x))=V:=λn ae=>by unfold n6;rw[g.list.o2 n ae,Ds];have:=g.list.dep n;exact hV (by left)
 rw[yW n ae,yW m pc];rfl
noncomputable def eM(c:X):R:=.ah ((cB c).map .int)
theorem QB(f8:c∈bA):a8 a5 hw 262 [] [.str c]=j (eM c):=cV Rco c f8
theorem Cb(f8:c∈fl):c∈bA:=.tail _ f8
noncomputable def On(n:p E):p R:=n.map λk=>.int (k:E)
noncomputable def ek(jg:E->ga):p E->p E|[]=>[]|k::x=>if jg k then ek jg x else k::x
noncomputable def jP(lt:E->E->ga):E->E->p E->p (p E)|0,_,_=>[]|z+1,i,x=>(ek (λk=>!lt k i) x).reverse::jP lt z (i+1) (i::ek (λk=>!lt k i) x)
theorem v3{k:E}{x:p E}:ek jg (k::x)=if jg k=V then ek jg x else k::x:=rfl
theorem QC{lt:E->E->ga}{i:E}{x:p E}:jP lt 0 i x=[]:=rfl
theorem tJ{lt:E->E->ga}{z i:E}{x:p E}:jP lt (z+1) i x=(ek (λk=>!lt k i) x).reverse::jP lt z (i+1) (i::ek (λk=>!lt k i) x):=rfl
noncomputable def kQ(lt:E->E->ga)(z:E):p (p E):=jP lt z 0 []
noncomputable def kh(op:p X)(i:E):X:=(op[i]?).getD ""
noncomputable def rF(op:p X):p (p E):=kQ (λi ev=>fA (kh op i) (kh op ev)) op.length
noncomputable def bB(e:p (p E)):p R:=e.map λn=>.ah (On n)
noncomputable def v4(s:wP):bv:=w5 s (λu a a a=>u) nP
noncomputable def kR(n:p wP):wP:=n.head?.getD (.Pass ⟨0,0,0,0⟩)
noncomputable abbrev yX:KT:=(fdOf hw 272).scope
noncomputable def Ij(H:hf)(o:p ca):St:=TT (bq (c4 hw) 39 yX) (dC (Do 272 3)) H o
noncomputable def Cc(H:hf)(o:p ca):Y (ga×p ca):=cx (c4 hw) 38 yX (v4 (kR (dC (Do 272 3)))) H o
noncomputable def Ik(H:hf)(o:p ca):St:=TT (bq (c4 hw) 38 yX) (dC (kR (dC (Do 272 3)))) H o
noncomputable def jd(Q C5:R)(f1:hf):hf:=("rows",Q)::("columns",C5)::("pile",.am 0)::("above",.am 1)::f1
noncomputable def eN(x:p E)(A:p (p E)):p ca:=[.list (On x),.list (bB A)]
theorem aaP{Q C5:R}{x:p E}{k:E}{A:p (p E)}(ln:x.length≤50):Ik (jd Q C5 f1) (eN (k::x).reverse A)=j (.next,jd Q C5 f1,eN x.reverse A):=by
 unfold Ik jd
 conv=>
  lhs
  arg 2
  whnf
 apply zn
 ·apply fU;·kernel_rfl
  ·kernel_rfl
  ·apply ej;·kernel_rfl
   ·kernel_rfl
   ·right
   ·apply Ih;·rfl
    ·decide+kernel
    ·decide+kernel
   ·right
   ·apply Ca (n:=On x.reverse) (r:=.int (k:E));·unfold eN On;simp
    ·unfold On;simp;left
 ·right;rfl
noncomputable def aaQ(x:m0×m0):Y R:=if x.1≥x.2 then j (.int 1)else bn
noncomputable def QD(e b:X):p R:=((cB e).zip (cB b)).filterMap aaQ
noncomputable def aaR:bv:=sm (v4 (kR (dC (Do 272 3)))) (λa n a=>qF ((n[1]?).getD nP) (λg a a a=>g) nP) nP
theorem aaS(o:p ca):(fl.map λe=>fl.map λb=>kv (Ie (c4 hw) 35 yX aaR []) (ku ((cB e).map .int) ((cB b).map .int)) o)=fl.map λe=>fl.map λb=>j (QD e b,o):=by kernel_rfl
theorem aaT:(fl.map λe=>fl.map λb=>ci .NotEq (.ah (QD e b)) (.ah []))=fl.map λe=>fl.map λb=>j (!fA e b):=by kernel_rfl
noncomputable def nS(op:p X):R:=.ah (op.map eM)
theorem yY(k:E)(x:p E):On (k::x).reverse=On x.reverse++[.int (k:E)]:=by unfold On;simp
theorem QE{op:p X}{i:E}(h:i<op.length):op[i]?=j (kh op i):=by unfold kh;rw[k8 h];rfl
theorem Cd{op:p X}(dW:∀c∈op,c∈fl){i:E}(h:i<op.length):kh op i∈fl:=by unfold kh;rw[k8 h];exact dW _ (gJ _)
noncomputable def Il(op:p X)(x:p E)(i:E):ga:=match x with|[]=>G|k::_=>!fA (kh op k) (kh op i)
theorem QF{Q:R}{op:p X}{x:p E}{i:E}{A:p (p E)}(dW:∀c∈op,c∈fl)(aV:op.length≤50)(ln:∀k∈x,k<op.length)(eA:x.length≤50)(np:i<op.length):Cc (jd Q (nS op) [("i",.int (i:E))]) (eN x.reverse A)=j (Il op x i,eN x.reverse A):=by
 cases x with
 |nil=>unfold Cc jd;kernel_rfl
 |cons k x=>
  have gl:=ln k (.head _);have SZ:ci .NotEq (.ah (On (k::x).reverse)) (.ah [])=j V:=by have:=v2 Enc.int (by decide) (n:=(k::x).reverse) (m:=[]) (λa a=>trivial) (λa a=>trivial);rw[show decide ((k::x).reverse=[])=G by simp]at this;exact this
  have aaU:(op.map eM)[k]?=j (eM (kh op k)):=by rw[hX,QE gl];rfl
  have aaV:(op.map eM)[i]?=j (eM (kh op i)):=by rw[hX,QE np];rfl
  have jD:gM (nS op) (.int (k:E))=j (eM (kh op k)):=p_ aaU (by rw[aK];left);have jE:gM (nS op) (.int (i:E))=j (eM (kh op i)):=p_ aaV (by rw[aK];left);have Im:gM (.ah (On (k::x).reverse)) (.int (-1))=j (.int (k:E)):=by rw[yY];exact item_last (by unfold On;simp at eA⊢;left)
  have oW:=cV (cV (aaS (eN (k::x).reverse A)) _ (Cd dW gl)) _ (Cd dW np);have gy:=cV (cV aaT _ (Cd dW gl)) _ (Cd dW np);have U:∀c,H1 ((cB c).map R.int).length=V:=λc=>by unfold cB;rfl
  have aaW:∀c I,H1 (ku ((cB c).map R.int) ((cB I).map R.int)).length=V:=λc I=>by unfold cB;rfl
  unfold Cc jd
  conv=>
   lhs
   arg 4
   whnf
  apply my;apply HR;·right;exact SZ
  ·apply Ii
   ·apply gi;·kernel_rfl
    ·apply Qx;·kernel_rfl
     ·rfl
     ·rfl
     ·apply Qy;·kernel_rfl
      ·kernel_rfl
      ·right
      ·apply cC;·kernel_rfl
       ·apply fo;·kernel_rfl
        ·right
        ·apply fo;·kernel_rfl
         ·right
         ·right
         ·exact Im
        ·exact jD
       ·apply cC;·kernel_rfl
        ·apply fo;·kernel_rfl
         ·right
         ·right
         ·exact jE
        ·exact fz
      ·exact jL rfl (jL rfl lx)
      ·exact U _
      ·exact U _
     ·exact aaW _ _
     ·refine iz ?_ oW;kernel_rfl
    ·right
    ·exact gy
noncomputable def nT(op:p X)(i ev:E):ga:=fA (kh op i) (kh op ev)
theorem yZ:∀{x:p E},∀k∈ek jg x,k∈x
 |[],_,h=>h
 |e::x,k,h=>by
  rw[v3]at h;split at h;·exact .tail _ (yZ k h)
  ·exact h
theorem v5:∀{x:p E},(ek jg x).length≤x.length
 |[]=>Da _
 |e::x=>by
  rw[v3];split;·exact qD v5
  ·exact Da _
theorem QG{Q:R}{op:p X}{i:E}{A:p (p E)}(dW:∀c∈op,c∈fl)(aV:op.length≤50)(np:i<op.length):∀(x:p E) (z:E),(∀k∈x,k<op.length)->x.length≤50->x.length<z->gT Cc Ik z (jd Q (nS op) [("i",.int (i:E))]) (eN x.reverse A)=j (.next,jd Q (nS op) [("i",.int (i:E))],eN (ek (λk=>!nT op k i) x).reverse A)
 |[],z+1,ln,eA,pi=>o1 (QF dW aV ln eA np)
 |k::x,z+1,ln,eA,pi=>by
  have t:=QF (Q:=Q) (A:=A) dW aV ln eA np;have y0:x.length≤50:=by simp at eA;left
  rw[v3];by_cases cr:(!nT op k i)=V;·rw[tt cr];rw[show Il op (k::x) i=V from cr]at t;exact yV t (aaP y0) (QG dW aV np x z (λev s3=>ln ev (.tail _ s3)) y0 (by simp at pi;left))
  ·rw[ss cr];rw[show Il op (k::x) i=G from lP.mpr cr]at t;exact o1 t
theorem aaX{Q:R}{op:p X}{i:E}{A:p (p E)}{x:p E}(dW:∀c∈op,c∈fl)(aV:op.length≤50)(np:i<op.length)(ln:∀k∈x,k<op.length)(eA:x.length≤50)(bT:A.length≤50):Ij (jd Q (nS op) [("i",.int (i:E))]) (eN x.reverse A)=j (.next,jd Q (nS op) [("i",.int (i:E))],eN (i::ek (λk=>!nT op k i) x).reverse (A++[(ek (λk=>!nT op k i) x).reverse])):=by
 have d8:=QG (Q:=Q) (A:=A) dW aV np x 64 ln eA (by left);have nU:(ek (λk=>!nT op k i) x).length≤50:=aJ v5 eA;unfold jd at d8;generalize ek (λk=>!nT op k i) x=q at d8 nU;unfold Ij jd
 conv=>
  lhs
  arg 2
  whnf
 apply zn
 ·apply tA;·kernel_rfl
  ·refine iz ?_ d8;kernel_rfl
 apply zn
 ·apply fU;·kernel_rfl
  ·kernel_rfl
  ·apply ej;·kernel_rfl
   ·kernel_rfl
   ·right
   ·apply tF;·rfl
    ·kernel_rfl
   ·apply cC;·kernel_rfl
    ·apply dq;·kernel_rfl
     ·right
     ·kernel_rfl
     ·right
     ·exact mz (by kernel_rfl) (Qz (by unfold On;simp;left))
    ·right
   ·apply rv;·rfl
    ·rfl
    ·exact b6 (by unfold bB;simp;left)
 apply zn
 ·apply fU;·kernel_rfl
  ·kernel_rfl
  ·apply ej;·kernel_rfl
   ·kernel_rfl
   ·right
   ·apply tF;·rfl
    ·kernel_rfl
   ·right
   ·apply rv;·rfl
    ·rfl
    ·exact b6 (by unfold On;simp;left)
 rw[cM];unfold eN bB On;simp
theorem QH{Q:R}{op:p X}(dW:∀c∈op,c∈fl)(aV:op.length≤50):∀(z i:E) (x:p E) (A:p (p E)) (f1:hf),(f1=[]\/∃k:E,f1=([("i",.int k)]:hf))->i+z≤op.length->(∀k∈x,k<op.length)->x.length≤i->A.length≤i->∃aF d',fQ yX (jN (Do 272 3)) Ij (((bE z).map (·+i)).map λk=>.int (k:E)) (jd Q (nS op) f1) (eN x.reverse A)=j (.next,jd Q (nS op) aF,eN d' (A++jP (nT op) z i x))
 |0,i,x,A,f1,f8,np,ln,eA,bT=>⟨f1,x.reverse,by rw[QC,c2];rfl⟩
 |z+1,i,x,A,f1,f8,np,ln,eA,bT=>by
  obtain⟨aF,d',h⟩:=QH (Q:=Q) dW aV z (i+1) (i::ek (λk=>!nT op k i) x) (A++[(ek (λk=>!nT op k i) x).reverse]) [("i",.int (i:E))] (.inr ⟨i,rfl⟩) (by left) (λk gl=>by cases gl with|head=>left|tail _ gl=>exact ln k (yZ k gl)) (by have:=v5 (jg:=λk=>!nT op k i) (x:=x);simp;left) (by simp;left);refine⟨aF,d',?_⟩;have g:((bE (z+1)).map (·+i)).map (λk=>R.int (k:E))=.int (i:E)::((bE z).map (·+(i+1))).map (λk=>R.int (k:E)):=by rw[pm];simp[dG,KR];intro e db;left
  rw[g];refine jc (bx:=jd Q (nS op) [("i",.int (i:E))]) ?_ (aaX dW aV (by left) ln (by left) (by left)) ?_;·unfold jd;rcases f8 with rfl|⟨k,rfl⟩<;>kernel_rfl
  ·rw[tJ];rw[e8]at h;exact h
theorem aaY(nw:∀l∈Q,l.aA∈fl)(aV:Q.length≤50):a8 (c4 hw) hw 272 [] [.ah (Q.map dA)]=j (.ah (bB (rF (Q.map (·.aA))))):=by
 have dW:∀c∈Q.map (·.aA),c∈fl:=λc f8=>by obtain⟨l,h,rfl⟩:=dM.mp f8;exact nw l h
 obtain⟨aF,d',h⟩:=QH (Q:=.ah (Q.map dA)) dW (by simpa using aV) Q.length 0 [] [] [] (.inl rfl) (by simp) (λk gl=>by cases gl) (Da _) (Da _);rw[show[]++jP (nT (Q.map (·.aA))) Q.length 0 []=rF (Q.map (·.aA)) by unfold rF kQ;rw[aK];rfl]at h;have sc:H1 (Q.map dA).length=V:=b6 (by rw[aK];left);have aaZ:(c4 hw).fn "_law_columns"=j (a8 a5 hw 262 []):=by kernel_rfl
 apply kK (wE:=eN d' (rF (Q.map (·.aA)))) (hi:=.am 1);·kernel_rfl
 ·conv=>
   lhs
   arg 2
   whnf
  rw[show b2 (fdOf hw 272)=([("rows":X)]:p X) by kernel_rfl];simp only[c2,hY,lS];apply zn (bx:=[("rows",.ah (Q.map dA)),("columns",nS (Q.map (·.aA)))])
  ·apply vR;·kernel_rfl
   ·kernel_rfl
   ·kernel_rfl
   ·apply kM;·kernel_rfl
    ·right
    ·apply kL;·kernel_rfl
     ·right
     ·exact sc
    ·exact sc
    ·refine nK (d:=λl=>j (eM l.aA)) λl aa0=>?_;have f0:=QB (Cb (nw l aa0));apply ij;·right
     ·exact kJ
     ·apply dq;·kernel_rfl
      ·right
      ·kernel_rfl
      ·apply cC;·kernel_rfl
       ·apply fo;·kernel_rfl
        ·right
        ·right
        ·rfl
       ·right
      ·exact fV aaZ (jL rfl lx) f0
     ·rfl
   ·rw[show Q.filterMap (λl=>j (eM l.aA))=(Q.map (·.aA)).map eM by rw[dG];exact zZ (z0 (f:=eM∘(·.aA))) Q];rfl
  apply zn;·right
  apply zn;·right
  apply zn
  ·apply vQ;·kernel_rfl
   ·kernel_rfl
   ·apply src_range (m:=Q.length);·kernel_rfl
    ·kernel_rfl
    ·right
    ·apply cC;·kernel_rfl
     ·apply dq;·kernel_rfl
      ·right
      ·kernel_rfl
      ·right
      ·exact mz (by kernel_rfl) (qa (by simp) (by left))
     ·exact fz
    ·left
   ·rw[show(bE Q.length).map (λi=>R.int (i:E))=((bE Q.length).map (·+0)).map λk=>.int (k:E) by simp];refine iz ?_ h;kernel_rfl
  unfold jd;apply jM;·right
  ·intro h;cases h
 ·rfl
section
variable{J:Sc}{z:E}{bs:KT}{H:hf}{e b T:R}{U:X}
theorem Enc.str:Enc (λk:X=>R.str k) (λk=>.str k) (λs=>pw s=V) 0 where
 py _:=rfl
 o2 _ h:=by rw[Ug];exact h
 dep _:=Da _
 eqv c I:=by
  show(c==I)=_
  rw[j0,bt,mX]
theorem QI{n:p X}(f8:pw c=V)(h:∀I∈n,pw I=V):ci .In (.str c) (.ah (n.map .str))=j (decide (c∈n)):=by
 have g:=Enc.str.list.py n;have bu:l3 (n.map .str)=j (n.map λk=>.str k):=by obtain⟨q,h1,ex⟩:=wX.mp (show(l3 (n.map .str)).map S0=_ from g);injection ex with ex;rw[h1,ex]
 have oW:Ug (.str c)=V:=by rw[Ug];exact f8
 have gy:wA (n.map λk=>.str k)=V:=Enc.str.list.o2 n h;refine(eS bu).trans<|(Re (by rw[oW,gy];rfl)).trans ?_;congr 1;rw[List.any_map,j0,mX,Dq];constructor;·rintro ⟨I,KM,rs⟩;have:I=c:=bt.mp rs;rw[<- this];exact KM
 ·intro f8;exact⟨c,f8,jl c⟩
theorem Io{n:p X}(f8:pw c=V)(h:∀I∈n,pw I=V):ci .NotIn (.str c) (.ah (n.map .str))=j (!decide (c∈n)):=by have:=QI f8 h;have g:ci .NotIn (.str c) (.ah (n.map .str))=(ci .In (.str c) (.ah (n.map .str))).map (!·):=rfl;rw[g,this];rfl
theorem QJ{i:E}(gt:bb c=V)(f8:H.lookup c=j (.am i))(ae:o[i]?=j (.list n))(sc:H1 n.length=V):iC J (z+2) bs (.Name c x) H o=j (n,1,o):=by exact(show iC J (z+2) bs (.Name c x) H o=s4 (sB J (z+1) bs (.Name c x) H o) xr from rfl).trans<|(Op (gB gt f8)).trans<|(w' ae).trans (Re sc)
theorem aa1{ai:bv}{f1:p R}(gv:h8 bs inner u=V)(dk:(gc bj&&aI.all gc)=V)(hh:dU inner H=bk)(h1:iC J z bs ai H o=j (n,1,al))(sc:H1 n.length=V)(h3:kv (i2 V (d6 bs inner) u bk (λH g o=>sB J z (d6 bs inner) g H o) (λH g o=>cx J z (d6 bs inner) g H o) aI bj) n al=j (f1,eu)):sB J (z+1) bs (.ListComp bj [⟨u,ai,aI,0⟩] inner x) H o=j (.ah f1,eu):=B0 h1 (by rw[dk];rfl) (by rw[gv,dk];rfl) (by rw[hh];exact h3) sc
theorem aa2{c:R}(h1:d5 rS u r H=j o0)(ex:h' (gb o0) aI o=j (V,al))(h3:fM o0 bj al=j (c,f2))(aS:d_ c=V):i2 V rS u H fM gb aI bj r o=j (j c,f2):=by exact(eS h1).trans<|(Op ex).trans<|show s4 (fM o0 bj al) (λc f2=>pp (!(V&&!d_ c))<|s4 (d4 c f2) λnc ew=>j (j nc,ew))=_ from(Op h3).trans<|(Re (by rw[aS];rfl)).trans (Op (uY aS))
noncomputable def pr(Q:p aZ)(k:E):X:=((Q[k]?).map (·.name)).getD ""
theorem row_get{k:E}(h:k<Q.length):Q[k]?=j (Q[k]):=k8 h
theorem row_item{k:E}(h:k<Q.length)(ae:Q.length≤50):gM (.ah (Q.map dA)) (.int (k:E))=j (dA Q[k]):=p_ (by rw[hX,row_get h];rfl) (by rw[aK];left)
theorem row_name{k:E}(h:k<Q.length):gM (dA Q[k]) (.int 1)=j (.str (pr Q k)):=by unfold pr;rw[row_get h];rfl
theorem Ce{q:p E}{i g2:E}(gt:bb "rows"=V)(Ip:bb "k"=V)(aa3:bb I=V)(gv:h8 bs inner (.Name "k" pB)=V)(hh:dU inner H=([("rows",.ah (Q.map dA))]:hf))(cr:bV (d6 bs inner) "k"=V)(ln:H.lookup I=j (.am i))(ap:o[i]?=j (.list (On q)))(ae:Q.length≤50)(wT:q.length≤50)(gl:∀k∈q,k<Q.length):sB J (z+4) bs (.ListComp (.Subscript (.Subscript (.Name "rows" a_) (.Name "k" bF) eU) (.Constant (.int 1) g2 hy) f7) [⟨.Name "k" pB,.Name I w7,[],0⟩] inner w8) H o=j (.ah ((q.map (pr Q)).map .str),o):=by
 have sc:H1 (On q).length=V:=b6 (by unfold On;rw[aK];left);refine aa1 gv rfl hh (QJ aa3 ln ap sc) sc ?_;have:=nK (n:=q) (f:=λk=>R.int (k:E)) (d:=λk=>j (R.str (pr Q k))) (o:=o) (step:=i2 V (d6 bs inner) (.Name "k" pB) ([("rows",.ah (Q.map dA))]:hf) (λH g o=>sB J (z+3) (d6 bs inner) g H o) (λH g o=>cx J (z+3) (d6 bs inner) g H o) [] (.Subscript (.Subscript (.Name "rows" a_) (.Name "k" bF) eU) (.Constant (.int 1) g2 hy) f7)) λk sX=>by
   refine aa2 (al:=o) (o0:=([("rows",.ah (Q.map dA)),("k",.int (k:E))]:hf)) ((HV cr).trans (by kernel_rfl)) kJ ?_ rfl;apply fo (i:=.int 1);·rfl
   ·apply fo (T:=.ah (Q.map dA)) (i:=.int (k:E));·rfl
    ·exact gB gt (by kernel_rfl)
    ·exact gB Ip (by kernel_rfl)
    ·exact row_item (gl k sX) ae
   ·exact ru
   ·exact row_name (gl k sX)
 rw[show q.filterMap (λk=>j (R.str (pr Q k)))=(q.map (pr Q)).map .str by rw[dG];exact zZ (z0 (f:=R.str∘pr Q)) q]at this;exact this
end
theorem aa4:m_ bn (j (-1)) (n++[r])=n:=by
 have ae:(n++[r]).length=n.length+1:=by simp
 unfold m_;have g:wB bn (j (-1)) bn (n++[r]).length=(((0:E):m0),((n.length:E):m0),1):=by unfold wB;rw[ae];simp;left
 rw[g];dsimp only;rw[sliceRange_one,T6];have:∀k≤n.length,((bE k).map (0+·)).filterMap (λi=>(n++[r])[i]?)=n.take k:=by
  intro k;induction k with
  |zero=>intro _;rfl
  |succ k ih=>
   intro gl;rw[DP,jo,agJ,ih (by left),agK];congr 1;have:(n++[r])[0+k]?=n[k]?:=by rw[jZ,JO (by left)]
   rw[cs,zM,r2,this,k8 (by left)];rfl
 rw[this _ (Da _),agL]
section
variable{J:Sc}{z:E}{bs:KT}{H:hf}{e b T:R}{U:X}
theorem QK{lo:Y bv}{n h:Y m0}{k:p R}(h1:sB J z bs (.Name c x) H o=j (T,al))(ex:lc (λg o=>sB J z bs g H o) lo al=j (n,f2))(h3:lc (λg o=>sB J z bs g H o) np f2=j (h,ew))(FB:view ew T=.ah k)(sc:H1 k.length=V):sB J (z+1) bs (.Subscript (.Name c x) (.Slice lo np bn a_) bF) H o=j (.ah (m_ n h k),ew):=by exact AH.trans<|show xo (λg o=>sB J z bs g H o) (.Name c x) lo np o=_ from(Op h1).trans<|(Op ex).trans<|(Op h3).trans<|by rw[FB];exact Re sc
theorem nV{n l:bv}(h1:sB J z bs n H o=j (.str c,al))(ex:sB J z bs l H al=j (.str I,f2))(sc:c.length+I.length≤1000000):sB J (z+1) bs (.BinOp n .Add l x) H o=j (.str (c++I),f2):=hQ h1 ex rfl (HY sc)
theorem Iq{t:ga}{i ev:m0}(h1:cx J z bs u H o=j (t,al))(ex:sB J z bs g' H al=j (.int i,al))(h3:sB J z bs jt H al=j (.int ev,al)):sB J (z+1) bs (.IfExp u g' jt x) H o=j (.int (if t then i else ev),al):=by
 cases t;·exact yH h1 h3
 ·exact yG h1 ex
theorem Ir{ax:c6}{kY pd:ga}(h1:ax g' o=j (kY,o))(ex:ax jt o=j (pd,o)):h9 ax .And [g',jt] o=j (kY&&pd,o):=by
 refine ox.trans<|(Op h1).trans ?_;cases kY;·rfl
 ·exact Ii ex
theorem aa5{ax:c6}{kY pd:ga}(h1:ax g' o=j (kY,o))(ex:ax jt o=j (pd,o)):h9 ax .Or [g',jt] o=j (kY ||pd,o):=by
 refine ox.trans<|(Op h1).trans ?_;cases kY;·refine(show _=h9 ax .Or [jt] o from rfl).trans<|ox.trans<|(Op ex).trans ?_;cases pd<;>rfl
 ·rfl
theorem y1{i:E}(rs:J.ext bs (.Expr (.Call (.Attribute (.Name c a_) "append" bX) [g] [] h0) x)=bn)(f0:(bX.endLine==h0.line&&decide ([g].length<30)&&jz (.Name c a_)&&!bs.isGenerator)=V)(gt:bb c=V)(fd:jU g=V)(f8:H.lookup c=j (.am i))(h:sB J (z+1) bs g H o=j (r,al))(It:∃bo,o[i]?=j (.list bo))(wn:d_ r=V)(ae:al[i]?=j (.list n))(sc:n.length≤100000):bq J (z+3) bs (.Expr (.Call (.Attribute (.Name c a_) "append" bX) [g] [] h0) x) H o=j (.next,H,al.set i (.list (n++[r]))):=by obtain⟨bo,l1⟩:=It;exact fU rs rfl (ej (by decide+kernel) f0 (gB gt f8) (tF l1 (by decide+kernel)) (cC fd h fz) (rv wn ae (b6 (by left))))
theorem rG{i:E}(rs:J.ext bs (.Expr (.Call (.Attribute (.Name c a_) "append" bX) [g] [] h0) x)=bn)(f0:(bX.endLine==h0.line&&decide ([g].length<30)&&jz (.Name c a_)&&!bs.isGenerator)=V)(gt:bb c=V)(fd:jU g=V)(f8:H.lookup c=j (.am i))(h:sB J (z+1) bs g H o=j (r,al))(It:∃bo,o[i]?=j (.list bo))(wn:d_ r=V)(ae:al[i]?=j (.list n))(sc:n.length≤100000)(Uf:H=o0)(wT:al.set i (.list (n++[r]))=f2):bq J (z+3) bs (.Expr (.Call (.Attribute (.Name c a_) "append" bX) [g] [] h0) x) H o=j (.next,o0,f2):=by subst wT;subst Uf;exact y1 rs f0 gt fd f8 h It wn ae sc
theorem tK:ci .Eq (.str c) (.str I)=j (c==I):=by show j (na c==na I)=_;congr 1;rw[j0,bt,bt];exact⟨tC,λh=>by rw[h]⟩
end
noncomputable def mK:dI:=⟨"\"",4,""⟩
noncomputable def TD(ns:p X):ga:=decide (("x":X)∈ns)
noncomputable def lz:p X->p dI|[]=>[]|z::ns=>⟨("</":X)++z++">",if TD (z::ns)then 2 else 0,""⟩::if z=="x"&&!TD ns then[mK]else[]
noncomputable def hk(ns:p X)(l:aZ):E:=if l.name=="x" ||TD ns then 2 else 0
noncomputable def qb(aeP:E):Y gA->p dI|none=>[]|some v=>[⟨v.2.1,aeP+1,v.2.2⟩]
noncomputable def y2(l:aZ):X:=match l.value with|none=>("<":X)++l.name|some _=>("<":X)++l.name++" k="
noncomputable def jQ(ns:p X)(l:aZ):p dI:=⟨("\n":X)++l.aA,if TD ns then 2 else 0,""⟩::((if l.name=="x"&&!TD ns then[mK]else[])++(⟨y2 l,hk ns l,""⟩::(qb (hk ns l) l.value++[⟨(">":X)++l.words.2.1,hk ns l,l.words.2.2⟩,⟨l.quoted.2.1,hk ns l+1,l.quoted.2.2⟩])))
noncomputable abbrev rH:KT:=(fdOf hw 282).scope
noncomputable def v6(H:hf)(o:p ca):St:=TT (bq a5 39 rH) (dC (Do 282 2)) H o
noncomputable def Iu(H:hf)(o:p ca):Y (ga×p ca):=cx a5 38 rH (v4 (kR (dC (Do 282 2)))) H o
noncomputable def Iv(H:hf)(o:p ca):St:=TT (bq a5 38 rH) (dC (kR (dC (Do 282 2)))) H o
noncomputable def du(Q:p aZ)(A:p (p E))(f1:hf):hf:=("rows",.ah (Q.map dA))::("above",.ah (bB A))::("pieces",.am 0)::("pile",.am 1)::f1
noncomputable def dv(x:p E)(he:p dI):p ca:=[.list (he.map eL),.list (On x.reverse)]
noncomputable def mA(i:E)(e b t r g f d:R):hf:=[("i",.int (i:E)),("lead",e),("name",b),("value",t),("words",r),("quoted",g),("names",f),("side",d)]
theorem QL{A:p (p E)}{i:E}{x q:p E}(bT:(A++[[]])[i]?=j q.reverse)(fW:A.length≤50):Iu (du Q A (("i",.int (i:E))::f1)) (dv x he)=j (!decide (x=q),dv x he):=by
 have SZ:ci .NotEq (.ah (On x.reverse)) (.ah (On q.reverse))=j (!decide (x=q)):=by have:=v2 Enc.int (by decide) (n:=x.reverse) (m:=q.reverse) (λa a=>trivial) (λa a=>trivial);rw[show decide (x.reverse=q.reverse)=decide (x=q) by rw[DO];exact agM]at this;exact this
 have bu:gM (.ah (bB A++[.ah []])) (.int (i:E))=j (.ah (On q.reverse)):=by
  refine p_ ?_ (by unfold bB;simp;left);have:bB A++[.ah []]=bB (A++[[]]):=by unfold bB;simp[On]
  rw[this];unfold bB;rw[hX,bT];rfl
 unfold Iu du
 conv=>
  lhs
  arg 4
  whnf
 apply gi;·kernel_rfl
 ·right
 ·apply fo (T:=.ah (bB A++[.ah []])) (i:=.int (i:E));·kernel_rfl
  ·apply vN;·right
   ·right
   ·show dZ (pp (H1 ((bB A).length+1)) (j (bB A++[.ah []]))) _=_;rw[Re (b6 (by unfold bB;simp;left))];rfl
  ·right
  ·exact bu
 ·exact SZ
theorem Iw:∀c∈fm,pw c=V:=by decide+kernel
theorem QM(nw:∀l∈Q,l.Good)(s3:ev<Q.length):pr Q ev∈fm:=by unfold pr;rw[row_get s3];exact(nw _ (gJ s3)).name
theorem QN{q:p E}(nw:∀l∈Q,l.Good)(s3:∀ev∈q,ev<Q.length):∀I∈q.reverse.map (pr Q),pw I=V:=λI KM=>by obtain⟨ev,h,rfl⟩:=dM.mp KM;exact Iw _ (QM nw (s3 ev (sk.mp h)))
theorem QO{q:p E}:decide (("x":X)∈q.reverse.map (pr Q))=TD (q.map (pr Q)):=by unfold TD;rw[DO,agN,sk]
theorem QP:pw "x"=V:=by decide+kernel
theorem QQ{q:p E}(nw:∀l∈Q,l.Good)(s3:∀ev∈q,ev<Q.length):ci .In (.str "x") (.ah ((q.reverse.map (pr Q)).map .str))=j (TD (q.map (pr Q))):=by rw[QI QP (QN nw s3),QO]
theorem Iy{q:p E}(nw:∀l∈Q,l.Good)(s3:∀ev∈q,ev<Q.length):ci .NotIn (.str "x") (.ah ((q.reverse.map (pr Q)).map .str))=j (!TD (q.map (pr Q))):=by rw[Io QP (QN nw s3),QO]
theorem aa6:∀c∈fm,c.length≤10:=by decide+kernel
theorem Cf:∀t:ga,R.int (if t=V then 2 else 0)=.int (((if t=V then 2 else 0:E)):m0)|true=>rfl|false=>rfl
theorem aa7{A:p (p E)}{i k:E}{x:p E}{e b t g f d:R}(nw:∀l∈Q,l.Good)(dP:Q.length≤50)(gl:∀ev∈k::x,ev<Q.length)(ln:x.length≤40)(eJ:he.length≤10000):Iv (du Q A (mA i e b t r g f d)) (dv (k::x) he)=j (.next,du Q A (mA i e b t r g (.ah (((k::x).reverse.map (pr Q)).map .str)) d),dv x (he++lz ((k::x).map (pr Q)))):=by
 have yu:=aa6 _ (QM nw (gl k (.head _)));have jG:((k::x).reverse.map (pr Q)).map R.str=(x.reverse.map (pr Q)).map R.str++[.str (pr Q k)]:=by simp
 have vz:gM (.ah (((k::x).reverse.map (pr Q)).map .str)) (.int (-1))=j (.str (pr Q k)):=by rw[jG];exact item_last (by simp;left)
 have tl:=QQ nw gl;have tL:ci .NotIn (.str "x") (.ah (m_ bn (j (-1)) (((k::x).reverse.map (pr Q)).map .str)))=j (!TD (x.map (pr Q))):=by rw[jG,aa4,Iy nw λev h=>gl ev (.tail _ h)]
 unfold Iv du mA
 conv=>
  lhs
  arg 2
  whnf
 apply zn
 ·apply vR;·kernel_rfl
  ·kernel_rfl
  ·kernel_rfl
  ·apply Ce (Q:=Q) (q:=(k::x).reverse) (i:=1);·kernel_rfl
   ·kernel_rfl
   ·kernel_rfl
   ·kernel_rfl
   ·right
   ·kernel_rfl
   ·right
   ·rfl
   ·exact dP
   ·simp;left
   ·intro ev s3;exact gl ev (sk.mp s3)
  ·right
 apply zn
 ·apply fU;·kernel_rfl
  ·kernel_rfl
  ·apply ej;·kernel_rfl
   ·kernel_rfl
   ·right
   ·apply Ih;·rfl
    ·decide+kernel
    ·decide+kernel
   ·right
   ·apply Ca (n:=On x.reverse) (r:=.int (k:E));·unfold dv On;simp
    ·unfold On;simp;left
 apply zn
 ·apply y1;·kernel_rfl
  ·kernel_rfl
  ·kernel_rfl
  ·kernel_rfl
  ·right
  ·apply tz
   ·apply cC;·kernel_rfl
    ·apply nV
     ·apply nV;·right
      ·right;exact vz
      ·rw[show("</":X).length=2 by decide+kernel];left
     ·right
     ·rw[qn,show("</":X).length=2 by decide+kernel,show(">":X).length=1 by decide+kernel];left
    ·apply cC;·kernel_rfl
     ·apply Iq;·right;exact tl
      ·right
      ·right
     ·right
   ·right
   ·kernel_rfl
  ·exact⟨_,rfl⟩
  ·kernel_rfl
  ·rfl
  ·rw[aK];left
 apply zn (al:=dv x (he++lz ((k::x).map (pr Q)))) (bx:=du Q A (mA i e b t r g (.ah (((k::x).reverse.map (pr Q)).map .str)) d))
 ·apply p9 (t:=pr Q k=="x"&&!TD (x.map (pr Q)));·kernel_rfl
  ·apply my;apply Ir
   ·apply gi;·kernel_rfl
    ·right;exact vz
    ·right
    ·exact tK
   ·apply gi;·kernel_rfl
    ·right
    ·apply QK;·right
     ·exact yM
     ·apply nO;right
     ·rfl
     ·exact b6 (by simp;left)
    ·exact tL
  ·rw[cs,lz];by_cases f0:(pr Q k=="x"&&!TD (x.map (pr Q)))=V
   ·rw[tt f0,tt f0];apply zn
    ·apply y1;·kernel_rfl
     ·kernel_rfl
     ·kernel_rfl
     ·kernel_rfl
     ·right
     ·right;kernel_rfl
     ·exact⟨_,rfl⟩
     ·kernel_rfl
     ·rfl
     ·simp;left
    ·rw[cM,Cf];simp[dv,eL,mK,du,mA]
   ·rw[ss f0,ss f0,cM,Cf];simp[dv,eL,du,mA]
 ·exact cM
noncomputable def ki(q:p E):p E->p (p E)|[]=>[]|k::x=>if k::x=q then[]else(k::x)::ki q x
theorem tM{q x:p E}{k:E}:ki q (k::x)=if k::x=q then[]else(k::x)::ki q x:=rfl
noncomputable def iK(Q:p aZ)(q x:p E):p dI:=(ki q x).flatMap λl=>lz (l.map (pr Q))
inductive rI:hf->Prop|mk (e b t r g f d:R):rI [("lead",e),("name",b),("value",t),("words",r),("quoted",g),("names",f),("side",d)]
inductive mB(P:Prop)(f1:hf):Prop|nil:P->f1=[]->mB P f1|mk:rI f1->mB P f1
theorem QR:∀t:ga,(if t=V then[mK]else[]).length≤1|true=>Da _|false=>e6 _
theorem aa8:∀{ns:p X},(lz ns).length≤2|[]=>e6 _|_::_=>by rw[lz,iW];exact r5 (QR _)
theorem Cg{q x:p E}(h:q<:+x):q.length≤x.length:=h.length_le
theorem Iz{A:p (p E)}{i:E}{q:p E}(nw:∀l∈Q,l.Good)(dP:Q.length≤50)(bT:(A++[[]])[i]?=j q.reverse)(fW:A.length≤50):∀(x:p E) (z:E) (he:p dI) (f1:hf),q<:+x->(∀ev∈x,ev<Q.length)->x.length≤40->he.length+2*x.length≤1000->x.length<z->mB (x=q) f1->∃aF,mB g6 aF/\gT Iu Iv z (du Q A (("i",.int (i:E))::f1)) (dv x he)=j (.next,du Q A (("i",.int (i:E))::aF),dv q (he++iK Q q x))
 |x,0,_,_,_,_,_,_,pi,_=>aB pi (J9 _)
 |[],z+1,he,f1,fd,s3,ln,eJ,pi,f8=>by have wT:q=[]:=DQ.mp fd;subst wT;exact⟨f1,f8.casesOn (λa h=>.nil trivial h) .mk,(o1 (QL bT fW)).trans (by rw[show iK Q [] []=[]from rfl,c2])⟩
 |k::x,z+1,he,f1,fd,s3,ln,eJ,pi,f8=>by
  have t:=QL (Q:=Q) (f1:=f1) (x:=k::x) (he:=he) bT fW;by_cases rs:k::x=q;·rw[hV rs]at t;refine⟨f1,f8.casesOn (λa h=>.nil trivial h) .mk,?_⟩;rw[show iK Q q (k::x)=[] by unfold iK;rw[tM,tt rs];rfl,c2,<- rs];exact o1 t
  ·rw[lL rs]at t;cases f8 with
   |nil h=>exact aB h rs
   |mk h=>
    cases h with|mk e b aL r g f d=>
    have e0:q<:+x:=(Uh.mp fd).elim (λh=>aB h.symm rs) id;have aV:=aa8 (ns:=(k::x).map (pr Q));have vA:x.length+1≤40:=ln;have aie:he.length+2*(x.length+1)≤1000:=eJ;obtain⟨aF,h1,ex⟩:=Iz nw dP bT fW x z (he++lz ((k::x).map (pr Q))) _ e0 (λev h=>s3 ev (.tail _ h)) (zX ln) (by rw[ct];left) (agO pi) (.mk (.mk e b aL r g (.ah (((k::x).reverse.map (pr Q)).map .str)) d));refine⟨aF,h1,?_⟩;rw[show iK Q q (k::x)=lz ((k::x).map (pr Q))++iK Q q x by unfold iK;rw[tM,ss rs];rfl,<- e8];exact yV t (aa7 nw dP s3 (zX ln) (aJ (e7 _ _) (aJ eJ (by decide)))) ex
theorem len_tab:(∀c∈fl,c.length≤10)/\(∀c∈fm,c.length≤10)/\(∀u∈p8,u.2.1.length≤50):=by decide+kernel
noncomputable def QS(H:hf)(o:p ca):St:=TT (bq a5 39 rH) ((dC (Do 282 2)).drop 1) H o
structure QT(Q:p aZ)(A:p (p E))(i:E)(f1:hf)(l:aZ)(b0 rW:hf):Prop where
 bind:d5 rH (.Tuple [.Name "lead" ⟨0,0,0,0⟩,.Name "name" ⟨0,0,0,0⟩,.Name "value" ⟨0,0,0,0⟩,.Name "words" ⟨0,0,0,0⟩,.Name "quoted" ⟨0,0,0,0⟩] 0 ⟨0,0,0,0⟩) (dA l) (du Q A (("i",.int (i:E))::f1))=j (du Q A (("i",.int (i:E))::("lead",.str l.aA)::("name",.str l.name)::("value",hP l.value)::("words",c_ l.words)::("quoted",c_ l.quoted)::b0))
 nm:∀If,Pv b0 "names" If=(("names":X),If)::rW
 y3:∀ds,Pv rW "side" ds=([("side",ds)]:hf)
 ax:∀inner:KT,(inner.names.lookup ("names":X)==j .free)=G->(inner.names.lookup ("side":X)==j .free)=G->dU inner b0=[]
theorem rI.b{A:p (p E)}{i:E}{l:aZ}(h:rI f1):∃b0 rW,QT Q A i f1 l b0 rW:=h.casesOn λe b t r g f d=>⟨[("names",f),("side",d)],[("side",d)],(by kernel_rfl),λIf=>(by kernel_rfl),λds=>(by kernel_rfl),λinner SZ bu=>Qc SZ (Qc bu rfl)⟩
theorem mB.b{P:Prop}{A:p (p E)}{i:E}{l:aZ}(h:mB P f1):∃b0 rW,QT Q A i f1 l b0 rW:=h.casesOn (λa g=>g.symm▸⟨[],[],(by kernel_rfl),λIf=>(by kernel_rfl),λds=>(by kernel_rfl),λinner SZ bu=>rfl⟩) rI.b
theorem mB.len{P:Prop}(h:mB P f1):f1.lookup ("len":X)=bn:=h.casesOn (λa g=>g.symm▸rfl) λh=>h.casesOn λe b t r g f d=>by kernel_rfl
theorem aa9{A:p (p E)}{i:E}{q:p E}(nw:∀l∈Q,l.Good)(dP:Q.length≤40)(np:i<Q.length)(s3:∀ev∈q,ev<Q.length)(wT:q.length≤40)(eJ:he.length≤1000){P:Prop}(f8:mB P f1):∃b0,rI b0/\QS (du Q A (("i",.int (i:E))::f1)) (dv q he)=j (.next,du Q A (("i",.int (i:E))::b0),dv (i::q) (he++jQ (q.map (pr Q)) (Q[i]))):=by
 obtain⟨b0,rW,fR,ex,h3,dT⟩:=f8.b (Q:=Q) (A:=A) (i:=i) (l:=Q[i]);have aS:=f8.len;have Os:=nw _ (gJ np);have lh:=len_tab.1 _ Os.aA;have pO:=len_tab.2.1 _ Os.name;have QU:=len_tab.2.2 _ Os.words;generalize IA:Q[i]=l at*;have tl:=QQ nw s3;have tL:=Iy nw s3;have bU:ci .Lt (.int (i:E)) (.int (Q.length:E))=j V:=by show j (decide ((i:m0)<(Q.length:m0)))=_;rw[hV (by left)]
 refine⟨_,.mk (.str l.aA) (.str l.name) (hP l.value) (c_ l.words) (c_ l.quoted) (.ah ((q.reverse.map (pr Q)).map .str)) (.int ((hk (q.map (pr Q)) l:E):m0)),?_⟩;unfold QS du
 conv=>
  lhs
  arg 2
  whnf
 apply zn (bx:=du Q A (mA i (.str l.aA) (.str l.name) (hP l.value) (c_ l.words) (c_ l.quoted) (.ah ((q.reverse.map (pr Q)).map .str)) (.int ((hk (q.map (pr Q)) l:E):m0)))) (al:=dv (i::q) (he++jQ (q.map (pr Q)) l))
 ·apply kf;·kernel_rfl
  ·right;apply dq;·kernel_rfl
   ·right;exact aS
   ·kernel_rfl
   ·right
   ·exact mz (by kernel_rfl) (qa (k:=Q.length) (by rw[aK]) (by left))
   ·exact bU
  ·apply zn
   ·apply Qb;·kernel_rfl
    ·kernel_rfl
    ·kernel_rfl
    ·apply fo;·kernel_rfl
     ·right
     ·right
     ·exact row_item np (by left)
    ·rw[IA];exact fR
   apply zn
   ·apply vR;·kernel_rfl
    ·kernel_rfl
    ·kernel_rfl
    ·apply Ce (Q:=Q) (q:=q.reverse) (i:=1);·kernel_rfl
     ·kernel_rfl
     ·kernel_rfl
     ·kernel_rfl
     ·unfold du;right;exact dT _ (by decide+kernel) (by decide+kernel)
     ·kernel_rfl
     ·unfold du;right
     ·rfl
     ·left
     ·simp;left
     ·intro ev kE;exact s3 ev (sk.mp kE)
    ·unfold du;right;exact ex _
   apply zn
   ·apply y1;·kernel_rfl
    ·kernel_rfl
    ·kernel_rfl
    ·kernel_rfl
    ·right
    ·apply tz
     ·apply cC;·kernel_rfl
      ·apply nV;·right
       ·right
       ·rw[show("\n":X).length=1 by decide+kernel];left
      ·apply cC;·kernel_rfl
       ·apply Iq;·right;exact tl
        ·right
        ·right
       ·right
     ·right
     ·kernel_rfl
    ·exact⟨_,rfl⟩
    ·kernel_rfl
    ·rfl
    ·rw[aK];left
   rw[Cf];apply zn (bx:=("rows",.ah (Q.map dA))::("above",.ah (bB A))::("pieces",.am 0)::("pile",.am 1)::("i",.int (i:E))::("lead",.str l.aA)::("name",.str l.name)::("value",hP l.value)::("words",c_ l.words)::("quoted",c_ l.quoted)::("names",.ah ((q.reverse.map (pr Q)).map .str))::rW) (al:=dv q (he++(⟨("\n":X)++l.aA,if TD (q.map (pr Q))then 2 else 0,""⟩::(if l.name=="x"&&!TD (q.map (pr Q))then[mK]else[]))))
   ·apply p9 (t:=l.name=="x"&&!TD (q.map (pr Q)));·kernel_rfl
    ·apply my;apply Ir;·right;exact tK
     ·right;exact tL
    ·by_cases f0:(l.name=="x"&&!TD (q.map (pr Q)))=V
     ·rw[tt f0,tt f0];apply zn
      ·apply y1;·kernel_rfl
       ·kernel_rfl
       ·kernel_rfl
       ·kernel_rfl
       ·right
       ·right;kernel_rfl
       ·exact⟨_,rfl⟩
       ·kernel_rfl
       ·rfl
       ·simp;left
      ·rw[cM];simp[dv,eL,mK]
     ·rw[ss f0,ss f0,cM];simp[dv,eL]
   apply zn
   ·apply ja;·kernel_rfl
    ·kernel_rfl
    ·kernel_rfl
    ·apply Iq (t:=l.name=="x" ||TD (q.map (pr Q)))
     ·apply my;apply aa5;·right;exact tK
      ·right;exact tl
     ·right
     ·right
    ·right;exact h3 _
   rw[Cf];generalize QV:he++(⟨("\n":X)++l.aA,if TD (q.map (pr Q))then 2 else 0,""⟩::(if l.name=="x"&&!TD (q.map (pr Q))then[mK]else[]))=IB;have eA:IB.length≤1010:=by have:=QR (l.name=="x"&&!TD (q.map (pr Q)));rw[<- QV,ct,iW];left
   have SZ:("<":X).length=1:=by decide+kernel
   have bu:(" k=":X).length=3:=by decide+kernel
   have oT:(">":X).length=1:=by decide+kernel
   apply zn (al:=dv q (IB++[⟨y2 l,hk (q.map (pr Q)) l,""⟩])) (bx:=du Q A (mA i (.str l.aA) (.str l.name) (hP l.value) (c_ l.words) (c_ l.quoted) (.ah ((q.reverse.map (pr Q)).map .str)) (.int ((hk (q.map (pr Q)) l:E):m0))))
   ·apply rG;·kernel_rfl
    ·kernel_rfl
    ·kernel_rfl
    ·kernel_rfl
    ·right
    ·apply tz
     ·apply cC (r:=.str (y2 l));·kernel_rfl
      ·unfold y2;cases FB:l.value with
       |none=>
        apply yG;·right;kernel_rfl
        ·apply nV;·right
         ·right
         ·left
       |some v=>
        apply yH;·right;kernel_rfl
        ·apply nV
         ·apply nV;·right
          ·right
          ·left
         ·right
         ·rw[qn];left
      ·right
     ·right
     ·kernel_rfl
    ·exact⟨_,rfl⟩
    ·kernel_rfl
    ·rfl
    ·rw[aK];left
    ·rfl
    ·simp only[dv,jo];rfl
   generalize BE:IB++[⟨y2 l,hk (q.map (pr Q)) l,""⟩]=e3;have nU:e3.length≤1011:=by rw[<- BE,ct];simp;left
   unfold du mA;apply zn (al:=dv q (e3++qb (hk (q.map (pr Q)) l) l.value)) (bx:=du Q A (mA i (.str l.aA) (.str l.name) (hP l.value) (c_ l.words) (c_ l.quoted) (.ah ((q.reverse.map (pr Q)).map .str)) (.int ((hk (q.map (pr Q)) l:E):m0))))
   ·cases FB:l.value with
    |none=>
     rw[show e3++qb (hk (q.map (pr Q)) l) bn=e3 from c2 _];apply iJ;·kernel_rfl
     ·right;kernel_rfl
     ·rfl
    |some v=>
     apply kf;·kernel_rfl
     ·right;kernel_rfl
     ·apply zn (al:=dv q (e3++qb (hk (q.map (pr Q)) l) (j v))) (bx:=du Q A (mA i (.str l.aA) (.str l.name) (hP (j v)) (c_ l.words) (c_ l.quoted) (.ah ((q.reverse.map (pr Q)).map .str)) (.int ((hk (q.map (pr Q)) l:E):m0))))
      ·apply rG;·kernel_rfl
       ·kernel_rfl
       ·kernel_rfl
       ·kernel_rfl
       ·right
       ·apply tz
        ·apply cC;·kernel_rfl
         ·right;rfl
         ·apply cC;·kernel_rfl
          ·apply hQ;·right
           ·right
           ·rfl
           ·rfl
          ·apply cC;·kernel_rfl
           ·right;rfl
           ·exact fz
        ·right
        ·kernel_rfl
       ·exact⟨_,rfl⟩
       ·kernel_rfl
       ·rfl
       ·rw[aK];left
       ·rfl
       ·simp only[dv,jo];rfl
      ·exact cM
   generalize QW:e3++qb (hk (q.map (pr Q)) l) l.value=No;have aif:No.length≤1012:=by rw[<- QW,ct];cases l.value<;>simp[qb]<;>left
   unfold du mA;apply zn (al:=dv q (No++[⟨(">":X)++l.words.2.1,hk (q.map (pr Q)) l,l.words.2.2⟩]))
   ·apply rG;·kernel_rfl
    ·kernel_rfl
    ·kernel_rfl
    ·kernel_rfl
    ·right
    ·apply tz
     ·apply cC;·kernel_rfl
      ·apply nV;·right
       ·right;rfl
       ·left
      ·apply cC;·kernel_rfl
       ·right
       ·apply cC;·kernel_rfl
        ·right;rfl
        ·exact fz
     ·right
     ·kernel_rfl
    ·exact⟨_,rfl⟩
    ·kernel_rfl
    ·rfl
    ·rw[aK];left
    ·rfl
    ·simp only[dv,jo];rfl
   apply zn (al:=dv q (No++[⟨(">":X)++l.words.2.1,hk (q.map (pr Q)) l,l.words.2.2⟩]++[⟨l.quoted.2.1,hk (q.map (pr Q)) l+1,l.quoted.2.2⟩]))
   ·apply rG;·kernel_rfl
    ·kernel_rfl
    ·kernel_rfl
    ·kernel_rfl
    ·right
    ·apply tz
     ·apply cC;·kernel_rfl
      ·right;rfl
      ·apply cC;·kernel_rfl
       ·apply hQ;·right
        ·right
        ·rfl
        ·rfl
       ·apply cC;·kernel_rfl
        ·right;rfl
        ·exact fz
     ·right
     ·kernel_rfl
    ·exact⟨_,rfl⟩
    ·kernel_rfl
    ·rfl
    ·simp;left
    ·rfl
    ·simp only[dv,jo];rfl
   apply zn
   ·apply rG;·kernel_rfl
    ·kernel_rfl
    ·kernel_rfl
    ·kernel_rfl
    ·right
    ·right
    ·exact⟨_,rfl⟩
    ·kernel_rfl
    ·rfl
    ·unfold On;simp;left
    ·rfl
    ·rfl
   have pS:he++jQ (q.map (pr Q)) l=No++[⟨(">":X)++l.words.2.1,hk (q.map (pr Q)) l,l.words.2.2⟩]++[⟨l.quoted.2.1,hk (q.map (pr Q)) l+1,l.quoted.2.2⟩]:=by rw[<- QW,<- BE,<- QV];simp[jQ]
   rw[cM,pS];unfold dv;rw[yY];rfl
 ·exact cM
inductive gY where
 |close (x:p E)
 |gZ (x:p E) (i:E)
noncomputable def eD:E->p E->p (p E)->p gY|_,_,[]=>[]|i,x,[e]=>(ki e.reverse x).map .close|i,x,e::s5=>(ki e.reverse x).map .close++.gZ e.reverse i::eD (i+1) (i::e.reverse) s5
theorem IC{i:E}{x e:p E}:eD i x [e]=(ki e.reverse x).map .close:=rfl
theorem y4{i:E}{x e b:p E}{s5:p (p E)}:eD i x (e::b::s5)=(ki e.reverse x).map .close++.gZ e.reverse i::eD (i+1) (i::e.reverse) (b::s5):=rfl
noncomputable def g0(Q:p aZ):gY->p dI|.close x=>lz (x.map (pr Q))|.gZ x i=>match Q[i]? with|some l=>jQ (x.map (pr Q)) l|none=>[]
def pe(z:E):E->p E->p (p E)->Prop|_,_,[]=>gG|i,x,[e]=>e=[]/\i=z|i,x,e::s5=>e.reverse<:+x/\i<z/\pe z (i+1) (i::e.reverse) s5
theorem ID{Q:p aZ}{q:p E}:∀{x:p E},(iK Q q x).length≤2*x.length
 |[]=>e6 _
 |k::x=>by
  unfold iK;rw[tM];split;·simp
  ·rw[g9,ct];have:=ID (Q:=Q) (q:=q) (x:=x);unfold iK at this;have ex:(lz ((k::x).map (pr Q))).length≤2:=by
    rw[cs,lz,iW];have:∀t:ga,(if t=V then[mK]else[]).length≤1:=λt=>by cases t<;>decide
    exact r5 (this _)
   simp only[iW];left
theorem aba{ns:p X}{l:aZ}:(jQ ns l).length≤6:=by
 unfold jQ;have:∀t:ga,(if t=V then[mK]else[]).length≤1:=λt=>by cases t<;>decide
 have h1:=this (l.name=="x"&&!TD ns);have ex:(qb (hk ns l) l.value).length≤1:=by cases l.value<;>simp[qb]
 simp only[iW,ct,Kw];left
inductive v7(P:Prop)(f1:hf):Prop|nil:P->f1=[]->v7 P f1|mk (k:R) {b0:hf}:rI b0->f1=(("i":X),k)::b0->v7 P f1
theorem v7.tail{P C:Prop}(h:v7 P f1)(f:P->C):mB C f1.tail:=h.casesOn (λx g=>.nil (f x) (GT zI g)) λk a q g=>.mk ((GT zI g).symm▸q)
theorem abb{A:p (p E)}{i:E}{x q:p E}(nw:∀l∈Q,l.Good)(dP:Q.length≤8)(bT:(A++[[]])[i]?=j q.reverse)(fW:A.length≤50)(fd:q<:+x)(s3:∀ev∈x,ev<Q.length)(ln:x.length≤8)(eJ:he.length≤200)(np:i<Q.length)(f8:mB (x=q) f1):∃b0,rI b0/\v6 (du Q A (("i",.int (i:E))::f1)) (dv x he)=j (.next,du Q A (("i",.int (i:E))::b0),dv (i::q) (he++(iK Q q x++jQ (q.map (pr Q)) (Q[i])))):=by
 obtain⟨aF,h1,ex⟩:=Iz nw (by left) bT fW x 64 he f1 fd s3 (by left) (by left) (by left) f8;have f0:=ID (Q:=Q) (q:=q) (x:=x);have nU:=Cg fd;obtain⟨b0,KM,h3⟩:=aa9 (A:=A) (he:=he++iK Q q x) (f1:=aF) (q:=q) nw (aJ dP (by decide)) np (λev h=>s3 ev (fd.subset h)) (by left) (by rw[ct];left) h1;refine⟨b0,KM,?_⟩;rw[e8]at h3;unfold v6;have cr:dC (Do 282 2)=kR (dC (Do 282 2))::(dC (Do 282 2)).drop 1:=by kernel_rfl
 refine(GT (λb=>TT _ b _ _) cr).trans ?_;refine zn ?_ h3
 conv=>
  lhs
  arg 4
  whnf
 apply tA;·kernel_rfl
 ·refine iz ?_ ex;kernel_rfl
theorem abc{A:p (p E)}{x:p E}(nw:∀l∈Q,l.Good)(dP:Q.length≤8)(bT:(A++[[]])[Q.length]?=j [])(fW:A.length≤50)(s3:∀ev∈x,ev<Q.length)(ln:x.length≤8)(eJ:he.length≤200)(f8:mB (x=[]) f1):∃aF,v6 (du Q A (("i",.int (Q.length:E))::f1)) (dv x he)=j (.next,du Q A aF,dv [] (he++iK Q [] x)):=by
 obtain⟨aF,h1,ex⟩:=Iz (q:=[]) nw (by left) bT fW x 64 he f1 (Ui) s3 (by left) (by left) (by left) f8;have aS:=h1.len;refine⟨("i",.int (Q.length:E))::aF,?_⟩;unfold v6;have cr:dC (Do 282 2)=kR (dC (Do 282 2))::(dC (Do 282 2)).drop 1:=by kernel_rfl
 refine(GT (λb=>TT _ b _ _) cr).trans ?_;have bU:ci .Lt (.int (Q.length:E)) (.int (Q.length:E))=j G:=by show j (decide ((Q.length:m0)<(Q.length:m0)))=_;rw[lL (by left)]
 refine zn (bx:=du Q A (("i",.int (Q.length:E))::aF)) (al:=dv [] (he++iK Q [] x)) ?_ ?_
 ·conv=>
   lhs
   arg 4
   whnf
  apply tA;·kernel_rfl
  ·refine iz ?_ ex;kernel_rfl
 ·unfold du
  conv=>
   lhs
   arg 2
   whnf
  apply zn
  ·apply iJ;·kernel_rfl
   ·right;apply dq;·kernel_rfl
    ·right;exact aS
    ·kernel_rfl
    ·right
    ·exact mz (by kernel_rfl) (qa (k:=Q.length) (by rw[aK]) (by left))
    ·exact bU
   ·exact cM
  ·exact cM
theorem QX{A:p (p E)}{i:E}{P:Prop}(f8:v7 P f1):d5 rH (jN (Do 282 2)) (.int (i:E)) (du Q A f1)=j (du Q A (("i",.int (i:E))::f1.tail)):=by cases f8 with|nil _ g=>subst g;kernel_rfl|mk k q g=>subst g;kernel_rfl
theorem QY{A:p (p E)}(nw:∀l∈Q,l.Good)(dP:Q.length≤8)(fW:A.length≤50):∀(s5:p (p E)) (i:E) (x:p E) (he:p dI) (f1:hf),pe Q.length i x s5->(∀k,k<s5.length->(A++[[]])[i+k]?=s5[k]?)->v7 (x=[]) f1->x.length≤i->(∀ev∈x,ev<Q.length)->he.length≤22*i+1->∃aF,fQ rH (jN (Do 282 2)) v6 (((bE s5.length).map (·+i)).map λk=>.int (k:E)) (du Q A f1) (dv x he)=j (.next,du Q A aF,dv [] (he++(eD i x s5).flatMap (g0 Q)))
 |[],_,_,_,_,f0,_,_,_,_,_=>by cases f0
 |[e],i,x,he,f1,f0,bT,f8,ln,s3,eJ=>by
  obtain⟨rfl,rfl⟩:=f0;have tN:=bT 0 (by decide);obtain⟨aF,h⟩:=abc (he:=he) (x:=x) (f1:=f1.tail) nw dP tN fW s3 (aJ ln dP) (by left) (f8.tail id);refine⟨aF,?_⟩;have g:(eD Q.length x [[]]).flatMap (g0 Q)=iK Q [] x:=by rw[IC];unfold iK;rw[agP];rfl
  rw[g];show fQ rH (jN (Do 282 2)) v6 [.int ((0+Q.length:E):m0)] (du Q A f1) (dv x he)=_;rw[jZ];exact jc (QX f8) h rfl
 |e::b::s5,i,x,he,f1,f0,bT,f8,ln,s3,eJ=>by
  obtain⟨fd,np,f_⟩:=f0;have tN:(A++[[]])[i]?=j e.reverse.reverse:=by have:=bT 0 (by simp);rw[DR];exact this
  have fi:=ID (Q:=Q) (q:=e.reverse) (x:=x);have nU:=Cg fd;obtain⟨b0,KM,h⟩:=abb (he:=he) (f1:=f1.tail) nw dP tN fW fd s3 (by left) (by left) np (f8.tail λh=>by subst h;exact(DQ.mp fd).symm);have aih:=aba (ns:=e.reverse.map (pr Q)) (l:=Q[i]);obtain⟨aF,eg⟩:=QY nw dP fW (b::s5) (i+1) (i::e.reverse) (he++(iK Q e.reverse x++jQ (e.reverse.map (pr Q)) (Q[i]))) _ f_ (λk gl=>by have:=bT (k+1) (by simp at gl⊢;left);rw[show i+(k+1)=i+1+k by left]at this;exact this) (.mk _ KM rfl) (by simp at nU⊢;left) (λev h=>by cases h with|head=>exact np|tail _ h=>exact s3 ev (fd.subset h)) (by simp only[ct];left);refine⟨aF,?_⟩;have g:(eD i x (e::b::s5)).flatMap (g0 Q)=(iK Q e.reverse x++jQ (e.reverse.map (pr Q)) (Q[i]))++(eD (i+1) (i::e.reverse) (b::s5)).flatMap (g0 Q):=by rw[y4,KN,g9,agP,<- e8];·congr 2;show(match Q[i]? with|some l=>jQ (e.reverse.map (pr Q)) l|none=>[])=_;rw[row_get np]
  rw[g,<- e8];have bu:(((bE (e::b::s5).length).map (·+i)).map λk=>R.int (k:E))=.int (i:E)::((bE (b::s5).length).map (·+(i+1))).map λk=>.int (k:E):=by rw[iW,pm];simp[dG,KR];intro e db;left
  rw[bu];exact jc (QX f8) h eg
noncomputable def tO(Q:p aZ)(A:p (p E)):p dI:=⟨"<r>",0,""⟩::((eD 0 [] (A++[[]])).flatMap (g0 Q)++[⟨"</r>",0,""⟩])
theorem abd{A:p (p E)}(nw:∀l∈Q,l.Good)(dP:Q.length≤8)(bT:A.length=Q.length)(f0:pe Q.length 0 [] (A++[[]]))(aV:(tO Q A).length≤1000):a8 a5 hw 282 [] [.ah (Q.map dA),.ah (bB A)]=j (.ah ((tO Q A).map eL)):=by
 obtain⟨aF,h⟩:=QY (A:=A) nw dP (by left) (A++[[]]) 0 [] [⟨"<r>",0,""⟩] [] f0 (λk gl=>by rw[jZ]) (.nil rfl rfl) (Da _) (λev h=>by cases h) (by decide);have pS:[⟨"<r>",0,""⟩]++(eD 0 [] (A++[[]])).flatMap (g0 Q)++[⟨"</r>",0,""⟩]=tO Q A:=by unfold tO;simp
 generalize wT:[⟨"<r>",0,""⟩]++(eD 0 [] (A++[[]])).flatMap (g0 Q)=e3 at h pS;have nU:e3.length≤1000:=by rw[<- pS,ct]at aV;left
 apply kK (hi:=.am 0) (o0:=du Q A aF) (wE:=dv [] (tO Q A));·kernel_rfl
 ·conv=>
   lhs
   arg 2
   whnf
  rw[show b2 (fdOf hw 282)=([("rows":X),"above"]:p X) by kernel_rfl];simp only[c2,hY,lS];apply zn;·right;kernel_rfl
  apply zn;·right
  apply zn
  ·apply vQ;·kernel_rfl
   ·kernel_rfl
   ·apply src_range (m:=Q.length+1);·kernel_rfl
    ·kernel_rfl
    ·right
    ·apply cC;·kernel_rfl
     ·apply hQ
      ·apply dq;·kernel_rfl
       ·right
       ·kernel_rfl
       ·right
       ·exact mz (by kernel_rfl) (qa (k:=Q.length) (by rw[aK]) (by left))
      ·right
      ·rfl
      ·rfl
     ·exact fz
    ·left
   ·rw[show(bE (Q.length+1)).map (λi=>R.int (i:E))=((bE (A++[[]]).length).map (·+0)).map λk=>.int (k:E) by simp[bT]];refine iz ?_ h;kernel_rfl
  unfold du;apply zn (al:=dv [] (tO Q A))
  ·apply rG;·kernel_rfl
   ·kernel_rfl
   ·kernel_rfl
   ·kernel_rfl
   ·right
   ·right;kernel_rfl
   ·exact⟨_,rfl⟩
   ·kernel_rfl
   ·rfl
   ·rw[aK];left
   ·rfl
   ·rw[<- pS];simp only[dv,jo];rfl
  apply jM;·right
  ·intro h;cases h
 ·rfl
theorem QZ:∀{x:p E},ek jg x<:+x
 |[]=>Uj _
 |k::x=>by
  rw[v3];split;·exact QZ.trans (agQ _ _)
  ·exact Uj _
theorem Q0{lt:E->E->ga}:∀(z i:E) (x:p E),(jP lt z i x).length=z|0,_,_=>rfl|z+1,i,x=>by rw[tJ,iW,Q0]
theorem abe{lt:E->E->ga}{If:E}:∀(z i:E) (x:p E),i+z=If->pe If i x (jP lt z i x++[[]]):=λcc=>cc.recAux (λi x h=>⟨rfl,by left⟩) λz tP i x h=>by
  have ih:=tP (i+1) (i::ek (λk=>!lt k i) x) (by left);rw[tJ,jW];have aC:jP lt z (i+1) (i::ek (λk=>!lt k i) x)++[[]]≠[]:=by simp
  generalize jP lt z (i+1) (i::ek (λk=>!lt k i) x)++[[]]=s5 at ih aC;cases s5 with
  |nil=>exact aB rfl aC
  |cons b s5=>
   refine⟨?_,by left,?_⟩;·rw[DR];exact QZ
   ·rw[DR];exact ih
noncomputable def abf:ga->R|true=>.set ["x"]|false=>.none
noncomputable def SB(FM:ga)(seen done:ga)(cv:E):p (X×R):=[("_write",.app 0),("_data",.am 2),("_with_comments",.bool G),("_strip_text",.bool G),("_exclude_attrs",.none),("_exclude_tags",abf FM),("_rewrite_prefixes",.bool G),("_qname_aware_tags",.none),("_find_qname_aware_attrs",.none),("_declared_ns_stack",.am 3),("_ns_stack",.am 4),("_prefix_map",.cF []),("_preserve_space",.am 5),("_pending_start",.none),("_root_seen",.bool seen),("_root_done",.bool done),("_ignored_depth",.int (cv:E))]
noncomputable def Q1:R:=.ah [.tup [.str "http://www.w3.org/XML/1998/namespace",.str "xml"]]
noncomputable def a6(out:p X)(s1:p (X×R))(data:p X)(r:E)(P:p R):p ca:=.list (out.map .str)::.inst 237 s1::.list (data.map .str)::.list (Q1::n8 r (.ah []))::.list (HD::.ah []::n8 r (.ah []))::.list (n8 (r+1) (.bool G))::[.list P]
noncomputable def TW(f1:p X):p E:=f1.flatMap na
theorem v8{J:Sc}(ae:(g3.length+cK.length==(b2 (fdOf hw e)).length)=V)(h:TT (bq J fZ (fdOf hw e).scope) (c0 (fdOf hw e)) ((b2 (fdOf hw e)).zip (g3++cK)) o=j (.next,o0,wE))(f0:(wE.take o.length).all (pW o.length)=V):cU J hw e cK g3 o=j (.none,wE.take o.length):=by unfold cU s_ pV;rw[Re ae,h];exact Re f0
theorem Q2{J:Sc}(ae:(g3.length+cK.length==(b2 (fdOf hw e)).length)=V)(h:TT (bq J fZ (fdOf hw e).scope) (c0 (fdOf hw e)) ((b2 (fdOf hw e)).zip (g3++cK)) o=j (.ret .none,o0,wE))(f0:(wE.take o.length).all (pW o.length)=V):cU J hw e cK g3 o=j (.none,wE.take o.length):=by unfold cU s_ pV;rw[Re ae,h];exact Re f0
theorem abg{seen done:ga}{r:E}{P:p R}{s:X}(hd:data.length≤1000):cU a5 hw 184 [] [.am 1,.str s] (a6 out (SB FM seen done cv) data r P)=j (.none,a6 out (SB FM seen done cv) (if cv=0 then data++[s]else data) r P):=by
 have fi:∀Q3,((a6 out (SB FM seen done cv) Q3 r P).take 7).all (pW 7)=V:=λQ3=>by cases FM<;>kernel_rfl
 have ln:b2 (fdOf hw 184)=([("self":X),"data"]:p X):=by kernel_rfl
 refine v8 (wE:=a6 out (SB FM seen done cv) (if cv=0 then data++[s]else data) r P) (o0:=[("self",.am 1),("data",.str s)]) (by kernel_rfl) ?_ (fi _);rw[ln]
 conv=>
  lhs
  arg 2
  whnf
 cases cv with
 |zero=>
  apply zn
  ·apply kf (al:=a6 out (SB FM seen done 0) data r P);·kernel_rfl
   ·kernel_rfl
   ·apply zn
    ·apply fU;·kernel_rfl
     ·kernel_rfl
     ·apply ej (r:=.am 2) (al:=a6 out (SB FM seen done 0) data r P) (k:=.app) (g3:=[.str s]) (f2:=a6 out (SB FM seen done 0) data r P);·kernel_rfl
      ·kernel_rfl
      ·kernel_rfl
      ·kernel_rfl
      ·kernel_rfl
      ·apply rv;·rfl
       ·rfl
       ·exact b6 (by simp;left)
    ·exact cM
  ·rw[cM];simp[a6]
 |succ z=>kernel_rfl
section
variable{J:Sc}{z:E}{bs:KT}{H:hf}{e b T:R}{U:X}
theorem abh{i:E}(rs:J.ext bs (.Delete [.Subscript g (.Slice bn bn bn a_) bF] x)=bn)(h:sB J z bs g H o=j (.am i,al))(ae:al[i]?=j (.list n))(sc:H1 n.length=V)(wT:al.set i (.list [])=f2):bq J (z+1) bs (.Delete [.Subscript g (.Slice bn bn bn a_) bF] x) H o=j (.next,H,f2):=by exact wT▸(i8.trans<|(fH rs).trans<|show s4 (sB J z bs g H o) (λr al=>uK r λi=>k_ al[i]? λn=>pp (H1 n.length)<|j (bz.next,H,al.set i (.list [])))=_ from(Op h).trans<|(w' ae).trans (Re sc))
theorem Ci{i:E}(wn:d_ r=V)(ae:o[i]?=j (.list n))(sc:n.length≤100000)(wT:o.set i (.list (n++[r]))=al):rT i r o=j (.none,al):=by
 have g:d4 r o=j (r,o):=by cases r<;>first|rfl|cases wn
 have U:H1 n.length=V:=b6 (by left);subst wT;exact(Op (k:=λaR wE=>k_ wE[i]? λn=>pp (H1 n.length)<|j (R.none,wE.set i (ca.list (n++[aR])))) g).trans<|(w' ae).trans (Re U)
theorem Q4{i:E}{m:X}{T:R}{l:R×p ca}(h:qS J (.app i) g3 o=j l):fb J (.fld (.app i)) T m g3 o=j l:=h
theorem Cj{i:E}{l:R×p ca}(h:rT i r o=j l):qS J (.app i) [r] o=j l:=h
theorem abi(sc:c.length≤100000)(aC:na c≠[]):gu (.str c)=j V:=by refine(Re (b6 (by left))).trans ?_;have:c.length≠0:=λh=>aC (by rw[<- ik]at h;exact zW h);congr 1;rw[Ua];left
end
theorem y5(f1:p X):jk "" f1=Lt (TW f1):=tC (by rw[HZ,dB];rfl)
theorem Q5{done:ga}{r:E}{P:p R}(hd:data.length≤1000)(gt:out.length≤1000)(aC:TW data≠[])(ae:(TW data).length≤4000):cU (c4 hw) hw 193 [.cg (.ref 185)] [.am 1] (a6 out (SB FM V done cv) data r P)=j (.none,a6 (out++[Lt (jb (TW data))]) (SB FM V done cv) [] r P):=by
 have fi:∀rz,((a6 rz (SB FM V done cv) [] r P).take 7).all (pW 7)=V:=λrz=>by cases FM<;>kernel_rfl
 have ln:b2 (fdOf hw 193)=([("self":X),"_join_text"]:p X):=by kernel_rfl
 have s3:xn (.str ⟨#[]⟩) "join" [.ah (data.map .str)]=j (.str (Lt (TW data))):=by have xA:mR "" data=V:=vV (by show(TW data).length≤_;left);exact(eS (strs_map data)).trans<|(Re xA).trans (GT (λc=>j (R.str c)) (y5 data))
 have dt:(c4 hw).fn "_escape_cdata_c14n"=j (a8 a5 hw 248 []):=by kernel_rfl
 refine v8 (wE:=a6 (out++[Lt (jb (TW data))]) (SB FM V done cv) [] r P) (o0:=[("self",.am 1),("_join_text",.cg (.ref 185)),("data",.str (Lt (TW data)))]) (by kernel_rfl) ?_ (fi _);rw[ln]
 conv=>
  lhs
  arg 2
  whnf
 apply zn (bx:=[("self",.am 1),("_join_text",.cg (.ref 185)),("data",.str (Lt (TW data)))]) (al:=a6 out (SB FM V done cv) data r P)
 ·apply ja (r:=.str (Lt (TW data)));·kernel_rfl
  ·kernel_rfl
  ·kernel_rfl
  ·apply HQ (T:=.cg (.ref 185)) (g3:=[.am 2]) (al:=a6 out (SB FM V done cv) data r P);·kernel_rfl
   ·kernel_rfl
   ·kernel_rfl
   ·exact(show _=pp ((c4 hw).hH 185) ((xm ⟨#[]⟩ (.ah (data.map .str))).map λl=>(l,a6 out (SB FM V done cv) data r P)) by kernel_rfl).trans<|(Re (by kernel_rfl)).trans (gh s3)
  ·kernel_rfl
 apply zn (bx:=[("self",.am 1),("_join_text",.cg (.ref 185)),("data",.str (Lt (TW data)))]) (al:=a6 out (SB FM V done cv) [] r P)
 ·apply abh (i:=2) (n:=data.map .str) (al:=a6 out (SB FM V done cv) data r P);·kernel_rfl
  ·kernel_rfl
  ·rfl
  ·exact b6 (by simp;left)
  ·rfl
 apply zn (bx:=[("self",.am 1),("_join_text",.cg (.ref 185)),("data",.str (Lt (TW data)))]) (al:=a6 out (SB FM V done cv) [] r P);·kernel_rfl
 apply zn (bx:=[("self",.am 1),("_join_text",.cg (.ref 185)),("data",.str (Lt (TW data)))]) (al:=a6 out (SB FM V done cv) [] r P);·kernel_rfl
 apply zn
 ·apply kf (al:=a6 out (SB FM V done cv) [] r P);·kernel_rfl
  ·apply my;apply HR (al:=a6 out (SB FM V done cv) [] r P)
   ·apply Rel (r:=.str (Lt (TW data))) (al:=a6 out (SB FM V done cv) [] r P);·kernel_rfl
    ·exact abi (by rw[<- ik,dB];left) (by rw[dB];exact aC)
   ·kernel_rfl
  ·apply zn
   ·apply fU;·kernel_rfl
    ·kernel_rfl
    ·apply ej (r:=.am 1) (al:=a6 out (SB FM V done cv) [] r P) (k:=.fld (.app 0)) (g3:=[.str (Lt (jb (TW data)))]) (f2:=a6 out (SB FM V done cv) [] r P);·kernel_rfl
     ·kernel_rfl
     ·kernel_rfl
     ·kernel_rfl
     ·apply cC;·kernel_rfl
      ·apply dq (g3:=[.str (Lt (TW data))]) (al:=a6 out (SB FM V done cv) [] r P);·kernel_rfl
       ·kernel_rfl
       ·kernel_rfl
       ·kernel_rfl
       ·exact fV dt rfl (Sys ae)
      ·exact fz
     ·apply Q4;apply Cj;apply Ci;·rfl
      ·rfl
      ·simp;left
      ·rfl
   ·exact cM
 ·rw[cM];simp[a6]
noncomputable def e4(T:p R)(s1:p (X×R))(data:p R)(e b t:E)(P:p R):p ca:=.list T::.inst 237 s1::.list data::.list (Q1::n8 e (.ah []))::.list (HD::.ah []::n8 b (.ah []))::.list (n8 t (.bool G))::[.list P]
noncomputable def jR:Y X->R|none=>.cF []|some s=>.cF [("k",.str s)]
noncomputable abbrev qc:oH:=bq (c4 hw) fZ (fdOf hw 213).scope
noncomputable def abj(tag:X)(v:Y X):hf:=[("self",.am 1),("tag",.str tag),("attrs",jR v),("new_namespaces",.ah []),("qname_text",.none)]
noncomputable def Q6(T:p R)(FM seen:ga)(r:E)(P:p R)(tag:X)(v:Y X):St:=TT qc ((c0 (fdOf hw 213)).take 12) (abj tag v) (e4 T (SB FM seen G 0) [] (r+1) r (r+1) P++[.aq (.ah [])])
noncomputable def nW:Y gA->p X|none=>[]|some v=>[(" k=\"":X)++v.2.1++"\""]
noncomputable def Q7(s:wP):bv:=wExpr s (λg a=>m1 g (λa s5 a a=>s5.head?.getD nP) nP) nP
noncomputable def tQ(s:wP):bv:=sr s (λa b a a=>Q7 (kR b)) (Q7 s)
noncomputable def abk(s:wP):bv:=sr s (λu a a a=>u) nP
noncomputable def y6(u:X):R:=.tup [.str u,.str u,.str ""]
noncomputable def kS(tag:X)(v:Y X):p (X×R):=match v with|none=>[(tag,y6 tag)]|some _=>if tag=="a" ||tag=="b" then[(tag,y6 tag),("k",y6 "k")]else[("k",y6 "k"),(tag,y6 tag)]
noncomputable def abl:Y X->hf|none=>[]|some s=>[("k",.str "k"),("v",.str s),("attr_qname",.str "k"),("attr_name",.str "k"),("uri",.str "")]
noncomputable def abm:hf:=[("space_behaviour",.none),("write",.app 0)]
noncomputable def kj(tag:X)(v:Y X)(q:p X)(ke:p (X×R)):hf:=("self",.am 1)::("tag",.str tag)::("attrs",jR v)::("new_namespaces",.ah [])::("qname_text",.none)::("qnames",.iA q)::("resolved_names",.cF [])::("qattrs",.none)::("parse_qname",.fI 1 177)::("parsed_qnames",.cF ke)::("attr_list",.am 8)::(abl v++abm)
noncomputable def kT(tag:X)(v:Y X):p X:=match v with|none=>[tag]|some _=>[tag,"k"]
noncomputable def Ck(v:Y X):p R:=match v with|none=>[]|some s=>[.tup [.str "k",.str s]]
noncomputable def rJ(FM seen:ga)(r:E)(P:p R)(v:Y X):p ca:=(e4 [] (SB FM seen G 0) [] (r+1) r (r+2) P).tail++[.aq (.ah []),.list (Ck v)]
theorem Q8(T:p R)(seen:ga)(P:p R)(s:X):([V,G].map λFM=>[1,2,3,4,5].map λr=>fm.map λtag=>[bn,j s].map λv=>Q6 T FM seen r P tag v)=[V,G].map λFM=>[1,2,3,4,5].map λr=>fm.map λtag=>[bn,j s].map λv=>j (.next,kj tag v (kT tag v) (kS tag v),.list T::rJ FM seen r P v):=by kernel_rfl
theorem Q9{J:Sc}{z:E}{bs:KT}{H:hf}{s:X}{T:p R}(rs:J.ext bs (.Expr (.Call (.Name c a_) [g] [] bF) x)=bn)(gt:bb c=V)(Uf:H.lookup c=j (.app 0))(fd:jU g=V)(h:sB J (z+1) bs g H (.list T::eu)=j (.str s,.list T::eu))(sc:T.length≤1000):bq J (z+3) bs (.Expr (.Call (.Name c a_) [g] [] bF) x) H (.list T::eu)=j (.next,H,.list (T++[.str s])::eu):=fU rs rfl (HQ gt Uf (cC fd h fz) (Cj (Ci rfl rfl (by left) rfl)))
noncomputable def Cm(FM seen:ga)(r:E)(P:p R)(v:Y X):p ca:=(e4 [] (SB FM seen G 0) [] (r+1) r (r+2) P).tail++[.aq (.ah []),.aq (.ah (Ck v))]
noncomputable abbrev y7:KT:=(fdOf hw 213).scope
theorem Q'(o:p ca)(s:X):(fm.map λtag=>[bn,j s].map λv=>sB (c4 hw) 38 y7 (tQ (Do 213 12)) (kj tag v (kT tag v) (kS tag v)) o)=fm.map λtag=>[bn,j s].map λv=>j (.str (("<":X)++tag),o):=by kernel_rfl
theorem abn(T:p R)(FM seen:ga)(r:E)(P:p R)(tag:X)(q:p X)(ke:p (X×R)):((mx.drop 1).map λv=>sB (c4 hw) 37 y7 (tQ (Do 213 13)) (kj tag (v.map (·.1)) q ke) (.list T::rJ FM seen r P (v.map (·.1))))=(mx.drop 1).map λv=>j (.str (jk "" (nW v)),.list T::Cm FM seen r P (v.map (·.1))):=by kernel_rfl
theorem Q_(T:p R)(FM seen:ga)(r:E)(P:p R)(tag:X)(q:p X)(ke:p (X×R))(s:X):([bn,j s].map λv=>cx (c4 hw) 39 y7 (abk (Do 213 13)) (kj tag v q ke) (.list T::rJ FM seen r P v))=[bn,j s].map λv=>j (v.isSome,.list T::rJ FM seen r P v):=by kernel_rfl
noncomputable def nX(tag:X)(v:Y gA):p X:=(("<":X)++tag)::(nW v++[(">":X)])
theorem Ra(T:p R)(FM seen:ga)(P:p R)(tag s:X)(q:p X)(ke:p (X×R)):([1,2,3,4,5].map λr=>(TT qc ((c0 (fdOf hw 213)).drop 15) (kj tag bn q ke) (.list T::rJ FM seen r P bn),TT qc ((c0 (fdOf hw 213)).drop 15) (kj tag (j s) q ke) (.list T::Cm FM seen r P (j s))))=[1,2,3,4,5].map λr=>(j (.next,kj tag bn q ke,e4 T (SB FM V G 0) [] (r+1) (r+1) (r+2) P++[.aq (.ah []),.list []]),j (.next,kj tag (j s) q ke,e4 T (SB FM V G 0) [] (r+1) (r+1) (r+2) P++[.aq (.ah []),.aq (.ah (Ck (j s)))])):=by kernel_rfl
theorem abo{T:p R}{seen:ga}{r:E}{P:p R}{v:Y gA}(hd:r∈[1,2,3,4,5])(ty:tag∈fm)(FB:v∈mx)(gt:T.length≤900):cU (c4 hw) hw 213 [.none] [.am 1,.str tag,jR (v.map (·.1)),.ah []] (e4 T (SB FM seen G 0) [] (r+1) r (r+1) P++[.aq (.ah [])])=j (.none,e4 (T++(nX tag v).map .str) (SB FM V G 0) [] (r+1) (r+1) (r+2) P++[.aq (.ah [])]):=by
 have bT:Q6 T FM seen r P tag (v.map (·.1))=j (.next,kj tag (v.map (·.1)) (kT tag (v.map (·.1))) (kS tag (v.map (·.1))),.list T::rJ FM seen r P (v.map (·.1))):=by cases v with|none=>exact cV (cV (cV (cV (Q8 T seen P "") FM (by cases FM<;>simp)) r hd) tag ty) bn (by simp)|some v=>exact cV (cV (cV (cV (Q8 T seen P v.1) FM (by cases FM<;>simp)) r hd) tag ty) (j v.1) (by simp)
 have AT:∀eu,sB (c4 hw) 38 y7 (tQ (Do 213 12)) (kj tag (v.map (·.1)) (kT tag (v.map (·.1))) (kS tag (v.map (·.1)))) (.list T::eu)=j (.str (("<":X)++tag),.list T::eu):=λeu=>by cases v with|none=>exact cV (cV (Q' (.list T::eu) "") tag ty) bn (by simp)|some v=>exact cV (cV (Q' (.list T::eu) v.1) tag ty) (j v.1) (by simp)
 have ln:b2 (fdOf hw 213)=([("self":X),"tag","attrs","new_namespaces","qname_text"]:p X):=by kernel_rfl
 have cr:c0 (fdOf hw 213)=(c0 (fdOf hw 213)).take 12++(Do 213 12::Do 213 13::Do 213 14::(c0 (fdOf hw 213)).drop 15):=by kernel_rfl
 have d8:(kj tag (v.map (·.1)) (kT tag (v.map (·.1))) (kS tag (v.map (·.1)))).lookup ("write":X)=j (.app 0):=by cases v<;>kernel_rfl
 have fi:∀ey c,(List.take 8 (e4 ey (SB FM V G 0) [] (r+1) (r+1) (r+2) P++[.aq (.ah []),c])).all (pW 8)=V:=λey c=>by cases FM<;>kernel_rfl
 generalize Uf:kj tag (v.map (·.1)) (kT tag (v.map (·.1))) (kS tag (v.map (·.1)))=H at*;have BS:∀eu,qc (Do 213 12) H (.list T::eu)=j (.next,H,.list (T++[.str (("<":X)++tag)])::eu):=λeu=>by
  unfold qc;have cr:=AT eu
  conv at cr=>
   lhs
   arg 4
   whnf
  conv=>
   lhs
   arg 4
   whnf
  exact Q9 (by kernel_rfl) (by kernel_rfl) d8 (by kernel_rfl) cr (by left)
 have Rb:∀ey eu,ey.length≤1000->qc (Do 213 14) H (.list ey::eu)=j (.next,H,.list (ey++[.str ">"])::eu):=λey eu ae=>by
  unfold qc
  conv=>
   lhs
   arg 4
   whnf
  exact Q9 (by kernel_rfl) (by kernel_rfl) d8 (by kernel_rfl) vM ae
 have aV:(e4 T (SB FM seen G 0) [] (r+1) r (r+1) P++[ca.aq (.ah [])]).length=8:=rfl;cases v with
 |none=>
  have Uf:kj tag bn (kT tag bn) (kS tag bn)=H:=Uf;have tR:=cV (Q_ (T++[.str (("<":X)++tag)]) FM seen r P tag (kT tag bn) (kS tag bn) "") bn (by simp);have e2:=cV (Ra (T++[.str (("<":X)++tag)]++[.str ">"]) FM seen P tag "" (kT tag bn) (kS tag bn)) r hd;simp only[KO]at e2;have e2:=e2.1;rw[Uf]at tR e2;refine(v8 (o0:=H) (wE:=e4 (T++(nX tag bn).map .str) (SB FM V G 0) [] (r+1) (r+1) (r+2) P++[.aq (.ah []),.list []]) (by kernel_rfl) ?_ (by rw[aV];exact fi _ _)).trans rfl;rw[ln];refine(GT (λb=>TT _ b _ _) cr).trans ?_;rw[rD];have IE:TT qc ((c0 (fdOf hw 213)).take 12) ((([("self":X),"tag","attrs","new_namespaces","qname_text"]:p X)).zip ([R.am 1,.str tag,jR ((bn:Y gA).map (·.1)),.ah []]++[.none])) (e4 T (SB FM seen G 0) [] (r+1) r (r+1) P++[.aq (.ah [])])=_:=bT;rw[IE];dsimp only;refine zn (BS _) ?_;refine zn (bx:=H) (al:=.list (T++[.str (("<":X)++tag)])::rJ FM seen r P bn) ?_ ?_
  ·conv at tR=>
    lhs
    arg 4
    whnf
   conv=>
    lhs
    arg 4
    whnf
   exact iJ (by kernel_rfl) tR cM
  refine zn (Rb _ _ (by simp;left)) ?_;rw[e2];congr 4;simp[nX,nW]
 |some v=>
  have Uf:kj tag (j v.1) (kT tag (j v.1)) (kS tag (j v.1))=H:=Uf;have EJ:j v∈mx.drop 1:=by cases FB with|tail _ h=>exact h
  have tR:=cV (Q_ (T++[.str (("<":X)++tag)]) FM seen r P tag (kT tag (j v.1)) (kS tag (j v.1)) v.1) (j v.1) (by simp);have abp:=cV (abn (T++[.str (("<":X)++tag)]) FM seen r P tag (kT tag (j v.1)) (kS tag (j v.1))) (j v) EJ;have e2:=cV (Ra (T++[.str (("<":X)++tag)]++[.str (jk "" (nW (j v)))]++[.str ">"]) FM seen P tag v.1 (kT tag (j v.1)) (kS tag (j v.1))) r hd;simp only[KO]at e2;have e2:=e2.2;have IF:sB (c4 hw) 37 y7 (tQ (Do 213 13)) (kj tag (j v.1) (kT tag (j v.1)) (kS tag (j v.1))) (.list (T++[.str (("<":X)++tag)])::rJ FM seen r P (j v.1))=j (.str (jk "" (nW (j v))),.list (T++[.str (("<":X)++tag)])::Cm FM seen r P (j v.1)):=abp;rw[Uf]at tR e2 IF;refine(v8 (o0:=H) (wE:=e4 (T++(nX tag (j v)).map .str) (SB FM V G 0) [] (r+1) (r+1) (r+2) P++[.aq (.ah []),.aq (.ah (Ck (j v.1)))]) (by kernel_rfl) ?_ (by rw[aV];exact fi _ _)).trans rfl;rw[ln];refine(GT (λb=>TT _ b _ _) cr).trans ?_;rw[rD];have IE:TT qc ((c0 (fdOf hw 213)).take 12) ((([("self":X),"tag","attrs","new_namespaces","qname_text"]:p X)).zip ([R.am 1,.str tag,jR ((j v:Y gA).map (·.1)),.ah []]++[.none])) (e4 T (SB FM seen G 0) [] (r+1) r (r+1) P++[.aq (.ah [])])=_:=bT;rw[IE];dsimp only;refine zn (BS _) ?_;refine zn (bx:=H) (al:=.list (T++[.str (("<":X)++tag)]++[.str (jk "" (nW (j v)))])::Cm FM seen r P (j v.1)) ?_ ?_
  ·conv at tR=>
    lhs
    arg 4
    whnf
   conv at IF=>
    lhs
    arg 4
    whnf
   conv=>
    lhs
    arg 4
    whnf
   refine kf (by kernel_rfl) tR (zn ?_ cM);exact fU (by kernel_rfl) rfl (HQ (by kernel_rfl) d8 (cC (by kernel_rfl) IF fz) (Cj (Ci rfl rfl (by simp;left) rfl)))
  refine zn (Rb _ _ (by simp;left)) ?_;rw[e2];congr 4;have s3:jk "" (nW (j v))=(" k=\"":X)++v.2.1++"\"":=tC (by rw[HZ];simp[nW]);rw[s3];simp[nX,nW]
theorem o3{J:Sc}{xL:p R->p ca->Y (R×p ca)}{m:X}{l:R×p ca}(wn:fa g3 o=j (bQ,wE))(h:xL (r::bQ) wE=j l):fb J (.ar t xL) r m g3 o=j l:=by exact(Op (k:=λbQ wE=>xL (r::bQ) wE) wn).trans h
theorem IG(sc:n.length≤100000)(aC:n≠[]):gu (.ah n)=j V:=by refine(Re (b6 (by left))).trans ?_;cases n with|nil=>exact aB rfl aC|cons=>rfl
noncomputable def dX(data:p X):p X:=if data=[]then[]else[Lt (jb (TW data))]
noncomputable abbrev rK:oH:=bq (dn hw) fZ (fdOf hw 207).scope
noncomputable def jS(tag:X)(A:R):hf:=[("self",.am 1),("tag",.str tag),("attrs",A)]
noncomputable def Rc:hf:=[("new_namespaces",.am 7)]
noncomputable def o4(FM:ga)(cv:E)(tag:X):ga:=FM&&(decide (0<cv) ||tag=="x")
theorem abq(out data:p X)(r:E)(P:p R)(A:R):((["a","b"]:p X).map λtag=>rK (Do 207 0) (jS tag A) (a6 out (SB V V G 0) data r P))=(["a","b"]:p X).map λtag=>j (.next,jS tag A,a6 out (SB V V G 0) data r P):=by kernel_rfl
theorem abr(out data:p X)(r:E)(P:p R)(A:R)(tag:X):rK (Do 207 0) (jS tag A) (a6 out (SB G V G 0) data r P)=j (.next,jS tag A,a6 out (SB G V G 0) data r P):=by kernel_rfl
theorem abt(out data:p X)(r:E)(P:p R)(A:R):TT rK (c0 (fdOf hw 207)) (jS "x" A) (a6 out (SB V V G 0) data r P)=j (.ret .none,jS "x" A,a6 out (SB V V G 1) data r P):=by kernel_rfl
theorem abu(out data:p X)(r z:E)(P:p R)(A:R)(tag:X):TT rK (c0 (fdOf hw 207)) (jS tag A) (a6 out (SB V V G (z+1)) data r P)=j (.ret .none,jS tag A,a6 out (SB V V G (z+2)) data r P):=by kernel_rfl
theorem abv(out:p X)(FM:ga)(P:p R)(A:R)(tag:X):([1,2,3,4,5].map λr=>TT rK [Do 207 2,Do 207 3,Do 207 4] (jS tag A) (a6 out (SB FM V G 0) [] r P))=[1,2,3,4,5].map λr=>j (.next,jS tag A++Rc,e4 (out.map .str) (SB FM V G 0) [] (r+1) r (r+1) P++[.aq (.ah [])]):=by kernel_rfl
theorem abw{r:E}{P:p R}{A:R}(hd:data.length≤1000)(gt:out.length≤1000)(aC:data≠[]->TW data≠[])(ae:(TW data).length≤4000):rK (Do 207 1) (jS tag A) (a6 out (SB FM V G 0) data r P)=j (.next,jS tag A,a6 (out++dX data) (SB FM V G 0) [] r P):=by
 unfold dX;cases data with
 |nil=>rw[tt rfl,c2];kernel_rfl
 |cons s l=>
  rw[ss (by intro h;cases h)];unfold rK
  conv=>
   lhs
   arg 4
   whnf
  apply kf (al:=a6 out (SB FM V G 0) (s::l) r P);·kernel_rfl
  ·apply P9 (r:=.am 2) (al:=a6 out (SB FM V G 0) (s::l) r P);·kernel_rfl
   ·exact IG (n:=(s::l).map .str) (by rw[aK];left) (by intro h;cases h)
  ·refine zn (fU (by kernel_rfl) (by kernel_rfl) (ej (r:=.am 1) (al:=a6 out (SB FM V G 0) (s::l) r P) (k:=.ar 237 (cU (c4 hw) hw 193 [.cg (.ref 185)])) (by kernel_rfl) (by kernel_rfl) (by kernel_rfl) (by kernel_rfl) fz (o3 lx (Q5 hd gt (aC (by intro h;cases h)) ae)))) cM
theorem IH(out data:p X)(FM seen done:ga)(cv r:E)(P:p R):((a6 out (SB FM seen done cv) data r P).take 7).all (pW 7)=V:=by cases FM<;>kernel_rfl
theorem abx{r:E}{P:p R}{A:R}(h:o4 V cv tag=V):cU (dn hw) hw 207 [] [.am 1,.str tag,A] (a6 out (SB V V G cv) data r P)=j (.none,a6 out (SB V V G (cv+1)) data r P):=by
 have ln:b2 (fdOf hw 207)=([("self":X),"tag","attrs"]:p X):=by kernel_rfl
 refine Q2 (o0:=jS tag A) (wE:=a6 out (SB V V G (cv+1)) data r P) (by kernel_rfl) ?_ (IH _ _ _ _ _ _ _ _);rw[ln];cases cv with
 |zero=>
  have:tag="x":=by simpa[o4]using h
  subst this;exact abt out data r P A
 |succ z=>exact abu out data r z P A tag
theorem aby{r:E}{P:p R}{v:Y gA}(hd:r∈[1,2,3,4,5])(ty:tag∈fm)(FB:v∈mx)(fd:o4 FM 0 tag=G)(oM:data.length≤100)(gt:out.length≤800)(aC:data≠[]->TW data≠[])(ae:(TW data).length≤4000):cU (dn hw) hw 207 [] [.am 1,.str tag,jR (v.map (·.1))] (a6 out (SB FM V G 0) data r P)=j (.none,a6 (out++dX data++nX tag v) (SB FM V G 0) [] (r+1) P):=by
 have ln:b2 (fdOf hw 207)=([("self":X),"tag","attrs"]:p X):=by kernel_rfl
 have cr:c0 (fdOf hw 207)=Do 207 0::Do 207 1::([Do 207 2,Do 207 3,Do 207 4]++[Do 207 5]):=by kernel_rfl
 have az:rK (Do 207 0) (jS tag (jR (v.map (·.1)))) (a6 out (SB FM V G 0) data r P)=j (.next,jS tag (jR (v.map (·.1))),a6 out (SB FM V G 0) data r P):=by
  cases FM with
  |false=>exact abr ..
  |true=>
   have f8:tag≠"x":=by simpa[o4]using fd
   refine cV (abq out data r P _) tag ?_;unfold fm at ty;simp only[cq,r_,TM]at ty⊢;rcases ty with h|h|h
   ·exact .inl h
   ·exact .inr h
   ·exact aB h f8
 have abz:(out++dX data).length≤801:=by unfold dX;split<;>simp<;>left
 have sc:(jR (v.map (·.1)))=jR (v.map (·.1)):=rfl;refine(v8 (o0:=jS tag (jR (v.map (·.1)))++Rc) (wE:=e4 ((out++dX data).map .str++(nX tag v).map .str) (SB FM V G 0) [] (r+1) (r+1) (r+2) P++[.aq (.ah [])]) (by kernel_rfl) ?_ ?_).trans ?_
 ·rw[ln];refine(GT (λb=>TT _ b _ _) cr).trans ?_;refine zn az ?_;refine zn (abw (by left) (by left) aC ae) ?_;rw[rD,cV (abv (out++dX data) FM P (jR (v.map (·.1))) tag) r hd];dsimp only;refine zn ?_ cM
  conv=>
   lhs
   arg 4
   whnf
  refine fU (by kernel_rfl) (by kernel_rfl) (ej (r:=.am 1) (al:=e4 ((out++dX data).map .str) (SB FM V G 0) [] (r+1) r (r+1) P++[.aq (.ah [])]) (k:=.ar 237 (cU (c4 hw) hw 213 [.none])) (g3:=[.str tag,jR (v.map (·.1)),.am 7]) (f2:=e4 ((out++dX data).map .str) (SB FM V G 0) [] (r+1) r (r+1) P++[.aq (.ah [])]) (by kernel_rfl) (by kernel_rfl) (by kernel_rfl) (by kernel_rfl) (by kernel_rfl) (o3 (bQ:=[.str tag,jR (v.map (·.1)),.ah []]) (wE:=e4 ((out++dX data).map .str) (SB FM V G 0) [] (r+1) r (r+1) P++[.aq (.ah [])]) ?_ (abo hd ty FB (by rw[aK];left))));cases v<;>kernel_rfl
 ·cases FM<;>kernel_rfl
 ·rw[<- jo];rfl
noncomputable abbrev y8:oH:=bq (dn hw) fZ (fdOf hw 220).scope
noncomputable def kU(tag:X):hf:=[("self",.am 1),("tag",.str tag)]
theorem abA(out data:p X)(FM:ga)(r:E)(P:p R)(tag:X):y8 (Do 220 0) (kU tag) (a6 out (SB FM V G 0) data r P)=j (.next,kU tag,a6 out (SB FM V G 0) data r P):=by kernel_rfl
theorem abB(o:p R)(P:p R):([V,G].map λFM=>[1,2,3,4,5].map λr=>fm.map λtag=>sB (dn hw) 38 (fdOf hw 220).scope (tQ (Do 220 2)) (kU tag) (e4 o (SB FM V G 0) [] (r+1) (r+1) (r+2) P))=[V,G].map λFM=>[1,2,3,4,5].map λr=>fm.map λtag=>j (.str (("</":X)++tag++">"),e4 o (SB FM V G 0) [] (r+1) (r+1) (r+2) P):=by kernel_rfl
theorem abC(o:p R)(P:p R):([V,G].map λFM=>sB (dn hw) 38 (fdOf hw 220).scope (tQ (Do 220 2)) (kU "r") (e4 o (SB FM V G 0) [] 1 1 2 P))=[V,G].map λFM=>j (.str "</r>",e4 o (SB FM V G 0) [] 1 1 2 P):=by kernel_rfl
theorem abD(T P:p R)(FM:ga)(tag:X):([0,1,2,3,4,5].map λr=>TT y8 ((c0 (fdOf hw 220)).drop 3) (kU tag) (e4 T (SB FM V G 0) [] (r+1) (r+1) (r+2) P))=[0,1,2,3,4,5].map λr=>j (.next,kU tag,e4 T (SB FM V (r==0) 0) [] r r (r+1) P):=by kernel_rfl
theorem abE{r:E}{P:p R}:cU (dn hw) hw 220 [] [.am 1,.str tag] (a6 out (SB V V G (cv+1)) data r P)=j (.none,a6 out (SB V V G cv) data r P):=by
 have ln:b2 (fdOf hw 220)=([("self":X),"tag"]:p X):=by kernel_rfl
 have g:((cv+1:E):m0) - 1=((cv:E):m0):=by left
 refine Q2 (o0:=kU tag) (wE:=a6 out (SB V V G cv) data r P) (by kernel_rfl) ?_ (IH _ _ _ _ _ _ _ _);rw[ln];have bR:TT y8 (c0 (fdOf hw 220)) (kU tag) (a6 out (SB V V G (cv+1)) data r P)=j (.ret .none,kU tag,.list (out.map .str)::.inst 237 (Pv (SB V V G (cv+1)) "_ignored_depth" (.int (((cv+1:E):m0) - 1)))::(a6 out (SB V V G (cv+1)) data r P).drop 2):=by kernel_rfl
 rw[g]at bR;refine iz bR ?_;kernel_rfl
theorem abF{r:E}{P:p R}(hd:data.length≤1000)(gt:out.length≤1000)(aC:data≠[]->TW data≠[])(ae:(TW data).length≤4000):y8 (Do 220 1) (kU tag) (a6 out (SB FM V G 0) data r P)=j (.next,kU tag,a6 (out++dX data) (SB FM V G 0) [] r P):=by
 unfold dX;cases data with
 |nil=>rw[tt rfl,c2];kernel_rfl
 |cons s l=>
  rw[ss (by intro h;cases h)];unfold y8
  conv=>
   lhs
   arg 4
   whnf
  apply kf (al:=a6 out (SB FM V G 0) (s::l) r P);·kernel_rfl
  ·apply P9 (r:=.am 2) (al:=a6 out (SB FM V G 0) (s::l) r P);·kernel_rfl
   ·exact IG (n:=(s::l).map .str) (by rw[aK];left) (by intro h;cases h)
  ·refine zn (fU (by kernel_rfl) (by kernel_rfl) (ej (r:=.am 1) (al:=a6 out (SB FM V G 0) (s::l) r P) (k:=.ar 237 (cU (c4 hw) hw 193 [.cg (.ref 185)])) (by kernel_rfl) (by kernel_rfl) (by kernel_rfl) (by kernel_rfl) fz (o3 lx (Q5 hd gt (aC (by intro h;cases h)) ae)))) cM
theorem Rd{r:E}{P:p R}(Rf:r=0/\tag="r"\/r∈[1,2,3,4,5]/\tag∈fm)(oM:data.length≤100)(gt:out.length≤800)(aC:data≠[]->TW data≠[])(ae:(TW data).length≤4000):cU (dn hw) hw 220 [] [.am 1,.str tag] (a6 out (SB FM V G 0) data (r+1) P)=j (.none,a6 (out++dX data++[("</":X)++tag++">"]) (SB FM V (r==0) 0) [] r P):=by
 have ln:b2 (fdOf hw 220)=([("self":X),"tag"]:p X):=by kernel_rfl
 have cr:c0 (fdOf hw 220)=Do 220 0::Do 220 1::Do 220 2::(c0 (fdOf hw 220)).drop 3:=by kernel_rfl
 have abz:(out++dX data).length≤801:=by unfold dX;split<;>simp<;>left
 have db:∀o,sB (dn hw) 38 (fdOf hw 220).scope (tQ (Do 220 2)) (kU tag) (e4 o (SB FM V G 0) [] (r+1) (r+1) (r+2) P)=j (.str (("</":X)++tag++">"),e4 o (SB FM V G 0) [] (r+1) (r+1) (r+2) P):=λo=>by
  rcases Rf with⟨rfl,rfl⟩|⟨h1,ex⟩;·have:=cV (abC o P) FM (by cases FM<;>simp);refine iz this ?_;kernel_rfl
  ·exact cV (cV (cV (abB o P) FM (by cases FM<;>simp)) r h1) tag ex
 have abG:r∈[0,1,2,3,4,5]:=by
  rcases Rf with⟨rfl,_⟩|⟨h1,_⟩;·simp
  ·exact .tail _ h1
 refine v8 (o0:=kU tag) (wE:=a6 (out++dX data++[("</":X)++tag++">"]) (SB FM V (r==0) 0) [] r P) (by kernel_rfl) ?_ (IH _ _ _ _ _ _ _ _);rw[ln];refine(GT (λb=>TT _ b _ _) cr).trans ?_;refine zn (abA ..) ?_;refine zn (abF (by left) (by left) aC ae) ?_;have p0:=db ((out++dX data).map .str);refine zn (bx:=kU tag) (al:=e4 ((out++dX data++[("</":X)++tag++">"]).map .str) (SB FM V G 0) [] (r+1) (r+1) (r+2) P) ?_ (cV (abD ((out++dX data++[("</":X)++tag++">"]).map .str) P FM tag) r abG)
 conv at p0=>
  lhs
  arg 4
  whnf
 conv=>
  lhs
  arg 4
  whnf
 refine fU (by kernel_rfl) (by kernel_rfl) (ej (r:=.am 1) (al:=e4 ((out++dX data).map .str) (SB FM V G 0) [] (r+1) (r+1) (r+2) P) (k:=.fld (.app 0)) (by kernel_rfl) (by kernel_rfl) (by kernel_rfl) (by kernel_rfl) (cC (by kernel_rfl) p0 fz) (Q4 (Cj (Ci rfl rfl (by rw[aK];left) ?_))));simp only[jo];rfl
set_option genInjectivity false in
set_option genSizeOf false in
structure dw where
 out:p X
 data:p X
noncomputable def nY:p X->E|[]=>0|z::ns=>if 0<nY ns then nY ns+1 else if z=="x" then 1 else 0
noncomputable def cW(an:E)(ns:p X):E:=if an=0 then nY ns else 0
theorem II:∀ns:p X,nY ns≤ns.length
 |[]=>Da _
 |z::ns=>by
  have:=II ns;unfold nY;split;·simp;left
  ·split<;>simp
noncomputable def fX(an:E)(ns:p X):E:=1+(ns.length - cW an ns)
noncomputable def hq(cv:E)(s:X)(aa:dw):dw:=if cv=0 then⟨aa.out,aa.data++[s]⟩else aa
noncomputable def iL(an:E)(ns:p X)(z:X)(aa:dw):dw:=if an==1&&z=="x"&&!TD ns then hq (cW an ns) "\"" aa else aa
noncomputable def mC(an:E)(z:X)(ns:p X)(aa:dw):dw:=if cW an (z::ns)=0 then⟨aa.out++dX aa.data++[("</":X)++z++">"],[]⟩else aa
noncomputable def o5(an:E):p X->dw->dw|[],aa=>aa|z::ns,aa=>iL an ns z (mC an z ns aa)
noncomputable def mD(an:E)(ns:p X)(l:aZ)(aa:dw):dw:=if cW an (l.name::ns)=0 then⟨aa.out++dX aa.data++nX l.name l.value,[]⟩else aa
noncomputable def kV(l:aZ):X:=l.words.1++"\""++l.quoted.1++"\""
noncomputable def lA(an:E)(ns:p X)(l:aZ)(aa:dw):dw:=hq (cW an (l.name::ns)) (kV l) (mD an ns l (iL an ns l.name (hq (cW an ns) (("\n":X)++l.aA) aa)))
noncomputable abbrev o6:KT:=(fdOf hw 277).scope
noncomputable def v9(H:hf)(o:p ca):St:=TT (bq (kH hw) 39 o6) (dC (Do 277 4)) H o
noncomputable def IJ(H:hf)(o:p ca):Y (ga×p ca):=cx (kH hw) 38 o6 (v4 (kR (dC (Do 277 4)))) H o
noncomputable def IK(H:hf)(o:p ca):St:=TT (bq (kH hw) 38 o6) (dC (kR (dC (Do 277 4)))) H o
noncomputable def cN(Q:p aZ)(A:p (p E))(an:E)(f1:hf):hf:=("rows",.ah (Q.map dA))::("above",.ah (bB A))::("how",.int (an:E))::("out",.am 0)::("target",.am 1)::("pile",.am 6)::f1
noncomputable def fY(an:E)(ns:p X)(x:p E)(aa:dw):p ca:=a6 aa.out (SB (an==0) V G (cW an ns)) aa.data (fX an ns) (On x.reverse)
noncomputable def iM(i:E)(e b t r g:R):hf:=[("i",.int (i:E)),("lead",e),("name",b),("value",t),("words",r),("quoted",g)]
theorem Rg{A:p (p E)}{i:E}{x q:p E}{ns:p X}{aa:dw}(bT:(A++[[]])[i]?=j q.reverse)(fW:A.length≤50):IJ (cN Q A an (("i",.int (i:E))::f1)) (fY an ns x aa)=j (!decide (x=q),fY an ns x aa):=by
 have SZ:ci .NotEq (.ah (On x.reverse)) (.ah (On q.reverse))=j (!decide (x=q)):=by have:=v2 Enc.int (by decide) (n:=x.reverse) (m:=q.reverse) (λa a=>trivial) (λa a=>trivial);rw[show decide (x.reverse=q.reverse)=decide (x=q) by rw[DO];exact agM]at this;exact this
 have bu:gM (.ah (bB A++[.ah []])) (.int (i:E))=j (.ah (On q.reverse)):=by
  refine p_ ?_ (by unfold bB;simp;left);have:bB A++[.ah []]=bB (A++[[]]):=by unfold bB;simp[On]
  rw[this];unfold bB;rw[hX,bT];rfl
 unfold IJ cN
 conv=>
  lhs
  arg 4
  whnf
 apply gi;·kernel_rfl
 ·right
 ·apply fo (T:=.ah (bB A++[.ah []])) (i:=.int (i:E));·kernel_rfl
  ·apply vN;·right
   ·right
   ·show dZ (pp (H1 ((bB A).length+1)) (j (bB A++[.ah []]))) _=_;rw[Re (b6 (by unfold bB;simp;left))];rfl
  ·right
  ·exact bu
 ·exact SZ
structure dw.ab(k:E)(aa:dw):Prop where
 out:aa.out.length≤10*k+2
 data:aa.data.length≤3*k
 full:∀s∈aa.data,na s≠[]
 len:(TW aa.data).length≤100*k
theorem dw.ab.ne{k:E}{aa:dw}(h:aa.ab k):aa.data≠[]->TW aa.data≠[]:=by intro aC wn;obtain⟨out,data⟩:=aa;cases data with|nil=>exact aC rfl|cons s l=>unfold TW at wn;rw[g9,List.append_eq_nil_iff]at wn;exact h.full s (.head _) wn.1
variable{aa:dw}
noncomputable def el(an:E)(ns:p X)(P:p R)(aa:dw):p ca:=a6 aa.out (SB (an==0) V G (cW an ns)) aa.data (fX an ns) P
theorem Rh(z:X)(ns:p X):nY (z::ns)=if 0<nY ns then nY ns+1 else if z=="x" then 1 else 0:=rfl
theorem Ri{r:E}(h1:1≤r)(ex:r≤5):r∈[1,2,3,4,5]:=(by decide:∀r<6,1≤r->r∈[1,2,3,4,5]) r (Nat.lt_succ_of_le ex) h1
theorem Rj{z:X}{ns:p X}(h:cW an (z::ns)≠0):an=0/\cW an (z::ns)=cW an ns+1/\o4 V (cW an ns) z=V:=by
 unfold cW at h⊢;split at h
 ·rename_i t1;refine⟨t1,?_⟩;rw[tt t1,tt t1];rw[Rh]at h⊢;split;·rename_i az;refine⟨rfl,?_⟩;unfold o4;rw[hV az];rfl
  ·rename_i az;rw[ss az]at h;split at h;·rename_i f8;rw[tt f8];refine⟨by left,?_⟩;unfold o4;rw[f8];simp
   ·exact aB rfl h
 ·exact aB rfl h
theorem Rk{z:X}{ns:p X}(h:cW an (z::ns)=0):cW an ns=0/\o4 (an==0) 0 z=G:=by
 unfold cW at h⊢;split at h
 ·rename_i t1;rw[tt t1];rw[Rh]at h;split at h;·left
  ·rename_i az;split at h;·left
   ·rename_i f8;refine⟨by left,?_⟩;unfold o4;simp at f8;simp[f8]
 ·rename_i t1;rw[ss t1];exact⟨rfl,by unfold o4;simp[t1]⟩
theorem abH{k:E}{z:X}{ns:p X}{P:p R}(pi:z∈fm)(ae:ns.length≤4)(gl:k≤30)(Z:aa.ab k):cU (dn hw) hw 220 [] [.am 1,.str z] (el an (z::ns) P aa)=j (.none,el an ns P (mC an z ns aa)):=by
 have h1:=Z.out;have ex:=Z.data;have h3:=Z.len;by_cases h:cW an (z::ns)=0
 ·have sc:=Rk h;have hd:fX an (z::ns)=fX an ns+1:=by unfold fX;rw[h,sc.1];simp;left
  have IL:fX an ns∈[1,2,3,4,5]:=Ri (by unfold fX;left) (by unfold fX;left);unfold el mC;rw[tt h,h,sc.1,hd];have:=Rd (out:=aa.out) (data:=aa.data) (FM:=an==0) (r:=fX an ns) (P:=P) (tag:=z) (.inr ⟨IL,pi⟩) (by left) (by left) Z.ne (by left);rw[show(fX an ns==0)=G by unfold fX;rw[eo];left]at this;exact this
 ·obtain⟨t1,rs,_⟩:=Rj h;have Cn:cW an ns≤ns.length:=by unfold cW;rw[tt t1];exact II ns
  have hd:fX an (z::ns)=fX an ns:=by unfold fX;rw[rs];simp
  unfold el mC;rw[ss h,rs,hd,t1];exact abE
theorem abI{k:E}{ns:p X}{l:aZ}{P:p R}(Os:l.Good)(ae:ns.length≤4)(gl:k≤30)(Z:aa.ab k):cU (dn hw) hw 207 [] [.am 1,.str l.name,jR (l.value.map (·.1))] (el an ns P aa)=j (.none,el an (l.name::ns) P (mD an ns l aa)):=by
 have h1:=Z.out;have ex:=Z.data;have h3:=Z.len;by_cases h:cW an (l.name::ns)=0
 ·have sc:=Rk h;have hd:fX an (l.name::ns)=fX an ns+1:=by unfold fX;rw[h,sc.1];simp;left
  have IL:fX an ns∈[1,2,3,4,5]:=Ri (by unfold fX;left) (by unfold fX;left);unfold el mD;rw[tt h,h,sc.1,hd];exact aby IL Os.name Os.value sc.2 (by left) (by left) Z.ne (by left)
 ·obtain⟨t1,rs,fd⟩:=Rj h;have Cn:cW an ns≤ns.length:=by unfold cW;rw[tt t1];exact II ns
  have hd:fX an (l.name::ns)=fX an ns:=by unfold fX;rw[rs];simp
  unfold el mD;rw[ss h,rs,hd,t1];rw[t1]at fd;exact abx fd
theorem Co{ns:p X}{s:X}{P:p R}(hd:aa.data.length≤1000):cU a5 hw 184 [] [.am 1,.str s] (el an ns P aa)=j (.none,el an ns P (hq (cW an ns) s aa)):=by
 unfold el hq;rw[abg hd];by_cases h:cW an ns=0;·rw[tt h,tt h]
 ·rw[ss h,ss h]
theorem lB(e b:p X):TW (e++b)=TW e++TW b:=by unfold TW;simp
theorem Rl(data:p X):(dX data).length≤1:=by unfold dX;split<;>simp
theorem Rm{ax:c6}{y9:bv}{kY pd BD:ga}(h1:ax g' o=j (kY,o))(ex:ax jt o=j (pd,o))(h3:ax y9 o=j (BD,o)):h9 ax .And [g',jt,y9] o=j (kY&&pd&&BD,o):=by
 refine ox.trans<|(Op h1).trans ?_;cases kY;·rfl
 ·exact Ir ex h3
theorem Rn(an:E):ci .Eq (.int (an:E)) (.int 1)=j (an==1):=by show j ((an:m0)==1)=_;congr 1;rw[j0,bt,bt];left
theorem tS{k:E}(gl:k<Q.length):pr Q k=Q[k].name:=by unfold pr;rw[row_get gl];rfl
theorem abJ{A:p (p E)}{i k:E}{x:p E}{e b t g:R}(nw:∀l∈Q,l.Good)(dP:Q.length≤5)(gl:∀ev∈k::x,ev<Q.length)(ln:x.length≤4)(pc:m≤30)(Z:aa.ab m):IK (cN Q A an (iM i e b t r g)) (fY an ((k::x).map (pr Q)) (k::x) aa)=j (.next,cN Q A an (iM i e (.str (pr Q k)) t r g),fY an (x.map (pr Q)) x (o5 an ((k::x).map (pr Q)) aa)):=by
 have cp:pr Q k∈fm:=by rw[tS (gl k (.head _))];exact(nw _ (gJ _)).name
 have abK:∀ev∈x,pw (pr Q ev)=V:=λev s3=>by have:=(nw _ (gJ (gl ev (.tail _ s3)))).name;rw[tS (gl ev (.tail _ s3))];exact Iw _ this
 have tL:ci .NotIn (.str "x") (.ah ((x.reverse.map (pr Q)).map .str))=j (!TD (x.map (pr Q))):=by rw[Io (by decide+kernel) (λI KM=>by obtain⟨ev,s3,rfl⟩:=dM.mp KM;exact abK ev (sk.mp s3))];unfold TD;congr 2;rw[DO,agN,sk]
 have rs:=abH (an:=an) (ns:=x.map (pr Q)) (P:=On x.reverse) cp (by rw[aK];left) pc Z;have oM:(mC an (pr Q k) (x.map (pr Q)) aa).data.length≤1000:=by
  have:=Z.data;unfold mC;split;·simp
  ·left
 have hd:=Co (an:=an) (ns:=x.map (pr Q)) (s:="\"") (P:=On x.reverse) oM;rw[cs,o5];unfold IK cN iM
 conv=>
  lhs
  arg 2
  whnf
 apply zn (bx:=cN Q A an (iM i e (.str (pr Q k)) t r g)) (al:=el an (pr Q k::x.map (pr Q)) (On x.reverse) aa)
 ·apply ja (r:=.str (pr Q k));·kernel_rfl
  ·kernel_rfl
  ·kernel_rfl
  ·apply fo (T:=dA (Q[k]'(gl k (.head _)))) (i:=.int 1) (al:=el an (pr Q k::x.map (pr Q)) (On x.reverse) aa);·kernel_rfl
   ·apply fo (T:=.ah (Q.map dA)) (i:=.int (k:E)) (al:=fY an (pr Q k::x.map (pr Q)) (k::x) aa);·kernel_rfl
    ·kernel_rfl
    ·apply ej (r:=.am 6) (al:=fY an (pr Q k::x.map (pr Q)) (k::x) aa) (k:=.pop) (g3:=[]) (f2:=fY an (pr Q k::x.map (pr Q)) (k::x) aa);·kernel_rfl
     ·kernel_rfl
     ·kernel_rfl
     ·kernel_rfl
     ·exact fz
     ·refine(Ca (n:=On x.reverse) (r:=.int (k:E)) ?_ ?_).trans rfl;·show j (ca.list (On (k::x).reverse))=_;rw[yY]
      ·unfold On;simp;left
    ·exact row_item (gl k (.head _)) (by left)
   ·exact ru
   ·exact row_name (gl k (.head _))
  ·kernel_rfl
 apply zn (bx:=cN Q A an (iM i e (.str (pr Q k)) t r g)) (al:=el an (x.map (pr Q)) (On x.reverse) (mC an (pr Q k) (x.map (pr Q)) aa))
 ·apply fU;·kernel_rfl
  ·kernel_rfl
  ·apply ej (r:=.am 1) (al:=el an (pr Q k::x.map (pr Q)) (On x.reverse) aa) (k:=.ar 237 (cU (dn hw) hw 220 [])) (g3:=[.str (pr Q k)]) (f2:=el an (pr Q k::x.map (pr Q)) (On x.reverse) aa);·kernel_rfl
   ·kernel_rfl
   ·kernel_rfl
   ·kernel_rfl
   ·kernel_rfl
   ·exact o3 (jL rfl lx) rs
 apply zn (bx:=cN Q A an (iM i e (.str (pr Q k)) t r g)) (al:=el an (x.map (pr Q)) (On x.reverse) (iL an (x.map (pr Q)) (pr Q k) (mC an (pr Q k) (x.map (pr Q)) aa)))
 ·unfold cN iM;apply p9 (t:=an==1&&pr Q k=="x"&&!TD (x.map (pr Q)));·kernel_rfl
  ·apply my;apply Rm;·right;exact Rn an
   ·right;exact tK
   ·apply gi;·kernel_rfl
    ·right
    ·apply Ce (Q:=Q) (q:=x.reverse) (i:=6);·kernel_rfl
     ·kernel_rfl
     ·kernel_rfl
     ·kernel_rfl
     ·right
     ·kernel_rfl
     ·right
     ·rfl
     ·left
     ·simp;left
     ·intro ev s3;exact gl ev (.tail _ (sk.mp s3))
    ·exact tL
  ·unfold iL;by_cases f0:(an==1&&pr Q k=="x"&&!TD (x.map (pr Q)))=V
   ·rw[tt f0,tt f0];refine zn ?_ cM;apply fU;·kernel_rfl
    ·kernel_rfl
    ·apply ej (r:=.am 1) (al:=el an (x.map (pr Q)) (On x.reverse) (mC an (pr Q k) (x.map (pr Q)) aa)) (k:=.ar 237 (cU a5 hw 184 [])) (g3:=[.str "\""]) (f2:=el an (x.map (pr Q)) (On x.reverse) (mC an (pr Q k) (x.map (pr Q)) aa));·kernel_rfl
     ·kernel_rfl
     ·kernel_rfl
     ·kernel_rfl
     ·kernel_rfl
     ·exact o3 (jL rfl lx) hd
   ·rw[ss f0,ss f0];exact cM
 exact cM
noncomputable def Ro(H:hf)(o:p ca):St:=TT (bq (kH hw) 39 o6) ((dC (Do 277 4)).drop 1) H o
theorem Cp:(∀u∈p8,u.1.length≤10)/\(∀u∈rt,u.1.length≤10):=by decide+kernel
theorem abL{J:Sc}{z:E}{bs:KT}{H:hf}{g2:E}{v:bv}{s:X}(h1:sB J z bs v H o=j (.str s,o)):sB J (z+1) bs (.Dict [j (.Constant (.str c) g2 a_)] [v] x) H o=j (.cF [(c,.str s)],o):=Ref h1 rfl
inductive y':hf->Prop|mk (e b t r g:R):y' [("lead",e),("name",b),("value",t),("words",r),("quoted",g)]
inductive mE(P:Prop)(f1:hf):Prop|nil:P->f1=[]->mE P f1|mk:y' f1->mE P f1
inductive v'(P:Prop)(f1:hf):Prop|nil:P->f1=[]->v' P f1|mk (k:R) {b0:hf}:y' b0->f1=(("i":X),k)::b0->v' P f1
theorem v'.tail{P C:Prop}(h:v' P f1)(f:P->C):mE C f1.tail:=h.casesOn (λx g=>.nil (f x) (GT zI g)) λk a q g=>.mk ((GT zI g).symm▸q)
theorem mE.len{P:Prop}(h:mE P f1):f1.lookup ("len":X)=bn:=h.casesOn (λa g=>g.symm▸rfl) λh=>h.casesOn λe b t r g=>by kernel_rfl
theorem mE.b{P:Prop}{A:p (p E)}{i:E}{l:aZ}(f8:mE P f1):d5 o6 (.Tuple [.Name "lead" ⟨0,0,0,0⟩,.Name "name" ⟨0,0,0,0⟩,.Name "value" ⟨0,0,0,0⟩,.Name "words" ⟨0,0,0,0⟩,.Name "quoted" ⟨0,0,0,0⟩] 0 ⟨0,0,0,0⟩) (dA l) (cN Q A an (("i",.int (i:E))::f1))=j (cN Q A an (iM i (.str l.aA) (.str l.name) (hP l.value) (c_ l.words) (c_ l.quoted))):=by cases f8 with|nil _ g=>subst g;kernel_rfl|mk h=>cases h;kernel_rfl
theorem abM{e b:E}(h:e<b):ci .Lt (.int (e:E)) (.int (b:E))=j V:=GT j (hV (S2.mpr h))
theorem abN{e:E}:ci .Lt (.int (e:E)) (.int (e:E))=j G:=GT j (lL (Int.lt_irrefl _))
theorem abO{A:p (p E)}{i:E}{q:p E}(nw:∀l∈Q,l.Good)(dP:Q.length≤5)(np:i<Q.length)(s3:∀ev∈q,ev<Q.length)(wT:q.length≤4)(pc:m≤29)(Z:aa.ab m)(v_:(iL an (q.map (pr Q)) Q[i].name (hq (cW an (q.map (pr Q))) (("\n":X)++Q[i].aA) aa)).ab (m+1)){P:Prop}(f8:mE P f1):∃b0,y' b0/\Ro (cN Q A an (("i",.int (i:E))::f1)) (fY an (q.map (pr Q)) q aa)=j (.next,cN Q A an (("i",.int (i:E))::b0),fY an ((i::q).map (pr Q)) (i::q) (lA an (q.map (pr Q)) Q[i] aa)):=by
 have fR:=f8.b (Q:=Q) (A:=A) (an:=an) (i:=i) (l:=Q[i]);have aS:=f8.len;have Os:=nw _ (gJ np);have lh:=len_tab.1 _ Os.aA;have pO:=Cp.1 _ Os.words;have QU:=Cp.2 _ Os.quoted;have uz:pr Q i=Q[i].name:=tS np;generalize IA:Q[i]=l at*;have tL:=Iy nw s3;have bU:=abM np;have aii:=Z.data;have nQ:=Co (an:=an) (ns:=q.map (pr Q)) (s:=("\n":X)++l.aA) (P:=On q.reverse) (aa:=aa) (by left);generalize cT:hq (cW an (q.map (pr Q))) (("\n":X)++l.aA) aa=ji at nQ v_;have aij:ji.data.length≤3*m+1:=by
  rw[<- cT];unfold hq;split;·simp;left
  ·left
 have aeQ:=Co (an:=an) (ns:=q.map (pr Q)) (s:="\"") (P:=On q.reverse) (aa:=ji) (by left);have Rp:=abI (an:=an) (ns:=q.map (pr Q)) (P:=On q.reverse) Os (by rw[aK];left) (by left) v_;generalize wa:iL an (q.map (pr Q)) l.name ji=kn at Rp v_;have aik:=v_.data;have abP:=Co (an:=an) (ns:=l.name::q.map (pr Q)) (s:=kV l) (P:=On q.reverse) (aa:=mD an (q.map (pr Q)) l kn) (by
  unfold mD;split;·simp
  ·left)
 refine⟨_,.mk (.str l.aA) (.str l.name) (hP l.value) (c_ l.words) (c_ l.quoted),?_⟩;unfold Ro cN
 conv=>
  lhs
  arg 2
  whnf
 refine zn (bx:=cN Q A an (iM i (.str l.aA) (.str l.name) (hP l.value) (c_ l.words) (c_ l.quoted))) (al:=fY an ((i::q).map (pr Q)) (i::q) (lA an (q.map (pr Q)) l aa)) ?_ cM;apply kf;·kernel_rfl
 ·right;apply dq;·kernel_rfl
  ·right;exact aS
  ·kernel_rfl
  ·right
  ·exact mz (by kernel_rfl) (qa (k:=Q.length) (by rw[aK]) (by left))
  ·exact bU
 apply zn
 ·apply Qb;·kernel_rfl
  ·kernel_rfl
  ·kernel_rfl
  ·apply fo;·kernel_rfl
   ·right
   ·right
   ·exact row_item np (by left)
  ·rw[IA];exact fR
 apply zn (bx:=cN Q A an (iM i (.str l.aA) (.str l.name) (hP l.value) (c_ l.words) (c_ l.quoted))) (al:=el an (q.map (pr Q)) (On q.reverse) ji)
 ·apply fU;·kernel_rfl
  ·kernel_rfl
  ·apply ej (r:=.am 1) (al:=el an (q.map (pr Q)) (On q.reverse) aa) (k:=.ar 237 (cU a5 hw 184 [])) (g3:=[.str (("\n":X)++l.aA)]) (f2:=el an (q.map (pr Q)) (On q.reverse) aa);·kernel_rfl
   ·kernel_rfl
   ·kernel_rfl
   ·kernel_rfl
   ·unfold cN iM;apply cC;·kernel_rfl
    ·apply nV;·right
     ·right
     ·rw[show("\n":X).length=1 by decide+kernel];left
    ·exact fz
   ·exact o3 (jL rfl lx) nQ
 apply zn (bx:=cN Q A an (iM i (.str l.aA) (.str l.name) (hP l.value) (c_ l.words) (c_ l.quoted))) (al:=el an (q.map (pr Q)) (On q.reverse) kn)
 ·unfold cN iM;apply p9 (t:=an==1&&l.name=="x"&&!TD (q.map (pr Q)));·kernel_rfl
  ·apply my;apply Rm;·right;exact Rn an
   ·right;exact tK
   ·apply gi;·kernel_rfl
    ·right
    ·apply Ce (Q:=Q) (q:=q.reverse) (i:=6);·kernel_rfl
     ·kernel_rfl
     ·kernel_rfl
     ·kernel_rfl
     ·right
     ·kernel_rfl
     ·right
     ·rfl
     ·left
     ·simp;left
     ·intro ev kE;exact s3 ev (sk.mp kE)
    ·exact tL
  ·rw[<- wa];unfold iL;by_cases f0:(an==1&&l.name=="x"&&!TD (q.map (pr Q)))=V
   ·rw[tt f0,tt f0];refine zn ?_ cM;apply fU;·kernel_rfl
    ·kernel_rfl
    ·apply ej (r:=.am 1) (al:=el an (q.map (pr Q)) (On q.reverse) ji) (k:=.ar 237 (cU a5 hw 184 [])) (g3:=[.str "\""]) (f2:=el an (q.map (pr Q)) (On q.reverse) ji);·kernel_rfl
     ·kernel_rfl
     ·kernel_rfl
     ·kernel_rfl
     ·kernel_rfl
     ·exact o3 (jL rfl lx) aeQ
   ·rw[ss f0,ss f0];exact cM
 apply zn (bx:=cN Q A an (iM i (.str l.aA) (.str l.name) (hP l.value) (c_ l.words) (c_ l.quoted))) (al:=el an (l.name::q.map (pr Q)) (On q.reverse) (mD an (q.map (pr Q)) l kn))
 ·apply fU;·kernel_rfl
  ·kernel_rfl
  ·apply ej (r:=.am 1) (al:=el an (q.map (pr Q)) (On q.reverse) kn) (k:=.ar 237 (cU (dn hw) hw 207 [])) (g3:=[.str l.name,jR (l.value.map (·.1))]) (f2:=el an (q.map (pr Q)) (On q.reverse) kn);·kernel_rfl
   ·kernel_rfl
   ·kernel_rfl
   ·kernel_rfl
   ·unfold cN iM;apply cC;·kernel_rfl
    ·right
    ·apply cC;·kernel_rfl
     ·cases FB:l.value with
      |none=>
       apply yG;·right;kernel_rfl
       ·exact Red
      |some v=>
       apply yH;·right;kernel_rfl
       ·apply abL;apply fo;·kernel_rfl
        ·right
        ·right
        ·rfl
     ·exact fz
   ·refine o3 ?_ Rp;cases l.value<;>rfl
 apply zn (bx:=cN Q A an (iM i (.str l.aA) (.str l.name) (hP l.value) (c_ l.words) (c_ l.quoted))) (al:=el an (l.name::q.map (pr Q)) (On q.reverse) (hq (cW an (l.name::q.map (pr Q))) (kV l) (mD an (q.map (pr Q)) l kn)))
 ·apply fU;·kernel_rfl
  ·kernel_rfl
  ·apply ej (r:=.am 1) (al:=el an (l.name::q.map (pr Q)) (On q.reverse) (mD an (q.map (pr Q)) l kn)) (k:=.ar 237 (cU a5 hw 184 [])) (g3:=[.str (kV l)]) (f2:=el an (l.name::q.map (pr Q)) (On q.reverse) (mD an (q.map (pr Q)) l kn));·kernel_rfl
   ·kernel_rfl
   ·kernel_rfl
   ·kernel_rfl
   ·unfold cN iM kV;have SZ:("\"":X).length=1:=by decide+kernel
    apply cC;·kernel_rfl
    ·apply nV
     ·apply nV
      ·apply nV;·right;rfl
       ·right
       ·left
      ·right;rfl
      ·rw[qn];left
     ·right
     ·rw[qn,qn];left
    ·exact fz
   ·exact o3 (jL rfl lx) abP
 refine zn (bx:=cN Q A an (iM i (.str l.aA) (.str l.name) (hP l.value) (c_ l.words) (c_ l.quoted))) ?_ cM;apply rG (i:=6);·kernel_rfl
 ·kernel_rfl
 ·kernel_rfl
 ·kernel_rfl
 ·kernel_rfl
 ·exact gB (r:=.int (i:E)) (by kernel_rfl) (by kernel_rfl)
 ·exact⟨_,rfl⟩
 ·kernel_rfl
 ·rfl
 ·unfold On;simp;left
 ·rfl
 ·rw[cs,uz,lA,cT,wa];unfold fY;rw[yY];rfl
theorem Cq{ns:p X}{z:X}(h1:aa.out.length≤10*m+12)(ex:aa.data.length≤3*m+1)(h3:∀s∈aa.data,na s≠[])(aS:(TW aa.data).length≤100*m+50):(iL an ns z aa).ab (m+1):=by
 have SZ:(na "\"").length=1:=by decide+kernel
 unfold iL hq;split
 ·split
  ·refine⟨by simp;left,by simp;left,λit e0=>?_,?_⟩
   ·rcases gq.mp e0 with eg|eg;·exact h3 it eg
    ·rw[a9.mp eg];decide+kernel
   ·rw[lB,ct,show TW ["\""]=na "\"" by simp[TW]];left
  ·exact⟨by left,by left,h3,by left⟩
 ·exact⟨by left,by left,h3,by left⟩
theorem abQ{z:X}{ns:p X}(Z:aa.ab m):(o5 an (z::ns) aa).ab (m+1):=by
 have h1:=Z.out;have ex:=Z.data;have h3:=Z.len;have aS:=Rl aa.data;rw[o5];unfold mC;split;·exact Cq (by simp;left) (by simp) (λs h=>by cases h) (by simp[TW])
 ·exact Cq (by left) (by left) Z.full (by left)
theorem Rq{ns:p X}{l:aZ}(Os:l.Good)(Z:aa.ab m):(iL an ns l.name (hq (cW an ns) (("\n":X)++l.aA) aa)).ab (m+1):=by
 have h1:=Z.out;have ex:=Z.data;have h3:=Z.len;have ae:=len_tab.1 _ Os.aA;have SZ:(na "\n").length=1:=by decide+kernel
 unfold hq;split
 ·refine Cq (by simp;left) (by simp;left) (λit e0=>?_) ?_
  ·rcases gq.mp e0 with eg|eg;·exact Z.full it eg
   ·rw[a9.mp eg,vU];intro h;have:=GT pl h;rw[ct,SZ]at this;simp at this
  ·rw[lB,ct,show TW [("\n":X)++l.aA]=na (("\n":X)++l.aA) by simp[TW],vU,ct,ik l.aA,SZ];left
 ·exact Cq (by left) (by left) Z.full (by left)
theorem abR{ns:p X}{l:aZ}(Os:l.Good)(Z:aa.ab m):(lA an ns l aa).ab (m+1):=by
 have h1:=Z.out;have ex:=Z.data;have h3:=Z.len;have ae:=len_tab.1 _ Os.aA;have pO:=Cp.1 _ Os.words;have QU:=Cp.2 _ Os.quoted;have SZ:(na "\n").length=1:=by decide+kernel
 have bu:(na "\"").length=1:=by decide+kernel
 have oT:("\"":X).length=1:=by decide+kernel
 have d8:(kV l).length≤23:=by unfold kV;rw[qn,qn,qn];left
 have abS:na (kV l)≠[]:=by unfold kV;rw[vU];intro h;have:=GT pl h;rw[ct,bu]at this;simp at this
 have bR:∀aa:dw,(iL an ns l.name (hq (cW an ns) (("\n":X)++l.aA) aa)).out=aa.out/\(aa.data.length≤3*m->(iL an ns l.name (hq (cW an ns) (("\n":X)++l.aA) aa)).data.length≤3*m+2)/\((TW aa.data).length≤100*m->(TW (iL an ns l.name (hq (cW an ns) (("\n":X)++l.aA) aa)).data).length≤100*m+12):=by
  intro aa;have ir:(TW [("\n":X)++l.aA]).length≤11:=by rw[show TW [("\n":X)++l.aA]=na (("\n":X)++l.aA) by simp[TW],vU,ct,ik l.aA,SZ];left
  have iu:(TW ["\""]).length=1:=by rw[show TW ["\""]=na "\"" by simp[TW]];exact bu
  unfold iL hq;by_cases az:cW an ns=0
  ·rw[tt az];split;·refine⟨rfl,λh=>by simp;left,λh=>?_⟩;rw[lB,lB,ct,ct];left
   ·refine⟨rfl,λh=>by simp;left,λh=>?_⟩;rw[lB,ct];left
  ·rw[ss az];split;·exact⟨rfl,λh=>by left,λh=>by left⟩
   ·exact⟨rfl,λh=>by left,λh=>by left⟩
 have v_:=Rq (an:=an) (ns:=ns) Os Z;obtain⟨hC,eX,la⟩:=bR aa;have eX:=eX ex;have la:=la h3;unfold lA;generalize iL an ns l.name (hq (cW an ns) (("\n":X)++l.aA) aa)=kn at*;have wn:=Rl kn.data;have ty:(nX l.name l.value).length≤3:=by unfold nX;cases l.value<;>simp[nW]
 have Bs:(TW [kV l]).length≤23:=by rw[show TW [kV l]=na (kV l) by simp[TW],ik];left
 unfold mD hq;by_cases az:cW an (l.name::ns)=0
 ·rw[tt az,tt az];refine⟨?_,by simp;left,λit e0=>?_,?_⟩;·simp;rw[hC];left
  ·rw[wx]at e0;rw[a9.mp e0];exact abS
  ·rw[wx];show(TW [kV l]).length≤_;left
 ·rw[ss az,ss az];exact⟨by rw[hC];left,by left,v_.full,by left⟩
noncomputable def il(Q:p aZ)(an:E)(q x:p E)(aa:dw):dw:=(ki q x).foldl (λs l=>o5 an (l.map (pr Q)) s) aa
theorem IM{Q:p aZ}{A:p (p E)}{an i:E}{q:p E}(nw:∀l∈Q,l.Good)(dP:Q.length≤5)(bT:(A++[[]])[i]?=j q.reverse)(fW:A.length≤50):∀(x:p E) (z m:E) (aa:dw) (f1:hf),q<:+x->(∀ev∈x,ev<Q.length)->x.length≤5->m+x.length≤20->aa.ab m->x.length<z->mE (x=q) f1->∃aF,mE g6 aF/\gT IJ IK z (cN Q A an (("i",.int (i:E))::f1)) (fY an (x.map (pr Q)) x aa)=j (.next,cN Q A an (("i",.int (i:E))::aF),fY an (q.map (pr Q)) q (il Q an q x aa))/\(il Q an q x aa).ab (m+x.length - q.length)
 |x,0,_,_,_,_,_,_,_,_,pi,_=>aB pi (J9 _)
 |[],z+1,m,aa,f1,fd,s3,ln,eJ,Z,pi,f8=>by have wT:q=[]:=DQ.mp fd;subst wT;exact⟨f1,f8.casesOn (λa h=>.nil trivial h) .mk,o1 (Rg bT fW),Z⟩
 |k::x,z+1,m,aa,f1,fd,s3,ln,eJ,Z,pi,f8=>by
  have t:=Rg (Q:=Q) (an:=an) (ns:=(k::x).map (pr Q)) (f1:=f1) (x:=k::x) (aa:=aa) bT fW;by_cases rs:k::x=q
  ·rw[hV rs]at t;have g:il Q an q (k::x) aa=aa:=by unfold il;rw[tM,tt rs];rfl
   refine⟨f1,f8.casesOn (λa h=>.nil trivial h) .mk,?_,?_⟩;·rw[g,<- rs];exact o1 t
   ·rw[g,rs,Nat.add_sub_cancel];exact Z
  ·rw[lL rs]at t;cases f8 with
   |nil h=>exact aB h rs
   |mk h=>
    cases h with|mk e b aL r g=>
    have e0:q<:+x:=(Uh.mp fd).elim (λh=>aB h.symm rs) id;have pc:m+1+x.length=m+(k::x).length:=TV m x.length;obtain⟨aF,h1,ex,h3⟩:=IM (an:=an) nw dP bT fW x z (m+1) (o5 an ((k::x).map (pr Q)) aa) _ e0 (λev h=>s3 ev (.tail _ h)) (zX ln) (pc▸eJ) (abQ Z) (agO pi) (.mk (.mk e (.str (pr Q k)) aL r g));rw[show il Q an q (k::x) aa=il Q an q x (o5 an ((k::x).map (pr Q)) aa) by unfold il;rw[tM,ss rs];rfl];exact⟨aF,h1,yV t (abJ nw dP s3 (by have:x.length+1≤5:=ln;left) (by have:m+(x.length+1)≤20:=eJ;left) Z) ex,pc▸h3⟩
theorem abT{A:p (p E)}{i:E}{x q:p E}(nw:∀l∈Q,l.Good)(dP:Q.length≤5)(bT:(A++[[]])[i]?=j q.reverse)(fW:A.length≤50)(fd:q<:+x)(s3:∀ev∈x,ev<Q.length)(ln:x.length≤i)(pc:m+x.length≤2*i)(Z:aa.ab m)(np:i<Q.length)(f8:mE (x=q) f1):∃b0,y' b0/\v9 (cN Q A an (("i",.int (i:E))::f1)) (fY an (x.map (pr Q)) x aa)=j (.next,cN Q A an (("i",.int (i:E))::b0),fY an ((i::q).map (pr Q)) (i::q) (lA an (q.map (pr Q)) Q[i] (il Q an q x aa)))/\(lA an (q.map (pr Q)) Q[i] (il Q an q x aa)).ab (m+x.length - q.length+1):=by
 obtain⟨aF,h1,ex,h3⟩:=IM (an:=an) nw dP bT fW x 64 m aa f1 fd s3 (by left) (by left) Z (by left) f8;have nU:=Cg fd;have Os:=nw _ (gJ np);obtain⟨b0,KM,aS⟩:=abO (A:=A) (an:=an) (aa:=il Q an q x aa) (f1:=aF) (q:=q) nw dP np (λev h=>s3 ev (fd.subset h)) (by left) (by left) h3 (Rq Os h3) h1;refine⟨b0,KM,?_,abR Os h3⟩;unfold v9;have cr:dC (Do 277 4)=kR (dC (Do 277 4))::(dC (Do 277 4)).drop 1:=by kernel_rfl
 refine(GT (λb=>TT _ b _ _) cr).trans ?_;refine zn ?_ aS
 conv=>
  lhs
  arg 4
  whnf
 apply tA;·kernel_rfl
 ·refine iz ?_ ex;kernel_rfl
theorem abU{A:p (p E)}{x:p E}(nw:∀l∈Q,l.Good)(dP:Q.length≤5)(bT:(A++[[]])[Q.length]?=j [])(fW:A.length≤50)(s3:∀ev∈x,ev<Q.length)(ln:x.length≤Q.length)(pc:m+x.length≤2*Q.length)(Z:aa.ab m)(f8:mE (x=[]) f1):∃aF,aF.lookup ("len":X)=bn/\v9 (cN Q A an (("i",.int (Q.length:E))::f1)) (fY an (x.map (pr Q)) x aa)=j (.next,cN Q A an (("i",.int (Q.length:E))::aF),fY an [] [] (il Q an [] x aa))/\(il Q an [] x aa).ab (m+x.length):=by
 obtain⟨aF,h1,ex,h3⟩:=IM (an:=an) (q:=[]) nw dP bT fW x 64 m aa f1 (Ui) s3 (by left) (by left) Z (by left) f8;have aS:=h1.len;refine⟨aF,aS,?_,h3⟩;unfold v9;have cr:dC (Do 277 4)=kR (dC (Do 277 4))::(dC (Do 277 4)).drop 1:=by kernel_rfl
 refine(GT (λb=>TT _ b _ _) cr).trans ?_;have bU:=abN (e:=Q.length);refine zn (bx:=cN Q A an (("i",.int (Q.length:E))::aF)) (al:=fY an [] [] (il Q an [] x aa)) ?_ ?_
 ·conv=>
   lhs
   arg 4
   whnf
  apply tA;·kernel_rfl
  ·refine iz ?_ ex;kernel_rfl
 ·unfold cN
  conv=>
   lhs
   arg 2
   whnf
  apply zn
  ·apply iJ;·kernel_rfl
   ·right;apply dq;·kernel_rfl
    ·right;exact aS
    ·kernel_rfl
    ·right
    ·exact mz (by kernel_rfl) (qa (k:=Q.length) (by rw[aK]) (by left))
    ·exact bU
   ·exact cM
  ·exact cM
theorem Rr{A:p (p E)}{i:E}{P:Prop}(f8:v' P f1):d5 o6 (jN (Do 277 4)) (.int (i:E)) (cN Q A an f1)=j (cN Q A an (("i",.int (i:E))::f1.tail)):=by cases f8 with|nil _ g=>subst g;kernel_rfl|mk k q g=>subst g;kernel_rfl
noncomputable def nZ(Q:p aZ)(an:E)(aa:dw):gY->dw|.close x=>o5 an (x.map (pr Q)) aa|.gZ x i=>match Q[i]? with|some l=>lA an (x.map (pr Q)) l aa|none=>aa
theorem Rt{A:p (p E)}(nw:∀l∈Q,l.Good)(dP:Q.length≤5)(fW:A.length≤50):∀(s5:p (p E)) (i m:E) (x:p E) (aa:dw) (f1:hf),pe Q.length i x s5->(∀k,k<s5.length->(A++[[]])[i+k]?=s5[k]?)->v' (x=[]) f1->x.length≤i->(∀ev∈x,ev<Q.length)->m+x.length≤2*i->aa.ab m->∃aF hO,aF.lookup ("len":X)=bn/\fQ o6 (jN (Do 277 4)) v9 (((bE s5.length).map (·+i)).map λk=>.int (k:E)) (cN Q A an f1) (fY an (x.map (pr Q)) x aa)=j (.next,cN Q A an (("i",.int (Q.length:E))::aF),fY an [] [] ((eD i x s5).foldl (nZ Q an) aa))/\((eD i x s5).foldl (nZ Q an) aa).ab hO/\hO≤2*Q.length
 |[],_,_,_,_,_,f0,_,_,_,_,_,_=>by cases f0
 |[e],i,m,x,aa,f1,f0,bT,f8,ln,s3,pc,Z=>by
  obtain⟨rfl,rfl⟩:=f0;have tN:=bT 0 (by decide);obtain⟨aF,az,h,ky⟩:=abU (an:=an) (x:=x) (f1:=f1.tail) nw dP tN fW s3 ln pc Z (f8.tail id);have g:(eD Q.length x [[]]).foldl (nZ Q an) aa=il Q an [] x aa:=by rw[IC];unfold il;rw[agR];rfl
  rw[g];refine⟨aF,_,az,?_,ky,pc⟩;show fQ o6 (jN (Do 277 4)) v9 [.int ((0+Q.length:E):m0)] (cN Q A an f1) (fY an (x.map (pr Q)) x aa)=_;rw[jZ];exact jc (Rr f8) h rfl
 |e::b::s5,i,m,x,aa,f1,f0,bT,f8,ln,s3,pc,Z=>by
  obtain⟨fd,np,f_⟩:=f0;have tN:(A++[[]])[i]?=j e.reverse.reverse:=by have:=bT 0 (by simp);rw[DR];exact this
  have nU:=Cg fd;obtain⟨b0,KM,h,ky⟩:=abT (an:=an) (f1:=f1.tail) nw dP tN fW fd s3 ln pc Z np (f8.tail λh=>by subst h;exact(DQ.mp fd).symm);obtain⟨aF,hO,az,eg,abV,Ru⟩:=Rt nw dP fW (b::s5) (i+1) _ (i::e.reverse) (lA an (e.reverse.map (pr Q)) Q[i] (il Q an e.reverse x aa)) _ f_ (λk gl=>by have:=bT (k+1) (by simp at gl⊢;left);rw[show i+(k+1)=i+1+k by left]at this;exact this) (.mk _ KM rfl) (by simp at nU⊢;left) (λev h=>by cases h with|head=>exact np|tail _ h=>exact s3 ev (fd.subset h)) (by simp only[iW];left) ky;have g:(eD i x (e::b::s5)).foldl (nZ Q an) aa=(eD (i+1) (i::e.reverse) (b::s5)).foldl (nZ Q an) (lA an (e.reverse.map (pr Q)) Q[i] (il Q an e.reverse x aa)):=by rw[y4,List.foldl_append,Ud,agR];·congr 1;show(match Q[i]? with|some l=>lA an (e.reverse.map (pr Q)) l (il Q an e.reverse x aa)|none=>il Q an e.reverse x aa)=_;rw[row_get np]
  rw[g];refine⟨aF,hO,az,?_,abV,Ru⟩;have bu:(((bE (e::b::s5).length).map (·+i)).map λk=>R.int (k:E))=.int (i:E)::((bE (b::s5).length).map (·+(i+1))).map λk=>.int (k:E):=by rw[iW,pm];simp[dG,KR];intro e db;left
  rw[bu];exact jc (Rr f8) h eg
noncomputable def tT:dw:=⟨["<r",">"],[]⟩
noncomputable def fB(Q:p aZ)(A:p (p E))(an:E):dw:=(eD 0 [] (A++[[]])).foldl (nZ Q an) tT
noncomputable def fC(Q:p aZ)(A:p (p E))(an:E):p E:=TW ((fB Q A an).out++dX (fB Q A an).data++[("</r>":X)])
noncomputable def Rv(wf A:R)(an:E):St:=TT (bq (kH hw) fZ o6) ((c0 (fdOf hw 277)).take 4) [("rows",wf),("above",A),("how",.int (an:E))] []
theorem abW(wf A:R):([0,1,2].map λan=>Rv wf A an)=[0,1,2].map λan=>(j (.next,("rows",wf)::("above",A)::("how",.int (an:E))::("out",.am 0)::("target",.am 1)::("pile",.am 6)::[],fY an [] [] tT):St):=by kernel_rfl
theorem abX{A:p (p E)}(t1:an∈[0,1,2])(nw:∀l∈Q,l.Good)(dP:Q.length≤5)(bT:A.length=Q.length)(f0:pe Q.length 0 [] (A++[[]]))(aV:(fC Q A an).length≤100000):a8 (kH hw) hw 277 [] [.ah (Q.map dA),.ah (bB A),.int (an:E)]=j (.str (Lt (fC Q A an))):=by
 obtain⟨aF,hO,az,h,ky,Ru⟩:=Rt (A:=A) (an:=an) nw dP (by left) (A++[[]]) 0 0 [] tT [] f0 (λk gl=>by rw[jZ]) (.nil rfl rfl) (Da _) (λev h=>by cases h) (Da _) ⟨(by decide),(by decide),(λs h=>by cases h),(by decide)⟩;rw[show(eD 0 [] (A++[[]])).foldl (nZ Q an) tT=fB Q A an from rfl]at h ky;have h1:=ky.out;have ex:=ky.data;have h3:=ky.len;have rs:=Rd (out:=(fB Q A an).out) (data:=(fB Q A an).data) (FM:=an==0) (r:=0) (P:=On []) (tag:="r") (.inl ⟨rfl,rfl⟩) (by left) (by left) ky.ne (by left);rw[show("</":X)++"r"++">"="</r>" by decide+kernel]at rs;have Rw:cW an []=0:=by unfold cW;split<;>rfl
 have abY:fX an []=0+1:=by unfold fX;rw[Rw];rfl
 have ap:fY an [] [] (fB Q A an)=a6 (fB Q A an).out (SB (an==0) V G 0) (fB Q A an).data (0+1) (On []):=by unfold fY;rw[Rw,abY];rfl
 rw[ap]at h;have ln:b2 (fdOf hw 277)=([("rows":X),"above","how"]:p X):=by kernel_rfl
 have cr:c0 (fdOf hw 277)=(c0 (fdOf hw 277)).take 4++[Do 277 4,Do 277 5,Do 277 6]:=by kernel_rfl
 have aS:=cV (abW (.ah (Q.map dA)) (.ah (bB A))) an t1;have aS:Rv (.ah (Q.map dA)) (.ah (bB A)) an=j (.next,cN Q A an [],fY an [] [] tT):=aS;have abZ:TT (bq (kH hw) fZ o6) ((c0 (fdOf hw 277)).take 4) [("rows",.ah (Q.map dA)),("above",.ah (bB A)),("how",.int (an:E))] []=_:=aS;have s3:mR "" ((fB Q A an).out++dX (fB Q A an).data++[("</r>":X)])=V:=vV (by have:(TW ((fB Q A an).out++dX (fB Q A an).data++[("</r>":X)])).length≤100000:=aV;exact aJ this (by decide));apply kK (hi:=.str (jk "" ((fB Q A an).out++dX (fB Q A an).data++[("</r>":X)]))) (o0:=cN Q A an (("i",.int (Q.length:E))::aF)) (wE:=a6 ((fB Q A an).out++dX (fB Q A an).data++[("</r>":X)]) (SB (an==0) V V 0) [] 0 (On []));·kernel_rfl
 ·rw[ln];simp only[c2,hY,lS];refine(GT (λb=>TT _ b _ _) cr).trans ?_;rw[rD,abZ];dsimp only;apply zn (bx:=cN Q A an (("i",.int (Q.length:E))::aF)) (al:=a6 (fB Q A an).out (SB (an==0) V G 0) (fB Q A an).data (0+1) (On []))
  ·conv=>
    lhs
    arg 4
    whnf
   apply vQ;·kernel_rfl
   ·kernel_rfl
   ·unfold cN;apply src_range (m:=Q.length+1);·kernel_rfl
    ·kernel_rfl
    ·right
    ·apply cC;·kernel_rfl
     ·apply hQ
      ·apply dq;·kernel_rfl
       ·right
       ·kernel_rfl
       ·right
       ·exact mz (by kernel_rfl) (qa (k:=Q.length) (by rw[aK]) (by left))
      ·right
      ·rfl
      ·rfl
     ·exact fz
    ·left
   ·rw[show(bE (Q.length+1)).map (λi=>R.int (i:E))=((bE (A++[[]]).length).map (·+0)).map λk=>.int (k:E) by simp[bT]];refine iz ?_ h;kernel_rfl
  apply zn (bx:=cN Q A an (("i",.int (Q.length:E))::aF)) (al:=a6 ((fB Q A an).out++dX (fB Q A an).data++[("</r>":X)]) (SB (an==0) V V 0) [] 0 (On []))
  ·conv=>
    lhs
    arg 4
    whnf
   apply fU;·kernel_rfl
   ·kernel_rfl
   ·apply ej (r:=.am 1) (al:=a6 (fB Q A an).out (SB (an==0) V G 0) (fB Q A an).data (0+1) (On [])) (k:=.ar 237 (cU (dn hw) hw 220 [])) (g3:=[.str "r"]) (f2:=a6 (fB Q A an).out (SB (an==0) V G 0) (fB Q A an).data (0+1) (On []));·kernel_rfl
    ·kernel_rfl
    ·kernel_rfl
    ·kernel_rfl
    ·kernel_rfl
    ·exact o3 (jL rfl lx) rs
  apply jM
  ·conv=>
    lhs
    arg 4
    whnf
   unfold cN;apply HS;·kernel_rfl
   ·right;·rfl
    ·exact strs_map _
    ·exact s3
  ·intro h;cases h
 ·rw[y5];rfl
abbrev bC:=X×p E
noncomputable def bp(n:bC):R:=hS n.1 (Lt (na n.1++n.2))
theorem ab0(g2:X):(bA.map λe=>(nR (hS e g2)).lookup ("less":X))=bA.map λa=>bn:=by kernel_rfl
theorem wb{n:bC}(h:n.1∈bA):bp n=.inst 121 (nR (bp n)):=Way h _
theorem Cr{n:bC}(h:n.1∈bA):d_ (bp n)=V:=by rw[wb h];rfl
theorem Rx{J:Sc}{n m:bC}(nk:J.gN 121 "less"=j (a8 (c4 hw) hw 111 []))(ae:n.1∈bA)(pc:m.1∈bA):ow J (bp n) "less" o=j (.qT 121 (a8 (c4 hw) hw 111 []))/\fb J (.qT 121 (a8 (c4 hw) hw 111 [])) (bp n) "less" [bp m] o=j (.bool (fA n.1 m.1),o):=by
 constructor;·have aS:=cV (ab0 (Lt (na n.1++n.2))) n.1 ae;have aS:(nR (bp n)).lookup ("less":X)=bn:=aS;rw[wb ae];exact(Lf aS).trans (gh nk)
 ·have wn:fa [bp m] o=j ([bp m],o):=jL (Cr pc) lx;have nw:=UDP ae pc (Lt (na n.1++n.2)) (Lt (na m.1++m.2));exact(Op (k:=λbQ wE=>(a8 (c4 hw) hw 111 [] (bp n::bQ)).map λl=>(l,wE)) wn).trans (gh nw)
noncomputable abbrev Cs:KT:=(fdOf hw 299).scope
noncomputable def IP(H:hf)(o:p ca):St:=TT (bq (dn hw) 39 Cs) (dC (Do 299 2)) H o
noncomputable def Ct(H:hf)(o:p ca):Y (ga×p ca):=cx (dn hw) 38 Cs (v4 (kR (dC (Do 299 2)))) H o
noncomputable def IQ(H:hf)(o:p ca):St:=TT (bq (dn hw) 38 Cs) (dC (kR (dC (Do 299 2)))) H o
noncomputable def je(op:p bC)(f1:hf):hf:=("leads",.ah (op.map bp))::("pile",.am 0)::("ways",.am 1)::f1
theorem ab1{op:p bC}{x:p E}{k:E}{A:p (p E)}(ln:x.length≤50):IQ (je op f1) (eN (k::x).reverse A)=j (.next,je op f1,eN x.reverse A):=by
 unfold IQ je
 conv=>
  lhs
  arg 2
  whnf
 apply zn
 ·apply fU;·kernel_rfl
  ·kernel_rfl
  ·apply ej;·kernel_rfl
   ·kernel_rfl
   ·right
   ·apply Ih;·rfl
    ·decide+kernel
    ·decide+kernel
   ·right
   ·apply Ca (n:=On x.reverse) (r:=.int (k:E));·unfold eN On;simp
    ·unfold On;simp;left
 ·right;rfl
noncomputable def kW(op:p bC)(i:E):bC:=(op[i]?).getD ("",[])
theorem Ry{op:p bC}{i:E}(h:i<op.length):op[i]?=j (kW op i):=by unfold kW;rw[k8 h];rfl
theorem IR{op:p bC}(dW:∀c∈op,c.1∈bA){i:E}(h:i<op.length):(kW op i).1∈bA:=by unfold kW;rw[k8 h];exact dW _ (gJ _)
noncomputable def gk(op:p bC)(i ev:E):ga:=fA (kW op i).1 (kW op ev).1
noncomputable def IS(op:p bC)(x:p E)(i:E):ga:=match x with|[]=>G|k::_=>!gk op k i
theorem Rz{op:p bC}{x:p E}{i:E}{A:p (p E)}(dW:∀c∈op,c.1∈bA)(aV:op.length≤50)(ln:∀k∈x,k<op.length)(eA:x.length≤50)(np:i<op.length):Ct (je op [("i",.int (i:E))]) (eN x.reverse A)=j (IS op x i,eN x.reverse A):=by
 cases x with
 |nil=>unfold Ct je;kernel_rfl
 |cons k x=>
  have gl:=ln k (.head _);have SZ:ci .NotEq (.ah (On (k::x).reverse)) (.ah [])=j V:=by have:=v2 Enc.int (by decide) (n:=(k::x).reverse) (m:=[]) (λa a=>trivial) (λa a=>trivial);rw[show decide ((k::x).reverse=[])=G by simp]at this;exact this
  have jD:gM (.ah (op.map bp)) (.int (k:E))=j (bp (kW op k)):=p_ (by rw[hX,Ry gl];rfl) (by rw[aK];left);have jE:gM (.ah (op.map bp)) (.int (i:E))=j (bp (kW op i)):=p_ (by rw[hX,Ry np];rfl) (by rw[aK];left);have Im:gM (.ah (On (k::x).reverse)) (.int (-1))=j (.int (k:E)):=by rw[yY];exact item_last (by unfold On;simp at eA⊢;left)
  have y_:=Rx (J:=dn hw) (o:=eN (k::x).reverse A) (by kernel_rfl) (IR dW gl) (IR dW np);unfold Ct je
  conv=>
   lhs
   arg 4
   whnf
  apply my;apply HR;·right;exact SZ
  ·apply Ii;apply P8;apply P' (r:=.bool (gk op k i)) (al:=eN (k::x).reverse A)
   ·apply ej;·kernel_rfl
    ·kernel_rfl
    ·apply fo;·kernel_rfl
     ·right
     ·apply fo;·kernel_rfl
      ·right
      ·right
      ·exact Im
     ·exact jD
    ·exact y_.1
    ·apply cC;·kernel_rfl
     ·apply fo;·kernel_rfl
      ·right
      ·right
      ·exact jE
     ·exact fz
    ·exact y_.2
   ·rfl
theorem RA{op:p bC}{i:E}{A:p (p E)}(dW:∀c∈op,c.1∈bA)(aV:op.length≤50)(np:i<op.length):∀(x:p E) (z:E),(∀k∈x,k<op.length)->x.length≤50->x.length<z->gT Ct IQ z (je op [("i",.int (i:E))]) (eN x.reverse A)=j (.next,je op [("i",.int (i:E))],eN (ek (λk=>!gk op k i) x).reverse A)
 |[],z+1,ln,eA,pi=>o1 (Rz dW aV ln eA np)
 |k::x,z+1,ln,eA,pi=>by
  have t:=Rz (A:=A) dW aV ln eA np;have y0:x.length≤50:=by simp at eA;left
  rw[v3];by_cases cr:(!gk op k i)=V;·rw[tt cr];rw[show IS op (k::x) i=V from cr]at t;exact yV t (ab1 y0) (RA dW aV np x z (λev s3=>ln ev (.tail _ s3)) y0 (by simp at pi;left))
  ·rw[ss cr];rw[show IS op (k::x) i=G from lP.mpr cr]at t;exact o1 t
theorem ab2{op:p bC}{i:E}{A:p (p E)}{x:p E}(dW:∀c∈op,c.1∈bA)(aV:op.length≤50)(np:i<op.length)(ln:∀k∈x,k<op.length)(eA:x.length≤50)(bT:A.length≤50):IP (je op [("i",.int (i:E))]) (eN x.reverse A)=j (.next,je op [("i",.int (i:E))],eN (i::ek (λk=>!gk op k i) x).reverse (A++[(ek (λk=>!gk op k i) x).reverse])):=by
 have d8:=RA (A:=A) dW aV np x 64 ln eA (by left);have nU:(ek (λk=>!gk op k i) x).length≤50:=aJ v5 eA;unfold je at d8;generalize ek (λk=>!gk op k i) x=q at d8 nU;unfold IP je
 conv=>
  lhs
  arg 2
  whnf
 apply zn
 ·apply tA;·kernel_rfl
  ·refine iz ?_ d8;kernel_rfl
 apply zn
 ·apply fU;·kernel_rfl
  ·kernel_rfl
  ·apply ej;·kernel_rfl
   ·kernel_rfl
   ·right
   ·apply tF;·rfl
    ·kernel_rfl
   ·apply cC;·kernel_rfl
    ·apply dq;·kernel_rfl
     ·right
     ·kernel_rfl
     ·right
     ·exact mz (by kernel_rfl) (Qz (by unfold On;simp;left))
    ·right
   ·apply rv;·rfl
    ·rfl
    ·exact b6 (by unfold bB;simp;left)
 apply zn
 ·apply fU;·kernel_rfl
  ·kernel_rfl
  ·apply ej;·kernel_rfl
   ·kernel_rfl
   ·right
   ·apply tF;·rfl
    ·kernel_rfl
   ·right
   ·apply rv;·rfl
    ·rfl
    ·exact b6 (by unfold On;simp;left)
 rw[cM];unfold eN bB On;simp
theorem RB{op:p bC}(dW:∀c∈op,c.1∈bA)(aV:op.length≤50):∀(z i:E) (x:p E) (A:p (p E)) (f1:hf),(f1=[]\/∃k:E,f1=([("i",.int k)]:hf))->i+z≤op.length->(∀k∈x,k<op.length)->x.length≤i->A.length≤i->∃aF d',fQ Cs (jN (Do 299 2)) IP (((bE z).map (·+i)).map λk=>.int (k:E)) (je op f1) (eN x.reverse A)=j (.next,je op aF,eN d' (A++jP (gk op) z i x))
 |0,i,x,A,f1,f8,np,ln,eA,bT=>⟨f1,x.reverse,by rw[QC,c2];rfl⟩
 |z+1,i,x,A,f1,f8,np,ln,eA,bT=>by
  obtain⟨aF,d',h⟩:=RB dW aV z (i+1) (i::ek (λk=>!gk op k i) x) (A++[(ek (λk=>!gk op k i) x).reverse]) [("i",.int (i:E))] (.inr ⟨i,rfl⟩) (by left) (λk gl=>by cases gl with|head=>left|tail _ gl=>exact ln k (yZ k gl)) (by have:=v5 (jg:=λk=>!gk op k i) (x:=x);simp;left) (by simp;left);refine⟨aF,d',?_⟩;have g:((bE (z+1)).map (·+i)).map (λk=>R.int (k:E))=.int (i:E)::((bE z).map (·+(i+1))).map (λk=>R.int (k:E)):=by rw[pm];simp[dG,KR];intro e db;left
  rw[g];refine jc (bx:=je op [("i",.int (i:E))]) ?_ (ab2 dW aV (by left) ln (by left) (by left)) ?_;·unfold je;rcases f8 with rfl|⟨k,rfl⟩<;>kernel_rfl
  ·rw[tJ];rw[e8]at h;exact h
theorem ab3{op:p bC}(dW:∀c∈op,c.1∈bA)(aV:op.length≤50):a8 (dn hw) hw 299 [] [.ah (op.map bp)]=j (.ah (bB (kQ (gk op) op.length))):=by
 obtain⟨aF,d',h⟩:=RB dW aV op.length 0 [] [] [] (.inl rfl) (by simp) (λk gl=>by cases gl) (Da _) (Da _);rw[show[]++jP (gk op) op.length 0 []=kQ (gk op) op.length by rfl]at h;apply kK (wE:=eN d' (kQ (gk op) op.length)) (hi:=.am 1);·kernel_rfl
 ·conv=>
   lhs
   arg 2
   whnf
  rw[show b2 (fdOf hw 299)=([("leads":X)]:p X) by kernel_rfl];simp only[c2,hY,lS];apply zn;·right
  apply zn;·right
  apply zn
  ·apply vQ;·kernel_rfl
   ·kernel_rfl
   ·apply src_range (m:=op.length);·kernel_rfl
    ·kernel_rfl
    ·right
    ·apply cC;·kernel_rfl
     ·apply dq;·kernel_rfl
      ·right
      ·kernel_rfl
      ·right
      ·exact mz (by kernel_rfl) (qa (by simp) (by left))
     ·exact fz
    ·left
   ·rw[show(bE op.length).map (λi=>R.int (i:E))=((bE op.length).map (·+0)).map λk=>.int (k:E) by simp];refine iz ?_ h;kernel_rfl
  unfold je;apply jM;·right
  ·intro h;cases h
 ·rfl
variable{op jf:p bC}
theorem RC{n:p E}{b:E}(ex:b≤n.length):ph (Lt n) bn (j (b:m0))=Lt (n.take b):=by have:=slice_closes_toL (x:=Lt n) (j:=(b:m0)) (by left) (by rw[<- ik,dB];left);have g:=eq_of_beq this;rw[g];show Lt (((na (Lt n)).drop (0:m0).toNat).take ((b:m0) - 0).toNat)=_;rw[dB];rfl
noncomputable def c8(n:bC):X:=Lt (na n.1++n.2)
noncomputable def gC(n:bC):ga:=n.2.take 2==na "<x"
noncomputable def kk(a4:Y bC)(n:bC):ga:=match a4 with|none=>V|some h=>!fA h.1 n.1
noncomputable def kl:Y bC->p bC->p X|_,[]=>[]|a4,n::l=>if kk a4 n then n.1::kl (if gC n then j n else bn) l else kl a4 l
theorem RD{h:Y bC}{n:bC}{l:p bC}:kl h (n::l)=if kk h n=V then n.1::kl (if gC n then j n else bn) l else kl h l:=rfl
noncomputable def IT:Y bC->R|none=>.none|some h=>bp h
noncomputable abbrev za:KT:=(fdOf hw 306).scope
noncomputable def IU(H:hf)(o:p ca):St:=TT (bq (dn hw) 39 za) (dC (Do 306 2)) H o
noncomputable def iN(lw:R)(a4:Y bC)(f1:hf):hf:=("lines",lw)::("kept",.am 0)::("held",IT a4)::f1
noncomputable def gD(t3:p X):p ca:=[.list (t3.map .str)]
structure bC.ab(n:bC):Prop where
 aA:n.1∈bA
 tail:n2 n.2
 two:2≤n.2.length
 len:n.2.length≤50000
theorem ab4{lw:R}{a4:Y bC}{n:bC}{b0:hf}{t3:p X}(t1:∀h,a4=j h->h.1∈bA)(ae:n.ab)(gl:t3.length≤1000)(KM:b0=[]\/∃b,b0=([("lead",b)]:hf)):IU (iN lw a4 (("line",.str (c8 n))::b0)) (gD t3)=j (.next,iN lw (if kk a4 n then(if gC n then j n else bn)else a4) [("line",.str (c8 n)),("lead",bp n)],gD (t3++if kk a4 n then[n.1]else[])):=by
 have RE:(na n.1).length≤10:=(by decide+kernel:∀c∈bA,(na c).length≤10) _ ae.aA;have ex:=ae.two;have h3:=ae.len;have aV:(c8 n).length=(na n.1).length+n.2.length:=by unfold c8;rw[<- ik,dB,ct]
 have sc:H1 (c8 n).length=V:=b6 (by rw[aV];left);have dt:(dn hw).fn "Whitespace"=j (oV 121 (cU a5 hw 76 [])):=by kernel_rfl
 have d8:oV 121 (cU a5 hw 76 []) [.str (c8 n)]=j (bp n):=Qs ae.aA ae.tail (by left);have ab5:Pv b0 "lead" (bp n)=([("lead",bp n)]:hf):=by rcases KM with rfl|⟨b,rfl⟩<;>kernel_rfl
 have np:=wb ae.aA;have pi:(nR (bp n)).lookup ("n":X)=j (.int ((na n.1).length:E)):=Qt ae.aA _;have hK:=Cr ae.aA;have zb:∀z H o x a_,H.lookup ("lead":X)=j (bp n)->sB (dn hw) (z+1) za (.Attribute (.Name "lead" a_) "n" x) H o=j (.int ((na n.1).length:E),o):=λz H o x a_ Uf=>P7 (by kernel_rfl) Uf (by rw[np];rfl) pi (by kernel_rfl);have cT:ph (c8 n) (j ((na n.1).length:m0)) (j (((na n.1).length+2:E):m0))=Lt (n.2.take 2):=by unfold c8;rw[Qk (by left) (by rw[ct];left)];congr 1;rw[List.drop_left,show(na n.1).length+2 - (na n.1).length=2 by left]
 have wa:ph (c8 n) bn (j ((na n.1).length:m0))=n.1:=by unfold c8;rw[RC (by rw[ct];left),agS,vT]
 have tE:ci .Eq (.str (Lt (n.2.take 2))) (.str "<x")=j (gC n):=by rw[tK];unfold gC;congr 1;rw[j0,bt,bt];exact⟨λh=>by rw[<- h,dB],λh=>tC (by rw[dB,h])⟩
 unfold IU iN
 conv=>
  lhs
  arg 2
  whnf
 apply zn (bx:=iN lw a4 [("line",.str (c8 n)),("lead",bp n)])
 ·apply ja;·kernel_rfl
  ·kernel_rfl
  ·kernel_rfl
  ·apply dq;·kernel_rfl
   ·right;rcases KM with rfl|⟨b,rfl⟩<;>kernel_rfl
   ·kernel_rfl
   ·right
   ·exact fV dt rfl d8
  ·unfold iN;right;exact ab5
 refine zn (bx:=iN lw (if kk a4 n then(if gC n then j n else bn)else a4) [("line",.str (c8 n)),("lead",bp n)]) (al:=gD (t3++if kk a4 n then[n.1]else[])) ?_ cM;apply p9 (t:=kk a4 n) (al:=gD t3);·kernel_rfl
 ·apply my;unfold iN;cases a4 with
  |none=>
   apply Rep;apply gi;·kernel_rfl
   ·right
   ·right
   ·rfl
  |some h=>
   have iI:=t1 h rfl;have y_:=Rx (J:=dn hw) (o:=gD t3) (by kernel_rfl) iI ae.aA;apply vO
   ·apply gi;·kernel_rfl
    ·right
    ·right
    ·show ci .Is (view _ (bp h)) (view _ R.none)=_;rw[wb iI];rfl
   ·have bR:∀{ax:c6} {g:bv} {t:ga} {o:p ca},ax g o=j (t,o)->h9 ax .Or [g] o=j (t,o):=λ{ax g t o} h=>ox.trans<|(Op h).trans (t.rec rfl rfl);apply bR;apply P8;apply P' (r:=.bool (fA h.1 n.1)) (al:=gD t3)
    ·apply ej;·kernel_rfl
     ·kernel_rfl
     ·right
     ·exact y_.1
     ·apply cC;·kernel_rfl
      ·right
      ·exact fz
     ·exact y_.2
    ·rfl
 ·by_cases wT:kk a4 n=V
  ·rw[tt wT,tt wT,tt wT];unfold iN;apply zn (bx:=iN lw (if gC n then j n else bn) [("line",.str (c8 n)),("lead",bp n)]) (al:=gD t3)
   ·apply ja (r:=IT (if gC n then j n else bn));·kernel_rfl
    ·kernel_rfl
    ·kernel_rfl
    ·cases f8:gC n with
     |true=>
      show sB _ _ _ _ _ _=j (bp n,_);apply yG (al:=gD t3)
      ·apply gi;·kernel_rfl
       ·apply vW (T:=.str (c8 n)) (n:=j ((na n.1).length:m0)) (h:=j (((na n.1).length+2:E):m0)) (al:=gD t3) (f2:=gD t3);·right
        ·apply nO;exact zb _ _ _ _ _ (by kernel_rfl)
        ·apply nO;apply hQ;·exact zb _ _ _ _ _ (by kernel_rfl)
         ·exact ru
         ·rfl
         ·rfl
        ·rfl
        ·exact sc
       ·right
       ·rw[cT];rw[f8]at tE;exact tE
      ·right
     |false=>
      show sB _ _ _ _ _ _=j (R.none,_);apply yH (al:=gD t3)
      ·apply gi;·kernel_rfl
       ·apply vW (T:=.str (c8 n)) (n:=j ((na n.1).length:m0)) (h:=j (((na n.1).length+2:E):m0)) (al:=gD t3) (f2:=gD t3);·right
        ·apply nO;exact zb _ _ _ _ _ (by kernel_rfl)
        ·apply nO;apply hQ;·exact zb _ _ _ _ _ (by kernel_rfl)
         ·exact ru
         ·rfl
         ·rfl
        ·rfl
        ·exact sc
       ·right
       ·rw[cT];rw[f8]at tE;exact tE
      ·right
    ·unfold iN;right
   ·unfold iN;refine zn ?_ cM;apply rG (r:=.str n.1) (al:=gD t3) (i:=0);·kernel_rfl
    ·kernel_rfl
    ·kernel_rfl
    ·kernel_rfl
    ·right
    ·have vY:sB (dn hw) 36 za (.Subscript (.Name "line" ⟨0,0,0,0⟩) (.Slice bn (j (.Attribute (.Name "lead" ⟨0,0,0,0⟩) "n" ⟨0,0,0,0⟩)) bn ⟨0,0,0,0⟩) ⟨0,0,0,0⟩) [("lines",lw),("kept",R.am 0),("held",IT (if gC n=V then j n else bn)),("line",R.str (c8 n)),("lead",bp n)] (gD t3)=j (.str (ph (c8 n) bn (j ((na n.1).length:m0))),gD t3):=by
      apply vW (T:=.str (c8 n)) (n:=bn) (h:=j ((na n.1).length:m0)) (al:=gD t3) (f2:=gD t3);·right
      ·exact yM
      ·apply nO;exact zb _ _ _ _ _ (by kernel_rfl)
      ·rfl
      ·exact sc
     rw[wa]at vY;exact vY
    ·exact⟨_,rfl⟩
    ·kernel_rfl
    ·rfl
    ·rw[aK];left
    ·rfl
    ·unfold gD;rw[jo];rfl
  ·rw[ss wT,ss wT,ss wT,c2];exact cM
theorem ab6{lw e:R}{a4:Y bC}(f8:f1=[]\/∃b t,f1=([("line",b),("lead",t)]:hf)):d5 za (jN (Do 306 2)) e (iN lw a4 f1)=j (iN lw a4 (("line",e)::f1.tail)):=by rcases f8 with rfl|⟨b,t,rfl⟩<;>kernel_rfl
theorem ab7{lw:R}:∀(op:p bC) (a4:Y bC) (f1:hf) (t3:p X),(∀n∈op,n.ab)->(∀h,a4=j h->h.1∈bA)->t3.length+op.length≤1000->(f1=[]\/∃b t,f1=([("line",b),("lead",t)]:hf))->∃wc aF,fQ za (jN (Do 306 2)) IU (op.map λn=>.str (c8 n)) (iN lw a4 f1) (gD t3)=j (.next,iN lw wc aF,gD (t3++kl a4 op)):=λcc=>cc.rec (λa4 f1 t3 ae t1 gl f8=>⟨a4,f1,by rw[show kl a4 []=[]from rfl,c2];rfl⟩) λn op ih a4 f1 t3 ae t1 gl f8=>by
  have Z:=ae n (.head _);simp only[iW]at gl;have ty:=ab4 (lw:=lw) (b0:=f1.tail) (t3:=t3) t1 Z (by left) (by
   rcases f8 with rfl|⟨b,t,rfl⟩;·exact .inl rfl
   ·exact .inr ⟨t,rfl⟩)
  obtain⟨wc,aF,h⟩:=ih (if kk a4 n then(if gC n then j n else bn)else a4) [("line",.str (c8 n)),("lead",bp n)] (t3++if kk a4 n then[n.1]else[]) (λbo h=>ae bo (.tail _ h)) (λeg g=>by
   split at g
   ·split at g;·cases g;exact Z.aA
    ·cases g
   ·exact t1 eg g) (by
    have:∀t:ga,(if t=V then[n.1]else[]).length≤1:=λt=>by cases t<;>simp
    have:=this (kk a4 n);rw[ct];left) (.inr ⟨_,_,rfl⟩)
  refine⟨wc,aF,?_⟩;have g:t3++kl a4 (n::op)=(t3++if kk a4 n then[n.1]else[])++kl (if kk a4 n then(if gC n then j n else bn)else a4) op:=by
   rw[RD];by_cases wT:kk a4 n=V;·rw[tt wT,tt wT,tt wT];simp
   ·rw[ss wT,ss wT,ss wT];simp
  rw[g];exact jc (ab6 f8) ty h
theorem ab8(ae:∀n∈op,n.ab)(aV:op.length≤500):a8 (dn hw) hw 306 [] [.ah (op.map λn=>.str (c8 n))]=j (.ah ((kl bn op).map .str)):=by
 obtain⟨wc,aF,h⟩:=ab7 (lw:=.ah (op.map λn=>.str (c8 n))) op bn [] [] ae (λh g=>by cases g) (by simp;left) (.inl rfl);have sc:H1 (op.map λn=>R.str (c8 n)).length=V:=b6 (by rw[aK];left);apply kK (wE:=gD (kl bn op)) (hi:=.am 0) (o0:=iN (.ah (op.map λn=>.str (c8 n))) wc aF);·kernel_rfl
 ·conv=>
   lhs
   arg 2
   whnf
  rw[show b2 (fdOf hw 306)=([("lines":X)]:p X) by kernel_rfl];simp only[c2,hY,lS];apply zn;·right
  apply zn;·right
  apply zn (bx:=iN (.ah (op.map λn=>.str (c8 n))) wc aF) (al:=gD (kl bn op))
  ·apply vQ;·kernel_rfl
   ·kernel_rfl
   ·apply kL;·kernel_rfl
    ·right
    ·exact sc
   ·refine iz ?_ h;kernel_rfl
  unfold iN;apply jM;·right
  ·intro h;cases h
 ·rfl
noncomputable abbrev Cu:KT:=(fdOf hw 311).scope
noncomputable abbrev dD:oH:=bq (gz hw) fZ Cu
noncomputable abbrev b3(Q:p aZ):p (p E):=rF (Q.map (·.aA))
noncomputable abbrev cz(Q:p aZ):p dI:=tO Q (b3 Q)
noncomputable def hT(Q:p aZ):R:=.ah (Q.map dA)
noncomputable def numsOf(n:p m0):p E:=425::((if n=[]then[916]else n.take 3).map λc=>(c.fmod 1920).toNat)++[368]
theorem ab9(z:E)(ae:n.length≤100000):m_ bn (j (z:m0)) n=n.take z:=by
 unfold m_;have g:wB bn (j (z:m0)) bn n.length=(((0:E):m0),((min z n.length:E):m0),1):=by
  unfold wB;have az:¬((z:m0)<0):=by left
  simp[az];left
 rw[g];dsimp only;rw[sliceRange_one,T6];have:∀k≤n.length,((bE k).map (0+·)).filterMap (λi=>n[i]?)=n.take k:=by intro k;induction k with|zero=>intro _;rfl|succ k ih=>intro gl;rw[DP,jo,agJ,ih (by left),agK];congr 1;rw[cs,zM,r2,jZ,k8 (by left)];rfl
 rw[this _ (by left)];rcases afR z n.length with h|h
 ·rw[Nat.min_eq_left h]
 ·rw[Nat.min_eq_right h,agL,Ue h]
theorem zc{x q:p R}(h:x.length+q.length≤1000000):jy .Add (.ah x) (.ah q)=j (x++q):=GT (dZ · _) (Re (b6 h))
theorem aca{J:Sc}{z:E}{bs:KT}{H:hf}{e b:bv}(h:sB J z bs e H o=j (r,al))(ty:gu (view al r)=j V):sB J (z+1) bs (.BoolOp .Or [e,b] x) H o=j (r,al):=by exact Wb.trans<|show s4 (sB J z bs e H o) (λr al=>b9 (gu (view al r)) λu=>c9 (u==(BoolOp.Or==afA)) (sB J z bs b H al) (j (r,al)))=_ from(Op h).trans (eS ty)
theorem acb{c:m0}:iB .Mod (.int c) (.int 1920)=j (.int ((c.fmod 1920).toNat:E)):=by show j (R.int (c.fmod 1920))=_;rw[S1 (Int.fmod_nonneg_of_pos c (by decide))]
theorem acd{n:p m0}(ae:n.length≤63):dD (Do 311 0) [("script",.ah (n.map .int))] []=(j (.next,[("script",.ah (n.map .int)),("rows",hT ((numsOf n).map hp))],[]):St):=by
 have dt:(gz hw).fn "_law_rows"=j (a8 a5 hw 267 []):=by kernel_rfl
 have sc:H1 (n.map R.int).length=V:=b6 (by rw[aK];left);have ace:m_ bn (j 3) (n.map R.int)=(n.take 3).map .int:=by rw[show(3:m0)=((3:E):m0)from rfl,ab9 3 (by rw[aK];left),List.map_take]
 generalize i6:(if n=[]then[916]else n.take 3)=f1;have ys:f1.length≤3:=by
  rw[<- i6];split;·simp
  ·simp;left
 have yu:(numsOf n).length≤1000:=by unfold numsOf;rw[i6];simp;left
 unfold dD
 conv=>
  lhs
  arg 4
  whnf
 apply ja (r:=hT ((numsOf n).map hp));·kernel_rfl
 ·kernel_rfl
 ·kernel_rfl
 ·apply dq (g3:=[.ah ((numsOf n).map λz=>.int (z:E))]) (al:=[]);·kernel_rfl
  ·kernel_rfl
  ·kernel_rfl
  ·apply cC;·kernel_rfl
   ·have g:(numsOf n).map (λz=>R.int (z:E))=([.int 425]++f1.map (λc=>R.int ((c.fmod 1920).toNat:E)))++[.int 368]:=by unfold numsOf;rw[i6];simp
    rw[g];apply vN (e:=.ah ([.int 425]++f1.map (λc=>R.int ((c.fmod 1920).toNat:E)))) (b:=.ah [.int 368]) (al:=[]) (f2:=[])
    ·apply vN (e:=.ah [.int 425]) (b:=.ah (f1.map (λc=>R.int ((c.fmod 1920).toNat:E)))) (al:=[]) (f2:=[]);·kernel_rfl
     ·apply kM (n:=f1.map .int) (al:=[]);·kernel_rfl
      ·right
      ·apply kL;·kernel_rfl
       ·have fd:∀z x a_ bF g2 eU,sB (gz hw) (z+2) Cu (.Subscript (.Name "script" x) (.Slice bn (j (.Constant (.int 3) g2 a_)) bn bF) eU) [("script",.ah (n.map .int))] []=j (.ah ((n.take 3).map .int),[]):=λz x a_ bF g2 eU=>by rw[<- ace];exact QK (T:=.ah (n.map .int)) (gB (by kernel_rfl) vP) yM (nO ru) rfl sc
        cases n with|nil=>rw[tt rfl]at i6;subst i6;kernel_rfl|cons e l=>rw[ss (by intro h;cases h)]at i6;subst i6;exact aca (fd _ _ _ _ _ _) (IG (by simp;left) (by simp))
       ·exact b6 (by rw[aK];left)
      ·exact b6 (by rw[aK];left)
      ·rw[show f1.map (λc:m0=>R.int ((c.fmod 1920).toNat:E))=f1.filterMap (λc:m0=>j (R.int ((c.fmod 1920).toNat:E)))from(zZ (z0 (f:=λc:m0=>R.int ((c.fmod 1920).toNat:E))) f1).symm];refine nK (d:=λc:m0=>j (R.int ((c.fmod 1920).toNat:E))) λc a=>?_;apply ij;·right
       ·exact kJ
       ·apply hQ;·right
        ·right
        ·rfl
        ·exact acb
       ·rfl
     ·exact zc (by simp;left)
    ·kernel_rfl
    ·exact zc (by simp;left)
   ·exact fz
  ·exact fV dt rfl (aaN yu)
 ·kernel_rfl
noncomputable def jT(Q:p aZ)(an:E):X:=Lt (fC Q (b3 Q) an)
noncomputable def io(Q:p aZ)(t3:p E):X:=Lt (TW (gW (cz Q) t3))
noncomputable def da(S:R)(Q:p aZ)(f1:hf):hf:=("script",S)::("rows",hT Q)::("above",.ah (bB (b3 Q)))::("pieces",.ah ((cz Q).map eL))::("cut",.str (jT Q 0))::("marked",.str (jT Q 1))::("whole",.str (jT Q 2))::f1
noncomputable def iO(Q:p aZ)(f1:hf):hf:=("shorn",.str (io Q [0]))::("plain",.str (io Q [0,2]))::f1
structure qd(Q:p aZ):Prop where
 good:∀l∈Q,l.Good
 len:Q.length≤5
 told:∀an∈[0,1,2],(fC Q (b3 Q) an).length≤10000
 acf:TW (nN (cz Q) [0,1])=fC Q (b3 Q) 0
 acg:TW (nN (cz Q) [0,1,2,3,4])=fC Q (b3 Q) 1
 ach:TW (nN (cz Q) [0,1,2,3])=fC Q (b3 Q) 2
 bN:∀an∈[0,1,2],hR G G (fC Q (b3 Q) an)=G
 rl:dr G G (fC Q (b3 Q) 0)=TW (gW (cz Q) [0])
 IV:dr G G (fC Q (b3 Q) 1)=TW (gW (cz Q) [0,3])
 Cv:dr G G (fC Q (b3 Q) 2)=TW (gW (cz Q) [0,2])
 ju:∀x∈cz Q,x.kind<5
 pt:∀x∈cz Q,x.text.length≤1000
 bK:(cz Q).length≤1000
theorem rL(Q:p aZ):(b3 Q).length=Q.length:=by unfold b3 rF kQ;rw[Q0,aK]
theorem Cw(Q:p aZ):pe Q.length 0 [] (b3 Q++[[]]):=by unfold b3 rF kQ;exact abe _ _ _ (by rw[aK];left)
section
variable{S:R}(F:qd Q)
include F
theorem aci:dD (Do 311 1) [("script",S),("rows",hT Q)] []=(j (.next,[("script",S),("rows",hT Q),("above",.ah (bB (b3 Q)))],[]):St):=by
 have dt:(gz hw).fn "_law_above"=j (a8 (c4 hw) hw 272 []):=by kernel_rfl
 have nw:=aaY (λl h=>(F.good l h).aA) (by have:=F.len;left);unfold dD
 conv=>
  lhs
  arg 4
  whnf
 apply ja;·kernel_rfl
 ·kernel_rfl
 ·kernel_rfl
 ·apply dq (g3:=[hT Q]) (al:=[]);·kernel_rfl
  ·kernel_rfl
  ·kernel_rfl
  ·kernel_rfl
  ·exact fV dt rfl nw
 ·kernel_rfl
theorem acj:dD (Do 311 2) [("script",S),("rows",hT Q),("above",.ah (bB (b3 Q)))] []=(j (.next,[("script",S),("rows",hT Q),("above",.ah (bB (b3 Q))),("pieces",.ah ((cz Q).map eL))],[]):St):=by
 have dt:(gz hw).fn "_law_pieces"=j (a8 a5 hw 282 []):=by kernel_rfl
 have nw:=abd F.good (by have:=F.len;left) (rL Q) (Cw Q) F.bK;unfold dD
 conv=>
  lhs
  arg 4
  whnf
 apply ja;·kernel_rfl
 ·kernel_rfl
 ·kernel_rfl
 ·apply dq (g3:=[hT Q,.ah (bB (b3 Q))]) (al:=[]);·kernel_rfl
  ·kernel_rfl
  ·kernel_rfl
  ·kernel_rfl
  ·exact fV dt rfl nw
 ·kernel_rfl
theorem IW(t1:an∈[0,1,2]):a8 (kH hw) hw 277 [] [hT Q,.ah (bB (b3 Q)),.int (an:E)]=j (.str (jT Q an)):=abX t1 F.good F.len (rL Q) (Cw Q) (by have:=F.told an t1;left)
theorem ack:TT dD [Do 311 3,Do 311 4,Do 311 5] [("script",S),("rows",hT Q),("above",.ah (bB (b3 Q))),("pieces",.ah ((cz Q).map eL))] []=(j (.next,da S Q [],[]):St):=by
 have dt:(gz hw).fn "_law_told"=j (a8 (kH hw) hw 277 []):=by kernel_rfl
 unfold dD
 conv=>
  lhs
  arg 2
  whnf
 apply zn
 ·apply ja;·kernel_rfl
  ·kernel_rfl
  ·kernel_rfl
  ·apply dq (g3:=[hT Q,.ah (bB (b3 Q)),.int ((0:E):m0)]) (al:=[]);·kernel_rfl
   ·kernel_rfl
   ·kernel_rfl
   ·kernel_rfl
   ·exact fV dt rfl (IW F (by decide))
  ·right
 apply zn
 ·apply ja;·kernel_rfl
  ·kernel_rfl
  ·kernel_rfl
  ·apply dq (g3:=[hT Q,.ah (bB (b3 Q)),.int ((1:E):m0)]) (al:=[]);·kernel_rfl
   ·kernel_rfl
   ·kernel_rfl
   ·kernel_rfl
   ·exact fV dt rfl (IW F (by decide))
  ·right
 apply zn
 ·apply ja;·kernel_rfl
  ·kernel_rfl
  ·kernel_rfl
  ·apply dq (g3:=[hT Q,.ah (bB (b3 Q)),.int ((2:E):m0)]) (al:=[]);·kernel_rfl
   ·kernel_rfl
   ·kernel_rfl
   ·kernel_rfl
   ·exact fV dt rfl (IW F (by decide))
  ·right
 exact cM
omit F in
theorem wt:ci .NotEq (.str c) (.str c)=j G:=by show j (na c !=na c)=_;rw[zU]
omit F in
theorem RF{ax:c6}{y9:bv}(h1:ax g' o=j (G,o))(ex:ax jt o=j (G,o))(h3:ax y9 o=j (G,o)):h9 ax .Or [g',jt,y9] o=j (G,o):=vO h1 (vO ex (vO h3 rfl))
theorem IX(t1:an∈[0,1,2])(gl:t3∈yJ)(h:TW (nN (cz Q) t3)=fC Q (b3 Q) an):a8 a5 hw 287 [] [.ah ((cz Q).map eL),nM t3]=j (.str (jT Q an)):=by have ae:=F.told an t1;have:=Roo F.ju F.pt gl (b6 (by have:=F.bK;left)) (vV (by show(TW (nN (cz Q) t3)).length≤_;rw[h];left));rw[y5,h]at this;exact this
theorem acm:dD (Do 311 6) (da S Q []) []=(j (.next,da S Q [],[]):St):=by
 have dt:(gz hw).fn "_law_written"=j (a8 a5 hw 287 []):=by kernel_rfl
 have az:=IX F (t3:=[0,1]) (an:=0) (by decide) (by decide) F.acf;have h1:=IX F (t3:=[0,1,2,3,4]) (an:=1) (by decide) (by decide) F.acg;have ex:=IX F (t3:=[0,1,2,3]) (an:=2) (by decide) (by decide) F.ach;unfold dD
 conv=>
  lhs
  arg 4
  whnf
 apply iJ (al:=[]);·kernel_rfl
 ·apply my;apply RF
  ·apply gi (e:=.str (jT Q 0)) (b:=.str (jT Q 0)) (al:=[]) (f2:=[]);·kernel_rfl
   ·kernel_rfl
   ·apply dq (g3:=[.ah ((cz Q).map eL),nM [0,1]]) (al:=[]);·kernel_rfl
    ·kernel_rfl
    ·kernel_rfl
    ·kernel_rfl
    ·exact fV dt rfl az
   ·exact wt
  ·apply gi (e:=.str (jT Q 1)) (b:=.str (jT Q 1)) (al:=[]) (f2:=[]);·kernel_rfl
   ·kernel_rfl
   ·apply dq (g3:=[.ah ((cz Q).map eL),nM [0,1,2,3,4]]) (al:=[]);·kernel_rfl
    ·kernel_rfl
    ·kernel_rfl
    ·kernel_rfl
    ·exact fV dt rfl h1
   ·exact wt
  ·apply gi (e:=.str (jT Q 2)) (b:=.str (jT Q 2)) (al:=[]) (f2:=[]);·kernel_rfl
   ·kernel_rfl
   ·apply dq (g3:=[.ah ((cz Q).map eL),nM [0,1,2,3]]) (al:=[]);·kernel_rfl
    ·kernel_rfl
    ·kernel_rfl
    ·kernel_rfl
    ·exact fV dt rfl ex
   ·exact wt
 ·exact cM
theorem IY(t1:an∈[0,1,2])(h:dr G G (fC Q (b3 Q) an)=TW (gW (cz Q) t3)):a8 a5 hw 52 [] [.str (jT Q an)]=j (.str (io Q t3)):=by have:=H9 (lw:=fC Q (b3 Q) an) (by have:=F.told an t1;left) (F.bN an t1);rw[h]at this;exact this
theorem acn:TT dD [Do 311 7,Do 311 8] (da S Q []) []=(j (.next,da S Q (iO Q []),[]):St):=by
 have dt:(gz hw).fn "_strip_quoted_realnames"=j (a8 a5 hw 52 []):=by kernel_rfl
 unfold dD
 conv=>
  lhs
  arg 2
  whnf
 apply zn (bx:=da S Q [("shorn",.str (io Q [0]))]) (al:=[])
 ·apply ja (r:=.str (io Q [0]));·kernel_rfl
  ·kernel_rfl
  ·kernel_rfl
  ·apply dq (g3:=[.str (jT Q 0)]) (al:=[]);·kernel_rfl
   ·kernel_rfl
   ·kernel_rfl
   ·kernel_rfl
   ·exact fV dt rfl (IY F (by decide) F.rl)
  ·kernel_rfl
 apply zn (bx:=da S Q (iO Q [])) (al:=[])
 ·apply ja (r:=.str (io Q [0,2]));·kernel_rfl
  ·kernel_rfl
  ·kernel_rfl
  ·apply dq (g3:=[.str (jT Q 2)]) (al:=[]);·kernel_rfl
   ·kernel_rfl
   ·kernel_rfl
   ·kernel_rfl
   ·exact fV dt rfl (IY F (by decide) F.Cv)
  ·kernel_rfl
 exact cM
theorem Cx(an:E)(t1:an∈[0,1,2]):(dr G G (fC Q (b3 Q) an)).length≤10000:=by have h1:=F.told an t1;have ex:=vX (fC Q (b3 Q) an) G G;simp at ex;left
theorem IZ(t1:an∈[0,1,2])(gl:t3∈yJ)(h:dr G G (fC Q (b3 Q) an)=TW (gW (cz Q) t3)):a8 a5 hw 292 [] [.ah ((cz Q).map eL),nM t3]=j (.str (io Q t3)):=by have ae:=Cx F an t1;have:=Roi F.ju gl (b6 (by have:=F.bK;left)) (vV (by show(TW (gW (cz Q) t3)).length≤_;rw[<- h];left));rw[y5]at this;exact this
theorem aco:dD (Do 311 9) (da S Q (iO Q [])) []=(j (.next,da S Q (iO Q []),[]):St):=by
 have dt:(gz hw).fn "_law_left"=j (a8 a5 hw 292 []):=by kernel_rfl
 have yg:(gz hw).fn "_strip_quoted_realnames"=j (a8 a5 hw 52 []):=by kernel_rfl
 have az:=IZ F (t3:=[0]) (an:=0) (by decide) (by decide) F.rl;have h1:=IZ F (t3:=[0,3]) (an:=1) (by decide) (by decide) F.IV;have ex:=IZ F (t3:=[0,2]) (an:=2) (by decide) (by decide) F.Cv;unfold dD
 conv=>
  lhs
  arg 4
  whnf
 apply iJ (al:=[]);·kernel_rfl
 ·apply my;apply RF
  ·apply gi (e:=.str (io Q [0])) (b:=.str (io Q [0])) (al:=[]) (f2:=[]);·kernel_rfl
   ·kernel_rfl
   ·apply dq (g3:=[.ah ((cz Q).map eL),nM [0]]) (al:=[]);·kernel_rfl
    ·kernel_rfl
    ·kernel_rfl
    ·kernel_rfl
    ·exact fV dt rfl az
   ·exact wt
  ·apply gi (e:=.str (io Q [0,2])) (b:=.str (io Q [0,2])) (al:=[]) (f2:=[]);·kernel_rfl
   ·kernel_rfl
   ·apply dq (g3:=[.ah ((cz Q).map eL),nM [0,2]]) (al:=[]);·kernel_rfl
    ·kernel_rfl
    ·kernel_rfl
    ·kernel_rfl
    ·exact fV dt rfl ex
   ·exact wt
  ·apply gi (e:=.str (io Q [0,3])) (b:=.str (io Q [0,3])) (al:=[]) (f2:=[]);·kernel_rfl
   ·apply dq (g3:=[.str (jT Q 1)]) (al:=[]);·kernel_rfl
    ·kernel_rfl
    ·kernel_rfl
    ·kernel_rfl
    ·exact fV yg rfl (IY F (by decide) F.IV)
   ·apply dq (g3:=[.ah ((cz Q).map eL),nM [0,3]]) (al:=[]);·kernel_rfl
    ·kernel_rfl
    ·kernel_rfl
    ·kernel_rfl
    ·exact fV dt rfl h1
   ·exact wt
 ·exact cM
end
noncomputable def jV(b:X):ga:=!(qt b "()" 0 b.length 1).isEmpty
noncomputable def g4:E->X->X|0,b=>b|z+1,b=>if jV b then g4 z (Txt.replace b "()" "")else b
theorem I0{z:E}{b:X}:g4 (z+1) b=if jV b=V then g4 z (Txt.replace b "()" "")else b:=rfl
noncomputable def mF(Q:p aZ):p X:=((cz Q).filter λx=>[0,3].contains x.kind).map (·.nL)
noncomputable def ip(Q:p aZ):X:=Lt (TW (mF Q))
structure I1(Q:p aZ):Prop where
 len:(TW (mF Q)).length≤1000
 red:jV (g4 60 (ip Q))=G
 acp:∀m≤60,(g4 m (ip Q)).length≤1000
 ok:yR (TW (gW (cz Q) [0,3]))=(g4 60 (ip Q)=="")
section
variable{S:R}(F:qd Q)(B:I1 Q)
include F B
theorem acq:dD (Do 311 10) (da S Q (iO Q [])) []=(j (.next,da S Q (iO Q [("brackets",.str (ip Q))]),[]):St):=by
 have sc:H1 ((cz Q).map eL).length=V:=b6 (by rw[aK];have:=F.bK;left);have s3:mR "" (mF Q)=V:=vV (by show(TW (mF Q)).length≤_;have:=B.len;left);unfold dD
 conv=>
  lhs
  arg 4
  whnf
 apply ja (r:=.str (jk "" (mF Q)));·kernel_rfl
 ·kernel_rfl
 ·kernel_rfl
 ·apply ej (r:=.str "") (al:=[]) (k:=.val) (g3:=[.ah ((mF Q).map .str)]) (f2:=[]);·kernel_rfl
  ·kernel_rfl
  ·exact vM
  ·rfl
  ·apply cC;·kernel_rfl
   ·apply kM (n:=(cz Q).map eL) (al:=[]) (bk:=[]);·kernel_rfl
    ·kernel_rfl
    ·apply kL;·kernel_rfl
     ·exact gB (by kernel_rfl) (by kernel_rfl)
     ·exact sc
    ·exact sc
    ·have g:(mF Q).map R.str=(cz Q).filterMap (λx:dI=>if[0,3].contains x.kind=V then j (.str x.nL)else bn):=by
      unfold mF;rw[dG];clear sc s3 F B;induction cz Q with
      |nil=>rfl
      |cons x he ih=>
       rw[r2,k5];by_cases f0:[0,3].contains x.kind=V;·rw[tt f0,tt f0,cs,ih];rfl
       ·rw[ss f0,ss f0,ih]
     rw[g];refine nK (d:=λx:dI=>if[0,3].contains x.kind then j (.str x.nL)else bn) λx ln=>?_;have iI:=HX x.kind (F.ju x ln) [0,3] (by decide);by_cases f0:[0,3].contains x.kind=V
     ·rw[tt f0];unfold eL;apply ij;right;·rfl
      ·rfl
      ·rw[<- f0];exact iI
      ·rfl
      ·rfl
     ·rw[ss f0];unfold eL;apply B1;right;·rfl
      ·rfl
      ·rw[sb]at f0;rw[<- f0];exact iI
   ·exact fz
  ·exact Roc (by decide+kernel) rfl (strs_map _) s3
 ·rw[y5];kernel_rfl
noncomputable def Cy(H:hf)(o:p ca):Y (ga×p ca):=cx (gz hw) 39 Cu (v4 (Do 311 11)) H o
noncomputable def Cz(H:hf)(o:p ca):St:=TT (bq (gz hw) 39 Cu) (dC (Do 311 11)) H o
omit F B in
theorem RG(b:X):Cy (da S Q (iO Q [("brackets",.str b)])) []=j (jV b,[]):=by
 unfold Cy
 conv=>
  lhs
  arg 4
  whnf
 apply gi (e:=.str "()") (b:=.str b) (al:=[]) (f2:=[]);·kernel_rfl
 ·exact vM
 ·exact gB (by kernel_rfl) (by kernel_rfl)
 ·rfl
omit F B in
theorem acr{b:X}(cr:b.length≤1000):Cz (da S Q (iO Q [("brackets",.str b)])) []=(j (.next,da S Q (iO Q [("brackets",.str (Txt.replace b "()" ""))]),[]):St):=by
 unfold Cz
 conv=>
  lhs
  arg 2
  whnf
 refine zn ?_ cM;apply ja (r:=.str (Txt.replace b "()" ""));·kernel_rfl
 ·kernel_rfl
 ·kernel_rfl
 ·apply Qi;·decide+kernel
  ·kernel_rfl
  ·exact gB (by kernel_rfl) (by kernel_rfl)
  ·decide+kernel
  ·rw[show("":X).length=0 by decide+kernel];left
 ·kernel_rfl
omit F B in
theorem acs:∀(z:E) (b:X),jV (g4 z b)=G->(∀m≤z,(g4 m b).length≤1000)->gT Cy Cz (z+1) (da S Q (iO Q [("brackets",.str b)])) []=(j (.next,da S Q (iO Q [("brackets",.str (g4 z b))]),[]):St):=λcc=>cc.recAux
 (λb h a=>by
  have t:=RG (S:=S) (Q:=Q) b
  rw[show jV b=G from h]at t
  exact o1 t)
 λz ih b h ae=>by
  have t:=RG (S:=S) (Q:=Q) b;rw[I0]at h⊢;by_cases cr:jV b=V;·rw[tt cr]at h⊢;rw[cr]at t;refine yV t (acr (ae 0 (e6 _))) (ih _ h λm pc=>?_);have:=ae (m+1) (by left);rw[I0,tt cr]at this;exact this
  ·rw[ss cr]at h⊢;rw[sb]at cr;rw[cr]at t;exact o1 t
omit F B in
theorem I2{dQ:hf->p ca->St}:∀(z m:E) (H:hf) (o:p ca) (q:bz×hf×p ca),gT jh dQ z H o=j q->z≤m->gT jh dQ m H o=j q
 |0,_,_,_,_,h,_=>nomatch (show bn=j _ from h)
 |z+1,m+1,H,o,q,h,pc=>b8 (xY.symm.trans h) λt al h1 h=>xY.trans<|(Op h1).trans<|qI h (λf0 h=>(Ef f0).trans<|pz h λf e' f2 ex h=>(qH ex).trans<|f.casesOn (motive:=λf=>i7 f e' f2 (gT jh dQ z e' f2)=j q->i7 f e' f2 (gT jh dQ m e' f2)=j q) (λh=>I2 z m _ _ _ h (agT pc)) id (λh=>I2 z m _ _ _ h (agT pc)) (λa=>id) h) λf0 h=>(Eg f0).trans h
theorem acu:dD (Do 311 11) (da S Q (iO Q [("brackets",.str (ip Q))])) []=(j (.next,da S Q (iO Q [("brackets",.str (g4 60 (ip Q)))]),[]):St):=by
 have d8:=acs (S:=S) (Q:=Q) 60 (ip Q) B.red B.acp;have acv:gT Cy Cz 64 (da S Q (iO Q [("brackets",.str (ip Q))])) []=(j (.next,da S Q (iO Q [("brackets",.str (g4 60 (ip Q)))]),[]):St):=by exact I2 61 64 _ _ _ d8 (by decide)
 unfold dD
 conv=>
  lhs
  arg 4
  whnf
 apply tA;·kernel_rfl
 ·refine iz ?_ acv;kernel_rfl
theorem acw:dD (Do 311 12) (da S Q (iO Q [("brackets",.str (g4 60 (ip Q)))])) []=(j (.next,da S Q (iO Q [("brackets",.str (g4 60 (ip Q)))]),[]):St):=by
 have dt:(gz hw).fn "_check_parenthesis"=j (a8 (c4 hw) hw 59 []):=by kernel_rfl
 have f0:=TCP (lw:=fC Q (b3 Q) 1) (by have:=F.told 1 (by decide);left) (F.bN 1 (by decide));rw[F.IV,B.ok]at f0;have aC:∀t:ga,ci .NotEq (.bool t) (.bool t)=j G:=by intro t;cases t<;>kernel_rfl
 unfold dD
 conv=>
  lhs
  arg 4
  whnf
 apply iJ (al:=[]);·kernel_rfl
 ·apply gi (e:=.bool (g4 60 (ip Q)=="")) (b:=.bool (g4 60 (ip Q)=="")) (al:=[]) (f2:=[]);·kernel_rfl
  ·apply dq (g3:=[.str (jT Q 1)]) (al:=[]);·kernel_rfl
   ·kernel_rfl
   ·kernel_rfl
   ·kernel_rfl
   ·exact fV dt rfl f0
  ·apply HP (e:=.str (g4 60 (ip Q))) (b:=.str "") (al:=[]) (f2:=[]);·kernel_rfl
   ·exact gB (by kernel_rfl) (by kernel_rfl)
   ·exact vM
   ·exact tK
  ·exact aC _
 ·exact cM
end
noncomputable def dh(Q:p aZ)(i:E):p E:=((b3 Q)[i]?).getD []
noncomputable def ce(Q:p aZ):p E:=(bE Q.length).filter λi=>!TD ((dh Q i).map (pr Q))
noncomputable def g5(Q:p aZ)(i:E):X:=((Q[i]?).map (·.aA)).getD ""
noncomputable def cX(Q:p aZ):p X:=""::(ce Q).map (g5 Q)
theorem acx{lt:E->E->ga}:∀(z i:E) (x:p E),(∀k∈x,k<i)->∀e∈jP lt z i x,∀k∈e,k<i+z:=λcc=>cc.recAux (λa a a a h=>by cases h) λz ih i x ln e db=>by intro k gl;rw[tJ]at db;cases db with|head=>have:=ln k (yZ k (sk.mp gl));left|tail _ db=>have:=ih (i+1) (i::ek (λk=>!lt k i) x) (λev s3=>by cases s3 with|head=>left|tail _ s3=>have:=ln ev (yZ ev s3);left) e db k gl;left
theorem I3{i k:E}(h:k∈dh Q i):k<Q.length:=by unfold dh at h;cases Os:(b3 Q)[i]? with|none=>rw[Os]at h;cases h|some e=>rw[Os]at h;have pc:e∈b3 Q:=Dx Os;have:=acx _ 0 [] (λk h=>by cases h) e pc k h;rw[aK]at this;left
theorem RH{i:E}(h:i<Q.length):(bB (b3 Q))[i]?=j (.ah (On (dh Q i))):=by
 unfold dh bB;have ae:i<(b3 Q).length:=by rw[rL];exact h
 rw[hX,k8 ae];rfl
theorem I4{i:E}(ae:Q.length≤5)(h:i<Q.length):(dh Q i).length≤50:=by
 have bR:∀{lt:E->E->ga} (z i:E) (x:p E),x.length≤i->∀e∈jP lt z i x,e.length≤i+z:=by intro lt z;induction z with|zero=>intro i x _ e db;cases db|succ z ih=>intro i x ln e db;rw[tJ]at db;have:=v5 (jg:=λk=>!lt k i) (x:=x);cases db with|head=>rw[List.length_reverse];left|tail _ db=>have:=ih (i+1) (i::ek (λk=>!lt k i) x) (by simp;left) e db;left
 unfold dh;have np:i<(b3 Q).length:=by rw[rL];exact h
 rw[k8 np];have:=bR _ 0 [] (Da _) _ (gJ np);rw[aK]at this;show((b3 Q)[i]).length≤50;left
section
variable{J:Sc}{z:E}{bs:KT}{H:hf}{e b T:R}{U:X}
theorem acy{ai:bv}{q:p E}{g2:E}(gt:bb "rows"=V)(Ip:bb "k"=V)(gv:h8 bs inner (.Name "k" pB)=V)(hh:dU inner H=([("rows",.ah (Q.map dA))]:hf))(cr:bV (d6 bs inner) "k"=V)(fd:iC J (z+3) bs ai H o=j (On q,0,o))(ae:Q.length≤50)(wT:q.length≤50)(gl:∀k∈q,k<Q.length):sB J (z+4) bs (.ListComp (.Subscript (.Subscript (.Name "rows" a_) (.Name "k" bF) eU) (.Constant (.int 1) g2 hy) f7) [⟨.Name "k" pB,ai,[],0⟩] inner w8) H o=j (.ah ((q.map (pr Q)).map .str),o):=by
 have sc:H1 (On q).length=V:=b6 (by unfold On;rw[aK];left);refine kM gv hh fd sc ?_;have:=nK (n:=q) (f:=λk=>R.int (k:E)) (d:=λk=>j (R.str (pr Q k))) (o:=o) (step:=i2 G (d6 bs inner) (.Name "k" pB) ([("rows",.ah (Q.map dA))]:hf) (λH g o=>sB J (z+3) (d6 bs inner) g H o) (λH g o=>cx J (z+3) (d6 bs inner) g H o) [] (.Subscript (.Subscript (.Name "rows" a_) (.Name "k" bF) eU) (.Constant (.int 1) g2 hy) f7)) λk sX=>by
   refine ij (al:=o) (c:=.str (pr Q k)) (f2:=o) (o0:=([("rows",.ah (Q.map dA)),("k",.int (k:E))]:hf)) ((HV cr).trans (by kernel_rfl)) kJ ?_ rfl;apply fo (i:=.int 1);·rfl
   ·apply fo (T:=.ah (Q.map dA)) (i:=.int (k:E));·rfl
    ·exact gB gt (by kernel_rfl)
    ·exact gB Ip (by kernel_rfl)
    ·exact row_item (gl k sX) ae
   ·exact ru
   ·exact row_name (gl k sX)
 rw[show q.filterMap (λk=>j (R.str (pr Q k)))=(q.map (pr Q)).map .str by rw[dG];exact zZ (z0 (f:=R.str∘pr Q)) q]at this;exact this
theorem step_if{c:R}{t:ga}(h1:d5 rS u r H=j o0)(ex:h' (gb o0) aI o=j (t,o))(h3:fM o0 bj o=j (c,o))(aS:d4 c o=j (c,o)):i2 G rS u H fM gb aI bj r o=j (if t=V then j c else bn,o):=by
 cases t;·exact B1 h1 ex
 ·exact ij h1 ex h3 aS
theorem acz{n l:bv}{k:p R}(rs:J.ext bs (.Assign [.Name c a_] (.BinOp n po l bF) x)=bn)(cr:bV bs c=V)(h1:sB J z bs n H o=j (e,al))(ex:sB J z bs l H al=j (b,f2))(ae:jy po (view f2 e) (view f2 b)=j k)(Uf:Pv H c (.am f2.length)=o0):bq J (z+1) bs (.Assign [.Name c a_] (.BinOp n po l bF) x) H o=j (.next,o0,f2++[.list k]):=by exact Uf▸(i8.trans<|(fH rs).trans<|(Re cr).trans<|(Re rfl).trans<|show s4 (sB J z bs n H o) (λe al=>s4 (sB J z bs l H al) λb f2=>eF (jy po (view f2 e) (view f2 b)) (λk=>j (bz.next,Pv H c (R.am f2.length),f2++[ca.list k]))<|(iB po (view f2 e) (view f2 b)).map λr=>(bz.next,Pv H c r,f2))=_ from(Op h1).trans<|(Op ex).trans (m5 ae))
end
theorem o7{f d:t0->R}{step:R->p ca->Y (Y R×p ca)}{n:p t0}(h:∀c∈n,step (f c) o=j (j (d c),o)):kv step (n.map f) o=j (n.map d,o):=by have:=nK (d:=λc=>j (d c)) h;rw[show n.filterMap (λc=>j (d c))=n.map d from zZ (z0 (f:=d)) n]at this;exact this
theorem acA{t:t0->ga}{d:t0->cY}:∀n:p t0,(n.filter t).map d=n.filterMap λc=>if t c=V then j (d c)else bn:=λcc=>cc.rec (rfl) λc n ih=>by
  rw[r2,k5];by_cases h:t c=V;·rw[tt h,tt h,cs,ih]
  ·rw[ss h,ss h,ih]
noncomputable def zd(Q:p aZ)(f1:hf):hf:=iO Q (("brackets",.str (g4 60 (ip Q)))::f1)
section
variable{S:R}(F:qd Q)
include F
theorem acB:dD (Do 311 13) (da S Q (zd Q [])) []=(j (.next,da S Q (zd Q [("seen",.ah (On (ce Q)))]),[]):St):=by
 have aV:=F.len;unfold dD
 conv=>
  lhs
  arg 4
  whnf
 apply vR (r:=.ah (On (ce Q)));·kernel_rfl
 ·kernel_rfl
 ·kernel_rfl
 ·apply kM (n:=(bE Q.length).map λi=>.int (i:E)) (al:=[]) (bk:=[("rows",hT Q),("above",.ah (bB (b3 Q)))]);·kernel_rfl
  ·kernel_rfl
  ·apply src_range (m:=Q.length);·kernel_rfl
   ·kernel_rfl
   ·kernel_rfl
   ·apply cC;·kernel_rfl
    ·apply dq (g3:=[hT Q]) (al:=[]);·kernel_rfl
     ·kernel_rfl
     ·kernel_rfl
     ·kernel_rfl
     ·exact mz (by kernel_rfl) (qa (k:=Q.length) (by rw[aK]) (by left))
    ·exact fz
   ·left
  ·exact b6 (by rw[aK,KS];left)
  ·rw[show On (ce Q)=(bE Q.length).filterMap (λi=>if(!TD ((dh Q i).map (pr Q)))=V then j (.int (i:E))else bn)from acA _];refine nK (d:=λi:E=>if(!TD ((dh Q i).map (pr Q)))=V then j (R.int (i:E))else bn) λi np=>?_;have np:=hZ.mp np;have oN:ci .NotIn (.str "x") (.ah (((dh Q i).map (pr Q)).map .str))=j (!TD ((dh Q i).map (pr Q))):=by rw[Io (by decide+kernel) (λI KM=>by obtain⟨ev,s3,rfl⟩:=dM.mp KM;have:=(F.good _ (gJ (I3 s3))).name;rw[tS (I3 s3)];exact Iw _ this)];rfl
   refine step_if (o0:=([("rows",hT Q),("above",.ah (bB (b3 Q))),("i",.int (i:E))]:hf)) (t:=!TD ((dh Q i).map (pr Q))) (c:=.int (i:E)) ?_ ?_ ?_ rfl;·kernel_rfl
   ·apply Res;apply gi (e:=.str "x") (b:=.ah (((dh Q i).map (pr Q)).map .str)) (al:=[]) (f2:=[]);·kernel_rfl
    ·exact vM
    ·apply acy (Q:=Q) (q:=dh Q i);·kernel_rfl
     ·kernel_rfl
     ·kernel_rfl
     ·kernel_rfl
     ·kernel_rfl
     ·apply kL;·kernel_rfl
      ·apply fo (T:=.ah (bB (b3 Q))) (i:=.int (i:E)) (al:=[]) (f2:=[]);·kernel_rfl
       ·kernel_rfl
       ·kernel_rfl
       ·exact p_ (RH np) (by unfold bB;rw[aK,rL];left)
      ·exact b6 (by unfold On;rw[aK];have:=I4 aV np;left)
     ·left
     ·exact I4 aV np
     ·exactλk gl=>I3 gl
    ·exact oN
   ·kernel_rfl
 ·kernel_rfl
omit F in
theorem CA{i:E}(h:i∈ce Q):i<Q.length:=hZ.mp (mY.mp h).1
omit F in
theorem CB{i:E}(h:i<Q.length):g5 Q i=Q[i].aA:=by unfold g5;rw[row_get h];rfl
theorem acC:dD (Do 311 14) (da S Q (zd Q [("seen",.ah (On (ce Q)))])) []=(j (.next,da S Q (zd Q [("seen",.ah (On (ce Q))),("due",.am 0)]),[.list ((cX Q).map .str)]):St):=by
 have aV:=F.len;have vY:(ce Q).length≤5:=by have:=Uk (λi=>!TD ((dh Q i).map (pr Q))) (bE Q.length);rw[KS]at this;unfold ce;left
 have sc:H1 (On (ce Q)).length=V:=b6 (by unfold On;rw[aK];left);unfold dD
 conv=>
  lhs
  arg 4
  whnf
 refine(acz (e:=.ah [.str ""]) (b:=.ah (((ce Q).map (g5 Q)).map .str)) (al:=[]) (f2:=[]) (k:=(cX Q).map .str) ?_ ?_ ?_ ?_ ?_ ?_).trans rfl;·kernel_rfl
 ·kernel_rfl
 ·kernel_rfl
 ·apply kM (n:=On (ce Q)) (al:=[]) (bk:=[("rows",hT Q)]);·kernel_rfl
  ·kernel_rfl
  ·apply kL;·kernel_rfl
   ·kernel_rfl
   ·exact sc
  ·exact sc
  ·rw[dG];refine o7 (d:=R.str∘g5 Q) λi np=>?_;have np:=CA np;refine ij (o0:=([("rows",hT Q),("i",.int (i:E))]:hf)) (al:=[]) (c:=.str (g5 Q i)) (f2:=[]) ?_ kJ ?_ rfl;·kernel_rfl
   ·apply fo (T:=dA Q[i]) (i:=.int 0) (al:=[]) (f2:=[]);·kernel_rfl
    ·apply fo (T:=hT Q) (i:=.int (i:E)) (al:=[]) (f2:=[]);·kernel_rfl
     ·kernel_rfl
     ·kernel_rfl
     ·exact row_item np (by left)
    ·exact ru
    ·rw[CB np];rfl
 ·exact(zc (by simp;left)).trans rfl
 ·kernel_rfl
end
theorem acD{ax:c6}(h1:ax g' o=j (G,o))(ex:ax jt o=j (G,o)):h9 ax .Or [g',jt] o=j (G,o):=vO h1 (vO ex rfl)
theorem acE{J:Sc}{e:R}(FB:view o e=.str ⟨#[10]⟩)(sc:H1 c.length=V):fb J .val (.str c) "split" [e] o=j (.ah ((gj 10 (na c)).map λn=>.str (Lt n)),o):=by refine HW ?_;rw[cs,zM,FB];refine(Re (by rw[sc,show(!((⟨#[10]⟩:X).length==0))=V by decide+kernel];rfl)).trans ?_;rw[Rxo,dG];rfl
noncomputable def rM(op:p bC):R:=.ah (op.map λn=>.str (c8 n))
noncomputable def lC(Q:p aZ)(f1:hf):hf:=zd Q (("seen",.ah (On (ce Q)))::("due",.am 0)::f1)
noncomputable def b_(Q:p aZ):p ca:=[.list ((cX Q).map .str)]
noncomputable def wd(op:p bC):hf:=[("lines",rM op),("leads",.ah (op.map bp))]
structure bC.RI(n:bC):Prop where
 aA:n.1∈bA
 tail:n2 n.2
 len:n.2.length≤50000
structure we(Q:p aZ)(op jf:p bC):Prop where
 acF:gj 10 (TW (gW (cz Q) [0]))=op.map λn=>na n.1++n.2
 acG:gj 10 (TW (gW (cz Q) [0,2]))=jf.map λn=>na n.1++n.2
 ok:∀n∈op,n.RI
 acH:∀n∈jf,n.ab
 CC:op.map (·.1)=cX Q
 kept:kl bn jf=cX Q
 acI:kQ (gk op) op.length=[]::(ce Q).map λi=>0::(dh Q i).map λk=>(ce Q).idxOf k+1
 sub:∀i∈ce Q,∀k∈dh Q i,k∈ce Q
 len:op.length≤10
 acJ:jf.length≤10
section
variable{S:R}(F:qd Q)(lw:we Q op jf)
include F lw
theorem RJ{n:p bC}(t1:an∈[0,1,2])(h:dr G G (fC Q (b3 Q) an)=TW (gW (cz Q) t3))(fd:gj 10 (TW (gW (cz Q) t3))=n.map λn=>na n.1++n.2)(o:p ca){J:Sc}:fb J .val (.str (io Q t3)) "split" [.str "\n"] o=j (rM n,o):=by have cr:=Cx F an t1;rw[h]at cr;have:=acE (J:=J) (c:=io Q t3) (e:=.str "\n") (o:=o) rfl (b6 (by rw[<- ik];unfold io;rw[dB];left));rw[this];unfold io;rw[dB,fd,dG];rfl
theorem acK:dD (Do 311 15) (da S Q (lC Q [])) (b_ Q)=(j (.next,da S Q (lC Q [("lines",rM op)]),b_ Q):St):=by
 unfold dD
 conv=>
  lhs
  arg 4
  whnf
 apply ja (r:=rM op);·kernel_rfl
 ·kernel_rfl
 ·kernel_rfl
 ·apply ej (r:=.str (io Q [0])) (al:=b_ Q) (k:=.val) (g3:=[.str "\n"]) (f2:=b_ Q);·kernel_rfl
  ·kernel_rfl
  ·exact gB (by kernel_rfl) (by kernel_rfl)
  ·rfl
  ·kernel_rfl
  ·exact RJ F lw (by decide) F.rl lw.acF _
 ·kernel_rfl
omit F in
theorem acL{n:bC}(Z:n.RI):oV 121 (cU a5 hw 76 []) [.str (c8 n)]=j (bp n):=Qs Z.aA Z.tail (by have:=Z.len;left)
theorem acM:dD (Do 311 16) (da S Q (lC Q [("lines",rM op)])) (b_ Q)=(j (.next,da S Q (lC Q (wd op)),b_ Q):St):=by
 have sc:H1 (op.map λn=>R.str (c8 n)).length=V:=b6 (by rw[aK];have:=lw.len;left);have dt:(gz hw).fn "Whitespace"=j (oV 121 (cU a5 hw 76 [])):=by kernel_rfl
 unfold dD
 conv=>
  lhs
  arg 4
  whnf
 apply vR (r:=.ah (op.map bp));·kernel_rfl
 ·kernel_rfl
 ·kernel_rfl
 ·apply kM (n:=op.map λn=>.str (c8 n)) (al:=b_ Q) (bk:=[]);·kernel_rfl
  ·kernel_rfl
  ·apply kL;·kernel_rfl
   ·kernel_rfl
   ·exact sc
  ·exact sc
  ·refine o7 (d:=bp) λn ae=>?_;have Z:=lw.ok n ae;refine ij (o0:=([("line",.str (c8 n))]:hf)) (al:=b_ Q) (c:=bp n) (f2:=b_ Q) ?_ kJ ?_ (uY (Cr Z.aA));·kernel_rfl
   ·apply dq (g3:=[.str (c8 n)]) (al:=b_ Q);·kernel_rfl
    ·kernel_rfl
    ·kernel_rfl
    ·kernel_rfl
    ·exact fV dt rfl (acL lw Z)
 ·kernel_rfl
end
theorem aeR{f d:t0->R}:∀n:p t0,ku (n.map f) (n.map d)=n.map λc=>.tup [f c,d c]:=λcc=>cc.rec (rfl) λc n ih=>GT (R.tup [f c,d c]::·) (ih)
theorem acN:∀c∈bA,pw c=V:=by decide+kernel
section
variable{S:R}(F:qd Q)(lw:we Q op jf)
include F lw
omit F in
theorem RK:∀c∈cX Q,c∈bA:=by intro c f8;rw[<- lw.CC]at f8;obtain⟨n,ae,rfl⟩:=dM.mp f8;exact(lw.ok n ae).aA
omit F in
theorem RL:ci .NotEq (.ah ((cX Q).map .str)) (.ah ((cX Q).map .str))=j G:=by have fd:∀c∈cX Q,pw c=V:=λc f8=>acN c (RK lw c f8);have:=v2 Enc.str (by decide) (n:=cX Q) (m:=cX Q) fd fd;rw[this,hV rfl];rfl
theorem acO:dD (Do 311 17) (da S Q (lC Q (wd op))) (b_ Q)=(j (.next,da S Q (lC Q (wd op)),b_ Q):St):=by
 have aV:=lw.len;have sc:H1 (op.map λn=>R.str (c8 n)).length=V:=b6 (by rw[aK];left);have rm:H1 (op.map bp).length=V:=b6 (by rw[aK];left);have acP:H1 (op.map λn=>R.tup [.str (c8 n),bp n]).length=V:=b6 (by rw[aK];left);have dt:(gz hw).fn "_law_kept"=j (a8 (dn hw) hw 306 []):=by kernel_rfl
 have gl:=ab8 lw.acH (by have:=lw.acJ;left);rw[lw.kept]at gl;unfold dD
 conv=>
  lhs
  arg 4
  whnf
 apply iJ (al:=b_ Q);·kernel_rfl
 ·apply my;apply acD
  ·apply gi (e:=.ah ((cX Q).map .str)) (b:=.am 0) (al:=b_ Q) (f2:=b_ Q);·kernel_rfl
   ·rw[<- lw.CC];apply Qx (n:=op.map λn=>.tup [.str (c8 n),bp n]) (al:=b_ Q) (bk:=[]);·kernel_rfl
    ·kernel_rfl
    ·kernel_rfl
    ·rw[<- aeR];apply Qy (g3:=[rM op,.ah (op.map bp)]) (al:=b_ Q);·kernel_rfl
     ·kernel_rfl
     ·kernel_rfl
     ·kernel_rfl
     ·rfl
     ·exact sc
     ·exact rm
    ·exact acP
    ·rw[dG];refine o7 (d:=R.str∘λn:bC=>n.1) λn ae=>?_;have Z:=lw.ok n ae;have ex:=Z.len;have RE:(na n.1).length≤10:=(by decide+kernel:∀c∈bA,(na c).length≤10) _ Z.aA;have acQ:H1 (c8 n).length=V:=b6 (by unfold c8;rw[<- ik,dB,ct];left);have pi:(nR (bp n)).lookup ("n":X)=j (.int ((na n.1).length:E)):=Qt Z.aA _;have wa:ph (c8 n) bn (j ((na n.1).length:m0))=n.1:=by unfold c8;rw[RC (by rw[ct];left),agS,vT]
     refine ij (o0:=([("line",.str (c8 n)),("lead",bp n)]:hf)) (al:=b_ Q) (c:=.str n.1) (f2:=b_ Q) ?_ kJ ?_ rfl;·kernel_rfl
     ·conv=>
       rhs
       rw[<- wa]
      apply vW (T:=.str (c8 n)) (n:=bn) (h:=j ((na n.1).length:m0)) (al:=b_ Q) (f2:=b_ Q);·exact gB (by kernel_rfl) (by kernel_rfl)
      ·exact yM
      ·apply nO;exact P7 (T:=bp n) (by kernel_rfl) (by kernel_rfl) (by rw[wb Z.aA];rfl) pi (by kernel_rfl)
      ·rfl
      ·exact acQ
   ·exact gB (by kernel_rfl) (by kernel_rfl)
   ·exact RL lw
  ·apply gi (e:=.ah ((cX Q).map .str)) (b:=.am 0) (al:=b_ Q) (f2:=b_ Q);·kernel_rfl
   ·apply dq (g3:=[rM jf]) (al:=b_ Q);·kernel_rfl
    ·kernel_rfl
    ·kernel_rfl
    ·apply cC;·kernel_rfl
     ·apply ej (r:=.str (io Q [0,2])) (al:=b_ Q) (k:=.val) (g3:=[.str "\n"]) (f2:=b_ Q);·kernel_rfl
      ·kernel_rfl
      ·exact gB (by kernel_rfl) (by kernel_rfl)
      ·rfl
      ·kernel_rfl
      ·exact RJ F lw (by decide) F.Cv lw.acG _
     ·exact fz
    ·exact fV dt rfl gl
   ·exact gB (by kernel_rfl) (by kernel_rfl)
   ·exact RL lw
 ·exact cM
end
theorem acR{J:Sc}{n:p E}{k:E}(gl:k∈n)(ti:n.length≤1000)(cr:∀c∈n,c≤100):fb J .val (.ah (On n)) "index" [.int (k:E)] o=j (.int (n.idxOf k:E),o):=by
 refine HW ?_;have np:xl (On n)=j (n.map λk:E=>(k:m0)):=by clear gl ti cr;unfold On;induction n with|nil=>rfl|cons c n ih=>exact gh ih
 have f0:(n.map λk:E=>(k:m0)).contains (k:m0)=V:=by rw[wI];exact dM.mpr ⟨k,gl,rfl⟩
 have f8:(n.map λk:E=>(k:m0)).idxOf (k:m0)=n.idxOf k:=by
  clear np f0 gl ti cr;induction n with
  |nil=>rfl
  |cons c n ih=>
   rw[cs,Ul,Ul,ih];have:((c:m0)==(k:m0))=(c==k):=by rw[j0,bt,bt];exact agI
   rw[this]
 have ae:Dd (.list ((n.map λk:E=>(k:m0)).map .int))=V:=by
  have h1:=Enc.int.list.o2 n (λa a=>trivial);have ex:=Enc.int.list.dep n;have h3:agU (.list (n.map λk:E=>Um k))≤102*n.length:=by
   show agV (n.map λk:E=>Um k)≤_;clear h1 ex np f0 f8 gl ti;induction n with
   |nil=>exact Da _
   |cons c n ih=>
    rw[cs,agV];have f8:=cr c (.head _);have d8:agU (.int (c:m0))≤c+1:=by
     show(if((c:m0)==0)=V then 0 else(c:m0).natAbs.log2+1)≤_;split;·left
     ·rw[Int.natAbs_natCast];have:=Nat.log2_le_self c;left
    have:=ih λI KM=>cr I (.tail _ KM);simp only[iW];left
  rw[dG];show Dd (.list (n.map λk:E=>Um k))=V;unfold Dd;rw[h1,Ds,hV (aJ ex (by decide)),Ds];exact hV (by left)
 exact(eS np).trans<|(Re (by rw[f0,ae];rfl)).trans (by rw[f8])
section
variable{S:R}(F:qd Q)(lw:we Q op jf)
include F lw
omit F lw in
theorem acS(ae:Q.length≤5):(ce Q).length≤5:=by have:=Uk (λi=>!TD ((dh Q i).map (pr Q))) (bE Q.length);rw[KS]at this;unfold ce;left
theorem acT:dD (Do 311 18) (da S Q (lC Q (wd op))) (b_ Q)=(j (.next,da S Q (lC Q (wd op)),b_ Q):St):=by
 have aV:=lw.len;have dP:=F.len;have vY:=acS dP;have sc:H1 (On (ce Q)).length=V:=b6 (by unfold On;rw[aK];left);have dt:(gz hw).fn "_law_ways"=j (a8 (dn hw) hw 299 []):=by kernel_rfl
 have d8:=ab3 (op:=op) (λc f8=>(lw.ok c f8).aA) (by left);have hK:fa [.ah (op.map bp)] (b_ Q)=j ([.ah (op.map bp)],b_ Q):=rfl;have I5:ci .NotEq (.ah (bB (kQ (gk op) op.length))) (.ah (bB ([]::(ce Q).map λi=>0::(dh Q i).map λk=>(ce Q).idxOf k+1)))=j G:=by have:=v2 Enc.int.list (by decide) (n:=kQ (gk op) op.length) (m:=[]::(ce Q).map λi=>0::(dh Q i).map λk=>(ce Q).idxOf k+1) (λa a a a=>trivial) (λa a a a=>trivial);rw[hV lw.acI]at this;exact this
 unfold dD
 conv=>
  lhs
  arg 4
  whnf
 apply iJ (al:=b_ Q);·kernel_rfl
 ·apply gi (e:=.ah (bB (kQ (gk op) op.length))) (b:=.ah (bB ([]::(ce Q).map λi=>0::(dh Q i).map λk=>(ce Q).idxOf k+1))) (al:=b_ Q) (f2:=b_ Q);·kernel_rfl
  ·apply dq (g3:=[.ah (op.map bp)]) (al:=b_ Q);·kernel_rfl
   ·kernel_rfl
   ·kernel_rfl
   ·kernel_rfl
   ·exact fV dt hK d8
  ·apply vN (e:=.ah [.ah []]) (b:=.ah (bB ((ce Q).map λi=>0::(dh Q i).map λk=>(ce Q).idxOf k+1))) (al:=b_ Q) (f2:=b_ Q);·kernel_rfl
   ·apply kM (n:=On (ce Q)) (al:=b_ Q) (bk:=[("above",.ah (bB (b3 Q))),("seen",.ah (On (ce Q)))]);·kernel_rfl
    ·kernel_rfl
    ·apply kL;·kernel_rfl
     ·kernel_rfl
     ·exact sc
    ·exact sc
    ·rw[show bB ((ce Q).map λi=>0::(dh Q i).map λk=>(ce Q).idxOf k+1)=(ce Q).map ((λn=>R.ah (On n))∘λi=>0::(dh Q i).map λk=>(ce Q).idxOf k+1)from dG ..];refine o7 (d:=(λn=>R.ah (On n))∘λi=>0::(dh Q i).map λk=>(ce Q).idxOf k+1) λi np=>?_;have Cn:=CA np;have Pw:=I4 dP Cn;have RM:H1 (On (dh Q i)).length=V:=b6 (by unfold On;rw[aK];left);refine ij (o0:=([("above",.ah (bB (b3 Q))),("seen",.ah (On (ce Q))),("i",.int (i:E))]:hf)) (al:=b_ Q) (c:=.ah (On (0::(dh Q i).map λk=>(ce Q).idxOf k+1))) (f2:=b_ Q) ?_ kJ ?_ rfl;·kernel_rfl
     ·apply vN (e:=.ah [.int ((0:E):m0)]) (b:=.ah (On ((dh Q i).map λk=>(ce Q).idxOf k+1))) (al:=b_ Q) (f2:=b_ Q);·kernel_rfl
      ·apply kM (n:=On (dh Q i)) (al:=b_ Q) (bk:=[("seen",.ah (On (ce Q)))]);·kernel_rfl
       ·kernel_rfl
       ·apply kL;·kernel_rfl
        ·apply fo (T:=.ah (bB (b3 Q))) (i:=.int (i:E)) (al:=b_ Q) (f2:=b_ Q);·kernel_rfl
         ·kernel_rfl
         ·kernel_rfl
         ·exact p_ (RH Cn) (by unfold bB;rw[aK,rL];left)
        ·exact RM
       ·exact RM
       ·rw[show On ((dh Q i).map λk=>(ce Q).idxOf k+1)=(dh Q i).map ((λk:E=>R.int k)∘λk=>(ce Q).idxOf k+1)from dG ..];refine o7 (d:=(λk:E=>R.int k)∘λk=>(ce Q).idxOf k+1) λk gl=>?_;refine ij (o0:=([("seen",.ah (On (ce Q))),("k",.int (k:E))]:hf)) (al:=b_ Q) (c:=.int (((ce Q).idxOf k+1:E):m0)) (f2:=b_ Q) ?_ kJ ?_ rfl;·kernel_rfl
        ·apply hQ (e:=.int ((ce Q).idxOf k:E)) (b:=.int 1) (al:=b_ Q) (f2:=b_ Q)
         ·apply ej (r:=.ah (On (ce Q))) (al:=b_ Q) (k:=.val) (g3:=[.int (k:E)]) (f2:=b_ Q);·kernel_rfl
          ·kernel_rfl
          ·exact gB (by kernel_rfl) (by kernel_rfl)
          ·rfl
          ·kernel_rfl
          ·exact acR (lw.sub i np k gl) (by left) λc f8=>by have:=CA f8;left
         ·exact ru
         ·rfl
         ·rfl
      ·exact zc ((by unfold On;simp;left))
   ·exact zc ((by unfold bB;simp;left))
  ·exact I5
 ·exact cM
end
theorem Enc.acU:Enc (λk:m0=>R.int k) (λk=>.int k) (λa=>g6) 0 where
 py _:=rfl
 o2 _ _:=rfl
 dep _:=Da _
 eqv c I:=by
  show(c==I)=_
  rw[j0,bt,mX]
theorem acV(e b:X):ci .Eq (eM e) (eM b)=j (cB e==cB b):=by have:=QA Enc.acU (by decide) (n:=cB e) (m:=cB b) (λa a=>trivial) (λa a=>trivial);rw[show decide (cB e=cB b)=(cB e==cB b) by rw[j0,bt,mX]]at this;exact this
theorem acW(g2:X):(bA.map λe=>(nR (hS e g2)).lookup ("equal":X))=bA.map λa=>bn:=by kernel_rfl
theorem acX{J:Sc}{n m:bC}(nk:J.gN 121 "equal"=j (a8 a5 hw 97 []))(ae:n.1∈bA)(pc:m.1∈bA):ow J (bp n) "equal" o=j (.qT 121 (a8 a5 hw 97 []))/\fb J (.qT 121 (a8 a5 hw 97 [])) (bp n) "equal" [bp m] o=j (.bool (cB n.1==cB m.1),o):=by
 constructor;·have aS:=cV (acW (Lt (na n.1++n.2))) n.1 ae;have aS:(nR (bp n)).lookup ("equal":X)=bn:=aS;rw[wb ae];exact(Lf aS).trans (gh nk)
 ·have wn:fa [bp m] o=j ([bp m],o):=jL (Cr pc) lx;have nw:=URI ae pc (Lt (na n.1++n.2)) (Lt (na m.1++m.2));exact(Op (k:=λbQ wE=>(a8 a5 hw 97 [] (bp n::bQ)).map λl=>(l,wE)) wn).trans (gh nw)
noncomputable def o8(n:p t0)(f:t0->X)(x:t0):R:=.ah ((n.map λq=>cB (f x)==cB (f q)).map .bool)
noncomputable def eO(Q:p aZ):p ca:=[.aq (.ah ((cX Q).map .str))]
noncomputable def acY(Q:p aZ):R:=.ah ((cX Q).map eM)
noncomputable def CD(Q:p aZ)(op:p bC):hf:=[("lines",rM op),("leads",.ah (op.map bp)),("columns",acY Q)]
section
variable{S:R}(F:qd Q)(lw:we Q op jf)
include F lw
omit F in
theorem RN:(cX Q).length≤10:=by rw[<- lw.CC,aK];exact lw.len
theorem acZ:dD (Do 311 19) (da S Q (lC Q (wd op))) (b_ Q)=(j (.next,da S Q (lC Q (CD Q op)),eO Q):St):=by
 have aV:=RN lw;have sc:H1 ((cX Q).map R.str).length=V:=b6 (by rw[aK];left);have dt:(gz hw).fn "_law_columns"=j (a8 a5 hw 262 []):=by kernel_rfl
 unfold dD
 conv=>
  lhs
  arg 4
  whnf
 apply vR (r:=.ah ((cX Q).map eM));·kernel_rfl
 ·kernel_rfl
 ·kernel_rfl
 ·apply B0 (n:=(cX Q).map .str) (cb:=1) (al:=b_ Q) (bo:=(cX Q).map .str) (yI:=0) (f2:=eO Q)
  ·apply QJ (i:=0);·kernel_rfl
   ·kernel_rfl
   ·rfl
   ·exact sc
  ·exact(show _=pp (H1 ((cX Q).map R.str).length) (j ((cX Q).map R.str,0,eO Q)) by kernel_rfl).trans (Re sc)
  ·kernel_rfl
  ·refine o7 (d:=eM) λc f8=>?_;refine ij (o0:=([("lead",.str c)]:hf)) (al:=eO Q) (c:=eM c) (f2:=eO Q) ?_ kJ ?_ rfl;·kernel_rfl
   ·apply dq (g3:=[.str c]) (al:=eO Q);·kernel_rfl
    ·kernel_rfl
    ·kernel_rfl
    ·kernel_rfl
    ·exact fV dt rfl (QB (RK lw c f8))
  ·exact sc
 ·kernel_rfl
theorem ac0:dD (Do 311 20) (da S Q (lC Q (CD Q op))) (eO Q)=(j (.ret (.bool V),da S Q (lC Q (CD Q op)),eO Q):St):=by
 have aV:=RN lw;have RE:=lw.len;have sc:H1 (op.map bp).length=V:=b6 (by rw[aK];left);have rm:H1 ((cX Q).map eM).length=V:=b6 (by rw[aK];left);have I5:ci .Eq (.ah (op.map (o8 op λn=>n.1))) (.ah ((cX Q).map (o8 (cX Q) λc=>c)))=j V:=by
  have g:(op.map λx=>op.map λq=>cB x.1==cB q.1)=(cX Q).map λx=>(cX Q).map λq=>cB x==cB q:=by rw[<- lw.CC,dG];refine pn λx a=>?_;rw[ux,dG];rfl
  have:=QA Enc.bool.list (by decide) (n:=op.map λx=>op.map λq=>cB x.1==cB q.1) (m:=(cX Q).map λx=>(cX Q).map λq=>cB x==cB q) (λa a a a=>trivial) (λa a a a=>trivial);rw[hV g,dG,dG]at this;exact this
 unfold dD
 conv=>
  lhs
  arg 4
  whnf
 apply HS;·kernel_rfl
 ·refine HP (e:=.ah (op.map (o8 op λn=>n.1))) (b:=.ah ((cX Q).map (o8 (cX Q) λc=>c))) (al:=eO Q) (f2:=eO Q) ?_ ?_ ?_ I5;·kernel_rfl
  ·apply kM (n:=op.map bp) (al:=eO Q) (bk:=[("leads",.ah (op.map bp))]);·kernel_rfl
   ·kernel_rfl
   ·apply kL;·kernel_rfl
    ·kernel_rfl
    ·exact sc
   ·exact sc
   ·refine o7 (d:=o8 op λn=>n.1) λx ln=>?_;have ac1:=lw.ok x ln;refine ij (o0:=([("leads",.ah (op.map bp)),("p",bp x)]:hf)) (al:=eO Q) (c:=o8 op (λn=>n.1) x) (f2:=eO Q) ?_ kJ ?_ rfl;·kernel_rfl
    ·unfold o8;rw[dG];apply kM (n:=op.map bp) (al:=eO Q) (bk:=[("p",bp x)]);·kernel_rfl
     ·kernel_rfl
     ·apply kL;·kernel_rfl
      ·kernel_rfl
      ·exact sc
     ·exact sc
     ·refine o7 (d:=R.bool∘λq:bC=>cB x.1==cB q.1) λq wT=>?_;have ac2:=lw.ok q wT;have f0:=acX (J:=gz hw) (n:=x) (m:=q) (o:=eO Q) (by kernel_rfl) ac1.aA ac2.aA;refine ij (o0:=([("p",bp x),("q",bp q)]:hf)) (al:=eO Q) (c:=.bool (cB x.1==cB q.1)) (f2:=eO Q) ?_ kJ ?_ rfl;·kernel_rfl
      ·refine ej (r:=bp x) (al:=eO Q) (k:=.qT 121 (a8 a5 hw 97 [])) (g3:=[bp q]) (f2:=eO Q) ?_ ?_ ?_ f0.1 ?_ f0.2;·kernel_rfl
       ·kernel_rfl
       ·exact gB (by kernel_rfl) (by kernel_rfl)
       ·kernel_rfl
  ·apply kM (n:=(cX Q).map eM) (al:=eO Q) (bk:=[("columns",.ah ((cX Q).map eM))]);·kernel_rfl
   ·kernel_rfl
   ·apply kL;·kernel_rfl
    ·kernel_rfl
    ·exact rm
   ·exact rm
   ·refine o7 (d:=o8 (cX Q) λc=>c) λx ln=>?_;refine ij (o0:=([("columns",.ah ((cX Q).map eM)),("p",eM x)]:hf)) (al:=eO Q) (c:=o8 (cX Q) (λc=>c) x) (f2:=eO Q) ?_ kJ ?_ rfl;·kernel_rfl
    ·unfold o8;rw[dG];apply kM (n:=(cX Q).map eM) (al:=eO Q) (bk:=[("p",eM x)]);·kernel_rfl
     ·kernel_rfl
     ·apply kL;·kernel_rfl
      ·kernel_rfl
      ·exact rm
     ·exact rm
     ·refine o7 (d:=R.bool∘λq:X=>cB x==cB q) λq wT=>?_;refine ij (o0:=([("p",eM x),("q",eM q)]:hf)) (al:=eO Q) (c:=.bool (cB x==cB q)) (f2:=eO Q) ?_ kJ ?_ rfl;·kernel_rfl
      ·refine HP (e:=eM x) (b:=eM q) (al:=eO Q) (f2:=eO Q) ?_ ?_ ?_ (acV x q);·kernel_rfl
       ·exact gB (by kernel_rfl) (by kernel_rfl)
       ·exact gB (by kernel_rfl) (by kernel_rfl)
end
theorem RO{e b:p wP}{H:hf}{q:bz×hf×p ca}(h:TT cj e H o=j (.next,o0,wE))(ex:TT cj b o0 wE=j q):TT cj (e++b) H o=j q:=by rw[rD,h];exact ex
theorem ac3:c0 (fdOf hw 311)=Do 311 0::Do 311 1::Do 311 2::([Do 311 3,Do 311 4,Do 311 5]++Do 311 6::([Do 311 7,Do 311 8]++[Do 311 9,Do 311 10,Do 311 11,Do 311 12,Do 311 13,Do 311 14,Do 311 15,Do 311 16,Do 311 17,Do 311 18,Do 311 19,Do 311 20])):=by kernel_rfl
theorem ac4{n:p m0}(ae:n.length≤63)(F:qd ((numsOf n).map hp))(B:I1 ((numsOf n).map hp))(lw:we ((numsOf n).map hp) op jf):a8 (gz hw) hw 311 [] [.ah (n.map .int)]=j (.bool V):=by
 refine kK (hi:=.bool V) (o0:=da (.ah (n.map .int)) ((numsOf n).map hp) (lC ((numsOf n).map hp) (CD ((numsOf n).map hp) op))) (wE:=eO ((numsOf n).map hp)) (uZ:=eO ((numsOf n).map hp)) ?_ ?_ rfl;·kernel_rfl
 ·rw[ac3,show b2 (fdOf hw 311)=([("script":X)]:p X) by kernel_rfl];simp only[c2,hY,lS];refine zn (acd ae) ?_;generalize (numsOf n).map hp=Q at F B lw⊢;generalize R.ah (n.map .int)=S;refine zn (aci F) (zn (acj F) (RO (ack F) (zn (acm F) (RO (acn F) (zn (aco F) (zn (acq F B) (zn (acu F B) (zn (acw F B) (zn (acB F) (zn (acC F) (zn (acK F lw) (zn (acM F lw) (zn (acO F lw) (zn (acT F lw) (zn (acZ F lw) (jM (ac0 F lw) λh=>nomatch h))))))))))))))))
noncomputable def fD(an:E)(b:ga):ga:=!(an==0&&b)
theorem wg(z:X)(ns:p X):TD (z::ns)=(z=="x" ||TD ns):=by unfold TD;rw[j0];simp only[mX,cq,ps,bt];rw[eq_comm]
theorem ac5:∀ns:p X,nY ns=0↔TD ns=G:=λcc=>cc.rec (by decide+kernel) λz ns tP=>by
  have ih:=tP;rw[wg,Kg,<- ih,nY];by_cases h:0<nY ns;·rw[tt h];left
  ·rw[ss h];cases z=="x";·simp;left
   ·simp
theorem RP(an:E)(ns:p X):(cW an ns=0)↔fD an (TD ns)=V:=by
 unfold cW fD;by_cases h:an=0;·subst h;rw[tt rfl,ac5];simp
 ·rw[ss h];simp[h]
theorem CE(an:E)(ns:p X)(e b:t0):(if cW an ns=0 then e else b)=if fD an (TD ns)then e else b:=by
 by_cases h:fD an (TD ns)=V;·rw[tt h,tt ((RP an ns).mpr h)]
 ·rw[ss h,ss (λg=>h ((RP an ns).mp g))]
theorem CF(e:X):TW [e]=na e:=by unfold TW;simp
theorem RQ(r:p X):TW (dX r)=jb (TW r):=by
 unfold dX;by_cases h:r=[];·subst h;rw[tt rfl];decide+kernel
 ·rw[ss h,CF,dB]
noncomputable def hl(aa:dw):p E:=TW aa.out++jb (TW aa.data)
theorem I6(k:E)(s:X)(aa:dw):hl (hq k s aa)=hl aa++if k=0 then jb (na s)else[]:=by
 unfold hq hl;by_cases h:k=0;·rw[tt h,tt h];dsimp only;rw[lB,CF,Suf,e8]
 ·rw[ss h,ss h,c2]
theorem ac6:jb []=[]:=by decide+kernel
theorem RR(aa:dw)(f1:p X):hl ⟨aa.out++dX aa.data++f1,[]⟩=hl aa++TW f1:=by unfold hl;dsimp only;rw[lB,lB,RQ];rw[show TW []=[]from rfl,ac6,c2]
noncomputable def wh(an:E)(z:X)(b:ga):p E:=if an==1&&z=="x"&&!b then[34]else[]
theorem RS(an:E)(ns:p X)(z:X)(aa:dw):hl (iL an ns z aa)=hl aa++wh an z (TD ns):=by
 unfold iL wh;split
 ·rename_i h;rw[I6];have h1:cW an ns=0:=by simp only[iT,bt]at h;unfold cW;rw[ss (by left)]
  rw[tt h1,show jb (na "\"")=[34] by decide+kernel]
 ·rw[c2]
noncomputable def ze(an:E)(z:X)(b:ga):p E:=(if fD an (z=="x" ||b)then na (("</":X)++z++">")else[])++wh an z b
theorem ac7(an:E)(z:X)(ns:p X)(aa:dw):hl (o5 an (z::ns) aa)=hl aa++ze an z (TD ns):=by
 unfold o5 ze;rw[RS];unfold mC;rw[CE,wg];by_cases h:fD an (z=="x" ||TD ns)=V;·rw[tt h,tt h,RR,CF,e8]
 ·rw[ss h,ss h,wx]
noncomputable def I7(an:E)(n:X)(b:ga):p E:=if fD an b then jb (na (("\n":X)++n))else[]
noncomputable def I8(an:E)(z:X)(v:Y gA)(b:ga):p E:=if fD an (z=="x" ||b)then na (("<":X)++z)++TW (nW v)else[]
noncomputable def I9(an:E)(z:X)(w q:gA)(b:ga):p E:=if fD an (z=="x" ||b)then 62::jb (na (w.1++"\""++q.1++"\""))else[]
noncomputable def zf(an:E)(l:aZ)(b:ga):p E:=I7 an l.aA b++(wh an l.name b++(I8 an l.name l.value b++I9 an l.name l.words l.quoted b))
theorem ac8(an:E)(ns:p X)(l:aZ)(aa:dw):hl (lA an ns l aa)=hl aa++zf an l (TD ns):=by
 unfold lA zf I7 I8 I9;rw[I6];unfold mD;rw[CE,CE,wg];have SZ:hl (iL an ns l.name (hq (cW an ns) (("\n":X)++l.aA) aa))=hl aa++((if fD an (TD ns)then jb (na (("\n":X)++l.aA))else[])++wh an l.name (TD ns)):=by rw[RS,I6,CE,e8]
 by_cases h:fD an (l.name=="x" ||TD ns)=V;·rw[tt h,tt h,tt h,tt h,RR,SZ];unfold nX kV;simp[TW];rfl
 ·rw[ss h,ss h,ss h,ss h,SZ];simp
noncomputable def qe(Q:p aZ)(an:E):gY->p E
 |.close x=>match x.map (pr Q)with|[]=>[]|z::ns=>ze an z (TD ns)
 |.gZ x i=>match Q[i]? with|some l=>zf an l (TD (x.map (pr Q)))|none=>[]
theorem ac9(Q:p aZ)(an:E)(g:gY)(aa:dw):hl (nZ Q an aa g)=hl aa++qe Q an g:=by
 cases g with
 |close x=>unfold nZ qe;dsimp only;cases x.map (pr Q)with|nil=>exact(c2 _).symm|cons z ns=>exact ac7 an z ns aa
 |gZ x i=>unfold nZ qe;dsimp only;cases Q[i]? with|none=>exact(c2 _).symm|some l=>exact ac8 an _ l aa
theorem ada(Q:p aZ)(an:E):∀(bd:p gY) (aa:dw),hl (bd.foldl (nZ Q an) aa)=hl aa++bd.flatMap (qe Q an):=λcc=>cc.rec (λaa=>(c2 _).symm) λg bd ih aa=>by rw[Ud,ih,ac9,g9,e8]
theorem adb(Q:p aZ)(A:p (p E))(an:E):fC Q A an=na "<r>"++((eD 0 [] (A++[[]])).flatMap (qe Q an)++na "</r>"):=by
 have h:=ada Q an (eD 0 [] (A++[[]])) tT;have g:fC Q A an=hl (fB Q A an)++na "</r>":=by unfold fC hl;rw[lB,lB,RQ,CF]
 rw[g];unfold fB;rw[h,show hl tT=na "<r>" by decide+kernel,e8]
noncomputable def dx:ga->ga->p E->ga×ga×p E|q,g,[]=>(q,g,[])|q,V,t::l=>((dx q G l).1,(dx q G l).2.1,(if q then[]else[92,t])++(dx q G l).2.2)|q,G,t::l=>if t=92 then dx q V l else if t=34 then dx (!q) G l else((dx q G l).1,(dx q G l).2.1,(if q then[]else[t])++(dx q G l).2.2)
theorem I'{q:ga}{t:E}{l:p E}:dx q V (t::l)=((dx q G l).1,(dx q G l).2.1,(if q then[]else[92,t])++(dx q G l).2.2):=rfl
theorem I_{q:ga}{t:E}{l:p E}:dx q G (t::l)=if t=92 then dx q V l else if t=34 then dx (!q) G l else((dx q G l).1,(dx q G l).2.1,(if q then[]else[t])++(dx q G l).2.2):=rfl
theorem ade{q:ga}{t:E}{l:p E}:hR q V (t::l)=hR q G l:=rfl
theorem zg:∀(e b:p E) (q g:ga),dr q g (e++b)=(dx q g e).2.2++dr (dx q g e).1 (dx q g e).2.1 b/\hR q g (e++b)=hR (dx q g e).1 (dx q g e).2.1 b
 |[],b,q,g=>by cases g<;>exact⟨rfl,rfl⟩
 |t::l,b,q,V=>by have ih:=zg l b q G;rw[jW,Ql,ade,I'];dsimp only;rw[ih.1,ih.2];exact⟨(e8 ..).symm,rfl⟩
 |t::l,b,q,G=>by
  rw[jW,H4,Qm,I_];by_cases h1:t=92;·rw[tt h1,tt h1,tt h1];exact zg l b q V
  ·rw[ss h1,ss h1,ss h1];by_cases ex:t=34;·rw[tt ex,tt ex,tt ex];exact zg l b (!q) G
   ·rw[ss ex,ss ex,ss ex];have ih:=zg l b q G;dsimp only;rw[ih.1,ih.2];exact⟨(e8 ..).symm,rfl⟩
theorem zh:∀(e b:p E) (q g:ga),dx q g (e++b)=((dx (dx q g e).1 (dx q g e).2.1 b).1,(dx (dx q g e).1 (dx q g e).2.1 b).2.1,(dx q g e).2.2++(dx (dx q g e).1 (dx q g e).2.1 b).2.2)
 |[],b,q,g=>by cases g<;>rfl
 |t::l,b,q,V=>by have ih:=zh l b q G;rw[jW,I',I'];dsimp only;rw[ih,e8]
 |t::l,b,q,G=>by
  rw[jW,I_,I_];by_cases h1:t=92;·rw[tt h1,tt h1];exact zh l b q V
  ·rw[ss h1,ss h1];by_cases ex:t=34;·rw[tt ex,tt ex];exact zh l b (!q) G
   ·rw[ss ex,ss ex];have ih:=zh l b q G;dsimp only;rw[ih,e8]
def C6(q:ga)(e:p E)(es:ga)(T:p E):Prop:=dx q G e=(es,G,T)
theorem C6.strip{q:ga}{e T:p E}(h:C6 q e es T):dr q G e=T/\hR q G e=es:=by have:=zg e [] q G;rw[c2]at this;unfold C6 at h;rw[this.1,this.2,h];dsimp only;refine⟨?_,rfl⟩;rw[show dr es G []=[]from by cases es<;>rfl,c2]
noncomputable def RT(an:E):p E:=if an=0 then[0,1]else if an=1 then[0,1,2,3,4]else[0,1,2,3]
noncomputable def iP(an:E):p E:=if an=0 then[0]else if an=1 then[0,3]else[0,2]
noncomputable def wi(he:p dI)(t3:p E):p E:=TW (nN he t3)
noncomputable def fE(he:p dI)(t3:p E):p E:=TW (gW he t3)
noncomputable def o9(he:p dI):p E:=TW ((he.filter λx=>[0,3].contains x.kind).map (·.nL))
theorem adf(x q:p dI)(t3:p E):wi (x++q) t3=wi x t3++wi q t3:=by unfold wi nN;rw[z1,jo,lB]
theorem wj(x q:p dI)(t3:p E):fE (x++q) t3=fE x t3++fE q t3:=by unfold fE gW;rw[z1,jo,lB]
theorem Ja(x q:p dI):o9 (x++q)=o9 x++o9 q:=by unfold o9;rw[z1,jo,lB]
noncomputable def hn:E->p E->Y E|z,[]=>j z|z,t::l=>if t=40 then hn (z+1) l else match z with|0=>bn|m+1=>hn m l
theorem rN{z t:E}{l:p E}:hn z (t::l)=if t=40 then hn (z+1) l else match z with|0=>bn|m+1=>hn m l:=by cases z<;>rfl
theorem CG:∀(e b:p E) (z:E),hn z (e++b)=(hn z e).bind λm=>hn m b:=λcc=>cc.rec (λb z=>rfl) λt l ih b z=>by
  rw[jW,rN,rN];by_cases h:t=40;·rw[tt h,tt h];exact ih b (z+1)
  ·rw[ss h,ss h];cases z with|zero=>rfl|succ m=>exact ih b m
noncomputable def ho:ga->p E->ga×p E|g,[]=>(g,[])|true,_::l=>ho G l|false,t::l=>if t=92 then ho V l else if t=40\/t=41 then((ho G l).1,t::(ho G l).2)else ho G l
theorem Jb{t:E}{l:p E}:ho G (t::l)=if t=92 then ho V l else if t=40\/t=41 then((ho G l).1,t::(ho G l).2)else ho G l:=rfl
theorem adg{z t:E}{l:p E}:fp z G (t::l)=if t=92 then fp z V l else if t=40 then fp (z+1) G l else if t=41 then(match z with|0=>bn|m+1=>fp m G l)else fp z G l:=by cases z<;>rfl
theorem wk:∀(e l:p E) (g:ga) (z:E),fp z g (e++l)=(hn z (ho g e).2).bind λm=>fp m (ho g e).1 l
 |[],l,g,z=>by cases g<;>rfl
 |t::e,l,V,z=>by exact wk e l G z
 |t::e,l,G,z=>by
  rw[jW,adg,Jb];by_cases h1:t=92;·rw[tt h1,tt h1];exact wk e l V z
  ·rw[ss h1,ss h1];by_cases ex:t=40;·subst ex;rw[tt rfl,tt (.inl rfl)];dsimp only;rw[rN];exact wk e l G (z+1)
   ·rw[ss ex];by_cases h3:t=41;·subst h3;rw[tt rfl,tt (.inr rfl)];dsimp only;rw[rN];rw[ss ex];cases z with|zero=>rfl|succ m=>exact wk e l G m
    ·rw[ss h3,ss (by rintro (h|h);exact ex h;exact h3 h)];exact wk e l G z
structure Seg(an:E)(q:ga)(e:p E)(es:ga)(he:p dI)(m:E):Prop where
 wr:wi he (RT an)=e
 ch:dx q G e=(es,G,fE he (iP an))
 nL:ho G (fE he [0,3])=(G,o9 he)
 all:∀x∈he,x.kind<5/\x.text.length≤1000
 zi:∀t∈o9 he,t=40\/t=41
 jf:e.length≤200*m
 i7:he.length≤10*m
 zj:(o9 he).length≤2*m
theorem zk:∀(e b:p E) (g:ga),ho g (e++b)=((ho (ho g e).1 b).1,(ho g e).2++(ho (ho g e).1 b).2)
 |[],b,g=>by cases g<;>rfl
 |t::e,b,V=>zk e b G
 |t::e,b,G=>by
  rw[jW,Jb,Jb];by_cases h1:t=92;·rw[tt h1,tt h1];exact zk e b V
  ·rw[ss h1,ss h1];by_cases ex:t=40\/t=41;·rw[tt ex,tt ex];dsimp only;rw[zk e b G];rfl
   ·rw[ss ex,ss ex];exact zk e b G
theorem Seg.nil(an:E)(q:ga):Seg an q [] q [] 0:=⟨rfl,by cases q<;>rfl,rfl,(λx h=>by cases h),(λx h=>by cases h),Da _,Da _,Da _⟩
theorem Seg.app{q RU:ga}{e b:p E}{No:p dI}{k:E}(h:Seg an q e es he m)(eg:Seg an es b RU No k):Seg an q (e++b) RU (he++No) (m+k) where
 wr:=by rw[adf,h.wr,eg.wr]
 ch:=by
  rw[zh,h.ch]
  dsimp only
  rw[eg.ch,wj]
 nL:=by
  rw[wj,zk,h.nL]
  dsimp only
  rw[eg.nL,Ja]
 all x ln:=(gq.mp ln).elim (h.all x) (eg.all x)
 zi t f0:=by
  rw[Ja]at f0
  exact(gq.mp f0).elim (h.zi t) (eg.zi t)
 jf:=by have:=h.jf;have:=eg.jf;rw[ct];left
 i7:=by have:=h.i7;have:=eg.i7;rw[ct];left
 zj:=by have:=h.zj;have:=eg.zj;rw[Ja,ct];left
theorem Seg.mono{q:ga}{e:p E}{k:E}(h:Seg an q e es he m)(gl:m≤k):Seg an q e es he k:=⟨h.wr,h.ch,h.nL,h.all,h.zi,by have:=h.jf;left,by have:=h.i7;left,by have:=h.zj;left⟩
noncomputable def qf(an:E)(q:ga)(e:p E)(es:ga)(he:p dI):ga:=decide (wi he (RT an)=e)&&decide (dx q G e=(es,G,fE he (iP an)))&&decide (ho G (fE he [0,3])=(G,o9 he))&&(he.all λx=>decide (x.kind<5)&&decide (x.text.length≤1000))&&((o9 he).all λt=>t==40 ||t==41)&&decide (e.length≤200)&&decide (he.length≤10)&&decide ((o9 he).length≤2)
theorem tU{q:ga}{e:p E}(h:qf an q e es he=V):Seg an q e es he 1:=by unfold qf at h;simp only[iT,mX,lO,ps,bt]at h;obtain⟨⟨⟨⟨⟨⟨⟨h1,ex⟩,h3⟩,aS⟩,dT⟩,ls⟩,rr⟩,BR⟩:=h;exact⟨h1,ex,h3,aS,dT,by left,by left,by left⟩
noncomputable def Jc(z:X)(b:ga):p dI:=⟨("</":X)++z++">",if z=="x" ||b then 2 else 0,""⟩::if z=="x"&&!b then[mK]else[]
theorem RV(z:X)(ns:p X):lz (z::ns)=Jc z (TD ns):=by show(⟨("</":X)++z++">",if TD (z::ns)then 2 else 0,""⟩::if z=="x"&&!TD ns then[mK]else[]:p dI)=_;rw[wg];rfl
noncomputable def Jd(n:X)(b:ga):p dI:=[⟨("\n":X)++n,if b then 2 else 0,""⟩]
noncomputable def Je(z:X)(b:ga):p dI:=if z=="x"&&!b then[mK]else[]
noncomputable def y3(z:X)(b:ga):E:=if z=="x" ||b then 2 else 0
noncomputable def adh(z:X):Y gA->X|none=>("<":X)++z|some _=>("<":X)++z++" k="
noncomputable def Jf(z:X)(v:Y gA)(b:ga):p dI:=⟨adh z v,y3 z b,""⟩::qb (y3 z b) v
noncomputable def Jg(z:X)(w q:gA)(b:ga):p dI:=[⟨(">":X)++w.2.1,y3 z b,w.2.2⟩,⟨q.2.1,y3 z b+1,q.2.2⟩]
theorem RW(ns:p X)(l:aZ):jQ ns l=Jd l.aA (TD ns)++(Je l.name (TD ns)++(Jf l.name l.value (TD ns)++Jg l.name l.words l.quoted (TD ns))):=by obtain⟨n,z,v,w,q⟩:=l;cases v<;>rfl
noncomputable def hU(an:E)(b:ga):ga:=an==1&&b
theorem adi:∀an∈[0,1,2],∀z∈fm,∀b∈[V,G],qf an (hU an (z=="x" ||b)) (ze an z b) (hU an b) (Jc z b)=V:=by decide+kernel
theorem adj:∀an∈[0,1,2],∀n∈fl,∀b∈[V,G],qf an (hU an b) (I7 an n b) (hU an b) (Jd n b)=V:=by decide+kernel
theorem adk:∀an∈[0,1,2],∀z∈fm,∀b∈[V,G],qf an (hU an b) (wh an z b) (hU an (z=="x" ||b)) (Je z b)=V:=by decide+kernel
theorem adl:∀an∈[0,1,2],∀z∈fm,∀v∈mx,∀b∈[V,G],qf an (hU an (z=="x" ||b)) (I8 an z v b) (hU an (z=="x" ||b)) (Jf z v b)=V:=by decide+kernel
theorem adm:∀an∈[0,1,2],∀z∈fm,∀w∈p8,∀q∈rt,∀b∈[V,G],qf an (hU an (z=="x" ||b)) (I9 an z w q b) (hU an (z=="x" ||b)) (Jg z w q b)=V:=by decide+kernel
theorem rO(b:ga):b∈[V,G]:=by cases b<;>decide
theorem adn(t1:an∈[0,1,2]){z:X}(pi:z∈fm)(ns:p X):Seg an (hU an (TD (z::ns))) (ze an z (TD ns)) (hU an (TD ns)) (lz (z::ns)) 1:=by rw[RV,wg];exact tU (adi an t1 z pi _ (rO _))
theorem ado(t1:an∈[0,1,2]){l:aZ}(d:l.Good)(ns:p X):Seg an (hU an (TD ns)) (zf an l (TD ns)) (hU an (TD (l.name::ns))) (jQ ns l) 4:=by rw[RW,wg];exact(tU (adj an t1 _ d.aA _ (rO _))).app ((tU (adk an t1 _ d.name _ (rO _))).app ((tU (adl an t1 _ d.name _ d.value _ (rO _))).app (tU (adm an t1 _ d.name _ d.words _ d.quoted _ (rO _)))))
theorem RX(nw:∀l∈Q,l.Good){k:E}(h:k<Q.length):pr Q k∈fm:=by rw[tS h];exact(nw _ (gJ h)).name
section
variable(nw:∀l∈Q,l.Good)(t1:an∈[0,1,2])
include nw t1
theorem Jh{q:p E}:∀{x:p E},q<:+x->(∀ev∈x,ev<Q.length)->Seg an (hU an (TD (x.map (pr Q)))) (((ki q x).map gY.close).flatMap (qe Q an)) (hU an (TD (q.map (pr Q)))) (((ki q x).map gY.close).flatMap (g0 Q)) (x.length - q.length)
 |[],fd,_=>by have:q=[]:=DQ.mp fd;subst this;exact Seg.nil _ _
 |k::x,fd,s3=>by
  rw[tM];by_cases h:k::x=q;·subst h;rw[tt rfl];exact(Seg.nil _ _).mono (e6 _)
  ·rw[ss h];have e0:q<:+x:=by
    rcases Uh.mp fd with g|g;·exact aB g.symm h
    ·exact g
   have ih:=Jh e0 λev kE=>s3 ev (.tail _ kE);have f0:=adn t1 (RX nw (s3 k (.head _))) (x.map (pr Q));have:=e0.length_le;rw[cs,cs,g9,g9];exact(f0.app ih).mono (by rw[iW];left)
theorem seg_go:∀(s5:p (p E)) (i:E) (x:p E),pe Q.length i x s5->(∀ev∈x,ev<Q.length)->Seg an (hU an (TD (x.map (pr Q)))) ((eD i x s5).flatMap (qe Q an)) (hU an G) ((eD i x s5).flatMap (g0 Q)) (x.length+5*s5.length)
 |[],_,_,f0,_=>by cases f0
 |[e],i,x,f0,s3=>by obtain⟨rfl,_⟩:=f0;exact(Jh nw t1 (Ui (l:=x)) s3).mono (by simp)
 |e::b::s5,i,x,f0,s3=>by
  obtain⟨fd,np,f0⟩:=f0;have adp:∀ev∈e.reverse,ev<Q.length:=λev h=>s3 ev (fd.mem h);have h1:=Jh nw t1 fd s3;have ex:=ado t1 (nw _ (gJ np)) (e.reverse.map (pr Q));have h3:=seg_go (b::s5) (i+1) (i::e.reverse) f0 λev h=>by cases h with|head=>exact np|tail _ h=>exact adp ev h
  have ae:=fd.length_le;rw[cs,tS np]at h3;have SZ:qe Q an (.gZ e.reverse i)=zf an Q[i] (TD (e.reverse.map (pr Q))):=by unfold qe;dsimp only;rw[row_get np]
  have bu:g0 Q (.gZ e.reverse i)=jQ (e.reverse.map (pr Q)) Q[i]:=by unfold g0;dsimp only;rw[row_get np]
  have g:eD i x (e::b::s5)=(ki e.reverse x).map .close++.gZ e.reverse i::eD (i+1) (i::e.reverse) (b::s5):=y4;rw[g,KN,KN,g9,g9,SZ,bu];exact(h1.app (ex.app h3)).mono (by simp at ae⊢;left)
theorem RY(ae:Q.length≤5):Seg an G (fC Q (b3 Q) an) G (cz Q) 32:=by
 have h:=seg_go nw t1 (b3 Q++[[]]) 0 [] (Cw Q) (λev h=>by cases h);have wT:hU an G=G:=by unfold hU;simp
 rw[show TD (([]:p E).map (pr Q))=G from(by decide+kernel:TD []=G),wT]at h;have az:Seg an G (na "<r>") G [⟨"<r>",0,""⟩] 1:=tU ((by decide+kernel:∀an∈[0,1,2],qf an G (na "<r>") G [⟨"<r>",0,""⟩]=V) an t1);have HG:Seg an G (na "</r>") G [⟨"</r>",0,""⟩] 1:=tU ((by decide+kernel:∀an∈[0,1,2],qf an G (na "</r>") G [⟨"</r>",0,""⟩]=V) an t1);rw[adb];refine(az.app (h.app HG)).mono ?_;have:=rL Q;simp;left
end
theorem RZ(nw:∀l∈Q,l.Good)(ae:Q.length≤5):qd Q:=by have S:∀an∈[0,1,2],Seg an G (fC Q (b3 Q) an) G (cz Q) 32:=λan t1=>RY nw t1 ae;have t4:=S 0 (by decide);have ji:=S 1 (by decide);have kn:=S 2 (by decide);have aa:∀an∈[0,1,2],dr G G (fC Q (b3 Q) an)=fE (cz Q) (iP an)/\hR G G (fC Q (b3 Q) an)=G:=λan t1=>C6.strip (S an t1).ch;exact⟨nw,ae,λan t1=>by have:=(S an t1).jf;left,t4.wr,ji.wr,kn.wr,λan t1=>(aa an t1).2,(aa 0 (by decide)).1,(aa 1 (by decide)).1,(aa 2 (by decide)).1,λx ln=>(t4.all x ln).1,λx ln=>(t4.all x ln).2,by have:=t4.i7;left⟩
section
open StrLaws Builtin.Str in
theorem aeS(c:X)(h:jV c=V):∃(x:X) (q:X) (s:p X),na c=na x++(q::s).flatMap (λu=>40::41::na u)/\na (Txt.replace c "()" "")=na x++(q::s).flatMap na:=by
 have KM:("()":X)=⟨#[40,41]⟩:=by decide+kernel
 have R0:("()":X).length=2:=by decide+kernel
 have adq:na ("()":X)=[40,41]:=by decide+kernel
 have ads:na ("":X)=[]:=by decide+kernel
 obtain⟨i,h1,ex⟩:=(found_iff c "()").mp h;rcases occ_head c "()" (c.length+1) (by left)with⟨_,pi⟩|⟨t,l,gt,_,_⟩;·exact aB ⟨h1,ex⟩ (pi i)
 ·obtain⟨f,f0⟩:=occ_chain c "()" (c.length+1);have s3:=join_partsFrom c "()" _ 0 f f0;rw[gt,sub_whole,R0]at s3;obtain⟨q,s,ln⟩:=partsFrom_ne c 2 (t+2) l;have g:partsFrom c 2 0 (t::l)=strSub c 0 t::q::s:=by rw[<- ln];rfl
  refine⟨strSub c 0 t,q,s,?_,?_⟩;·rw[g]at s3;have:=GT na s3;rw[tD,adq]at this;exact this.symm
  ·unfold Txt.replace;rw[gt,R0,show((t::l).isEmpty ||(2==0&&("":X).length==0))=G from rfl,ss hW,partsBetween_eq,g,agB,tD,ads];rfl
theorem adt(z:E)(n:p E):hn z (40::41::n)=hn z n:=by rw[rN,tt rfl,rN];rfl
theorem adu:∀(s:p X) (z:E),hn z (s.flatMap λu=>40::41::na u)=hn z (s.flatMap na):=λcc=>cc.rec (λz=>rfl) λu s ih z=>by rw[g9,g9];show hn z (40::41::(na u++_))=_;rw[adt,CG,CG];congr 1;funext m;exact ih m
theorem adv:∀s:p X,(s.flatMap λu=>40::41::na u).length=(s.flatMap na).length+2*s.length:=λcc=>cc.rec (rfl) λu s ih=>by have:=ih;rw[g9,g9,ct,ct,this];simp only[iW];left
theorem R1(h:jV c=V):hn 0 (na (Txt.replace c "()" ""))=hn 0 (na c)/\(na (Txt.replace c "()" "")).length+2≤(na c).length/\∀t∈na (Txt.replace c "()" ""),t∈na c:=by
 obtain⟨x,q,s,h1,ex⟩:=aeS c h;rw[h1,ex];refine⟨?_,?_,?_⟩;·rw[CG,CG];congr 1;funext m;exact(adu _ m).symm
 ·have:=adv (q::s);rw[ct,ct,this];simp only[iW];left
 ·intro t f0;rcases gq.mp f0 with h|h;·exact oc _ h
  ·refine pu _ ?_;obtain⟨u,ty,pc⟩:=agW.mp h;exact agW.mpr ⟨u,ty,.tail _ (.tail _ pc)⟩
theorem adw(h:jV c=V):2≤(na c).length:=by have:=(R1 h).2.1;left
theorem adx:∀(z:E) (c:X),(hn 0 (na (g4 z c))=hn 0 (na c)/\(na (g4 z c)).length≤(na c).length/\∀t∈na (g4 z c),t∈na c)/\((na c).length≤2*z+1->jV (g4 z c)=G):=λcc=>cc.recAux
 (λc=>⟨⟨rfl,Da _,λt h=>h⟩,λae=>by
  show jV c=G
  rw[lP]
  intro h
  have:=adw h
  left⟩)
 λz ih c=>by
  rw[I0];by_cases h:jV c=V;·rw[tt h];obtain⟨e,b,t⟩:=R1 h;obtain⟨⟨er,sv,aL⟩,aR⟩:=ih (Txt.replace c "()" "");exact⟨⟨er.trans e,by left,λk gl=>t k (aL k gl)⟩,λae=>aR (by left)⟩
  ·rw[ss h];exact⟨⟨rfl,Da _,λt h=>h⟩,λa=>lP.mpr h⟩
theorem ady:∀(n:p E) (z:E),(∀t∈n,t=40)->hn z n=j (z+n.length):=λcc=>cc.rec (λz a=>rfl) λt n ih z h=>by rw[rN,tt (h t (.head _)),ih (z+1) λr hd=>h r (.tail _ hd)];simp only[iW];congr 1;left
theorem adz:∀(n:p E),(∀t∈40::n,t=40\/t=41)->(∀i,((40::n).drop i).take 2≠[40,41])->∀t∈n,t=40:=λcc=>cc.rec (λa a=>λt h=>by cases h) λr n ih cr pi=>by
  have hd:r=40:=by
   rcases cr r (.tail _ (.head _))with h|h;·exact h
   ·subst h;exact aB rfl (pi 0)
  subst hd;intro t f0;cases f0 with|head=>rfl|tail _ f0=>exact ih (λt h=>cr t (.tail _ h)) (λi=>pi (i+1)) t f0
open StrLaws in
theorem adA(h:jV c=G)(cr:∀t∈na c,t=40\/t=41):(hn 0 (na c)==j 0)=(c==""):=by
 have pi:∀i,((na c).drop i).take 2≠[40,41]:=by
  intro i np;have ty:jV c=V:=by
   refine(found_iff c "()").mpr ⟨i,?_,?_⟩;·have:=GT pl np;rw[Dw,Ks,ik]at this;have this:min 2 (c.length - i)=2:=this;rw[show("()":X).length=2 by decide+kernel];left
   ·rw[subAt_eq,show("()":X).length=2 by decide+kernel,bt];exact np.trans (by decide+kernel)
  rw[ty]at h;cases h
 have rs:(c=="")=(na c==[]):=by
  rw[j0,bt,bt];constructor;·intro h;rw[h];decide+kernel
  ·intro h;exact tC (h.trans (by decide+kernel))
 rw[rs];generalize na c=n at cr pi;cases n with
 |nil=>rfl
 |cons t n=>
  rw[show((t::n)==([]:p E))=G from rfl,lP];intro t1;have t1:=bt.mp t1;rcases cr t (.head _)with h1|h1
  ·subst h1;have fe:=adz n cr pi;rw[ady (40::n) 0 λr hd=>by cases hd with|head=>rfl|tail _ hd=>exact fe r hd]at t1;simp at t1
  ·subst h1;rw[rN]at t1;cases t1
theorem adB(nw:∀l∈Q,l.Good)(ae:Q.length≤5):I1 Q:=by
 have s:=RY nw (an:=0) (by decide) ae;have ail:(TW (mF Q)).length≤64:=s.zj;have fi:na (ip Q)=TW (mF Q):=by unfold ip;rw[dB]
 have wf:=λz=>adx z (ip Q);have R2:jV (g4 60 (ip Q))=G:=(wf 60).2 (by rw[fi];left);refine⟨by left,R2,λm a=>?_,?_⟩;·have:=(wf m).1.2.1;rw[fi]at this;rw[<- ik];left
 ·have cr:=wk (TW (gW (cz Q) [0,3])) [] G 0;rw[c2,show ho G (TW (gW (cz Q) [0,3]))=(G,TW (mF Q))from s.nL]at cr;dsimp only at cr;unfold yR;rw[cr,<- adA R2 λt f0=>s.zi t (by have:=(wf 60).1.2.2 t f0;rw[fi]at this;exact this),(wf 60).1.1,fi];congr 1;cases hn 0 (TW (mF Q))<;>rfl
end
section
variable{lt:E->E->ga}
noncomputable def mG(lt:E->E->ga)(k i:E):ga:=(bE (i+1)).all λev=>decide (ev≤k) ||lt k ev
noncomputable def wu(lt:E->E->ga)(k i:E):ga:=(bE i).all λev=>decide (ev≤k) ||lt k ev
noncomputable def upTo(lt:E->E->ga)(i:E):p E:=(bE i).filter λk=>wu lt k i
noncomputable def d7(lt:E->E->ga)(i:E):p E:=(bE i).filter λk=>mG lt k i
theorem wl{k i:E}:mG lt k i=V↔∀ev,ev≤i->k<ev->lt k ev=V:=by
 unfold mG;rw[lO];constructor
 ·intro h ev s3 gl;have:=h ev (hZ.mpr (by left));rw[ps,mX]at this;rcases this with h|h;·left
  ·exact h
 ·intro h ev s3;have:=hZ.mp s3;rw[ps,mX];by_cases gl:ev≤k;·exact .inl gl
  ·exact .inr (h ev (by left) (by left))
theorem qg{k i:E}:wu lt k i=V↔∀ev,ev<i->k<ev->lt k ev=V:=by
 unfold wu;rw[lO];constructor
 ·intro h ev s3 gl;have:=h ev (hZ.mpr (by left));rw[ps,mX]at this;rcases this with h|h;·left
  ·exact h
 ·intro h ev s3;have:=hZ.mp s3;rw[ps,mX];by_cases gl:ev≤k;·exact .inl gl
  ·exact .inr (h ev (by left) (by left))
theorem mH{k i:E}:k∈d7 lt i↔k<i/\∀ev,ev≤i->k<ev->lt k ev=V:=by unfold d7;rw[mY,hZ,wl]
theorem mem_upTo{k i:E}:k∈upTo lt i↔k<i/\∀ev,ev<i->k<ev->lt k ev=V:=by unfold upTo;rw[mY,hZ,qg]
theorem R3:∀{x:p E},x.Pairwise (λk jw=>jg jw=V->jg k=V)->ek jg x=x.filter λk=>!jg k
 |[],_=>rfl
 |k::x,h=>by
  rw[Un]at h;rw[v3];by_cases cr:jg k=V;·rw[tt cr,k5,ss (by rw[cr];decide),R3 h.2]
  ·rw[ss cr];refine(Uo.mpr λe db=>?_).symm;rw[Ka,Ub];cases db with|head=>exact lP.mpr cr|tail _ db=>exact lP.mpr λeg=>cr (h.1 e db eg)
variable(fj:∀i ev k,lt i ev=V->lt ev k=V->lt i k=V)
theorem adC(i:E):(upTo lt i).filter (λk=>lt k i)=d7 lt i:=by
 unfold upTo d7;rw[KU];refine wZ λk gl=>?_;have gl:=hZ.mp gl;rw[j0,iT,qg,wl];constructor
 ·rintro ⟨h1,ex⟩ ev s3 Ji;by_cases g:ev=i;·subst g;exact h1
  ·exact ex ev (by left) Ji
 ·intro h;exact⟨h i (Da _) gl,λev s3 Ji=>h ev (by left) Ji⟩
theorem adD(i:E):upTo lt (i+1)=d7 lt i++[i]:=by
 unfold upTo d7;rw[DP,z1];congr 1;have:wu lt i (i+1)=V:=qg.mpr λev s3 gl=>by left
 rw[k5,this];rfl
include fj in
theorem adE(i:E):ek (λk=>!lt k i) (upTo lt i).reverse=(d7 lt i).reverse:=by
 rw[R3,<- adC,List.filter_reverse];·congr 1;refine wZ λk a=>?_;exact agA _
 ·rw[List.pairwise_reverse];have ln:(upTo lt i).Pairwise (·<·):=agX _ agY;refine aiW (λ{e b} db cr p3 h=>?_) ln;have p0:=(mem_upTo.mp db).2 b (mem_upTo.mp cr).1 p3;rw[Ka,Ub]at h⊢;rw[lP]at h⊢;exactλll=>h (fj e b i p0 ll)
include fj in
theorem adF:∀(z i:E),jP lt z i (upTo lt i).reverse=(bE z).map λm=>d7 lt (i+m):=λcc=>cc.recAux (λi=>rfl) λz tP i=>by have ih:=tP (i+1);rw[adD,List.reverse_append]at ih;rw[tJ,adE fj,DR,pm,cs,dG];rw[show i::(d7 lt i).reverse=[i].reverse++(d7 lt i).reverse from rfl,ih];congr 1;refine pn λm a=>?_;rw[ux];congr 1;left
include fj in
theorem R4(z:E):kQ lt z=(bE z).map (d7 lt):=by have:=adF fj z 0;unfold kQ;rw[show(upTo lt 0).reverse=[]from rfl]at this;rw[this];refine pn λm a=>?_;rw[jZ]
include fj in
theorem R5{h k i:E}(h1:h∈d7 lt k)(ex:k∈d7 lt i):h∈d7 lt i:=by
 rw[mH]at*;refine⟨by left,λev s3 t1=>?_⟩;by_cases gl:ev≤k;·exact h1.2 ev gl t1
 ·exact fj _ _ _ (h1.2 k (Da _) h1.1) (ex.2 ev s3 (by left))
theorem adG{h k i:E}(h1:h∈d7 lt i)(ex:h<k)(h3:k≤i):h∈d7 lt k:=by rw[mH]at*;exact⟨ex,λev s3 t1=>h1.2 ev (by left) t1⟩
noncomputable def hr(lt:E->E->ga)(c:E->ga)(i:E):ga:=!(d7 lt i).any c
variable{c:E->ga}
theorem rP{i:E}:hr lt c i=V↔∀k∈d7 lt i,c k=G:=by unfold hr;rw[uc,afi];simp only[sb]
theorem Jj{i:E}(h:hr lt c i=G):∃k∈d7 lt i,c k=V:=by unfold hr at h;rw[Bool.not_eq_false',Dq]at h;exact h
include fj in
theorem SO{i:E}:∀(m k:E),k≤m->k∈d7 lt i->c k=V->∃h∈d7 lt i,c h=V/\hr lt c h=V:=by
 intro m;induction m with
 |zero=>intro k gl h1 ex;refine⟨k,h1,ex,rP.mpr λev s3=>?_⟩;have:=(mH.mp s3).1;left
 |succ m ih=>
  intro k gl h1 ex;by_cases fd:hr lt c k=V;·exact⟨k,h1,ex,fd⟩
  ·obtain⟨ev,s3,f8⟩:=Jj (lP.mpr fd);have:=(mH.mp s3).1;exact ih ev (by left) (R5 fj s3 h1) f8
include fj in
theorem R6{i k:E}(h:hr lt c i=V)(gl:k∈d7 lt i):hr lt c k=V:=rP.mpr λev s3=>rP.mp h ev (R5 fj s3 gl)
noncomputable def tV(lt:E->E->ga)(a4:Y E)(i:E):ga:=match a4 with|none=>V|some h=>!lt h i
noncomputable def tW(lt:E->E->ga)(c:E->ga):Y E->E->E->p E|_,_,0=>[]|a4,i,m+1=>if tV lt a4 i=V then i::tW lt c (if c i then j i else bn) (i+1) m else tW lt c a4 (i+1) m
theorem R7{lt:E->E->ga}{c:E->ga}{h:Y E}{i:E}:tW lt c h i (m+1)=if tV lt h i=V then i::tW lt c (if c i then j i else bn) (i+1) m else tW lt c h (i+1) m:=rfl
def adH(lt:E->E->ga)(c:E->ga)(i:E):Y E->Prop|none=>∀h,h<i->c h=V->hr lt c h=V->wu lt h i=G|some h=>h<i/\c h=V/\hr lt c h=V/\wu lt h i=V
include fj in
theorem adI:∀(m i:E) (a4:Y E),adH lt c i a4->tW lt c a4 i m=((bE m).map (i+·)).filter (hr lt c):=λcc=>cc.recAux (λi a4 a=>rfl) λm ih i a4 Z=>by
  have g:(bE (m+1)).map (i+·)=i::(bE m).map (i+1+·):=by rw[pm,cs,dG];congr 1;refine pn λk a=>?_;rw[ux];left
  rw[g,R7,k5];by_cases gl:tV lt a4 i=V
  ·rw[tt gl];have fd:hr lt c i=V:=by
    rw[<- agZ];intro pi;obtain⟨k,Jk,oS⟩:=Jj pi;obtain⟨eg,h1,ex,h3⟩:=SO fj k k (Da _) Jk oS;obtain⟨aS,dT⟩:=mH.mp h1;cases a4 with
    |none=>have:=Z eg aS ex h3;rw[lP]at this;exact this (qg.mpr λev s3 t1=>dT ev (by left) t1)
    |some h=>
     obtain⟨va,oE,Jl,rQ⟩:=Z;have rQ:=qg.mp rQ;rcases Up eg h with ae|rfl|ae;·have:=rP.mp Jl eg (mH.mpr ⟨ae,λev s3 t1=>dT ev (by left) t1⟩);rw[this]at ex;cases ex
     ·have:=dT i (Da _) aS;unfold tV at gl;dsimp only at gl;rw[this]at gl;cases gl
     ·have:=rP.mp h3 h (mH.mpr ⟨ae,λev s3 t1=>rQ ev (by left) t1⟩);rw[this]at oE;cases oE
   rw[tt fd];congr 1;refine ih (i+1) _ ?_;by_cases f8:c i=V;·rw[tt f8];exact⟨gp _,f8,fd,qg.mpr λev s3 t1=>by left⟩
   ·rw[ss f8];intro h h1 ex h3;rw[lP];intro ln;have ln:=qg.mp ln;have aC:h≠i:=by rintro rfl;exact f8 ex
    have:=rP.mp fd h (mH.mpr ⟨by left,λev s3 t1=>ln ev (by left) t1⟩);rw[this]at ex;cases ex
  ·rw[ss gl];cases a4 with
   |none=>exact aB rfl gl
   |some h=>
    obtain⟨va,oE,Jl,rQ⟩:=Z;have rQ:=qg.mp rQ;have ae:lt h i=V:=by unfold tV at gl;dsimp only at gl;rw[uc,agZ]at gl;exact gl
    have fd:¬hr lt c i=V:=λfd=>by
     have:=rP.mp fd h (mH.mpr ⟨va,λev s3 t1=>by
      by_cases g:ev=i;·subst g;exact ae
      ·exact rQ ev (by left) t1⟩)
     rw[this]at oE;cases oE
    rw[ss fd];refine ih (i+1) (j h) ⟨by left,oE,Jl,qg.mpr λev s3 t1=>?_⟩;by_cases g:ev=i;·subst g;exact ae
    ·exact rQ ev (by left) t1
end
theorem R8{i:E}:∀{z:E},i≤z->(bE z).filter (λk=>decide (k<i))=bE i
 |0,h=>by
  have:i=0:=by left
  subst this;rfl
 |z+1,h=>by
  rw[DP,z1];by_cases g:i=z+1
  ·subst g;rw[DP,Uo.mpr λe db=>?_];·congr 1;rw[k5,hV (gp z)];rfl
   ·have:=hZ.mp db;exact hV (by left)
  ·rw[R8 (by left),k5,lL (by left)];exact c2 _
theorem adJ{s:p E}(fd:s.Pairwise (·<·))(pc:m<s.length):s.filter (λk=>decide (k<s[m]))=s.take m:=by
 have g:s=s.take m++s[m]::s.drop (m+1):=by rw[agc];exact(agd m s).symm
 have ln:=fd;rw[g,aft]at ln;obtain⟨h1,ex,h3⟩:=ln;rw[Un]at ex;generalize s[m]=i at*
 conv=>
  lhs
  rw[g]
 rw[z1,Uo.mpr λe db=>hV (h3 e db i (.head _)),List.filter_eq_nil_iff.mpr,c2];intro e db;rw[mX];cases db with|head=>exact lQ _|tail _ db=>have:=ex.1 e db;left
noncomputable def dE(s:p E)(u:E):E:=(s[u]?).getD 0
theorem n0{s:p E}{u:E}(h:u<s.length):dE s u=s[u]:=by unfold dE;rw[k8 h];rfl
theorem adK{s:p E}(pc:m≤s.length):s.take m=(bE m).map (dE s):=by refine ag0 (by simp;left) λi h1 ex=>?_;simp at h1;rw[List.getElem_take,Uq,ag1,n0 (by left)]
theorem adL{s:p E}(fd:s.Pairwise (·<·)){u:E}(ty:u<s.length):s.idxOf (dE s u)=u:=by
 rw[n0 ty];induction s generalizing u with
 |nil=>cases ty
 |cons e s ih=>
  rw[Un]at fd;cases u with
  |zero=>rw[List.getElem_cons_zero,List.idxOf_cons_self]
  |succ u=>
   have q4:u<s.length:=by simpa using ty
   rw[List.getElem_cons_succ,Ul];have:=fd.1 _ (gJ q4);rw[show(e==s[u])=G by rw[eo];left,ih fd.2 q4];rfl
section
variable{lt lt':E->E->ga}{c:E->ga}{z:E}(fj:∀i ev k,lt i ev=V->lt ev k=V->lt i k=V)
noncomputable def bW(lt:E->E->ga)(c:E->ga)(z:E):p E:=(bE z).filter (hr lt c)
theorem Jm:(bW lt c z).Pairwise (·<·):=agX _ agY
theorem adM(pc:m<(bW lt c z).length):(bE (bW lt c z)[m]).filter (hr lt c)=(bW lt c z).take m:=by rw[<- adJ Jm pc];have np:(bW lt c z)[m]<z:=hZ.mp (mY.mp (gJ pc)).1;generalize (bW lt c z)[m]=i at np;unfold bW;rw[KU,<- R8 (jp np),KU];refine wZ λk a=>?_;exact Bool.and_comm _ _
include fj in
theorem adN(pc:m<(bW lt c z).length):d7 lt (dE (bW lt c z) m)=((bE m).filter λu=>mG lt (dE (bW lt c z) u) (dE (bW lt c z) m)).map (dE (bW lt c z)):=by
 have adO:hr lt c (bW lt c z)[m]=V:=(mY.mp (gJ pc)).2;have h1:d7 lt (bW lt c z)[m]=((bE (bW lt c z)[m]).filter (hr lt c)).filter λk=>mG lt k (bW lt c z)[m]:=by
  rw[KU];unfold d7;refine wZ λk gl=>?_;have gl:=hZ.mp gl;by_cases db:mG lt k (bW lt c z)[m]=V;·have:hr lt c k=V:=R6 fj adO (mH.mpr ⟨gl,wl.mp db⟩);rw[db,this];rfl
  ·rw[sb]at db;rw[db];rfl
 rw[n0 pc,h1,adM pc,adK (jp pc),Ur];rfl
variable(az:∀b,b<(bW lt c z).length->lt' 0 (b+1)=V)(h1:∀e b,e<(bW lt c z).length->b<(bW lt c z).length->lt' (e+1) (b+1)=lt (dE (bW lt c z) e) (dE (bW lt c z) b))
include fj h1 in
theorem adP{u:E}(ty:u<m)(pc:m<(bW lt c z).length):mG lt (dE (bW lt c z) u) (dE (bW lt c z) m)=mG lt' (u+1) (m+1):=by
 have C7:∀e b,e<b->b<(bW lt c z).length->dE (bW lt c z) e<dE (bW lt c z) b:=λe b p3 cr=>by rw[n0 (by left),n0 cr];exact List.pairwise_iff_getElem.mp Jm e b _ _ p3
 rw[j0,wl,wl];constructor
 ·intro h ev s3 gl;obtain⟨ev,rfl⟩:∃g2,ev=g2+1:=⟨ev - 1,by left⟩;rw[h1 u ev (by left) (by left)];refine h _ ?_ (C7 u ev (by left) (by left));by_cases g:ev=m;·subst g;exact Da _
  ·exact jp (C7 ev m (by left) pc)
 ·intro h ev s3 gl;have R9:∀g2,g2<(bW lt c z).length->dE (bW lt c z) u<dE (bW lt c z) g2->dE (bW lt c z) g2≤dE (bW lt c z) m->lt (dE (bW lt c z) u) (dE (bW lt c z) g2)=V:=λg2 fe ex h3=>by
   have aim:u<g2:=by
    rcases Up u g2 with h|rfl|h;·exact h
    ·left
    ·have:=C7 g2 u h (by left);left
   have ain:g2≤m:=by
    rcases sd m g2 with h|h;·have:=C7 m g2 h fe;left
    ·exact h
   rw[<- h1 u g2 (by left) fe];exact h (g2+1) (by left) (by left)
  have aio:dE (bW lt c z) m<z:=by rw[n0 pc];exact hZ.mp (mY.mp (gJ pc)).1
  have bR:∀k,hr lt c k=V->k<z->∃g2,g2<(bW lt c z).length/\dE (bW lt c z) g2=k:=λk fd gl=>by have:k∈bW lt c z:=mY.mpr ⟨hZ.mpr gl,fd⟩;obtain⟨g2,fe,g⟩:=List.mem_iff_getElem.mp this;exact⟨g2,fe,by rw[n0 fe,g]⟩
  have dk:hr lt c (dE (bW lt c z) u)=V:=by rw[n0 (by left)];exact(mY.mp (gJ _)).2
  by_cases fd:hr lt c ev=V;·obtain⟨g2,fe,rfl⟩:=bR ev fd (by left);exact R9 g2 fe gl s3
  ·obtain⟨k,Jk,oS⟩:=Jj (lP.mpr fd);obtain⟨eg,JK,C0,Hi⟩:=SO fj k k (Da _) Jk oS;obtain⟨yq,R'⟩:=mH.mp JK;rcases Up eg (dE (bW lt c z) u)with ae|g|ae;·have:=rP.mp dk eg (adG JK ae (jp gl));rw[this]at C0;cases C0
   ·rw[<- g];exact R' ev (Da _) yq
   ·obtain⟨g2,fe,rfl⟩:=bR eg Hi (by left);exact fj _ _ _ (R9 g2 fe ae (by left)) (R' ev (Da _) yq)
include fj az h1 in
theorem adQ:(bE ((bW lt c z).length+1)).map (d7 lt')=[]::(bW lt c z).map λi=>0::(d7 lt i).map λk=>(bW lt c z).idxOf k+1:=by
 rw[pm,cs,dG];congr 1;refine ag0 (by simp) λm SE aeA=>?_;have pc:m<(bW lt c z).length:=by simpa using SE
 rw[Uq,Uq,ag1,ux];have SZ:d7 lt' (m+1)=0::((bE m).filter λu=>mG lt' (u+1) (m+1)).map (·+1):=by
  unfold d7;have db:mG lt' 0 (m+1)=V:=wl.mpr λev kE s3=>by obtain⟨ev,rfl⟩:∃g2,ev=g2+1:=⟨ev - 1,by left⟩;exact az ev (by left)
  rw[pm,k5,tt db,Ur];rfl
 show d7 lt' (m+1)=_;rw[SZ,<- n0 pc,adN fj pc,dG];congr 1;have bu:((bE m).filter λu=>mG lt (dE (bW lt c z) u) (dE (bW lt c z) m))=(bE m).filter λu=>mG lt' (u+1) (m+1):=wZ λu ty=>adP fj h1 (hZ.mp ty) pc;rw[bu];refine pn λu ty=>?_;have ty:=hZ.mp (mY.mp ty).1;rw[ux,adL Jm (by left)]
end
theorem adR{t:E}:∀(lw:p E),∀n∈gj t lw,n.length≤lw.length:=λcc=>cc.rec
 (λn h=>by
  rw[show gj t []=[[]]from rfl,a9]at h
  subst h;exact Da _)
 λk l tP n h=>by
  have ih:=tP;rw[B2]at h;by_cases g:k=t;·rw[tt g]at h;cases h with|head=>exact e6 _|tail _ h=>exact qD (ih n h)
  ·rw[ss g]at h;cases fd:gj t l with|nil=>rw[fd]at h;rw[a9.mp h];simp|cons e s5=>rw[fd]at h ih;cases h with|head=>exact r5 (ih e (.head _))|tail _ h=>exact qD (ih n (.tail _ h))
noncomputable def CH(n:p E):ga:=n==[] ||n.head?==j 60
theorem CI{n:p E}(h:CH n=V):n2 n:=by
 unfold CH at h;rw[ps,bt,bt]at h;rcases h with h|h
 ·exact .inl h
 ·cases n with|nil=>cases h|cons e n=>injection h with h;subst h;exact .inr ⟨n,rfl⟩
theorem n2.app{e b:p E}(db:n2 e)(cr:n2 b):n2 (e++b):=by
 rcases db with rfl|⟨k,rfl⟩;·exact cr
 ·exact .inr ⟨k++b,rfl⟩
noncomputable def R_(an:E)(z:X)(b:ga):p E:=fE (Jc z b) (iP an)
noncomputable def Sa(an:E)(z:X)(v:Y gA)(w q:gA)(b:ga):p E:=fE (Je z b++(Jf z v b++Jg z w q b)) (iP an)
theorem adS:∀an∈[0,2],∀z∈fm,∀b∈[V,G],(!(R_ an z b).contains 10&&CH (R_ an z b))=V:=by decide+kernel
theorem adT:∀an∈[0,2],∀n∈fl,∀b∈[V,G],fE (Jd n b) (iP an)=if fD an b then 10::na n else[]:=by decide+kernel
noncomputable def Sb(an:E)(z:X)(b:ga)(wf:p E):ga:=!wf.contains 10&&CH wf&&(fD an b ||wf==[])&&(an==0 ||(wf.take 2==60::na z&&lK 2 wf.length&&((wf.take 2==na "<x")==(z=="x"))))
theorem adU:∀an∈[0,2],∀z∈fm,∀v∈mx,∀w∈p8,∀q∈rt,∀b∈[V,G],Sb an z b (Sa an z v w q b)=V:=by decide+kernel
theorem Jn{n:p E}{t:E}(h:(!n.contains t)=V):t∉n:=by rw[uc]at h;intro pc;rw[wI.mpr pc]at h;cases h
theorem adV:∀n∈bA,10∉na n:=by
 have:∀n∈bA,(!(na n).contains 10)=V:=by decide+kernel
 exactλn ae=>Jn (this n ae)
noncomputable def o'(an:E)(l:aZ)(b:ga):p E:=Sa an l.name l.value l.words l.quoted b
theorem CJ(t1:an∈[0,2]){l:aZ}(d:l.Good)(b:ga):10∉o' an l b/\n2 (o' an l b)/\(fD an b=G->o' an l b=[])/\(an≠0->2≤(o' an l b).length/\((o' an l b).take 2==na "<x")=(l.name=="x")):=by
 have h:=adU an t1 _ d.name _ d.value _ d.words _ d.quoted b (rO b);unfold Sb at h;simp only[iT]at h;obtain⟨⟨⟨h1,ex⟩,h3⟩,aS⟩:=h;refine⟨Jn h1,CI ex,λfd=>?_,λpi=>?_⟩;·rw[fd,KH,bt]at h3;exact h3
 ·rw[show(an==0)=G from eo.mpr pi,KH]at aS;simp only[iT]at aS;exact⟨qr aS.1.2,bt.mp aS.2⟩
theorem adW(t1:an∈[0,2]){l:aZ}(d:l.Good)(ns:p X):fE (jQ ns l) (iP an)=if fD an (TD ns)then 10::(na l.aA++o' an l (TD ns))else[]:=by
 rw[RW,wj,adT an t1 _ d.aA _ (rO _)];by_cases h:fD an (TD ns)=V;·rw[tt h,tt h];rfl
 ·rw[ss h,ss h];exact(CJ t1 d (TD ns)).2.2.1 (lP.mpr h)
theorem adX(f:gY->p dI)(t3:p E):∀bd:p gY,fE (bd.flatMap f) t3=bd.flatMap λg=>fE (f g) t3:=λcc=>cc.rec (rfl) λg bd ih=>by rw[g9,wj,ih,g9]
noncomputable def iQ(Q:p aZ)(an:E):bC->p gY->p bC|t,[]=>[(t.1,t.2++na "</r>")]|t,.close x::bd=>iQ Q an (t.1,t.2++fE (g0 Q (.close x)) (iP an)) bd|t,.gZ x i::bd=>match Q[i]? with|some l=>if fD an (TD (x.map (pr Q)))=V then t::iQ Q an (l.aA,o' an l (TD (x.map (pr Q)))) bd else iQ Q an t bd|none=>iQ Q an t bd
theorem Jo{t:bC}:iQ Q an t []=[(t.1,t.2++na "</r>")]:=rfl
theorem Jp{t:bC}{x:p E}{bd:p gY}:iQ Q an t (.close x::bd)=iQ Q an (t.1,t.2++fE (g0 Q (.close x)) (iP an)) bd:=rfl
theorem C8{t:bC}{x:p E}{i:E}{bd:p gY}{l:aZ}(h:Q[i]?=j l):iQ Q an t (.gZ x i::bd)=if fD an (TD (x.map (pr Q)))=V then t::iQ Q an (l.aA,o' an l (TD (x.map (pr Q)))) bd else iQ Q an t bd:=by show(match Q[i]? with|some l=>if fD an (TD (x.map (pr Q)))=V then t::iQ Q an (l.aA,o' an l (TD (x.map (pr Q)))) bd else iQ Q an t bd|none=>iQ Q an t bd)=_;rw[h]
def wm(Q:p aZ):gY->Prop|.close x=>∀k∈x,k<Q.length|.gZ _ i=>i<Q.length
section
variable(nw:∀l∈Q,l.Good)(t1:an∈[0,2])
include nw t1
theorem Sd{x:p E}(ln:∀k∈x,k<Q.length):10∉fE (g0 Q (.close x)) (iP an)/\n2 (fE (g0 Q (.close x)) (iP an)):=by unfold g0;dsimp only;cases x with|nil=>exact⟨λh=>(by cases h),.inl rfl⟩|cons k x=>rw[cs,RV];have h:=adS an t1 _ (RX nw (ln k (.head _))) _ (rO (TD (x.map (pr Q))));rw[iT]at h;exact⟨Jn h.1,CI h.2⟩
theorem CK:∀(bd:p gY) (t:bC),(∀g∈bd,wm Q g)->10∉na t.1++t.2->gj 10 (na t.1++t.2++(bd.flatMap (λg=>fE (g0 Q g) (iP an))++na "</r>"))=(iQ Q an t bd).map λn=>na n.1++n.2
 |[],t,_,f0=>by
  rw[Jo,List.flatMap_nil,wx,cs,zM,Qf,e8];intro h;rcases gq.mp h with h|h
  ·exact f0 h
  ·exact aB h (by decide+kernel)
 |.close x::bd,t,Z,f0=>by
  have f8:=Sd nw t1 (show∀k∈x,k<Q.length from Z _ (.head _));have ih:=CK bd (t.1,t.2++fE (g0 Q (.close x)) (iP an)) (λg rs=>Z g (.tail _ rs)) (by
   dsimp only;rw[<- e8];intro h;rcases gq.mp h with h|h
   ·exact f0 h
   ·exact f8.1 h)
  rw[Jp,<- ih,g9];simp only[e8]
 |.gZ x i::bd,t,Z,f0=>by
  have np:i<Q.length:=Z _ (.head _);have d:=nw _ (gJ np);have gt:=adW t1 d (x.map (pr Q));have f8:=CJ t1 d (TD (x.map (pr Q)));have SZ:g0 Q (.gZ x i)=jQ (x.map (pr Q)) Q[i]:=by unfold g0;dsimp only;rw[row_get np]
  rw[C8 (row_get np),g9,SZ,gt];by_cases h:fD an (TD (x.map (pr Q)))=V
  ·rw[tt h,tt h,cs];have ih:=CK bd (Q[i].aA,o' an Q[i] (TD (x.map (pr Q)))) (λg rs=>Z g (.tail _ rs)) (by
    intro h;rcases gq.mp h with h|h;·exact adV _ (Cb d.aA) h
    ·exact f8.1 h)
   rw[<- ih,jW,jW,Qe f0,e8]
  ·rw[ss h,ss h,wx];exact CK bd t (λg rs=>Z g (.tail _ rs)) f0
structure Jq(an:E)(n:bC):Prop where
 aA:n.1∈bA
 tail:n2 n.2
 two:an≠0->2≤n.2.length
theorem CL:∀(bd:p gY) (t:bC),(∀g∈bd,wm Q g)->Jq an t->∀n∈iQ Q an t bd,Jq an n
 |[],t,_,f0=>by intro n ae;rw[Jo,a9]at ae;subst ae;exact⟨f0.aA,f0.tail.app (CI (by decide+kernel)),λh=>by have:=f0.two h;rw[ct];left⟩
 |.close x::bd,t,Z,f0=>by have f8:=Sd nw t1 (show∀k∈x,k<Q.length from Z _ (.head _));exact CL bd _ (λg rs=>Z g (.tail _ rs)) ⟨f0.aA,f0.tail.app f8.2,λh=>by have:=f0.two h;rw[ct];left⟩
 |.gZ x i::bd,t,Z,f0=>by
  have np:i<Q.length:=Z _ (.head _);have d:=nw _ (gJ np);have f8:=CJ t1 d (TD (x.map (pr Q)));intro n ae;rw[C8 (row_get np)]at ae;by_cases h:fD an (TD (x.map (pr Q)))=V;·rw[tt h]at ae;cases ae with|head=>exact f0|tail _ ae=>exact CL bd _ (λg rs=>Z g (.tail _ rs)) ⟨Cb d.aA,f8.2.1,λh=>(f8.2.2.2 h).1⟩ n ae
  ·rw[ss h]at ae;exact CL bd t (λg rs=>Z g (.tail _ rs)) f0 n ae
end
noncomputable def km:p gY->p (p E×E)|[]=>[]|.close _::bd=>km bd|.gZ x i::bd=>(x,i)::km bd
theorem Se{n:bC}{b:p E}(h:2≤n.2.length):gC (n.1,n.2++b)=gC n:=by unfold gC;dsimp only;rw[List.take_append_of_le_length h]
section
variable(nw:∀l∈Q,l.Good)(t1:an∈[0,2])
include nw
omit nw in
theorem CM:∀(bd:p gY) (t:bC),(∀g∈bd,wm Q g)->(iQ Q an t bd).map (·.1)=t.1::((km bd).filter λT=>fD an (TD (T.1.map (pr Q)))).map λT=>g5 Q T.2
 |[],t,_=>rfl
 |.close x::bd,t,Z=>by rw[Jp,CM bd _ λg rs=>Z g (.tail _ rs)];rfl
 |.gZ x i::bd,t,Z=>by
  have np:i<Q.length:=Z _ (.head _);rw[C8 (row_get np),show km (.gZ _ _::_)=(_,_)::km _ from rfl,k5];dsimp only;by_cases h:fD an (TD (x.map (pr Q)))=V;·rw[tt h,tt h,cs,CM bd _ λg rs=>Z g (.tail _ rs),cs,CB np]
  ·rw[ss h,ss h];exact CM bd t λg rs=>Z g (.tail _ rs)
theorem Jr:∀(bd:p gY) (t:bC),(∀g∈bd,wm Q g)->2≤t.2.length->(iQ Q 2 t bd).map (λn=>(n.1,gC n))=(t.1,gC t)::(km bd).map λT=>(g5 Q T.2,pr Q T.2=="x")|[],t,_,f0=>by rw[Jo,cs,Se f0];rfl|.close x::bd,t,Z,f0=>by rw[Jp,Jr bd _ (λg rs=>Z g (.tail _ rs)) (by dsimp only;rw[ct];left),Se f0];rfl|.gZ x i::bd,t,Z,f0=>by have np:i<Q.length:=Z _ (.head _);have d:=nw _ (gJ np);have f8:=(CJ (an:=2) (by decide) d (TD (x.map (pr Q)))).2.2.2 (by decide);rw[C8 (row_get np),show km (.gZ _ _::_)=(_,_)::km _ from rfl];rw[tt (show fD 2 _=V from rfl),cs,Jr bd _ (λg rs=>Z g (.tail _ rs)) f8.1,cs,CB np,tS np];congr 1;congr 1;congr 1;exact f8.2
end
theorem Js:∀e b:p gY,km (e++b)=km e++km b|[],b=>rfl|.close _::e,b=>Js e b|.gZ _ _::e,b=>GT (_::·) (Js e b)
theorem Sf:∀n:p (p E),km (n.map .close)=[]:=λcc=>cc.rec (rfl) λa n ih=>ih
noncomputable def zl:E->p (p E)->p (p E×E)|_,[]=>[]|i,e::s5=>(e.reverse,i)::zl (i+1) s5
theorem Sg(i:E)(x e:p E):∀s5:p (p E),eD i x (e::(s5++[[]]))=(ki e.reverse x).map .close++.gZ e.reverse i::eD (i+1) (i::e.reverse) (s5++[[]])|[]=>y4|b::s5=>y4
theorem adY:∀(s5:p (p E)) (i:E) (x:p E),km (eD i x (s5++[[]]))=zl i s5:=λcc=>cc.rec
 (λi x=>by
  show km (eD i x [[]])=_
  rw[IC,Sf];rfl)
 λe s5 ih i x=>by rw[jW,Sg,Js,Sf];exact GT (_::·) (ih _ _)
theorem adZ:∀(s5:p (p E)) (i:E),zl i s5=(bE s5.length).map λm=>(((s5[m]?).getD []).reverse,i+m):=λcc=>cc.rec (λi=>rfl) λe s5 ih i=>by rw[show zl i (e::s5)=(e.reverse,i)::zl (i+1) s5 from rfl,ih,iW,pm,cs,dG];congr 1;refine pn λm a=>?_;rw[ux,KJ];congr 1;left
theorem Jt{q:p E}:∀{x:p E},∀l∈ki q x,l<:+x
 |[],l,h=>by cases h
 |k::x,l,h=>by
  rw[tM]at h;split at h;·cases h
  ·cases h with|head=>exact Uj _|tail _ h=>exact(Jt l h).trans (agQ _ _)
theorem ad0:∀(s5:p (p E)) (i:E) (x:p E),pe Q.length i x (s5++[[]])->(∀ev∈x,ev<Q.length)->∀g∈eD i x (s5++[[]]),wm Q g:=λcc=>cc.rec
 (λi x f0 s3 g rs=>by
  have rs:g∈(ki ([]:p E).reverse x).map gY.close:=rs
  obtain⟨l,nw,rfl⟩:=dM.mp rs
  exactλk gl=>s3 k ((Jt l nw).mem gl))
 λe s5 ih i x f0 s3 g rs=>by
  have f_:e.reverse<:+x/\i<Q.length/\pe Q.length (i+1) (i::e.reverse) (s5++[[]]):=by cases s5<;>exact f0
  obtain⟨fd,np,f_⟩:=f_;rw[jW,Sg]at rs;rcases gq.mp rs with rs|rs;·obtain⟨l,nw,rfl⟩:=dM.mp rs;exactλk gl=>s3 k ((Jt l nw).mem gl)
  ·cases rs with|head=>exact np|tail _ rs=>exact ih (i+1) (i::e.reverse) f_ (λev h=>by cases h with|head=>exact np|tail _ h=>exact s3 ev (fd.mem h)) g rs
theorem ad1:∀e∈bA,∀b∈bA,∀t∈bA,(!(fA e b&&fA b t) ||fA e t)=V:=by decide+kernel
theorem Sh{e b t:X}(db:e∈bA)(cr:b∈bA)(f0:t∈bA)(h1:fA e b=V)(ex:fA b t=V):fA e t=V:=by have:=ad1 e db b cr t f0;rw[h1,ex]at this;exact this
theorem ad2:∀e∈fl,fA "" e=V:=by decide+kernel
noncomputable def rR:Y X->p (X×ga)->p X|_,[]=>[]|a4,n::l=>if(a4.map λh=>!fA h n.1).getD V=V then n.1::rR (if n.2 then j n.1 else bn) l else rR a4 l
theorem Ju{h:Y X}{n:X×ga}{l:p (X×ga)}:rR h (n::l)=if(h.map λh=>!fA h n.1).getD V=V then n.1::rR (if n.2 then j n.1 else bn) l else rR h l:=rfl
theorem ad3:∀(op:p bC) (a4:Y bC),kl a4 op=rR (a4.map (·.1)) (op.map λn=>(n.1,gC n)):=λcc=>cc.rec (λa4=>rfl) λn op ih a4=>by
  rw[RD,cs,Ju];have g:kk a4 n=((a4.map (·.1)).map λh=>!fA h n.1).getD V:=by cases a4<;>rfl
  rw[g];dsimp only;have bu:(if gC n then j n.1 else bn)=(if gC n then j n else bn).map (·.1):=by cases gC n<;>rfl
  rw[bu,ih,ih]
theorem ad4{ld:E->X}{c:E->ga}:∀(m i:E) (a4:Y E),rR (a4.map ld) ((bE m).map λk=>(ld (i+k),c (i+k)))=(tW (λi ev=>fA (ld i) (ld ev)) c a4 i m).map ld:=λcc=>cc.recAux (λi a4=>rfl) λm ih i a4=>by
  have g:(bE (m+1)).map (λk=>(ld (i+k),c (i+k)))=(ld i,c i)::(bE m).map λk=>(ld (i+1+k),c (i+1+k)):=by rw[pm,cs,dG];congr 1;refine pn λk a=>?_;rw[ux,show i+zy k=i+1+k by left]
  rw[g,Ju,R7];have bu:((a4.map ld).map λh=>!fA h (ld i,c i).1).getD V=tV (λi ev=>fA (ld i) (ld ev)) a4 i:=by cases a4<;>rfl
  rw[bu];have oT:(if c i=V then j (ld i)else bn)=(if c i then j i else bn).map ld:=by cases c i<;>rfl
  by_cases h:tV (λi ev=>fA (ld i) (ld ev)) a4 i=V;·rw[tt h,tt h,cs,<- ih (i+1),<- oT]
  ·rw[ss h,ss h,<- ih (i+1)]
theorem Jv(f:E->X)(n:p E):TD (n.map f)=n.any λk=>f k=="x":=by unfold TD;rw[j0,mX,dM,Dq];simp only[bt]
theorem ad5(f:E->X)(n:p E):TD (n.reverse.map f)=TD (n.map f):=by rw[Jv,Jv,List.any_reverse]
section
variable(nw:∀l∈Q,l.Good)(ae:Q.length≤5)
noncomputable def lD(Q:p aZ)(i ev:E):ga:=fA (g5 Q i) (g5 Q ev)
noncomputable def o_(Q:p aZ)(i:E):ga:=pr Q i=="x"
include nw in
theorem Jw(i:E):g5 Q i∈bA:=by
 unfold g5;rcases sd i Q.length with h|h
 ·rw[row_get h];exact Cb (nw _ (gJ h)).aA
 ·rw[DM h];exact .head _
include nw in
theorem CN:∀i ev k,lD Q i ev=V->lD Q ev k=V->lD Q i k=V:=λi ev k=>Sh (Jw nw i) (Jw nw ev) (Jw nw k)
include nw in
theorem ad6:b3 Q=(bE Q.length).map (d7 (lD Q)):=by have h:=R4 (CN nw) Q.length;rw[<- h];unfold b3 rF;rw[aK];congr 1;funext i ev;unfold lD g5 kh;rw[hX,hX]
include nw in
theorem Jx{i:E}(h:i<Q.length):dh Q i=d7 (lD Q) i:=by unfold dh;rw[ad6 nw,hX,List.getElem?_range h];rfl
include nw in
theorem Jy:ce Q=bW (lD Q) (o_ Q) Q.length:=by unfold ce bW;refine wZ λi np=>?_;rw[Jx nw (hZ.mp np),Jv];rfl
noncomputable def tX(Q:p aZ):p gY:=eD 0 [] (b3 Q++[[]])
theorem CO:∀g∈tX Q,wm Q g:=ad0 (b3 Q) 0 [] (Cw Q) λev h=>by cases h
theorem Si:km (tX Q)=(bE Q.length).map λm=>((dh Q m).reverse,m):=by unfold tX;rw[adY,adZ,rL];refine pn λm a=>?_;rw[jZ];rfl
noncomputable def gm(Q:p aZ)(an:E):p bC:=iQ Q an ("",na "<r>") (tX Q)
theorem ad7(t1:an∈[0,2]):fE (cz Q) (iP an)=na ""++na "<r>"++((tX Q).flatMap (λg=>fE (g0 Q g) (iP an))++na "</r>"):=by have g:cz Q=[⟨"<r>",0,""⟩]++((tX Q).flatMap (g0 Q)++[⟨"</r>",0,""⟩]):=rfl;rw[g,wj,wj,adX,(by decide+kernel:∀an∈[0,2],fE [⟨"<r>",0,""⟩] (iP an)=na ""++na "<r>") an t1,(by decide+kernel:∀an∈[0,2],fE [⟨"</r>",0,""⟩] (iP an)=na "</r>") an t1]
include nw in
theorem Sj(t1:an∈[0,2]):gj 10 (fE (cz Q) (iP an))=(gm Q an).map λn=>na n.1++n.2:=by rw[ad7 t1];exact CK nw t1 (tX Q) ("",na "<r>") CO (by decide+kernel)
include nw in
theorem Jz(t1:an∈[0,2]):∀n∈gm Q an,Jq an n:=CL nw t1 _ _ CO ⟨.head _,CI (by decide+kernel),λa=>by decide+kernel⟩
theorem Sk:(gm Q an).map (·.1)=("":X)::((bE Q.length).filter λi=>fD an (TD ((dh Q i).map (pr Q)))).map (g5 Q):=by unfold gm;rw[CM _ _ CO,Si,Ur,dG];congr 1;congr 1;refine wZ λi a=>?_;rw[ux,ad5]
theorem CP:(gm Q 0).map (·.1)=cX Q:=by rw[Sk];rfl
include nw in
theorem ad8:kl bn (gm Q 2)=cX Q:=by
 rw[ad3];unfold gm;rw[Jr nw _ _ CO (by decide+kernel),Si,dG,Ju];have g:(bE Q.length).map ((λT:p E×E=>(g5 Q T.2,pr Q T.2=="x"))∘λm=>((dh Q m).reverse,m))=(bE Q.length).map λk=>(g5 Q (0+k),o_ Q (0+k)):=by refine pn λm a=>?_;rw[jZ];rfl
 have h:=ad4 (ld:=g5 Q) (c:=o_ Q) Q.length 0 bn;rw[adI (lt:=λi ev=>fA (g5 Q i) (g5 Q ev)) (CN nw) Q.length 0 bn λh t1=>by left]at h;rw[g];show("":X)::rR (if gC (("":X),na "<r>")then j ("":X)else bn) _=_;rw[show gC (("":X),na "<r>")=G by decide+kernel,ss hW];rw[show(bn:Y X)=(bn:Y E).map (g5 Q)from rfl,h];unfold cX;rw[Jy nw];congr 1;congr 1;unfold bW;congr 1;rw[show((0+·):E->E)=id from funext λk=>jZ k,agE]
theorem JA(h:ev<(bW (lD Q) (o_ Q) Q.length).length)(rs:ce Q=bW (lD Q) (o_ Q) Q.length):(kW (gm Q 0) (ev+1)).1=g5 Q (dE (bW (lD Q) (o_ Q) Q.length) ev):=by
 have hd:=CP (Q:=Q);unfold cX at hd;rw[rs]at hd;have h1:((gm Q 0).map (·.1))[ev+1]?=j (g5 Q (dE (bW (lD Q) (o_ Q) Q.length) ev)):=by rw[hd,KJ,hX,k8 h,n0 h];rfl
 rw[hX]at h1;unfold kW;cases Os:(gm Q 0)[ev+1]? with|none=>rw[Os]at h1;cases h1|some n=>rw[Os]at h1;injection h1
theorem ad9:(kW (gm Q 0) 0).1="":=by
 have hd:=CP (Q:=Q);have h1:((gm Q 0).map (·.1))[0]?=j ("":X):=by rw[hd];rfl
 rw[hX]at h1;unfold kW;cases Os:(gm Q 0)[0]? with|none=>rw[Os]at h1;cases h1|some n=>rw[Os]at h1;injection h1
include nw in
theorem aea:kQ (gk (gm Q 0)) (gm Q 0).length=[]::(ce Q).map λi=>0::(dh Q i).map λk=>(ce Q).idxOf k+1:=by
 have fd:=Jy nw;have iI:∀i,(kW (gm Q 0) i).1∈bA:=λi=>by
  rcases sd i (gm Q 0).length with h|h;·exact IR (λn ae=>(Jz nw (by decide) n ae).aA) h
  ·unfold kW;rw[DM h];exact .head _
 have aV:(gm Q 0).length=(bW (lD Q) (o_ Q) Q.length).length+1:=by have:=GT pl (CP (Q:=Q));unfold cX at this;rw[fd]at this;simpa using this
 rw[R4 (lt:=gk (gm Q 0)) (λi ev k=>Sh (iI i) (iI ev) (iI k)),aV,adQ (CN nw) (c:=o_ Q) (z:=Q.length),fd];·congr 1;refine pn λi np=>?_;rw[Jx nw (hZ.mp (mY.mp np).1)]
 ·intro b cr;unfold gk;rw[ad9,JA cr fd];have pc:dE (bW (lD Q) (o_ Q) Q.length) b<Q.length:=by rw[n0 cr];exact hZ.mp (mY.mp (gJ cr)).1
  rw[CB pc];exact ad2 _ (nw _ (gJ pc)).aA
 ·intro e b db cr;unfold gk;rw[JA db fd,JA cr fd];rfl
include nw ae in
theorem aeb:we Q (gm Q 0) (gm Q 2):=by
 have F:=RZ nw ae;have Sl:=Cx F 0 (by decide);have lr:=Cx F 2 (by decide);rw[F.rl]at Sl;rw[F.Cv]at lr;have t4:gj 10 (TW (gW (cz Q) [0]))=(gm Q 0).map λn=>na n.1++n.2:=Sj nw (an:=0) (by decide);have kn:gj 10 (TW (gW (cz Q) [0,2]))=(gm Q 2).map λn=>na n.1++n.2:=Sj nw (an:=2) (by decide);have aV:∀an,(gm Q an).length≤6:=λan=>by have:=GT pl (Sk (Q:=Q) (an:=an));rw[aK,iW,aK]at this;have ex:=Uk (λi=>fD an (TD ((dh Q i).map (pr Q)))) (bE Q.length);rw[KS]at ex;left
 have dQ:∀{lw:p E} {op:p bC},gj 10 lw=(op.map λn=>na n.1++n.2)->lw.length≤10000->∀n∈op,n.2.length≤50000:=λ{lw op} fd fy n ae=>by have:=adR (t:=10) lw (na n.1++n.2) (by rw[fd];exact dM.mpr ⟨n,ae,rfl⟩);rw[ct]at this;left
 refine⟨t4,kn,λn h=>?_,λn h=>?_,CP,ad8 nw,aea nw,λi np k gl=>?_,?_,?_⟩;·have:=Jz nw (an:=0) (by decide) n h;exact⟨this.aA,this.tail,dQ t4 Sl n h⟩
 ·have:=Jz nw (an:=2) (by decide) n h;exact⟨this.aA,this.tail,this.two (by decide),dQ kn lr n h⟩
 ·have iI:=CA np;rw[Jy nw]at np⊢;rw[Jx nw iI]at gl;exact mY.mpr ⟨hZ.mpr (by have:=(mH.mp gl).1;left),R6 (CN nw) (mY.mp np).2 gl⟩
 ·have:=aV 0;left
 ·have:=aV 2;left
end
theorem zv{n:p t0}{z:E}(r:t0)(pc:n.length=m)(h:0<m):((n[z %m]?).getD r)∈n:=by
 have:z %m<n.length:=by rw[pc];exact Kz _ h
 rw[k8 this];exact gJ this
theorem aec(z:E):(hp z).Good:=⟨zv _ rfl (by decide),zv _ rfl (by decide),zv _ rfl (by decide),zv _ rfl (by decide),zv _ rfl (by decide)⟩
theorem aed(n:p m0)(h:n.length≤63):a8 (gz hw) hw 311 [] [.ah (n.map .int)]=j (.bool V):=by
 have nw:∀l∈(numsOf n).map hp,l.Good:=λl nw=>by obtain⟨z,_,rfl⟩:=dM.mp nw;exact aec z
 have ae:((numsOf n).map hp).length≤5:=by
  rw[aK];unfold numsOf;have:(if n=[]then[916]else n.take 3).length≤3:=by
   split;·decide
   ·rw[Dw];left
  simp at this⊢;left
 exact ac4 h (RZ nw ae) (adB nw ae) (aeb nw ae)
theorem Sm{h:bl}:(h.update 210 λT=>{T with data:=.freed}).get? 210=bn:=TI.get?_update_freed h 210
theorem CQ{h:bl}(aC:e≠210):(h.update 210 λT=>{T with data:=.freed}).get? e=h.get? e:=pv _ _ (Ne.symm aC)
theorem Sn{h:bl}(g:(h.update 210 λT=>{T with data:=.freed}).get? e=j T):e≠210/\h.get? e=j T:=by
 by_cases q:e=210;·subst q;rw[Sm]at g;cases g
 ·exact⟨q,(CQ q).symm.trans g⟩
noncomputable def So(w:qo)(h:bl)(mg mb:X->Y cd):sw:={prog:=PySem.Challenge.rw_tr0067_01.row.prog,w:=w,K:=dp w.params,az:=h.update 210 λT=>{T with data:=.freed},mg:=mg,mb:=mb,tab:=210,et:=212,hB:="C14NWriterTarget._start.<locals>.<lambda>"}
theorem aee{d:sw}{B:aX}{ns:p m0}(l:wH L ns):Is d B L (ns.map .int):=l.rec (motive:=λL ns a=>Is d B L (ns.map .int)) .nil λz u a a a ih=>.cons (.int z u) ih
section
variable{mg mb:X->Y cd}{q:ww}{JM:p X}{JB:ExcName->Y cd}
theorem Sp(a7:Top q JM JB mg mb s.heap)(mI:(dp w.params).In s.heap)(bM:s.heap.get? 210=j (z2 #[])):wv (So w s.heap mg mb):=by
 have JC:(dp w.params).In (s.heap.update 210 λT=>{T with data:=.freed}):=λe T g=>by
  have aC:e≠210:=by
   rintro rfl;have:(dp w.params).lookup 210=bn:=by kernel_rfl
   rw[this]at g;cases g
  rw[CQ aC];exact mI e T g
 have dE:∀{e:kt} {m:X->Y cd},e≠210->s.heap.Ns e m->(s.heap.update 210 λT=>{T with data:=.freed}).Ns e m:=λaC z=>z.at' λT g=>(CQ aC).trans g;refine⟨⟨JC,dE (by decide) a7.g,dE (by decide) a7.b,?_,a7.builtins,Sm⟩,rfl,rfl,rfl,rfl,codeHd_of_K JC (by kernel_rfl),?_,?_⟩;·obtain⟨xw,z,l⟩:=a7.nolimit;exact⟨xw,dE (by decide) z,l⟩
 ·obtain⟨bm,l_,h1,ex,h3,aS,dT,ls⟩:=a7.bmain;have cr:mg "__builtins__"=j (.ref 4):=mg_of mI a7.g (by kernel_rfl);rw[cr]at h1;cases h1;exact⟨4,l_,cr,ex,by decide,by decide,(CQ (by decide)).trans h3,aS,dT,ls⟩
 ·have fd:((dp w.params).lookup 212).isSome=V:=by kernel_rfl
  obtain⟨T,gt⟩:=wy.mp fd;exact⟨T,JC 212 _ gt⟩
theorem aef(a7:Top q JM JB mg mb s.heap)(mI:(dp w.params).In s.heap)(bM:s.heap.get? 210=j (z2 #[]))(Os:s.gens=#[]){ns:p m0}(ae:s.heap.get? e=j {cls:=.type "list",data:=.seq L.toArray})(bg:wH L ns)(pi:ns.length≤63){A:xs}(lf:zs 69 A)(hm:∀it,(∀b T,b≠210->s.heap.get? b=j T->it.heap.get? b=j T)->(∃he,it.heap.get? 210=j (z2 he))->it.os=s.os->rZ it.gens->C (.bool V) it):f4 (aE PySem.Challenge.rw_tr0067_01.row.prog w) A (call (.ref 311) [.ref e]) C a1 s:=by
 have im:=Sp (mg:=mg) (mb:=mb) a7 mI bM;let d:=So w s.heap mg mb;let W:nb:={ag:=[],o:=[],B:=λb=>if b=210 then bn else s.heap.get? b,s:=s,N:=λa=>bn,ak:=V};have Z:(W.to {W.s with toks:=W.s.toks+1}).ab d:=by
  refine⟨λb T g=>?_,λb T g=>?_,rfl,(λi t g=>by cases g),ui,(λe h=>(nomatch h)),(show(if(210:kt)=210 then bn else s.heap.get? 210)=bn from tt rfl),?_,⟨b1 bM,λa=>⟨#[],bM,trivial,(λh0 ax g=>by cases g)⟩⟩,?_,DF _,⟨λe i g=>(by cases g),λe b i g=>(by cases g)⟩⟩;·obtain⟨h1,ex⟩:=Sn g;show(if b=210 then bn else s.heap.get? b)=_;rw[ss h1];exact ex
  ·have aT:(if b=210 then bn else s.heap.get? b)=j T:=g;split at aT;·cases aT
   ·exact aT
  ·obtain⟨T,gt⟩:=im.HE;obtain⟨h1,ex⟩:=Sn gt;exact⟨T,(show(if(212:kt)=210 then bn else s.heap.get? 212)=j T by rw[ss h1];exact ex)⟩
  ·show rZ s.gens;rw[Os];intro I KM;simp at KM
 have db:e≠210:=by rintro rfl;rw[bM]at ae;cases ae
 have bZ:x0 d W.B (.ref e) (.ah (ns.map .int)):=.ah (L:=L) (z:=0) (by show(if e=210 then bn else s.heap.get? e)=_;rw[ss db];exact ae) (aee bg);refine Raw (W:=W) im Z rfl rfl rfl lf bZ (aed ns pi) λeH y xz aw jB=>?_;cases jB;refine hm _ (λb T cr g=>?_) ?_ aw.os xz.bare;·exact aw.keep b T g (λh=>nomatch h) (λh=>nomatch h) λa=>cr
 ·obtain⟨he,h1,_⟩:=xz.fL.2 aw.gens.ak;exact⟨he,h1⟩
noncomputable def JD(r:Data)(k:bD cd->ga):ga:=if h:r.ctorIdx=9 then Data.fields.elim r h k else G
theorem aeg(mI:(dp w.params).In s.heap):isCodeTable s.heap 210:=j2 (show eF ((dp w.params).lookup 212) (λT=>T.cls==.type "code"&&JD T.data λL=>L[11]?==j (.ref 210)) G=V from by kernel_rfl) (λT gt h=>by
  have h:=f3.mp h;have g:∀r:Data,JD r (λL=>L[11]?==j (.ref 210))=V->∃L,r=.fields L/\L[11]?=j (.ref 210):=λr h=>by
   by_cases q:r.ctorIdx=9;·exact Data.fields.elim (motive:=λr=>JD r _=V->∃L,r=.fields L/\L[11]?=j (.ref 210)) r q (λL h=>⟨L,rfl,bt.mp h⟩) h
   ·exact aB ((t5 q).symm.trans h) nofun
  exact(g _ h.2).elim λL q=>⟨212,T,L,mI _ _ gt,eq_of_beq h.1,q⟩) λa h=>nomatch h
theorem aeh(mI:(dp w.params).In s.heap)(bM:s.heap.get? 210=j (z2 #[]))(gl:∀b T,b≠210->s.heap.get? b=j T->eg.get? b=j T)(ty:∃he,eg.get? 210=j (z2 he)):OldK s.heap eg where
 old:=λb T g=>by
  by_cases cr:b=210
  ·subst cr
   rw[bM]at g
   cases g
   obtain⟨he,h1⟩:=ty
   exact .inr (.inl ⟨aeg mI,rfl,#[],he,rfl,by rw[h1];simp⟩)
  ·exact .inl (gl b T cr g)
 there:=λb T g=>by
  by_cases cr:b=210
  ·subst cr
   obtain⟨he,h1⟩:=ty
   exact⟨_,h1⟩
  ·exact⟨T,gl b T cr g⟩
theorem aei{TE:p z3}(pa:PySem.Challenge.rw_tr0067_01.row.claim.pre TE=V)(sM:ag2 TE=V):∃ns:p m0,TE=[ofPy (.list (ns.map .int))]:=by have aej:=(pre_splitW pa).1;clear pa;wrow_hasAll aej sM;exact⟨_,rfl⟩
theorem aek{ns:p m0}(pa:PySem.Challenge.rw_tr0067_01.row.claim.pre [ofPy (.list (ns.map .int))]=V):ns.length≤63:=by have ael:=(pre_splitW pa).2;clear pa;w_cond ael;omega
def aem(P:kZ)(h:bl)(v:cd):z3->Prop|.list f1=>∃(e:kt) (L:p cd),v=.ref e/\h.get? e=j {cls:=.type "list",data:=.seq L.toArray}/\w0 P h L f1|.int z=>∃u,v=.int z u|_=>g6
theorem Sq{P:kZ}{h:bl}{r:z3}(c:Well P h v r):aem P h v r:=by cases c with|list h w=>exact⟨_,_,rfl,h,w⟩|int z u=>exact⟨u,rfl⟩|_=>trivial
theorem Sr{P:kZ}{h:bl}{c:z3}{f1:p z3}(w:w0 P h L (c::f1)):∃v b7,L=v::b7/\Well P h v c/\w0 P h b7 f1:=by cases w with|cons e b=>exact⟨_,_,rfl,e,b⟩
theorem Ss{P:kZ}{h:bl}(w:w0 P h L []):L=[]:=by cases w;rfl
theorem Su{P:kZ}{h:bl}:∀{ns:p m0} {L:p cd},w0 P h L (ofPys (ns.map .int))->wH L ns|[],_,w=>Ss w▸.nil|z::ns,_,w=>(Sr w).elim λv q=>q.elim λl q=>q.1▸(Sq q.2.1).elim λu g=>g▸.cons z u (Su q.2.2)
theorem aen{eQ:p cd}{h:bl}{P:kZ}{ns:p m0}(zm:w0 P h eQ [ofPy (.list (ns.map .int))]):∃(e:kt) (L:p cd),eQ=[.ref e]/\h.get? e=j {cls:=.type "list",data:=.seq L.toArray}/\wH L ns:=(Sr zm).elim λv q=>q.elim λl q=>(Sq q.2.1).elim λe U=>U.elim λL U=>⟨e,L,by rw[q.1,U.1,Ss q.2.2],U.2.1,Su U.2.2⟩
theorem aeo(a7:Top q JM JB mg mb s.heap)(mI:(dp w.params).In s.heap)(bM:s.heap.get? 210=j (z2 #[]))(Os:s.gens=#[]){mc:kt}(xB:mg "law"=j (.ref mc)){TE:p z3}{eQ:p cd}{J:X->Y kt}{sK:ExcName->Y cd}(pa:PySem.Challenge.rw_tr0067_01.row.claim.pre TE=V)(sM:ag2 TE=V)(zm:w0 w.params s.heap eQ TE):f4 (aE PySem.Challenge.rw_tr0067_01.row.prog w) callerA (call (.ref mc) eQ) (λv it=>GoodWG PySem.Challenge.rw_tr0067_01.row.claim J sK TE s (.ok (.ret v)) it) (λg it=>GoodWG PySem.Challenge.rw_tr0067_01.row.claim J sK TE s (.error g) it) s:=by
 have aep:mc=311:=by
  have h3:mg "law"=j (.ref 311):=wv.mg (Sp (mb:=mb) a7 mI bM) λa=>by kernel_rfl
  exact Value.ref.inj (aO (xB.symm.trans h3))
 subst aep;obtain⟨ns,rfl⟩:=aei pa sM;refine(aen zm).elim λe q=>q.elim λL q=>q.1▸?_;refine aef a7 mI bM Os q.2.1 q.2.2 (aek pa) ⟨rfl,by decide,by decide⟩ λit gl ty nv cr=>?_;exact⟨.inl ⟨.bool V,.bool V,[],rfl,λqm=>raisesW_false allW_false_nil qm,.bool V,postW_of (X:=V) rfl (by show WTm.value [] (.eq .res (.lit (.bool V))) _=_;simp[WTm.value,same]) rfl,λa=>⟨ui,λe h=>nomatch h⟩⟩,aeh mI bM gl ty,nv,cr⟩
end
theorem walk_:WalkO od lo (XL od []) qE.says PySem.Challenge.rw_tr0067_01.row.toRowW lE.1 lE.2 λf L=>aeT f L:=by intro w KF s0 mg mb ds cf mc T C1 jh aiG aip aiq gt hd q1 fT xB Os TE eQ s5 pa sM air zm _;exact aeo ds.T (km_in_of cf) (km_tabs_of cf 210 (.head _)) Os (uz▸xB) pa sM zm
end Mine.Tactic
set_option maxHeartbeats 8000000 in
theorem PySem.Challenge.cw_tr0067_01_holds : PySem.Challenge.rw_tr0067_01.Holds := by
  exact Mine.Tactic.hrow Mine.Tactic.walk_