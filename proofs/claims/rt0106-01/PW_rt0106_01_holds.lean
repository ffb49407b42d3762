import PyProof.Rows.All
import Wide.All
import OpenK.AllK
import Wide.FinOn
import PySem.Challenge.RW_rt0106_01
open PySem PySem.W PySem.Calls PyProof.Rows
set_option Elab.async false
set_option linter.all false
set_option maxRecDepth 100000
set_option maxHeartbeats 0
set_option genInjectivity false
set_option genSizeOf false
set_option bootstrap.genMatcherCode false
noncomputable section
namespace Mine
open _root_.And renaming imp→nJ,imp_left→eH,imp_right→fE
open _root_.Array renaming all_toList→I1,eraseIdxIfInBounds→I2,forIn_toList→I3,getElem?_append_left→I4,getElem?_eq_getElem→I5,getElem?_eq_none→tO,getElem?_toList→jV,length_toList→I6,replicate→I7,size_append→I8,size_push→BK,toArray_toList→BL,toList_append→wV,toList_push→BM
open _root_.Bool renaming and_eq_true→jo,and_false→tR,and_true→Jb,decide_or→Jc,eq_iff_iff→tS,false_eq_true→qV,false_ne_true→tT,false_or→tU,noConfusion→lj,not_eq_true→wX,not_eq_true'→pn,not_true→Jd,or_eq_false_iff→Je,or_eq_true→nK,true_and→wY
open _root_.Char renaming toNat→BW
open _root_.Classical renaming byContradiction→w_
open _root_.Except renaming ok→Jv
open _root_.Exists renaming imp→dX
open _root_.ForInStep renaming yield→q_
open _root_.Int renaming add_comm→J6,add_neg_cancel_right→J7,ediv_one→J8,le_of_lt→J9,lt_trans→B5,max_eq_right→J_,min_eq_left→Ka,mul_one→B6,natCast_nonneg→pJ,ne_of_gt→rj,ofNat_inj→B7,toNat→Kb,toNat_lt→Kc,toNat_natCast→xm,zero_add→Kd
open _root_.List renaming all_cons→xo,all_eq_true→Cb,all_map→ry,all_nil→Kl,any_cons→pL,append_assoc→iW,append_nil→hW,cons_append→rA,cons_ne_nil→jX,contains_iff_mem→rB,dropLast→Cc,dropLast_concat→Cd,dropLast_concat_getLast→xq,dropLast_eq_take→xr,drop_eq_getElem_cons→Ce,drop_eq_nil_of_le→Km,drop_nil→Kn,eq_nil_of_length_eq_zero→t7,exists_cons_of_ne_nil→pM,filterMap_cons_none→Ko,filterMap_cons_some→Kp,filter_congr→Cf,filter_cons→nY,filter_cons_of_neg→Kq,filter_cons_of_pos→Kr,flatMap→Ks,flatMap_append→t8,flatMap_cons→nZ,flatMap_map→Kt,flatMap_nil→Ku,flatMap_singleton→xt,foldl_append→xu,foldl_cons→rC,foldl_nil→Kv,forIn_cons→rD,forIn_nil→Kw,fst_mem_of_mem_zipIdx→Kx,getElem?_append_left→Ky,getElem?_append_right→Cg,getElem?_eq_getElem→gL,getElem?_eq_none→mn,getElem?_map→gg,getElem?_of_mem→Ci,getElem?_zipIdx→Kz,getElem_map→KC,getElem_mem→KD,getElem_zip→KG,getLast?_concat→KH,head?_cons→Cj,head?_drop→KI,idxOf_lt_length_of_mem→KJ,isPrefixOf→KL,length→pN,length_append→bF,length_cons→gM,length_drop→t9,length_dropLast→lz,length_filter_le→iX,length_map→aZ,length_nil→Ck,length_range→hX,length_reverse→KN,length_singleton→xv,length_take→Cm,length_take_le'→KO,length_zip→KP,length_zipIdx→xw,lookup→KQ,lookup_append→Cn,lookup_cons→dI,lookup_cons_self→Cp,map_append→ey,map_congr_left→kD,map_cons→eK,map_drop→xx,map_dropLast→Cq,map_eq_flatMap→KR,map_flatMap→Ct,map_map→fe,map_nil→rE,map_singleton→xy,map_take→t_,mem_append→n4,mem_append_left→jY,mem_append_right→d0,mem_cons→n5,mem_cons_of_mem→bT,mem_cons_self→a0,mem_filter→xA,mem_flatMap→KS,mem_map→xB,mem_map_of_mem→KU,mem_of_getElem?→lA,mem_of_mem_drop→xC,mem_of_mem_take→Cu,mem_singleton→pO,nil_append→xD,nil_prefix→rF,nodup_cons→KV,nodup_nil→rG,not_mem_nil→bQ,prefix_cons_inj→KW,range→dv,range_succ→Cv,replicate→Cw,reverse_cons→pP,size_toArray→rH,take_append_of_le_length→KX,take_left→KY,take_length→Cy,take_nil→KZ,take_of_length_le→xE,take_take→Cz,zipIdx_map_snd→K0
open _root_.Nat renaming add_assoc→K5,add_le_add→K6,add_le_add_left→xH,add_lt_add_left→gZ,le_add_left→ub,le_add_right→cy,le_antisymm→CD,le_of_ble_eq_true→dO,le_of_eq→bN,le_of_lt→jy,le_of_lt_succ→rJ,le_of_sub_eq_zero→pS,le_of_succ_le→lC,le_refl→bb,le_succ→dD,le_succ_of_le→gN,le_trans→aE,lt_add_of_pos_right→ff,lt_add_right→gO,lt_irrefl→fV,lt_of_add_lt_add_right→K7,lt_of_le_of_lt→ee,lt_of_lt_of_eq→uc,lt_of_lt_of_le→a9,lt_of_not_le→K8,lt_of_succ_lt→lD,lt_or_eq_of_le→xI,lt_succ_of_le→K9,lt_succ_of_lt→fG,lt_succ_self→cw,lt_trans→rK,min_eq_left→ud,ne_of_gt→dc,ne_of_lt→bj,not_lt_zero→xJ,sub_add_cancel→xK,sub_le→rL,sub_lt→CE,sub_self→CF,succ_le_succ→jZ,succ_lt_succ→xM,succ_lt_succ_iff→K_,succ_ne_self→pT,succ_pos→CG,zero_add→rM,zero_le→fW
open _root_.Option renaming bind_some→CL,getD_some→ue,isSome→pU,map_some→pV,or_none→Lf
open PyProof renaming noPylong_small→Lu
open PySem renaming Addr→aq,Arguments→BJ,Around→aO,Builtin→bE,Call_method0→BS,CmpOp→mj,Comprehension→hN,Env→bg,Expr→ay,Fin→xY,Flow→gw,FuncData→gc,Heap→aN,JoinOk→t5,Keyword→pK,Meets→kE,MethodOnS→ua,Model→lB,NameKind→gY,Obj→bu,Operator→CK,OsState→CM,Params→mw,Pos→bc,Program→eA,PyData→fX,Result→hZ,Scope→cR,Sem→bY,SetTable→CU,Shared→ai,Slot→iz,Stmt→bZ,Str→aj,Tok→de,TriplesOk→CW,Value→af,World→eC,again→mB,am_miss_of_fast→Me,argBest→eR,argsOk→gj,args_listiter_next→Mk,arm_assign_Attribute→Dp,arm_eval_Attribute→uk,arm_eval_Call→Dq,arm_exec_AugAssign_2→Mp,assign→iy,assignEach→gy,assignInOrder→Du,attributeBase→iE,backTo→fZ,backToKw→p0,behindInMarks→yn,binaryOp→kL,bindArgs→kM,bindL→uv,bootBuiltins→yu,boundAndCalled→DF,builtinLookup_eq_fast→eS,builtinsNs→j4,cLine→ox,cStatics→DP,call→bM,callAny→uz,callGetattribute→rV,callSpecial?→Nn,callType_codes→DT,callType_new→DU,callWith→i5,cellsFrom→iH,checkBoundCall→yO,checkBuiltinCall→yP,checkTypeCall→NA,clausesOf→D2,clipAt→iI,closureFor→yV,codeAmong→rY,codeAny→eU,codeAny_builtin→fN,codeAny_call_builtin→mK,codeAny_call_builtin_code→NX,codeAny_mono→g6,codeAny_of_tree→uE,code_list_new→N1,collect→yZ,compareOp→iJ,comprehension→Ec,concat_meets→N8,dropValue→za,entryFor→i_,entryFor_alias→zf,entryFor_of_tree→oG,entry_listiter_next→zg,eval→aU,evalArgs→p7,evalArgs_none→LB,evalPart_none→OI,execs→ja,field→oK,firstArgMember→zj,foldedSetIterable→ib,fresh→uS,getAttr→kS,getAttrBy→E6,getItem→uU,holding→kf,init_tuple_lookup→QC,inplaceOp→oW,instanceDict→u5,interactive→zK,isSubtype→jJ,isSubtype_stop→zN,isSubtype_type→eE,isTrue→qf,keeperOf→FT,keywordEach→qh,letOwnedTupleGo→zV,madeHere_tuple→R9,mainGlobals→kW,makeFunction→R_,method0_meets→Sr,method1_meets→Ss,methodCall→Ah,methodCallForm→sI,methodCallPos→Ai,model→bX,name_of_addr→SH,newExc→Ao,newList→Ap,newTuple→m6,noFill_list_add→S7,notIterableAtAll→GZ,noteFrame→sT,nsFind→vT,onTheHeap→Hc,operate→Hd,pastItsLine_dict→T7,plainId→v8,plainId_quiet→g_,pushCells→s7,pushCells_keeps→Hr,pyIter→ik,pyNext→f7,rawInt→gE,recursionLimit→UI,relabel→AW,ret→CS,richCompare_gives→wg,richCompare_meets_room→HE,scanBound→qu,seqIndex?→wk,seqItems?→qw,seq_list_add→U0,setAddByScan→U3,setAddHashed→A1,setAddHashedIn→U4,setAttr→wm,setState→HT,sizeLine→gF,sizeLine_eq→HV,sliceBounds→HW,sliceRange→HX,slot_listiter_next→A9,spliced→wx,standAt→ip,starEach→bB,step→k7,stored→qz,strValues→iP,sub_tuple_self→VJ,swappedStores→l0,swapsWith→Iw,swapsWithSole→kq,sysModules→iR,table→jl,typeIs_bool→CT,typeIs_int→xZ,typeIs_str→pW,typeLookup→gr,typeLookup_type→e_,typeOf→tD,unpack→Bp,updateSeq→l6,valueAt→mz,without→LC,wpAny→ar,wpAny_Try_except→WD,wpAny_UnaryOp→WE,wpAny_allTrue_And_cons→WG,wpAny_allTrue_Or_cons→wJ,wpAny_allTrue_Or_nil→WH,wpAny_askSetting→l7,wpAny_attempt→tE,wpAny_bind→ah,wpAny_call→jT,wpAny_callSpecial?_slot→ph,wpAny_call_entry→kz,wpAny_collect_seq→WI,wpAny_execs_cons→tF,wpAny_execs_nil→wK,wpAny_field→ir,wpAny_getItem_list_slice→WJ,wpAny_holding→bz,wpAny_isInstance→Bv,wpAny_isTrue_BoolOp→IP,wpAny_isTrue_Compare1→WK,wpAny_items_cons→l8,wpAny_items_nil→qM,wpAny_letGo→qN,wpAny_letTemporaryGo→tG,wpAny_load→nG,wpAny_loadPart→Bw,wpAny_lookBehind→WL,wpAny_mono→gW,wpAny_newObj_type→iS,wpAny_of_eq→hK,wpAny_pure→aD,wpAny_pyIter_dict→IQ,wpAny_pyIter_enum→WN,wpAny_pyIter_list→tH,wpAny_pyIter_slot→IS,wpAny_pyNext_dict_end→WO,wpAny_pyNext_dict_item→WQ,wpAny_pyNext_list_end→WS,wpAny_pyNext_list_item→WT,wpAny_raiseNew_none→By,wpAny_release→qO,wpAny_rule→nH,wpAny_runValue→IT,wpAny_seqItems→lb,wpAny_setField→wL,wpAny_setFlight_none→WU,wpAny_specialOf→qP,wpAny_standAt→cQ,wpAny_truthy_bool→IU,wpAny_truthy_list→WV,wpAny_tryCatch→wM,wpAny_typeOf→wN,wpAny_updateSeq→jn
open _root_.Except.ok renaming inj→Xr
open _root_.List.Nodup renaming length_le_of_subset→rx
open _root_.List.Sublist renaming map→XN
open _root_.List.cons renaming inj→rz
open _root_.Nat.succ renaming inj→XO
open _root_.Option.some renaming inj→aM
open _root_.Prod.mk renaming inj→lF
open PyProof.Rows renaming SetOf_congr→xX,add_str→XP,exec_Assign→zi,getItem_tuple→Pf,setObjOf_fresh→Lr,truthy_int→XQ,wpAny_operate'→WM
open PySem.Around renaming frames_deeper→I0,under_plainId→gH
open PySem.AutoSeq1 renaming idx_int→Xe,list_clear_list_0→Xf,sub_list_list→wW,sub_list_tuple→Xg,sub_tuple_list→Xh,sub_tuple_tuple→I9,wpAny_loadPart'→dH
open PySem.Bind renaming checkArgs→I_
open PySem.Calls renaming callWith_function→Nq,evalArgs_plain→BU,spliced_cons→BV,spliced_nil→w9
open PySem.Code renaming quiet_builtin→xa
open PySem.DictEntry renaming refKey→Js
open PySem.EntryCells renaming newEntry→Xq
open PySem.Env renaming kindOf→tW
open PySem.F renaming args_int_gt_2→Jw,args_list_add_2→Lv,args_list_init_2→Jx,args_object_getattribute_2→Lw,args_object_init_2→Jy,called_list→Jz,called_tuple→JA,entry_extend_loop→JB,entry_int_gt→JC,entry_list_add→Ly,entry_list_init→JD,entry_object_getattribute→Lz,entry_tuple_new→JE,newCall_tuple_1→JF,plain_extend_loop→tX,plain_list_iadd→JG,plain_tuple_new→JH,slot_bool_hash→JI,slot_dict_delitem→JJ,slot_dict_values→JK,slot_list_add→LA,slot_list_clear→JL,slot_list_extend→JM,slot_list_pop→JN,slot_set_iter→JO,slot_str_split→JP,typeCall_list_1→JQ,typeCall_tuple_1→JR,type_set_contains→BY
open PySem.Heap renaming DictAt→ri,ExtBut→ly,IsList→J0,SameBut→hO,get?_push_at→nT,get?_push_of_some→bH,get?_push_size→c5,get?_update_ne→J2,get?_update_other→gf,get?_update_self→eI,lt_size→b9,size_after_update→J3,size_push→c9,size_update→jt
open PySem.IntMulOk renaming of_left→XM
open PySem.IsRange renaming new→Ke
open PySem.Manifest renaming find?→K4
open PySem.NameKind renaming cell→pR,free→iw
open PySem.Obj renaming cls_mapFields→CH,cls_mapSeq→Lc,data_mapFields→rN,data_mapSeq→Ld,isFreed_of_fields→xN,isFreed_of_seq→Le,mapFields→lE,mapSeq→dE,putNameByArray→xO,putName_eq→xP
open PySem.PyData renaming canLayAll0→Lm,eqv→fg,eqvAll→Lo,int→CP,list→Lp,str→xW,strOk→fJ
open PySem.ScopeKind renaming function→LJ
open PySem.SeqAt renaming compareEq_reads→XR,compareNe_reads→XS,in_list_reads→XT,notIn_list_reads→XU
open PySem.SetTable renaming below→XW
open PySem.Shared renaming TypeIs→LK,heap→LL
open PySem.Str renaming length_append→LO,ofString→au,ofString_eq_toList→x8
open PySem.Txt renaming join→iZ,lower→h5,slice→CX,slice_le→LP,startswith→ya
open PySem.Value renaming bool→n9,builtin→rO,int→C0,isStrOf_shape→LS,notImplemented→C1,ref→eB,type→kF
open PySem.W renaming Frag→kC,TabsAt→x_,emptyDict→r0,findIn→lN,ghostOf→uV,ghost_ns→zp,hasDictIn→Fh,hideAll_size→PR,instObj→mU,keepIn→u9,kla_fn→vc,looks_field→z0,makesIn→GI,plainGet→AH,plainGet_of→v7,tabObj→Bh,typeIn→Bm
open PySem.pickOrder renaming go→Yg
open PyProof.Rows.F renaming entry_set_update_loop→Lq,plain_set_update_loop→CR
open PySem.Builtin.Builtins renaming bindParams→Jf
open PySem.Builtin.Frozenset renaming addrOf→Jg,oneOther→Jh,updateFrom→Xi,withSetAsKey→Xj
open PySem.Builtin.Int renaming intBits→Xk
open PySem.Builtin.List renaming listExtendWith→nL,listItems→wZ,listLengthHint→BO,listSameRef→Ji,listTooLong→BP,listTouch→Jj,listUpdate→BQ
open PySem.Builtin.ObjectAttr renaming newKeyGuard→Xl,storeInDict→w0,storeInOwnDict→w7
open PySem.Builtin.Range renaming rangeFitsLong→Jk,rangeSize→pq,small→BR
open PySem.Builtin.SmallTypes renaming nextOf→Jl
open PySem.Builtin.Str renaming occurrences→mf,partsBetween→Jm,strKind→Jn,strSliceIndices→Xm,tooLong→Xn
open PySem.Builtin.Tuple renaming tupleExact→w8
open PySem.Data.func renaming elim→Xo
open PySem.Data.seq renaming inj→Xp
open PySem.Expr.Attribute renaming elim→Xs
open PySem.Expr.BinOp renaming elim→Xt
open PySem.Expr.BoolOp renaming elim→Xu
open PySem.Expr.Call renaming elim→Xv
open PySem.Expr.Compare renaming elim→Xw
open PySem.Expr.Constant renaming elim→Xx
open PySem.Expr.Dict renaming elim→Xy
open PySem.Expr.DictComp renaming elim→Xz
open PySem.Expr.IfExp renaming elim→XA
open PySem.Expr.List renaming elim→XB
open PySem.Expr.ListComp renaming elim→XC
open PySem.Expr.Name renaming elim→XD
open PySem.Expr.NamedExpr renaming elim→XE
open PySem.Expr.SetComp renaming elim→XF
open PySem.Expr.Slice renaming elim→XG
open PySem.Expr.Starred renaming elim→XH
open PySem.Expr.Subscript renaming elim→XI
open PySem.Expr.Tuple renaming elim→XJ
open PySem.Expr.UnaryOp renaming elim→XK
open PySem.Heap.IsSliceOf renaming new→J1
open PySem.Heap.SameBut renaming update→ft
open PySem.Stmt.Assign renaming elim→XX
open PySem.Stmt.AugAssign renaming elim→XY
open PySem.Stmt.Break renaming elim→XZ
open PySem.Stmt.Continue renaming elim→X0
open PySem.Stmt.Delete renaming elim→X1
open PySem.Stmt.Expr renaming elim→X2
open PySem.Stmt.For renaming elim→X3
open PySem.Stmt.Return renaming elim→X4
open PySem.Stmt.Try renaming elim→X5
open PySem.Stmt.While renaming elim→X6
open PySem.Value.ref renaming inj→jA
open PySem.Value.type renaming inj→X8
open PySem.W.Looks renaming ld→CA
theorem aA{A B:Prop}{P:Prop}(h:A/\B)(k:A->B->P):P:=k h.1 h.2
theorem bP{A B C:Prop}{P:Prop}(h:A/\B/\C)(k:A->B->C->P):P:=k h.1 h.2.1 h.2.2
theorem eP{A B C D:Prop}{P:Prop}(h:A/\B/\C/\D)(k:A->B->C->D->P):P:=k h.1 h.2.1 h.2.2.1 h.2.2.2
theorem l9{A B C D E:Prop}{P:Prop}(h:A/\B/\C/\D/\E)(k:A->B->C->D->E->P):P:=k h.1 h.2.1 h.2.2.1 h.2.2.2.1 h.2.2.2.2
theorem wO{A B C D E F:Prop}{P:Prop}(h:A/\B/\C/\D/\E/\F)(k:A->B->C->D->E->F->P):P:=k h.1 h.2.1 h.2.2.1 h.2.2.2.1 h.2.2.2.2.1 h.2.2.2.2.2
theorem WY{A B C D E F G:Prop}{P:Prop}(h:A/\B/\C/\D/\E/\F/\G)(k:A->B->C->D->E->F->G->P):P:=k h.1 h.2.1 h.2.2.1 h.2.2.2.1 h.2.2.2.2.1 h.2.2.2.2.2.1 h.2.2.2.2.2.2
theorem WZ{A B C D E F G H:Prop}{P:Prop}(h:A/\B/\C/\D/\E/\F/\G/\H)(k:A->B->C->D->E->F->G->H->P):P:=k h.1 h.2.1 h.2.2.1 h.2.2.2.1 h.2.2.2.2.1 h.2.2.2.2.2.1 h.2.2.2.2.2.2.1 h.2.2.2.2.2.2.2
theorem W0{A B C D E F G H I:Prop}{P:Prop}(h:A/\B/\C/\D/\E/\F/\G/\H/\I)(k:A->B->C->D->E->F->G->H->I->P):P:=k h.1 h.2.1 h.2.2.1 h.2.2.2.1 h.2.2.2.2.1 h.2.2.2.2.2.1 h.2.2.2.2.2.2.1 h.2.2.2.2.2.2.2.1 h.2.2.2.2.2.2.2.2
theorem WX{A B C D E F G H I J:Prop}{P:Prop}(h:A/\B/\C/\D/\E/\F/\G/\H/\I/\J)(k:A->B->C->D->E->F->G->H->I->J->P):P:=k h.1 h.2.1 h.2.2.1 h.2.2.2.1 h.2.2.2.2.1 h.2.2.2.2.2.1 h.2.2.2.2.2.2.1 h.2.2.2.2.2.2.2.1 h.2.2.2.2.2.2.2.2.1 h.2.2.2.2.2.2.2.2.2
theorem aL{α:Sort _}{A:α->Prop}{P:Prop}(h:∃x,A x)(k:∀x,A x->P):P:=h.elim k
theorem aw{α:Sort _}{A B:α->Prop}{P:Prop}(h:∃x,A x/\B x)(k:∀x,A x->B x->P):P:=h.elim λx h=>aA h (k x)
theorem bI{α:Sort _}{A B C:α->Prop}{P:Prop}(h:∃x,A x/\B x/\C x)(k:∀x,A x->B x->C x->P):P:=h.elim λx h=>bP h (k x)
theorem dG{α:Sort _}{A B C D:α->Prop}{P:Prop}(h:∃x,A x/\B x/\C x/\D x)(k:∀x,A x->B x->C x->D x->P):P:=h.elim λx h=>eP h (k x)
theorem lg{α:Sort _}{A B C D E:α->Prop}{P:Prop}(h:∃x,A x/\B x/\C x/\D x/\E x)(k:∀x,A x->B x->C x->D x->E x->P):P:=h.elim λx h=>l9 h (k x)
theorem BB{α:Sort _}{A B C D E F:α->Prop}{P:Prop}(h:∃x,A x/\B x/\C x/\D x/\E x/\F x)(k:∀x,A x->B x->C x->D x->E x->F x->P):P:=h.elim λx h=>wO h (k x)
theorem W3{α:Sort _}{A B C D E F G:α->Prop}{P:Prop}(h:∃x,A x/\B x/\C x/\D x/\E x/\F x/\G x)(k:∀x,A x->B x->C x->D x->E x->F x->G x->P):P:=h.elim λx h=>WY h (k x)
theorem W4{α:Sort _}{A B C D E F G H:α->Prop}{P:Prop}(h:∃x,A x/\B x/\C x/\D x/\E x/\F x/\G x/\H x)(k:∀x,A x->B x->C x->D x->E x->F x->G x->H x->P):P:=h.elim λx h=>WZ h (k x)
theorem IV{α:Sort _}{A B C D E F G H I:α->Prop}{P:Prop}(h:∃x,A x/\B x/\C x/\D x/\E x/\F x/\G x/\H x/\I x)(k:∀x,A x->B x->C x->D x->E x->F x->G x->H x->I x->P):P:=h.elim λx h=>W0 h (k x)
theorem W2{α:Sort _}{A B C D E F G H I J:α->Prop}{P:Prop}(h:∃x,A x/\B x/\C x/\D x/\E x/\F x/\G x/\H x/\I x/\J x)(k:∀x,A x->B x->C x->D x->E x->F x->G x->H x->I x->J x->P):P:=h.elim λx h=>WX h (k x)
theorem ew{α:Sort _}{β:Sort _}{A:α->β->Prop}{P:Prop}(h:∃x y,A x y)(k:∀x y,A x y->P):P:=h.elim λx h=>aL h (k x)
theorem fc{α:Sort _}{β:Sort _}{A B:α->β->Prop}{P:Prop}(h:∃x y,A x y/\B x y)(k:∀x y,A x y->B x y->P):P:=h.elim λx h=>aw h (k x)
theorem eQ{α:Sort _}{β:Sort _}{A B C:α->β->Prop}{P:Prop}(h:∃x y,A x y/\B x y/\C x y)(k:∀x y,A x y->B x y->C x y->P):P:=h.elim λx h=>bI h (k x)
theorem nI{α:Sort _}{β:Sort _}{A B C D:α->β->Prop}{P:Prop}(h:∃x y,A x y/\B x y/\C x y/\D x y)(k:∀x y,A x y->B x y->C x y->D x y->P):P:=h.elim λx h=>dG h (k x)
theorem tI{α:Sort _}{β:Sort _}{A B C D E:α->β->Prop}{P:Prop}(h:∃x y,A x y/\B x y/\C x y/\D x y/\E x y)(k:∀x y,A x y->B x y->C x y->D x y->E x y->P):P:=h.elim λx h=>lg h (k x)
theorem tJ{α:Sort _}{β:Sort _}{A B C D E F:α->β->Prop}{P:Prop}(h:∃x y,A x y/\B x y/\C x y/\D x y/\E x y/\F x y)(k:∀x y,A x y->B x y->C x y->D x y->E x y->F x y->P):P:=h.elim λx h=>BB h (k x)
theorem BC{α:Sort _}{β:Sort _}{A B C D E F G:α->β->Prop}{P:Prop}(h:∃x y,A x y/\B x y/\C x y/\D x y/\E x y/\F x y/\G x y)(k:∀x y,A x y->B x y->C x y->D x y->E x y->F x y->G x y->P):P:=h.elim λx h=>W3 h (k x)
theorem W6{α:Sort _}{β:Sort _}{A B C D E F G H:α->β->Prop}{P:Prop}(h:∃x y,A x y/\B x y/\C x y/\D x y/\E x y/\F x y/\G x y/\H x y)(k:∀x y,A x y->B x y->C x y->D x y->E x y->F x y->G x y->H x y->P):P:=h.elim λx h=>W4 h (k x)
theorem W5{α:Sort _}{β:Sort _}{A B C D E F G H I J:α->β->Prop}{P:Prop}(h:∃x y,A x y/\B x y/\C x y/\D x y/\E x y/\F x y/\G x y/\H x y/\I x y/\J x y)(k:∀x y,A x y->B x y->C x y->D x y->E x y->F x y->G x y->H x y->I x y->J x y->P):P:=h.elim λx h=>W2 h (k x)
theorem W7{α:Sort _}{β:Sort _}{a:Sort _}{A:α->β->a->Prop}{P:Prop}(h:∃x y z,A x y z)(k:∀x y z,A x y z->P):P:=h.elim λx h=>ew h (k x)
theorem pj{α:Sort _}{β:Sort _}{a:Sort _}{A B:α->β->a->Prop}{P:Prop}(h:∃x y z,A x y z/\B x y z)(k:∀x y z,A x y z->B x y z->P):P:=h.elim λx h=>fc h (k x)
theorem BD{α:Sort _}{β:Sort _}{a:Sort _}{A B C:α->β->a->Prop}{P:Prop}(h:∃x y z,A x y z/\B x y z/\C x y z)(k:∀x y z,A x y z->B x y z->C x y z->P):P:=h.elim λx h=>eQ h (k x)
theorem tK{α:Sort _}{β:Sort _}{a:Sort _}{A B C D:α->β->a->Prop}{P:Prop}(h:∃x y z,A x y z/\B x y z/\C x y z/\D x y z)(k:∀x y z,A x y z->B x y z->C x y z->D x y z->P):P:=h.elim λx h=>nI h (k x)
theorem jU{α:Sort _}{β:Sort _}{a:Sort _}{A B C D E:α->β->a->Prop}{P:Prop}(h:∃x y z,A x y z/\B x y z/\C x y z/\D x y z/\E x y z)(k:∀x y z,A x y z->B x y z->C x y z->D x y z->E x y z->P):P:=h.elim λx h=>tI h (k x)
theorem tL{α:Sort _}{β:Sort _}{a:Sort _}{A B C D E F:α->β->a->Prop}{P:Prop}(h:∃x y z,A x y z/\B x y z/\C x y z/\D x y z/\E x y z/\F x y z)(k:∀x y z,A x y z->B x y z->C x y z->D x y z->E x y z->F x y z->P):P:=h.elim λx h=>tJ h (k x)
theorem qS{α:Sort _}{β:Sort _}{a:Sort _}{A B C D E F G H:α->β->a->Prop}{P:Prop}(h:∃x y z,A x y z/\B x y z/\C x y z/\D x y z/\E x y z/\F x y z/\G x y z/\H x y z)(k:∀x y z,A x y z->B x y z->C x y z->D x y z->E x y z->F x y z->G x y z->H x y z->P):P:=h.elim λx h=>W6 h (k x)
theorem W8{α:Sort _}{β:Sort _}{a:Sort _}{A B C D E F G H I J:α->β->a->Prop}{P:Prop}(h:∃x y z,A x y z/\B x y z/\C x y z/\D x y z/\E x y z/\F x y z/\G x y z/\H x y z/\I x y z/\J x y z)(k:∀x y z,A x y z->B x y z->C x y z->D x y z->E x y z->F x y z->G x y z->H x y z->I x y z->J x y z->P):P:=h.elim λx h=>W5 h (k x)
theorem BE{α:Sort _}{β:Sort _}{a:Sort _}{b:Sort _}{A:α->β->a->b->Prop}{P:Prop}(h:∃x y z u,A x y z u)(k:∀x y z u,A x y z u->P):P:=h.elim λx h=>W7 h (k x)
theorem qT{α:Sort _}{β:Sort _}{a:Sort _}{b:Sort _}{A B:α->β->a->b->Prop}{P:Prop}(h:∃x y z u,A x y z u/\B x y z u)(k:∀x y z u,A x y z u->B x y z u->P):P:=h.elim λx h=>pj h (k x)
theorem wQ{α:Sort _}{β:Sort _}{a:Sort _}{b:Sort _}{A B C:α->β->a->b->Prop}{P:Prop}(h:∃x y z u,A x y z u/\B x y z u/\C x y z u)(k:∀x y z u,A x y z u->B x y z u->C x y z u->P):P:=h.elim λx h=>BD h (k x)
theorem BF{α:Sort _}{β:Sort _}{a:Sort _}{b:Sort _}{A B C D:α->β->a->b->Prop}{P:Prop}(h:∃x y z u,A x y z u/\B x y z u/\C x y z u/\D x y z u)(k:∀x y z u,A x y z u->B x y z u->C x y z u->D x y z u->P):P:=h.elim λx h=>tK h (k x)
theorem BG{α:Sort _}{β:Sort _}{a:Sort _}{b:Sort _}{A B C D E:α->β->a->b->Prop}{P:Prop}(h:∃x y z u,A x y z u/\B x y z u/\C x y z u/\D x y z u/\E x y z u)(k:∀x y z u,A x y z u->B x y z u->C x y z u->D x y z u->E x y z u->P):P:=h.elim λx h=>jU h (k x)
theorem IW{α:Sort _}{β:Sort _}{a:Sort _}{b:Sort _}{A B C D E F:α->β->a->b->Prop}{P:Prop}(h:∃x y z u,A x y z u/\B x y z u/\C x y z u/\D x y z u/\E x y z u/\F x y z u)(k:∀x y z u,A x y z u->B x y z u->C x y z u->D x y z u->E x y z u->F x y z u->P):P:=h.elim λx h=>tL h (k x)
theorem BH{α:Sort _}{β:Sort _}{a:Sort _}{b:Sort _}{A B C D E F G H:α->β->a->b->Prop}{P:Prop}(h:∃x y z u,A x y z u/\B x y z u/\C x y z u/\D x y z u/\E x y z u/\F x y z u/\G x y z u/\H x y z u)(k:∀x y z u,A x y z u->B x y z u->C x y z u->D x y z u->E x y z u->F x y z u->G x y z u->H x y z u->P):P:=h.elim λx h=>qS h (k x)
@[elab_as_elim] theorem aa{α:Sort _}{a b:α}{motive:α->Prop}(h:a=b)(m:motive b):motive a:=h▸m
noncomputable def pw:eA:=PySem.Challenge.rw_rt0106_01.row.toRowW.1
noncomputable def m8:bc:=⟨0,0,0,0⟩
noncomputable def tp (i:Nat):bZ:=pw.main.body.getD i (.Pass m8)
noncomputable def NH:bZ->List bZ| .ClassDef _ _ _ b _ _ _ _ _ _ _=>b| _=>[]
noncomputable def me (i j:Nat):bZ:=(NH (tp i)).getD j (.Pass m8)
noncomputable def dP:bZ->Option (aj×BJ×List bZ×cR)| .FunctionDef n a b _ _ _ s _ _ _=>some (n,a,b,s)| _=>none
noncomputable def dU (st:bZ) (q mod:String) (e c:Nat) (d:af:=.none):bu:=match dP st with
 | some (n,a,b,s)=>{cls:=.type "function",data:=.func {name:=n,qualname:=au q,params:=a,body:=.stmts b,scope:=s,globals:=3,closure:=[],defaults:=d,kwdefaults:=.none,pyModule:=.str (au mod) e,code:=.ref c}}
 | none=>{cls:=.none,data:=.plain}
noncomputable def rf (n:Nat):af:=if n=0 then .none else .ref n
noncomputable def dS (nm q:String) (T line g c X a b d e f:Nat):bu:=
 {cls:=.type "code",data:=.fields #[.str (au nm) T,.str (au q) (T+1),.str (au "/claim/cut.py") (T+2),.int line 0,.int g 0,.int 0 0,.int 0 0,.int c 0,rf a,.bool true,.int 181 0,rf b,.none,rf d,rf e,rf f,.int X 0,.int line 0,.str (au "/claim/cut.py") (X+1)]}
noncomputable def uH (P:mw) (a:List (String×Nat×af)) (n:Nat):bu:={cls:=.type "dict",data:=.dict (a.map λx=>⟨PyData.keyHash P (au x.1),.str (au x.1) x.2.1,x.2.2⟩).toArray n}
noncomputable def yQ (nm:String) (a t u:Nat) (d:Bool) (sn:List aj):bu:=
 {cls:=.type "type",data:=.cls {name:=au nm,bases:=[.type "object"],mro:=[.ref a,.type "object"],ns:=a - 1,qualname:=au nm,hasDict:=d,slotNames:=sn},slots:= #[none,none,some (.str (au nm) t),some (.str (au nm) u),some (.builtin "object.__new__"),some (.bool d)]}
noncomputable def A2 (nm:String) (t:Nat) (i:Int):bu:={cls:=.type "member_descriptor",data:=.fields #[.str (au nm) t,.ref 176,.builtin "proto.slot",.builtin "proto.slot#set",.int i 0]}
noncomputable def KK (P:mw):kC:=[(35,dU (me 2 0) "Entry.__init__" "cpy313.urllib.robotparser" 194 34),
 (34,dS "__init__" "Entry.__init__" 208 7 1 3 212 29 30 31 32 33),
 (49,dU (me 2 2) "Entry.applies_to" "cpy313.urllib.robotparser" 194 48),
 (48,dS "applies_to" "Entry.applies_to" 225 30 2 3 231 43 44 45 46 47),
 (56,dU (me 2 3) "Entry.allowance" "cpy313.urllib.robotparser" 194 55),
 (55,dS "allowance" "Entry.allowance" 234 41 2 3 243 50 51 52 53 54),
 (70,dU (tp 3) "merge_entries" "cpy313.urllib.robotparser" 194 69),
 (69,dS "merge_entries" "merge_entries" 258 53 2 3 264 64 65 66 67 68),
 (143,dU (tp 12) "fspath" "os" 354 142),
 (142,dS "fspath" "fspath" 356 91 1 3 363 137 138 139 140 141),
 (150,dU (tp 14) "commonprefix" "cpy313.genericpath" 366 149),
 (149,dS "commonprefix" "commonprefix" 368 108 1 3 376 144 145 146 147 148),
 (172,dU (me 19 1) "_NodeInfo.__init__" "cpy313.graphlib" 390 171),
 (171,dS "__init__" "_NodeInfo.__init__" 414 136 2 3 419 166 167 168 169 170),
 (209,dU (me 21 0) "TopologicalSorter.__init__" "cpy313.graphlib" 390 208 (.ref 202)),
 (208,dS "__init__" "TopologicalSorter.__init__" 465 144 2 3 472 203 204 205 206 207),
 (216,dU (me 21 1) "TopologicalSorter._get_nodeinfo" "cpy313.graphlib" 390 215),
 (215,dS "_get_nodeinfo" "TopologicalSorter._get_nodeinfo" 475 153 2 3 481 210 211 212 213 214),
 (223,dU (me 21 2) "TopologicalSorter.add" "cpy313.graphlib" 390 222),
 (222,dS "add" "TopologicalSorter.add" 484 158 2 7 493 217 218 219 220 221),
 (228,dU (me 21 3) "TopologicalSorter.prepare" "cpy313.graphlib" 390 227),
 (227,dS "prepare" "TopologicalSorter.prepare" 496 167 1 3 499 224 225 0 0 226),
 (235,dU (me 21 4) "TopologicalSorter.get_ready" "cpy313.graphlib" 390 234),
 (234,dS "get_ready" "TopologicalSorter.get_ready" 502 175 1 3 509 229 230 231 232 233),
 (242,dU (me 21 5) "TopologicalSorter.is_active" "cpy313.graphlib" 390 241),
 (241,dS "is_active" "TopologicalSorter.is_active" 512 186 1 3 516 236 237 238 239 240),
 (256,dU (me 21 7) "TopologicalSorter.done" "cpy313.graphlib" 390 255),
 (255,dS "done" "TopologicalSorter.done" 526 194 1 7 537 250 251 252 253 254),
 (263,dU (me 21 8) "TopologicalSorter._find_cycle" "cpy313.graphlib" 390 262),
 (262,dS "_find_cycle" "TopologicalSorter._find_cycle" 540 217 1 3 550 257 258 259 260 261),
 (284,dU (tp 23) "_get_sep" "cpy313.posixpath" 572 283),
 (283,dS "_get_sep" "_get_sep" 574 249 1 3 578 278 279 280 281 282),
 (291,dU (tp 24) "join" "cpy313.posixpath" 572 290),
 (290,dS "join" "join" 581 254 1 7 589 285 286 287 288 289),
 (298,dU (tp 25) "splitroot" "cpy313.posixpath" 572 297),
 (297,dS "splitroot" "splitroot" 592 271 1 3 598 292 293 294 295 296),
 (305,dU (tp 26) "dirname" "cpy313.posixpath" 572 304),
 (304,dS "dirname" "dirname" 601 285 1 3 608 299 300 301 302 303),
 (312,dU (tp 27) "normpath" "cpy313.posixpath" 572 311),
 (311,dS "normpath" "normpath" 611 293 1 3 623 306 307 308 309 310),
 (317,dU (tp 28) "commonpath" "cpy313.posixpath" 572 316),
 (316,dS "commonpath" "commonpath" 626 318 1 3 629 313 314 0 0 315),
 (322,dU (tp 30) "_law_read" "law_rt0106_01" 632 321),
 (321,dS "_law_read" "_law_read" 634 348 1 3 637 318 319 0 0 320),
 (327,dU (tp 31) "_law_ways" "law_rt0106_01" 632 326),
 (326,dS "_law_ways" "_law_ways" 640 360 1 3 643 323 324 0 0 325),
 (332,dU (tp 32) "_law_plain" "law_rt0106_01" 632 331),
 (331,dS "_law_plain" "_law_plain" 646 368 2 3 649 328 329 0 0 330),
 (337,dU (tp 33) "_law_merged" "law_rt0106_01" 632 336),
 (336,dS "_law_merged" "_law_merged" 652 375 1 3 655 333 334 0 0 335),
 (344,dU (tp 34) "_law_line" "law_rt0106_01" 632 343),
 (343,dS "_law_line" "_law_line" 658 381 2 3 666 338 339 340 341 342),
 (349,dU (tp 35) "_law_record" "law_rt0106_01" 632 348),
 (348,dS "_law_record" "_law_record" 669 388 2 3 672 345 346 0 0 347),
 (354,dU (tp 36) "_law_told" "law_rt0106_01" 632 353),
 (353,dS "_law_told" "_law_told" 675 394 1 3 678 350 351 0 0 352),
 (359,dU (tp 37) "_law_walk" "law_rt0106_01" 632 358),
 (358,dS "_law_walk" "_law_walk" 681 396 3 3 684 355 356 0 0 357),
 (364,dU (tp 38) "law" "law_rt0106_01" 632 363),
 (363,dS "law" "law" 687 416 1 3 690 360 361 0 0 362),
 (3,uH P [("__name__",165,.str "law_rt0106_01" 632),("__doc__",166,.none),("__package__",167,.none),("__loader__",168,.builtin "__main__.__loader__#opaque"),("__spec__",169,.none),("__annotations__",170,.ref 6),("__builtins__",171,.ref 4),("__file__",173,.str "/claim/cut.py" 172),("__cached__",174,.none),("_wall",193,.ref 21),("Entry",257,.ref 59),("merge_entries",266,.ref 70),("_plain_name",277,.ref 77),("ABCMeta",303,.ref 94),("_ABCLike",346,.ref 127),("_abc_plain_meta",353,.ref 136),("fspath",365,.ref 143),("commonprefix",378,.ref 150),("_check_arg_types",389,.ref 157),("_NODE_OUT",394,.int (-1) 393),("_NODE_DONE",397,.int (-2) 396),("_NodeInfo",434,.ref 176),("CycleError",452,.ref 191),("TopologicalSorter",571,.ref 273),("_get_sep",580,.ref 284),("join",591,.ref 291),("splitroot",600,.ref 298),("dirname",610,.ref 305),("normpath",625,.ref 312),("commonpath",631,.ref 317),("_law_read",639,.ref 322),("_law_ways",645,.ref 327),("_law_plain",651,.ref 332),("_law_merged",657,.ref 337),("_law_line",668,.ref 344),("_law_record",674,.ref 349),("_law_told",680,.ref 354),("_law_walk",686,.ref 359),("law",692,.ref 364)] 39),
 (58,uH P [("__module__",203,.str "cpy313.urllib.robotparser" 194),("__firstlineno__",207,.int 5 206),("__init__",214,.ref 35),("__str__",224,.ref 42),("applies_to",233,.ref 49),("allowance",245,.ref 56),("__static_attributes__",250,.ref 57),("__dict__",252,.ref 60),("__weakref__",254,.ref 61),("__doc__",255,.none)] 4),
 (175,uH P [("__module__",405,.str "cpy313.graphlib" 390),("__firstlineno__",409,.int 133 408),("__slots__",413,.ref 165),("__init__",421,.ref 172),("__static_attributes__",425,.ref 173),("node",427,.ref 177),("npredecessors",429,.ref 178),("successors",431,.ref 179),("__doc__",432,.none)] 5),
 (272,uH P [("__module__",460,.str "cpy313.graphlib" 390),("__firstlineno__",464,.int 142 463),("__init__",474,.ref 209),("_get_nodeinfo",483,.ref 216),("add",495,.ref 223),("prepare",501,.ref 228),("get_ready",511,.ref 235),("is_active",518,.ref 242),("__bool__",525,.ref 249),("done",539,.ref 256),("_find_cycle",552,.ref 263),("static_order",559,.ref 270),("__static_attributes__",564,.ref 271),("__dict__",566,.ref 274),("__weakref__",568,.ref 275),("__doc__",569,.none)] 4),
 (59,yQ "Entry" 59 196 204 true []),(273,yQ "TopologicalSorter" 273 453 461 true []),(176,yQ "_NodeInfo" 176 398 406 false [au "node",au "npredecessors",au "successors"]),
 (177,A2 "node" 426 2),(178,A2 "npredecessors" 428 1),(179,A2 "successors" 430 0),(202,{cls:=.type "tuple",data:=.seq #[.none]})]
noncomputable def qv:eA:={pw with main:={pw.main with body:=[tp 38]}}
noncomputable def lo:List aj:=pw.boundNames.filter λx=>x != "law"
noncomputable def KA:List aq:=[35,34,49,48,56,55,70,69,143,142,150,149,172,171,209,208,216,215,223,222,228,227,235,234,242,241,256,255,263,262,284,283,291,290,298,297,305,304,312,311,317,316,322,321,327,326,332,331,337,336,344,343,349,348,354,353,359,358,364,363,3,58,175,272,59,273,176,177,178,179,202]
theorem Kg:∀P,KA=(KK P).map (·.1):=λa=>by kernel_rfl
noncomputable abbrev oR:Hook:=kmHook KK KA Kg [339]
theorem TU:∀w:eC,(fencedOpening treeTable pw w 4000).map (λs=>(s.heap,s.gens,s.drawn,s.toks))=some (boot_heap w.params,#[],boot_drawn,boot_toks):=
 boot_open (by kernel_rfl) (by decide) (λs=>by kernel_rfl)
theorem look(w:eC)(os:CM):((topFrom treeTable pw w 4000 ⟨boot_heap w.params,#[],boot_drawn,boot_toks,os⟩).map λs=>(openSeen qv lo (importedModules pw.main.body) (λs=>xlAt qv [] s && recOk PySem.Challenge.rw_rt0106_01.row.records s) true s,oR.obs s))=some (openGood qv lo,oR.val w):=by kernel_rfl
theorem Ri:LeftO pw qv lo (λs=>xlAt qv [] s && recOk PySem.Challenge.rw_rt0106_01.row.records s) oR.obs oR.val 4000 true:=λw=>by
 obtain⟨⟨h,a,d,k,os⟩,e,q⟩:=Option.map_eq_some_iff.mp (TU w)
 obtain⟨rfl,q⟩:=lF q
 obtain⟨rfl,q⟩:=lF q
 obtain⟨rfl,rfl⟩:=lF q
 unfold openEnds
 rw [e,CL]
 exact look w os
noncomputable def dd:DefRec×List (aj×PySem.Expr):=(defOf qv "law").getD ({name:="",params:=⟨[],[],none,[],[],none,[]⟩,body:=[],scope:={kind:=.function,names:=[],isGenerator:=false,isCoroutine:=false},pos:=m8},[])
theorem PA(walk:WalkO qv lo (XL qv []) oR.says PySem.Challenge.rw_rt0106_01.row.toRowW dd.1 dd.2 λf b=>PySem.call f b):PySem.Challenge.rw_rt0106_01.Holds:=
 holds_law (by kernel_rfl) λa=>holds_open (r:=PySem.Challenge.rw_rt0106_01.row) (N:=4000) Ri (Hook.of oR) (Hook.keeps oR) (λs e=>xl_of s (Bool.and_eq_true_iff.mp e).1) XL.keeps (by kernel_rfl) (by kernel_rfl) (by kernel_rfl) (λs e=>recFacts_of (Bool.and_eq_true_iff.mp e).2) (by kernel_rfl) a (by kernel_rfl)
  ⟨by kernel_rfl,by kernel_rfl,by kernel_rfl,by kernel_rfl,by kernel_rfl,by kernel_rfl⟩ ⟨[.list []],by kernel_rfl,by kernel_rfl⟩ walk
inductive D where
 | none
 | bool (b:Bool)
 | int (i:Int)
 | str (s:aj)
 | list (xs:List D)
 | tup (xs:List D)
 | dict (ei:List (aj×D))
 | ref (i:Nat)
 | typ (n:String)
 | lam (k:Nat) (yC:List (aj×D))
 deriving Inhabited
noncomputable def D.int?:D->Option Int| .int i=>some i| _=>.none
noncomputable def D.bool?:D->Option Bool| .bool i=>some i| _=>.none
noncomputable def D.dj:D->Option aj| .str i=>some i| _=>.none
noncomputable def D.kx:D->Option (List D)| .tup i=>some i| _=>.none
noncomputable def D.ij:D->Option (List D)| .list i=>some i| _=>.none
noncomputable def D.i9:D->Option (List (aj×D))| .dict i=>some i| _=>.none
noncomputable def D.fP:D->Option Nat| .ref i=>some i| _=>.none
noncomputable def D.tC:D->Option String| .typ i=>some i| _=>.none
noncomputable def D.FY:D->Option (Nat×List (aj×D))| .lam k c=>some (k,c)| _=>.none
inductive Cell where
 | list (xs:List D)
 | dict (ei:List (aj×D))
 | set (xs:List aj)
 | inst (k:Nat) (attrs:List (aj×D))
 | slots (k:Nat) (attrs:List (Nat×D))
 | iter (l:Nat) (j:Nat)
 | i0 (b:Bool)
 | ia (k:Nat)
 | h_ (ei:List (aj×D))
 deriving Inhabited
noncomputable def Cell.ij:Cell->Option (List D)| .list xs=>some xs| _=>none
noncomputable def Cell.zQ:Cell->Option (List (aj×D))| .dict a=>some a| _=>none
noncomputable def Cell.ER:Cell->Option (List (aj×D))| .h_ a=>some a| _=>none
noncomputable def Cell.i9:Cell->Option (List (aj×D))| .dict a=>some a| .h_ a=>some a| _=>none
noncomputable def Cell.HP:Cell->Option (List aj)| .set a=>some a| _=>none
noncomputable def Cell.zI:Cell->Option (Nat×List (aj×D))| .inst k a=>some (k,a)| _=>none
noncomputable def Cell.H5:Cell->Option (Nat×List (Nat×D))| .slots k a=>some (k,a)| _=>none
noncomputable def Cell.FN:Cell->Option (Nat×Nat)| .iter l j=>some (l,j)| _=>none
noncomputable def Cell.yw:Cell->Option Bool| .i0 b=>some b| _=>none
noncomputable def Cell.zk:Cell->Option Nat| .ia b=>some b| _=>none
structure MH where
 next:Nat
 cell:Nat->Option Cell
noncomputable def aP:Nat:=1000000
abbrev aC:=String->Option D
noncomputable def aC.set (ρ:aC) (x:String) (d:D):aC:=λy=>if y=x then some d else ρ y
noncomputable def aC.drop (ρ:aC) (xs:List String):aC:=λy=>if y∈xs then none else ρ y
noncomputable def upd {α:Type} (f:Nat->α) (i:Nat) (a:α):Nat->α:=λj=>if j=i then a else f j
noncomputable def MH.new (σ:MH) (c:Cell):MH:=⟨σ.next+1,upd σ.cell σ.next (some c)⟩
noncomputable def MH.put (σ:MH) (i:Nat) (c:Cell):MH:=⟨σ.next,upd σ.cell i (some c)⟩
noncomputable def MH.del (σ:MH) (i:Nat):MH:=⟨σ.next,upd σ.cell i none⟩
noncomputable def MH.nil:MH:=⟨0,λa=>none⟩
abbrev ME:=aC->MH->Option (D×MH)
abbrev MB:=aC->MH->Option (Bool×MH)
abbrev MF:=aC->MH->Option (Cell×MH)
abbrev MA:=aC->MH->Option (List D×MH)
abbrev MT:=D->aC->MH->Option (aC×MH)
inductive Fl where
 | next| brk| cont
 | ret (d:D)
noncomputable def Fl.oY:Fl->Bool| .next=>true| _=>false
abbrev MS:=aC->MH->Option (Fl×aC×MH)
abbrev FM:=List D->MH->Option (D×MH)
abbrev FL:=List (aj×D)->FM
abbrev gu:=List D->Option (List (String×D))
noncomputable def bU (σ:MH) (d:D):Option (List D):=match d.ij with
 | some xs=>some xs
 | none=>d.fP.bind λi=>(σ.cell i).bind λc=>c.ij
noncomputable def j1 (σ:MH) (d:D):Option (List (aj×D)):=match d.i9 with
 | some a=>some a
 | none=>d.fP.bind λi=>(σ.cell i).bind λc=>c.i9
noncomputable def gP (σ:MH) (d:D):Option (List D):=match d.kx with
 | some xs=>some xs
 | none=>bU σ d
noncomputable def mH (σ:MH) (d:D):Option (Nat×List D):=d.fP.bind λi=>(σ.cell i).bind λc=>c.ij.bind λxs=>some (i,xs)
noncomputable def cellK (σ:MH) (d:D):Option (Nat×List (aj×D)):=d.fP.bind λi=>(σ.cell i).bind λc=>c.zQ.bind λxs=>some (i,xs)
noncomputable def rW (σ:MH) (d:D):Option (Nat×List aj):=d.fP.bind λi=>(σ.cell i).bind λc=>c.HP.bind λxs=>some (i,xs)
noncomputable def DW (σ:MH) (d:D):Option (Nat×Nat×List (aj×D)):=d.fP.bind λi=>(σ.cell i).bind λc=>c.zI.bind λx=>some (i,x)
noncomputable def uB (k:Nat) (σ:MH) (d:D):Option (Nat×List (Nat×D)):=d.fP.bind λi=>(σ.cell i).bind λc=>c.H5.bind λx=>if x.1=k then some (i,x.2) else none
noncomputable def eh (d:D) (σ:MH):Bool:=(mH σ d).isSome
noncomputable def mV (d:D) (σ:MH):Bool:=(j1 σ d).isSome
noncomputable def sz (d:D) (σ:MH):Bool:=(rW σ d).isSome
noncomputable def jb:D->Bool| .none=>true| _=>false
noncomputable def eF (a:List (aj×D)) (k:aj) (d:D):List (aj×D):=if a.any (λp=>p.1=k) then a.map (λp=>if p.1=k then (p.1,d) else p) else a++ [(k,d)]
noncomputable def putN (l:List (Nat×D)) (i:Nat) (d:D):List (Nat×D):=if l.any (λp=>p.1=i) then l.map (λp=>if p.1=i then (p.1,d) else p) else l++ [(i,d)]
noncomputable def fB (s:aj):Bool:=fJ s && decide (s.length<=aP)
noncomputable def o_ (s:aj):Option D:=if fB s=true then some (.str s) else none
namespace ME
noncomputable def int (i:Int):ME:=λa σ=>some (.int i,σ)
noncomputable def str (s:String):ME:=λa σ=>some (.str (au s),σ)
noncomputable def bool (b:Bool):ME:=λa σ=>some (.bool b,σ)
noncomputable def none_:ME:=λa σ=>some (.none,σ)
noncomputable def typ (t:String):ME:=λa σ=>some (.typ t,σ)
noncomputable def never:ME:=λa a=>none
noncomputable def var (x:String):ME:=λρ σ=>(ρ x).bind λd=>some (d,σ)
noncomputable def ax (f:D->MH->Option (D×MH)) (a:ME):ME:=λρ σ=>(a ρ σ).bind λp=>f p.1 p.2
noncomputable def bh (f:D->D->MH->Option (D×MH)) (a b:ME):ME:=λρ σ=>(a ρ σ).bind λp=>(b ρ p.2).bind λq=>f p.1 q.1 q.2
end ME
noncomputable def cm (f:D->D->MH->Option D):D->D->MH->Option (D×MH):=λd e σ=>(f d e σ).bind λr=>some (r,σ)
noncomputable def gD (f:D->MH->Option D):D->MH->Option (D×MH):=λd σ=>(f d σ).bind λr=>some (r,σ)
noncomputable def yd (x y:aj):Option D:=if x.length+y.length<=aP then some (.str (x++y)) else none
noncomputable def yc (xs a:List D):Option D:=if xs.length+a.length<=aP then some (.list (xs++a)) else none
noncomputable def pX (a b:D) (σ:MH):Option D:=match a.int? with
 | some x=>b.int?.bind λy=>some (.int (x+y))
 | none=>match a.dj with
  | some x=>b.dj.bind λy=>yd x y
  | none=>(bU σ a).bind λxs=>(bU σ b).bind λc=>yc xs c
noncomputable def ui (a b:D) (σ:MH):Option (Cell×MH):=(bU σ a).bind λxs=>(bU σ b).bind λc=>if xs.length+c.length<=aP then some (.list (xs++c),σ) else none
noncomputable def intD (f:Int->Int->Option D) (a b:D) (_:MH):Option D:=a.int?.bind λx=>b.int?.bind λy=>f x y
noncomputable def Be:D->D->MH->Option D:=intD λx y=>some (.int (x - y))
noncomputable def Aj:D->D->MH->Option D:=intD λx y=>if 0<y then some (.int (x % y)) else none
noncomputable def EM:D->D->MH->Option D:=intD λx y=>if 0<y/\y<1000 then some (.int (x / y)) else none
noncomputable def GV:D->D->MH->Option D:=intD λx y=>if x.natAbs<1000000/\y.natAbs<1000000 then some (.int (x*y)) else none
noncomputable def GW (a b:D) (_:MH):Option D:=a.dj.bind λx=>b.int?.bind λn=>if x.length=1/\0<=n/\n<100000/\fB (Txt.mul x n)=true then some (.str (Txt.mul x n)) else none
noncomputable def zG (a b:D) (_:MH):Option D:=match a.int? with
 | some x=>b.int?.bind λy=>some (.int (x+y))
 | none=>a.dj.bind λx=>b.dj.bind λy=>yd x y
noncomputable def kT:D->D->MH->Option (D×MH):=cm zG
noncomputable def u7:D->D->MH->Option (D×MH):=cm Be
noncomputable def hB (f:D->Option fX):List D->Option (List fX)
 | []=>some []
 | d::a=>(f d).bind λp=>(hB f a).bind λps=>some (p::ps)
noncomputable def cX (σ:MH):Nat->D->Option fX
 | 0,_=>none
 | k+1,d=>match bU σ d with
  | some xs=>(hB (cX σ k) xs).bind λps=>some (.list ps)
  | none=>(match d with
   | .none=>some .none
   | .bool b=>some (.bool b)
   | .int i=>some (.int i)
   | .str s=>some (.str s)
   | .tup xs=>(hB (cX σ k) xs).bind λps=>some (.tuple ps)
   | _=>none)
noncomputable def eqB (σ:MH) (a b:D):Option Bool:=(cX σ 6 a).bind λp=>(cX σ 6 b).bind λq=>some (fg p q)
noncomputable def uQ (a b:D) (σ:MH):Option D:=(eqB σ a b).bind λx=>some (.bool x)
noncomputable def sO (a b:D) (σ:MH):Option D:=(eqB σ a b).bind λx=>some (.bool (!x))
noncomputable def Gn:D->D->MH->Option D:=intD λx y=>some (.bool (decide (x<y)))
noncomputable def Fb:D->D->MH->Option D:=intD λx y=>some (.bool (decide (x>y)))
noncomputable def FH (a b:D) (_:MH):Option D:=if jb b=true then some (.bool (jb a)) else none
noncomputable def G1 (a b:D) (_:MH):Option D:=if jb b=true then some (.bool (!jb a)) else none
noncomputable def mT (σ:MH) (x c:D):Option Bool:=match c.dj with
 | some t=>x.dj.bind λu=>some (!(mf t u 0 t.length 1).isEmpty)
 | none=>(match bU σ c with
  | some xs=>(cX σ 6 x).bind λp=>(hB (cX σ 6) xs).bind λps=>some (ps.any λy=>fg y p)
  | none=>(j1 σ c).bind λa=>x.dj.bind λu=>some (a.lookup u).isSome)
noncomputable def inD (a b:D) (σ:MH):Option D:=(mT σ a b).bind λx=>some (.bool x)
noncomputable def Au (a b:D) (σ:MH):Option D:=(mT σ a b).bind λx=>some (.bool (!x))
noncomputable def FD (d e:D) (σ:MH):Option D:=d.dj.bind λk=>(rW σ e).bind λp=>some (.bool (decide (k∈p.2)))
noncomputable def oV:D->D->MH->Option (D×MH):=cm FD
noncomputable def k9 (σ:MH) (d:D):Option Bool:=match bU σ d with
 | some xs=>some (!xs.isEmpty)
 | none=>(match d with
  | .none=>some false
  | .bool b=>some b
  | .int i=>some (i !=0)
  | .str s=>some (!(s.length==0))
  | .tup xs=>some (!xs.isEmpty)
  | _=>none)
namespace MB
noncomputable def val (a:ME):MB:=λρ σ=>(a ρ σ).bind λp=>(k9 p.2 p.1).bind λb=>some (b,p.2)
noncomputable def not (b:MB):MB:=λρ σ=>(b ρ σ).bind λp=>some (!p.1,p.2)
noncomputable def and (a b:MB):MB:=λρ σ=>(a ρ σ).bind λp=>bif p.1 then b ρ p.2 else some (false,p.2)
noncomputable def or (a b:MB):MB:=λρ σ=>(a ρ σ).bind λp=>bif p.1 then some (true,p.2) else b ρ p.2
end MB
noncomputable def ME.ite (b:MB) (x y:ME):ME:=λρ σ=>(b ρ σ).bind λp=>bif p.1 then x ρ p.2 else y ρ p.2
noncomputable def ME.or (a b:ME):ME:=λρ σ=>(a ρ σ).bind λp=>(k9 p.2 p.1).bind λc=>bif c then some p else b ρ p.2
noncomputable def ME.and (a b:ME):ME:=λρ σ=>(a ρ σ).bind λp=>(k9 p.2 p.1).bind λc=>bif c then b ρ p.2 else some p
noncomputable def An (d:D) (_:MH):Option D:=d.int?.bind λi=>some (.int (-i))
noncomputable def GY (d:D) (σ:MH):Option D:=(k9 σ d).bind λb=>some (.bool (!b))
noncomputable def sq (xs:List D) (k:Int):Option D:=if -(xs.length:Int)<=k then xs[(k+xs.length).toNat]? else none
noncomputable def ef (xs:List D) (k:Int):Option D:=bif decide (0<=k) then xs[k.toNat]? else sq xs k
noncomputable def mS (c i:D) (σ:MH):Option D:=match c.kx with
 | some xs=>i.int?.bind λk=>ef xs k
 | none=>(match bU σ c with
  | some xs=>i.int?.bind λk=>ef xs k
  | none=>(j1 σ c).bind λa=>i.dj.bind λu=>a.lookup u)
noncomputable def aG:List ME->aC->MH->Option (List D×MH)
 | [],_,σ=>some ([],σ)
 | m::a,ρ,σ=>(m ρ σ).bind λp=>(aG a ρ p.2).bind λq=>some (p.1::q.1,q.2)
noncomputable def ME.list (a:List ME):ME:=λρ σ=>(aG a ρ σ).bind λp=>if p.1.length<=aP then some (.list p.1,p.2) else none
noncomputable def ME.tup (a:List ME):ME:=λρ σ=>(aG a ρ σ).bind λp=>if p.1.length<=aP then some (.tup p.1,p.2) else none
noncomputable def jF:Option ME->aC->MH->Option (Option Int×MH)
 | none,_,σ=>some (none,σ)
 | some m,ρ,σ=>(m ρ σ).bind λp=>p.1.int?.bind λi=>some (some i,p.2)
noncomputable def jQ (xs:List D) (lo hi:Option Int):List D:=(xs.drop (lo.elim 0 (iI xs.length))).take (hi.elim xs.length (iI xs.length) - lo.elim 0 (iI xs.length))
noncomputable def ng (x:aj) (lo a:Option Int):aj:=CX x lo a
noncomputable def A4 (σ:MH) (c:D) (lo a:Option Int):Option D:=match c.dj with
 | some x=>some (.str (ng x lo a))
 | none=>(bU σ c).bind λxs=>some (.list (jQ xs lo a))
noncomputable def ME.slice (c:ME) (lo hi:Option ME):ME:=λρ σ=>(c ρ σ).bind λp=>(jF lo ρ p.2).bind λl=>(jF hi ρ l.2).bind λh=>(A4 h.2 p.1 l.1 h.1).bind λd=>some (d,h.2)
noncomputable def lZ (xs:List D) (lo a st:Option Int):List D:=(HX (HW lo a st xs.length).1 (HW lo a st xs.length).2.1 (HW lo a st xs.length).2.2).filterMap (xs[·]?)
noncomputable def Ib (xs:List D) (lo a st:Option Int):Option D:=if st≠some 0/\(lZ xs lo a st).length<=aP then some (.list (lZ xs lo a st)) else none
noncomputable def ME.nh (c:ME) (lo hi st:Option ME):ME:=λρ σ=>(c ρ σ).bind λp=>(jF lo ρ p.2).bind λl=>(jF hi ρ l.2).bind λh=>(jF st ρ h.2).bind λk=>(bU k.2 p.1).bind λxs=>(Ib xs l.1 h.1 k.1).bind λd=>some (d,k.2)
namespace MT
noncomputable def name (x:String):MT:=λd ρ σ=>some (ρ.set x d,σ)
noncomputable def seq:List MT->List D->aC->MH->Option (aC×MH)
 | [],[],ρ,σ=>some (ρ,σ)
 | t::b,d::a,ρ,σ=>(t d ρ σ).bind λp=>seq b a p.1 p.2
 | _,_,_,_=>none
noncomputable def tup (b:List MT):MT:=λd ρ σ=>d.kx.bind λa=>seq b a ρ σ
end MT
namespace MS
noncomputable def assign (t:MT) (m:ME):MS:=λρ σ=>(m ρ σ).bind λp=>(t p.1 ρ p.2).bind λq=>some (.next,q.1,q.2)
noncomputable def pZ (t u:MT) (m:ME):MS:=λρ σ=>(m ρ σ).bind λp=>(t p.1 ρ p.2).bind λq=>(u p.1 q.1 q.2).bind λa=>some (.next,a.1,a.2)
noncomputable def expr (m:ME):MS:=λρ σ=>(m ρ σ).bind λp=>some (.next,ρ,p.2)
noncomputable def ret (m:ME):MS:=λρ σ=>(m ρ σ).bind λp=>some (.ret p.1,ρ,p.2)
noncomputable def brk:MS:=λρ σ=>some (.brk,ρ,σ)
noncomputable def cont:MS:=λρ σ=>some (.cont,ρ,σ)
noncomputable def never:MS:=λa a=>none
noncomputable def ite (b:MB) (x y:MS):MS:=λρ σ=>(b ρ σ).bind λp=>bif p.1 then x ρ p.2 else y ρ p.2
noncomputable def nil:MS:=λρ σ=>some (.next,ρ,σ)
noncomputable def cons (x y:MS):MS:=λρ σ=>(x ρ σ).bind λp=>bif p.1.oY then y p.2.1 p.2.2 else some p
noncomputable def pg (x:String) (m:ME) (xs a:MS):MS:=λρ σ=>(m ρ σ).bind λp=>bif jb p.1 then xs (ρ.set x p.1) p.2 else a (ρ.set x p.1) p.2
noncomputable def IB (x y:MS):MS:=λρ σ=>(x ρ σ).bind λp=>bif p.1.oY then y p.2.1 p.2.2 else none
end MS
noncomputable def Fl.val?:Fl->Option D| .ret d=>some d| .next=>some .none| _=>none
noncomputable def c_ (bs:List (String×D)):aC:=bs.foldl (λρ b=>ρ.set b.1 b.2) (λa=>none)
noncomputable def bO (a:gu) (m:MS):FM:=λb σ=>(a b).bind λbs=>(m (c_ bs) σ).bind λp=>p.1.val?.bind λd=>some (d,p.2.2)
noncomputable def td (a:List (aj×D)) (bs:List (String×D)):aC:=λx=>match a.lookup (au x) with
 | some d=>some d
 | none=>c_ bs x
noncomputable def FZ (a:gu) (m:ME):FL:=λb c σ=>(a c).bind λbs=>m (td b bs) σ
noncomputable def noRef:Nat->D->Bool
 | 0,_=>false
 | k+1,d=>(match d with
  | .list xs=>xs.all (noRef k)
  | .tup xs=>xs.all (noRef k)
  | .dict b=>b.all λp=>noRef k p.2
  | .lam _ a=>a.all λp=>noRef k p.2
  | .ref _=>false
  | _=>true)
noncomputable def uT (f:D->Option D):List D->Option (List D)
 | []=>some []
 | d::a=>(f d).bind λx=>(uT f a).bind λxs=>some (x::xs)
noncomputable def sd (f:D->Option D):List (aj×D)->Option (List (aj×D))
 | []=>some []
 | p::a=>(f p.2).bind λx=>(sd f a).bind λxs=>some ((p.1,x)::xs)
noncomputable def aI (f:D->Option D):Cell->Option D
 | .list xs=>(uT f xs).bind λb=>some (.list b)
 | .dict a=>(sd f a).bind λb=>some (.dict b)
 | _=>none
noncomputable def bq (σ:MH):Nat->D->Option D
 | 0,_=>none
 | k+1,d=>(match d.fP with
  | some i=>(σ.cell i).bind λc=>aI (bq σ k) c
  | none=>if noRef (k+1) d=true then some d else none)
noncomputable def m9 (F:FM) (a:List D):Option D:=if a.all (noRef 6)=true then (F a MH.nil).bind λp=>bq p.2 5 p.1 else none
noncomputable def fO (F:FM):FM:=λa σ=>(m9 F a).bind λd=>some (d,σ)
noncomputable def ME.a8 (F:FM) (g:MA):ME:=λρ σ=>(g ρ σ).bind λp=>F p.1 p.2
noncomputable abbrev ME.call (F:FM) (a:List ME):ME:=ME.a8 F (aG a)
noncomputable def r7 (m a:ME):MA:=λρ σ=>(m ρ σ).bind λp=>(a ρ p.2).bind λq=>(gP q.2 q.1).bind λb=>some (p.1::b,q.2)
noncomputable def bind1 (x:String):gu:=λb=>match b with| [a]=>some [(x,a)]| _=>none
noncomputable def j3 (x y:String):gu:=λc=>match c with| [a,b]=>some [(x,a),(y,b)]| _=>none
noncomputable def yp (x y z:String):gu:=λd=>match d with| [a,b,c]=>some [(x,a),(y,b),(z,c)]| _=>none
noncomputable def yq (x y:String):gu:=λb=>match b with| [a]=>some [(x,a),(y,.none)]| _=>none
noncomputable def p4 (x y:String):gu:=λe=>match e with
 | [a,b]=>some [(x,a),(y,.tup [b])]
 | [a,b,c,d]=>some [(x,a),(y,.tup [b,c,d])]
 | _=>none
noncomputable def yr (x y z:String):gu:=λd=>match d with
 | [a,b]=>some [(x,a),(y,b),(z,.tup [])]
 | [a,b,c]=>some [(x,a),(y,b),(z,.tup [c])]
 | _=>none
abbrev dR:=MH->Nat->Option (Option D)
abbrev MI:=aC->MH->Option (dR×Nat×MH)
noncomputable def vz (q:Fl×aC×MH) (a:aC->MH->Option (Fl×aC×MH)):Option (Fl×aC×MH):=match q.1 with
 | .next=>a q.2.1 q.2.2
 | .cont=>a q.2.1 q.2.2
 | .brk=>some (.next,q.2)
 | .ret _=>some q
noncomputable def mQ (b:dR) (t:MT) (a:MS):Nat->Nat->aC->MH->Option (Fl×aC×MH)
 | 0,_,_,_=>none
 | f+1,j,ρ,σ=>(b σ j).bind λx=>match x with
  | none=>some (.next,ρ,σ)
  | some d=>(t d ρ σ).bind λp=>(a p.1 p.2).bind λq=>vz q (mQ b t a f (j+1))
noncomputable def MS.cD (mi:MI) (t:MT) (body:MS):MS:=λρ σ=>(mi ρ σ).bind λp=>mQ p.1 t body p.2.1 0 ρ p.2.2
noncomputable def qL (b:MB) (c a:MS):Nat->aC->MH->Option (Fl×aC×MH)
 | 0,_,_=>none
 | f+1,ρ,σ=>(b ρ σ).bind λp=>bif p.1 then (c ρ p.2).bind λq=>vz q (qL b c a f) else a ρ p.2
noncomputable def MS.nF (f:Nat) (b:MB) (c a:MS):MS:=qL b c a f
noncomputable def fj (d:D):dR:=λσ j=>(gP σ d).bind λxs=>some xs[j]?
noncomputable def keysAt (b:List (aj×D)):dR:=λa j=>some (b[j]?.map λp=>.str p.1)
noncomputable def ie (xs:List D):dR:=λa j=>some xs[j]?
noncomputable def uP (d:D):dR:=λσ j=>(bU σ d).bind λxs=>some (xs[j]?.map λx=>.tup [.int j,x])
noncomputable def MI.of (m:ME):MI:=λρ σ=>(m ρ σ).bind λp=>match p.1.i9 with
 | some a=>some (keysAt a,a.length+1,p.2)
 | none=>(gP p.2 p.1).bind λxs=>some (fj p.1,xs.length+1,p.2)
noncomputable def MI.enum (m:ME):MI:=λρ σ=>(m ρ σ).bind λp=>(bU p.2 p.1).bind λxs=>some (uP p.1,xs.length+1,p.2)
noncomputable def MI.p9 (m:ME):MI:=λρ σ=>(m ρ σ).bind λp=>p.1.fP.bind λi=>(p.2.cell i).bind λc=>c.ER.bind λa=>some (keysAt a,a.length+1,p.2)
noncomputable def MI.values (m:ME):MI:=λρ σ=>(m ρ σ).bind λp=>(cellK p.2 p.1).bind λc=>some (ie (c.2.map (·.2)),c.2.length+1,p.2.put c.1 (.h_ c.2))
noncomputable def gU (a c:Int) (k:Nat):List D:=(dv k).map λ(i:Nat)=>.int (a+(i:Int)*c)
noncomputable def wd (a c k:Int):Option (dR×Nat):=if 0<=k/\k<=(aP:Int) then some (ie (gU a c k.toNat),k.toNat+1) else none
noncomputable def MI.gT (m:ME):MI:=λρ σ=>(m ρ σ).bind λp=>p.1.int?.bind λk=>(wd 0 1 k).bind λq=>some (q.1,q.2,p.2)
noncomputable def MI.pd (m:ME):MI:=λρ σ=>(m ρ σ).bind λp=>p.1.int?.bind λk=>(wd k (-1) k).bind λq=>some (q.1,q.2,p.2)
noncomputable def ME.d9 (m:MF):ME:=λρ σ=>(m ρ σ).bind λp=>some (.ref p.2.next,p.2.new p.1)
noncomputable def uA:Cell->Option D
 | .list xs=>some (.list xs)
 | .dict a=>some (.dict a)
 | _=>none
noncomputable def ME.aI (m:MF):ME:=λρ σ=>(m ρ σ).bind λp=>(uA p.1).bind λd=>some (d,p.2)
abbrev MX:=aC->MH->Cell->Option (aC×MH×Cell)
noncomputable def oU:List MB->aC->MH->Option (Bool×MH)
 | []=>λa σ=>some (true,σ)
 | b::bs=>λρ σ=>(b ρ σ).bind λp=>bif p.1 then oU bs ρ p.2 else some (false,p.2)
noncomputable def j8 (b:dR) (t:MT) (e:List MB) (a:MX):Nat->Nat->aC->MH->Cell->Option (aC×MH×Cell)
 | 0,_,_,_,_=>none
 | f+1,j,ρ,σ,x=>(b σ j).bind λy=>match y with
  | none=>some (ρ,σ,x)
  | some d=>(t d ρ σ).bind λp=>(oU e p.1 p.2).bind λc=>bif c.1 then (a p.1 c.2 x).bind λq=>j8 b t e a f (j+1) q.1 q.2.1 q.2.2 else j8 b t e a f (j+1) p.1 c.2 x
noncomputable def MX.inner (b:MI) (t:MT) (ifs:List MB) (a:MX):MX:=λρ σ x=>(b ρ σ).bind λp=>j8 p.1 t ifs a p.2.1 0 ρ p.2.2 x
noncomputable def MX.elt (m:ME):MX:=λρ σ x=>(m ρ σ).bind λp=>x.ij.bind λa=>if a.length<aP then some (ρ,p.2,.list (a++ [p.1])) else none
noncomputable def MX.kv (mk mv:ME):MX:=λρ σ x=>(mk ρ σ).bind λp=>p.1.dj.bind λk=>(mv ρ p.2).bind λq=>x.zQ.bind λa=>if a.length<aP then some (ρ,q.2,.dict (eF a k q.1)) else none
noncomputable def MX.nC (m:ME):MX:=λρ σ x=>(m ρ σ).bind λp=>p.1.bool?.bind λb=>x.yw.bind λa=>if b=true then some (ρ,p.2,.i0 true) else none
noncomputable def MS.qJ (x:String) (m:MF):MS:=λρ σ=>(m ρ σ).bind λp=>p.1.yw.bind λb=>if b=true then some (.next,ρ.set x (.bool true),p.2) else none
namespace MF
noncomputable def comp (c:MI) (t:MT) (ifs:List MB) (a:MX) (own:List String) (b:Cell):MF:=λρ σ=>(c ρ σ).bind λp=>(j8 p.1 t ifs a p.2.1 0 (ρ.drop own) p.2.2 b).bind λq=>some (q.2.2,q.2.1)
noncomputable def list (a:List ME):MF:=λρ σ=>(aG a ρ σ).bind λp=>if p.1.length<=aP then some (.list p.1,p.2) else none
noncomputable def ax (f:D->MH->Option (Cell×MH)) (a:ME):MF:=λρ σ=>(a ρ σ).bind λp=>f p.1 p.2
noncomputable def bh (f:D->D->MH->Option (Cell×MH)) (a b:ME):MF:=λρ σ=>(a ρ σ).bind λp=>(b ρ p.2).bind λq=>f p.1 q.1 q.2
noncomputable def te:MF:=λa σ=>some (.set [],σ)
noncomputable def mM:MF:=λa σ=>some (.dict [],σ)
noncomputable def mN (mk mv:ME):MF:=λρ σ=>(mk ρ σ).bind λp=>p.1.dj.bind λk=>(mv ρ p.2).bind λq=>some (.dict [(k,q.1)],q.2)
noncomputable def ia (k:Nat):MF:=λa σ=>some (.ia k,σ)
end MF
noncomputable def vg (d:D) (σ:MH):Option D:=match d.dj with
 | some s=>some (.int s.length)
 | none=>(gP σ d).bind λxs=>some (.int xs.length)
noncomputable def bW:D->MH->Option (D×MH):=gD vg
noncomputable def ux (d:D) (σ:MH):Option D:=match bU σ d with
 | some xs=>some (.bool (!xs.isEmpty))
 | none=>d.bool?.bind λb=>some (.bool b)
noncomputable def yt:D->MH->Option (D×MH):=gD ux
noncomputable def strOf (p:fX):Bool:=p.showable && (!p.hasDict && (isDisplay p && (decide (p.depth<=6) && (decide (p.shown.length<=aP) && fJ p.shown))))
noncomputable def nk (d:D) (σ:MH):Option D:=match d.bool? with
 | some b=>some (.str (if b then au "True" else au "False"))
 | none=>(cX σ 6 d).bind λp=>if strOf p=true then some (.str p.shown) else none
noncomputable def jR:D->MH->Option (D×MH):=gD nk
noncomputable def qk (d:D) (σ:MH):Option (Cell×MH):=(gP σ d).bind λxs=>some (.list xs,σ)
noncomputable def sD (d:D) (σ:MH):Option (Cell×MH):=d.i9.bind λa=>some (.list (a.map λp=>.str p.1),σ)
noncomputable def IG (d:D) (σ:MH):Option D:=(bU σ d).bind λxs=>some (.tup xs)
noncomputable def wD:D->MH->Option (D×MH):=gD IG
noncomputable def qI:List D->Option (List String)
 | []=>some []
 | d::a=>d.tC.bind λt=>(qI a).bind λb=>some (t::b)
noncomputable def zO (d e:D) (σ:MH):Option D:=match e.tC with
 | some t=>d.dj.bind λa=>if t= "bytes" then some (.bool false) else none
 | none=>e.kx.bind λxs=>(qI xs).bind λb=>(bU σ d).bind λa=>if b= ["list","tuple"] then some (.bool true) else none
noncomputable def mY:D->D->MH->Option (D×MH):=cm zO
noncomputable def FJ (d e:D) (_:MH):Option D:=d.tC.bind λt=>e.kx.bind λxs=>(qI xs).bind λa=>if t= "str" /\a= ["str","bytes"] then some (.bool true) else none
noncomputable def FK:D->D->MH->Option (D×MH):=cm FJ
noncomputable def IH (d:D) (_:MH):Option D:=d.dj.bind λa=>some (.typ "str")
noncomputable def II:D->MH->Option (D×MH):=gD IH
noncomputable def r5 (d e:D):Option Bool:=match d.int? with
 | some a=>e.int?.bind λb=>some (a==b)
 | none=>match d.dj with
  | some a=>e.dj.bind λb=>some (a==b)
  | none=>d.bool?.bind λa=>e.bool?.bind λb=>some (a==b)
noncomputable def rX (gt:Bool) (d e:D):Option Bool:=match d.int? with
 | some a=>e.int?.bind λb=>some (if gt then decide (a>b) else decide (a<b))
 | none=>match d.dj with
  | some a=>e.dj.bind λb=>some (if gt then decide (b.cps.toList<a.cps.toList) else decide (a.cps.toList<b.cps.toList))
  | none=>d.bool?.bind λa=>e.bool?.bind λb=>if gt=true then some (a && !b) else none
noncomputable def oH (d e:D):Bool:=(r5 d e).getD false
noncomputable def oB (gt:Bool) (d e:D):Bool:=(rX gt d e).getD false
noncomputable def vb (gt:Bool) (d e:D):Bool:=(r5 d e).isSome && (rX gt d e).isSome
noncomputable def o4 (gt:Bool):List D->List D->Bool
 | [],[]=>false
 | [],_::_=> !gt
 | _::_,[]=>gt
 | x::xs,y::a=>if oH x y then o4 gt xs a else oB gt x y
noncomputable def vh (gt:Bool) (xs a:List D):Option Bool:=if (xs.zip a).all (λp=>vb gt p.1 p.2)=true then some (o4 gt xs a) else none
noncomputable def i8 (σ:MH) (gt:Bool) (d e:D):Option Bool:=match d.kx with
 | some xs=>e.kx.bind λa=>if gt=true then vh gt xs a else none
 | none=>(bU σ d).bind λxs=>(bU σ e).bind λa=>vh gt xs a
noncomputable def ov (σ:MH) (gt:Bool) (xs:List D) (i j:Nat):Bool:=match xs[i]?,xs[j]? with| some x,some y=>(i8 σ gt x y).getD false| _,_=>false
noncomputable def oq (gt:Bool) (d:D) (σ:MH):Option D:=(bU σ d).bind λxs=>if 0<xs.length/\(xs.all λx=>xs.all λy=>(i8 σ gt x y).isSome)=true then xs[eR (ov σ gt xs) (xs.length - 1)]? else none
noncomputable def mE (gt:Bool):D->MH->Option (D×MH):=gD (oq gt)
noncomputable def intsOf:List D->Option (List Int)
 | []=>some []
 | d::r=>d.int?.bind λi=>(intsOf r).bind λis=>some (i::is)
noncomputable def Ir (d:D) (σ:MH):Option D:=(bU σ d).bind λxs=>(intsOf xs).bind λis=>some (.int is.sum)
noncomputable def sumF:D->MH->Option (D×MH):=gD Ir
noncomputable def vI (F:FM) (σ:MH):List D->Option (List D)
 | []=>some []
 | y::a=>(F [y] σ).bind λp=>(vI F σ a).bind λb=>some (p.1::b)
noncomputable def ME.qH (F:FM) (m:ME):ME:=λρ σ=>(m ρ σ).bind λp=>p.1.ij.bind λa=>(vI F p.2 a).bind λb=>some (.tup b,p.2)
noncomputable def wy (f:aj->aj->Option D) (d e:D) (_:MH):Option D:=d.dj.bind λx=>e.dj.bind λy=>f x y
noncomputable def tu:D->D->MH->Option (D×MH):=cm (wy λx y=>some (.bool (ya x y)))
noncomputable def endsF:D->D->MH->Option (D×MH):=cm (wy λx y=>some (.bool (Txt.endswith x y)))
noncomputable def HD:D->D->MH->Option (D×MH):=cm (wy λx y=>some (.int (Txt.rfind x y)))
noncomputable def HG:D->D->MH->Option (D×MH):=cm (wy λx y=>o_ (Txt.rstripChars x y))
noncomputable def sE:D->MH->Option (D×MH):=gD λd a=>d.dj.bind λx=>o_ (h5 x)
noncomputable def Vl (x y:aj):Option Cell:=if (y.length==0)=false/\(Txt.split x y).all fB=true/\(Txt.split x y).length<=aP then some (.list ((Txt.split x y).map .str)) else none
noncomputable def pf (d e:D) (σ:MH):Option (Cell×MH):=d.dj.bind λx=>e.dj.bind λy=>(Vl x y).bind λc=>some (c,σ)
noncomputable def strsOf:List D->Option (List aj)
 | []=>some []
 | d::r=>d.dj.bind λi=>(strsOf r).bind λis=>some (i::is)
noncomputable def FP (d e:D) (σ:MH):Option D:=d.dj.bind λx=>(bU σ e).bind λxs=>(strsOf xs).bind λa=>if t5 x a=true then o_ (iZ x a) else none
noncomputable def jd:D->D->MH->Option (D×MH):=cm FP
noncomputable def fK (d e:D) (σ:MH):Option (D×MH):=(mH σ d).bind λp=>if p.2.length<aP then some (.none,σ.put p.1 (.list (p.2++ [e]))) else none
noncomputable def oA (d:D) (σ:MH):Option (D×MH):=(mH σ d).bind λp=>some (.none,σ.put p.1 (.list []))
noncomputable def p8 (d e:D) (σ:MH):Option (D×MH):=(mH σ d).bind λp=>(bU σ e).bind λa=>if p.2.length+a.length<=aP then some (.none,σ.put p.1 (.list (p.2++a))) else none
noncomputable def pa (d:D) (σ:MH):Option (D×MH):=(mH σ d).bind λp=>p.2.getLast?.bind λx=>some (x,σ.put p.1 (.list p.2.dropLast))
noncomputable def ME.dB (c:D->MH->Bool) (f:D->D->MH->Option (D×MH)) (a b:ME):ME:=λρ σ=>(a ρ σ).bind λp=>if c p.1 p.2=true then (b ρ p.2).bind λq=>f p.1 q.1 q.2 else none
noncomputable def Pd (d e:D) (σ:MH):Option D:=(j1 σ d).bind λa=>e.dj.bind λk=>some ((a.lookup k).getD .none)
noncomputable def p_:D->D->MH->Option (D×MH):=cm Pd
noncomputable def qx (xs:List aj) (k:aj):List aj:=if k∈xs then xs else xs++ [k]
noncomputable def wh (d e:D) (σ:MH):Option (D×MH):=e.dj.bind λk=>(rW σ d).bind λp=>if p.2.length+1<4000 then some (.none,σ.put p.1 (.set (qx p.2 k))) else none
noncomputable def MT.sub (mo mi:ME):MT:=λd ρ σ=>(mo ρ σ).bind λp=>(mi ρ p.2).bind λq=>q.1.dj.bind λk=>(cellK q.2 p.1).bind λc=>if c.2.length<aP then some (ρ,q.2.put c.1 (.dict (eF c.2 k d))) else none
noncomputable def MF.oL (a b:ME):MF:=λρ σ=>(a ρ σ).bind λp=>(bU p.2 p.1).bind λxs=>(strsOf xs).bind λS=>(b ρ p.2).bind λq=>(bU q.2 q.1).bind λd=>(strsOf d).bind λc=>
 if S.length<4000/\c.all fB=true/\c.length<=aP then some (.list ((c.filter λx=>decide (x∈S)).map .str),q.2) else none
noncomputable def sx (σ:MH) (d:D):Option (Nat×List (aj×D)):=d.fP.bind λi=>(σ.cell i).bind λc=>c.zI
noncomputable def rR (k:Nat) (name:aj) (d:D) (σ:MH):Option D:=(sx σ d).bind λx=>if x.1=k then x.2.lookup name else none
noncomputable def aV (k:Nat) (name:aj):D->MH->Option (D×MH):=gD (rR k name)
noncomputable def s8 (k:Nat) (name:aj) (o d:D) (σ:MH):Option MH:=(DW σ o).bind λc=>if c.2.1=k/\c.2.2.length<=1000 then some (σ.put c.1 (.inst k (eF c.2.2 name d))) else none
noncomputable def MT.attr (k:Nat) (name:aj) (mo:ME):MT:=λd ρ σ=>(mo ρ σ).bind λp=>(s8 k name p.1 d p.2).bind λab=>some (ρ,ab)
noncomputable def MS.oj (k:Nat) (name:aj) (f:D->D->MH->Option (D×MH)) (a me:ME):MS:=λρ σ=>(a ρ σ).bind λp=>(rR k name p.1 p.2).bind λx=>(me ρ p.2).bind λq=>(f x q.1 q.2).bind λz=>(s8 k name p.1 z.1 z.2).bind λab=>some (.next,ρ,ab)
noncomputable def yR (k:Nat) (F:FM):FM:=λa σ=>(F (.ref σ.next::a) (σ.new (.inst k []))).bind λp=>if jb p.1=true then some (.ref σ.next,p.2) else none
noncomputable def D1 (k:Nat) (F:FM):FM:=λa σ=>(F (.ref σ.next::a) (σ.new (.slots k []))).bind λp=>if jb p.1=true then some (.ref σ.next,p.2) else none
noncomputable def qt (C:aq) (name:aj) (σ:MH) (d:D):Bool:=match sx σ d with| some x=>decide (x.1=C/\x.2.lookup name=none)| none=>false
noncomputable def ME.dC (C:aq) (name:aj) (F:FM) (mo:ME) (g:MA):ME:=λρ σ=>(mo ρ σ).bind λp=>if qt C name p.2 p.1=true then (g ρ p.2).bind λq=>F (p.1::q.1) q.2 else none
noncomputable def A7 (k i:Nat) (d:D) (σ:MH):Option D:=(uB k σ d).bind λc=>c.2.lookup i
noncomputable def eY (k i:Nat):D->MH->Option (D×MH):=gD (A7 k i)
noncomputable def AL (k i:Nat) (o d:D) (σ:MH):Option MH:=(uB k σ o).bind λc=>some (σ.put c.1 (.slots k (putN c.2 i d)))
noncomputable def MT.slot (k i:Nat) (a:ME):MT:=λd ρ σ=>(a ρ σ).bind λp=>(AL k i p.1 d p.2).bind λab=>some (ρ,ab)
noncomputable def MS.lH (k i:Nat) (f:D->D->MH->Option (D×MH)) (mo me:ME):MS:=λρ σ=>(mo ρ σ).bind λp=>(A7 k i p.1 p.2).bind λx=>(me ρ p.2).bind λq=>(f x q.1 q.2).bind λz=>(AL k i p.1 z.1 z.2).bind λab=>some (.next,ρ,ab)
noncomputable def Hs (k:Nat) (name:aj) (o d:D) (σ:MH):Option MH:=o.fP.bind λi=>(σ.cell i).bind λc=>match c.zk with
 | some a=>if a=k then some (σ.put i (.inst k [(name,d)])) else none
 | none=>s8 k name o d σ
noncomputable def MT.attrL (k:Nat) (name:aj) (a:ME):MT:=λd ρ σ=>(a ρ σ).bind λp=>(Hs k name p.1 d p.2).bind λab=>some (ρ,ab)
noncomputable def yD (ρ:aC):List String->Option (List (aj×D))
 | []=>some []
 | x::xs=>(ρ x).bind λd=>(yD ρ xs).bind λr=>some ((au x,d)::r)
noncomputable def ME.lam (k:Nat) (xs:List String):ME:=λρ σ=>(yD ρ xs).bind λa=>some (.lam k a,σ)
noncomputable def ME.sH (k a:Nat) (name:aj) (F:FL) (b:ME) (g:MA):ME:=λρ σ=>(b ρ σ).bind λp=>(rR k name p.1 p.2).bind λf=>f.FY.bind λl=>if l.1=a then (g ρ p.2).bind λq=>F l.2 q.1 q.2 else none
noncomputable def qg (d:D) (σ:MH):Option (D×MH):=(mH σ d).bind λp=>some (.ref σ.next,σ.new (.iter p.1 0))
noncomputable def y7 (dd b st:String) (ρ:aC) (σ:MH):Option MH:=(ρ dd).bind λk=>(ρ b).bind λe=>(ρ st).bind λd=>(pa e σ).bind λp=>p.1.dj.bind λa=>(cellK p.2 k).bind λc=>
 if (c.2.lookup a).isSome=true then (pa d (p.2.put c.1 (.dict (c.2.filter λp=>decide (p.1≠a))))).bind λq=>some q.2 else none
noncomputable def MS.qG (x:String) (f:ME) (dd a st:String):MS:=λρ σ=>(f ρ σ).bind λp=>p.1.fP.bind λc=>(p.2.cell c).bind λb=>b.FN.bind λit=>(p.2.cell it.1).bind λe=>e.ij.bind λxs=>match xs[it.2]? with
 | some d=>some (.brk,ρ.set x d,p.2.put c (.iter it.1 (it.2+1)))
 | none=>(y7 dd a st ρ (p.2.del c)).bind λaX=>some (.next,ρ,aX)
namespace ME
noncomputable abbrev idx (a b:ME):ME:=.bh (cm mS) a b
noncomputable abbrev add (a b:ME):ME:=.bh (cm pX) a b
noncomputable abbrev sub (a b:ME):ME:=.bh (cm Be) a b
noncomputable abbrev mod (a b:ME):ME:=.bh (cm Aj) a b
noncomputable abbrev fdiv (a b:ME):ME:=.bh (cm EM) a b
noncomputable abbrev mul (a b:ME):ME:=.bh (cm GV) a b
noncomputable abbrev Ak (a b:ME):ME:=.bh (cm GW) a b
noncomputable abbrev eq (a b:ME):ME:=.bh (cm uQ) a b
noncomputable abbrev ne (a b:ME):ME:=.bh (cm sO) a b
noncomputable abbrev lt (a b:ME):ME:=.bh (cm Gn) a b
noncomputable abbrev gt (a b:ME):ME:=.bh (cm Fb) a b
noncomputable abbrev is (a b:ME):ME:=.bh (cm FH) a b
noncomputable abbrev kg (a b:ME):ME:=.bh (cm G1) a b
noncomputable abbrev jH (a b:ME):ME:=.bh (cm inD) a b
noncomputable abbrev jg (a b:ME):ME:=.bh (cm Au) a b
noncomputable abbrev not (b:ME):ME:=.ax (gD GY) b
noncomputable abbrev neg (b:ME):ME:=.ax (gD An) b
end ME
noncomputable def cj:Nat:=1000
noncomputable def iM:Nat:=0
noncomputable def fuel:Nat:=1000000
section
theorem ob{α β:Type}{x:Option α}{f:α->Option β}{r:β}{P:Prop}(h:x.bind f=some r)(k:∀a,x=some a->f a=some r->P):P:=by
 induction x with
 | none=>exact nomatch h
 | some a=>exact k a rfl h
theorem om{α β:Type}{o:Option α}{f:α->Option β}{g:Option β}{r:β}{P:Prop}(h:Option.casesOn (motive:=λb=>Option β) o g f=some r)(c:∀a,o=some a->f a=some r->P)(d:o=none->g=some r->P):P:=by
 induction o with
 | none=>exact d rfl h
 | some a=>exact c a rfl h
@[elab_as_elim] theorem sj{α:Type}{a b:α}{motive:α->Prop}(h:some a=some b)(m:motive a):motive b:=aM h▸m
theorem aY{α:Type}{a:α}{P:Prop}(h:none=some a):P:=nomatch h
theorem og{α:Type}{c:Prop} [Decidable c]{x:Option α}{r:α}{P:Prop}(h:(if c then x else none)=some r)(k:c->x=some r->P):P:=by
 by_cases a:c
 .rw [if_pos a] at h;exact k a h
 .rw [if_neg a] at h;exact aY h
theorem oc{α:Type}{c:Bool}{x y:Option α}{r:α}{P:Prop}(h:(bif c then x else y)=some r)(b:c=true->x=some r->P)(a:c=false->y=some r->P):P:=by
 induction c
 .exact a rfl h
 .exact b rfl h
theorem bD{α:Type}{M:lB}{A:aO}{t:bY α}{Q c:α->ai->Prop}{E:af->ai->Prop}{s:ai}(h:ar M A t Q E s)(k:∀a d,Q a d->c a d):ar M A t c E s:=gW h k λb b x=>x
theorem D.QG{d i}(h:D.int? d=some i):d=.int i:=by cases d<;>first| exact aY h| exact congrArg _ (aM h)
theorem D.MO{d i}(h:D.bool? d=some i):d=.bool i:=by cases d<;>first| exact aY h| exact congrArg _ (aM h)
theorem D.Ih{d i}(h:D.dj d=some i):d=.str i:=by cases d<;>first| exact aY h| exact congrArg _ (aM h)
theorem D.IF{d i}(h:D.kx d=some i):d=.tup i:=by cases d<;>first| exact aY h| exact congrArg _ (aM h)
theorem D.qj{d i}(h:D.ij d=some i):d=.list i:=by cases d<;>first| exact aY h| exact congrArg _ (aM h)
theorem D.Ee{d i}(h:D.i9 d=some i):d=.dict i:=by cases d<;>first| exact aY h| exact congrArg _ (aM h)
theorem D.UK{d i}(h:D.fP d=some i):d=.ref i:=by cases d<;>first| exact aY h| exact congrArg _ (aM h)
theorem D.V9{d i}(h:D.tC d=some i):d=.typ i:=by cases d<;>first| exact aY h| exact congrArg _ (aM h)
noncomputable def Cell.qd:Cell->Bool| .h_ _=>true| _=>false
theorem f9:aP<=gF:=by decide
structure Wd where
 prog:eA
 w:eC
 base:aN
 K:kC
 mg:aj->Option af
 mb:aj->Option af
 tab:aq
 os:CM
 kind:Nat->bu->Prop
 je:Nat->gc->Prop
 jK:aj
structure Gh where
 g:Nat->Option aq
 d:Nat->Option aq
 fr:aq->Prop
 c0:Nat->Prop
 ou:aq->Prop
def Gh.own(G:Gh)(a:aq):Prop:=∃i,G.c0 i/\(G.g i=some a∨G.d i=some a)
def bJ(W:Wd)(G:Gh)(a:aq):Prop:=¬G.own a/\¬G.fr a/\a≠W.tab
mutual
inductive Rep (W:Wd) (G:Gh) (h:aN):af->D->Prop
 | none:Rep W G h .none .none
 | bool (b):Rep W G h (.bool b) (.bool b)
 | int (i t):Rep W G h (.int i t) (.int i)
 | str (s t):fJ s=true->s.length<=aP->Rep W G h (.str s t) (.str s)
 | list {a o vs n xs}:xs.length<=aP->bJ W G a->h.get? a=some o->o.cls=.type "list" ->o.dict=none->o.data=.seq vs n->aQ W G h vs.toList xs->Rep W G h (.ref a) (.list xs)
 | tup {a o vs xs}:xs.length<=aP->bJ W G a->h.get? a=some o->o.cls=.type "tuple" ->(o.dict=none/\o.slots= #[])->o.data=.seq vs 0->aQ W G h vs.toList xs->Rep W G h (.ref a) (.tup xs)
 | dict {a mC ei}:ei.length<=aP->bJ W G a->a≠iR->h.DictOf (strKind W.prog W.w) a mC->bC W G h mC ei->Rep W G h (.ref a) (.dict ei)
 | ref {i a}:G.g i=some a->Rep W G h (.ref a) (.ref i)
 | typ (n):Rep W G h (.type n) (.typ n)
 | lam {a o fd k yC}:bJ W G a->h.get? a=some o->o.cls=.type "function" ->o.dict=none->o.data=.func fd->W.je k fd->fu W G h fd.closure yC->
  (∃c,fd.code=.ref c/\bJ W G c)->h.CodeRec fd.code fd.qualname->Rep W G h (.ref a) (.lam k yC)
inductive aQ (W:Wd) (G:Gh) (h:aN):List af->List D->Prop
 | nil:aQ W G h [] []
 | cons {v d vs ds}:Rep W G h v d->aQ W G h vs ds->aQ W G h (v::vs) (d::ds)
inductive bC (W:Wd) (G:Gh) (h:aN):List (aj×af)->List (aj×D)->Prop
 | nil:bC W G h [] []
 | cons {v k d es ei}:fJ k=true->k.length<=aP->Rep W G h v d->bC W G h es ei->bC W G h ((k,v)::es) ((k,d)::ei)
inductive fu (W:Wd) (G:Gh) (h:aN):List (aj×aq)->List (aj×D)->Prop
 | nil:fu W G h [] []
 | cons {c o v x d cs ds}:bJ W G c->h.get? c=some o->o.data=.cell (some v)->Rep W G h v d->fu W G h cs ds->fu W G h ((x,c)::cs) ((x,d)::ds)
end
structure Step(W:Wd)(M:aq->Prop)(G:Gh)(h:aN)(G':Gh)(h':aN):Prop where
 g:∀i a,G.g i=some a->G'.g i=some a
 d:∀i a,G.d i=some a->G'.d i=some a
 fr:G'.fr=G.fr
 c0:∀i,G'.c0 i->G.c0 i
 new:∀a,G'.own a->G.own a∨h.objs.size<=a
 keep:∀a o,h.get? a=some o->¬G.own a->¬M a->a≠W.tab->(G.fr a->¬G.ou a)->h'.get? a=some o
 size:h.objs.size<=h'.objs.size
 ou:G'.ou=G.ou
 ig:∀a o,h.get? a=some o->G.fr a->G.ou a->¬M a->∃sl,h'.get? a=some {o with slots:=sl}
section
variable {W:Wd} {G:Gh} {h:aN}
def LG(W:Wd)(G:Gh)(h:aN)(v:af):D->Prop
 | .none=>v=.none
 | .bool b=>v=.bool b
 | .int i=>∃t,v=.int i t
 | .str s=>∃t,v=.str s t/\fJ s=true/\s.length<=aP
 | .list xs=>∃a o l n,v=.ref a/\xs.length<=aP/\bJ W G a/\h.get? a=some o/\o.cls=.type "list" /\o.dict=none/\o.data=.seq l n/\aQ W G h l.toList xs
 | .tup xs=>∃a o l,v=.ref a/\xs.length<=aP/\bJ W G a/\h.get? a=some o/\o.cls=.type "tuple" /\(o.dict=none/\o.slots= #[])/\o.data=.seq l 0/\aQ W G h l.toList xs
 | .dict j=>∃a e,v=.ref a/\j.length<=aP/\bJ W G a/\a≠iR/\h.DictOf (strKind W.prog W.w) a e/\bC W G h e j
 | .ref i=>∃a,v=.ref a/\G.g i=some a
 | .typ n=>v=.type n
 | .lam k f=>∃a o d,v=.ref a/\bJ W G a/\h.get? a=some o/\o.cls=.type "function" /\o.dict=none/\o.data=.func d/\W.je k d/\fu W G h d.closure f/\
  (∃c,d.code=.ref c/\bJ W G c)/\h.CodeRec d.code d.qualname
theorem Rep.inv{v d}(r:Rep W G h v d):LG W G h v d:=by
 cases r with
 | none=>exact rfl
 | bool=>exact rfl
 | int _ t=>exact⟨t,rfl⟩
 | str _ t a b=>exact⟨t,rfl,a,b⟩
 | list z f e c d k r=>exact⟨_,_,_,_,rfl,z,f,e,c,d,k,r⟩
 | tup z f e c d k r=>exact⟨_,_,_,rfl,z,f,e,c,d,k,r⟩
 | dict z f e c r=>exact⟨_,_,rfl,z,f,e,c,r⟩
 | ref e=>exact⟨_,rfl,e⟩
 | typ=>exact rfl
 | lam a b c d e f g i j=>exact⟨_,_,_,rfl,a,b,c,d,e,f,g,i,j⟩
@[elab_as_elim] theorem Rep.gB{v d i}{motive:af->D->Prop}(r:Rep W G h v d)(e:d.int?=some i)(k:∀t,motive (.int i t) (.int i)):motive v d:=by
  obtain rfl:=D.QG e;refine aL r.inv λt a=>?_;obtain rfl:=a;exact k t
@[elab_as_elim] theorem Rep.ot{v d i}{motive:af->D->Prop}(r:Rep W G h v d)(e:d.bool?=some i)(k:motive (.bool i) (.bool i)):motive v d:=by
  obtain rfl:=D.MO e;obtain rfl:=r.inv;exact k
@[elab_as_elim] theorem Rep.c8{v d s}{motive:af->D->Prop}(r:Rep W G h v d)(e:d.dj=some s)(k:∀t,fJ s=true->s.length<=aP->motive (.str s t) (.str s)):motive v d:=by
  obtain rfl:=D.Ih e;refine bI r.inv λt c a b=>?_;obtain rfl:=c;exact k t a b
@[elab_as_elim] theorem Rep.Bl{v d s}{motive:af->D->Prop}(r:Rep W G h v d)(e:d.tC=some s)(k:motive (.type s) (.typ s)):motive v d:=by
  obtain rfl:=D.V9 e;obtain rfl:=r.inv;exact k
@[elab_as_elim] theorem Rep.HC{v d i}{motive:af->D->Prop}(r:Rep W G h v d)(e:d.fP=some i)(k:∀a,G.g i=some a->motive (.ref a) (.ref i)):motive v d:=by
  obtain rfl:=D.UK e;refine aw r.inv λa b g=>?_;obtain rfl:=b;exact k a g
@[elab_as_elim] theorem Rep.listE{v d xs}{motive:af->D->Prop}(r:Rep W G h v d)(e:d.ij=some xs)(k:∀{a o l n},xs.length<=aP->bJ W G a->h.get? a=some o->o.cls=.type "list" ->o.dict=.none->o.data=.seq l n->aQ W G h l.toList xs->motive (.ref a) (.list xs)):motive v d:=by
  obtain rfl:=D.qj e;refine BH r.inv λa o l n j b c d e f g i=>?_;obtain rfl:=j;exact k b c d e f g i
@[elab_as_elim] theorem Rep.jm{v d xs}{motive:af->D->Prop}(r:Rep W G h v d)(e:d.kx=some xs)(k:∀{a o l},xs.length<=aP->bJ W G a->h.get? a=some o->o.cls=.type "tuple" ->(o.dict=.none/\o.slots= #[])->o.data=.seq l 0->aQ W G h l.toList xs->motive (.ref a) (.tup xs)):motive v d:=by
  obtain rfl:=D.IF e;refine qS r.inv λa o l j b c d e f g i=>?_;obtain rfl:=j;exact k b c d e f g i
@[elab_as_elim] theorem Rep.y8{v d xs}{motive:af->D->Prop}(r:Rep W G h v d)(e:d.i9=some xs)(k:∀{a g},xs.length<=aP->bJ W G a->a≠iR->h.DictOf (strKind W.prog W.w) a g->bC W G h g xs->motive (.ref a) (.dict xs)):motive v d:=by
  obtain rfl:=D.Ee e;refine tJ r.inv λa j i b c d e f=>?_;obtain rfl:=i;exact k b c d e f
def LH(W:Wd)(G:Gh)(h:aN)(b:List af):List D->Prop
 | []=>b= []
 | d::c=>∃v a,b=v::a/\Rep W G h v d/\aQ W G h a c
theorem aQ.inv{d c}(r:aQ W G h d c):LH W G h d c:=by cases r with| nil=>exact rfl| cons a b=>exact⟨_,_,rfl,a,b⟩
@[elab_as_elim] theorem aQ.iN{a}{motive:List af->Prop}(r:aQ W G h a [])(k:motive []):motive a:=by obtain rfl:=r.inv;exact k
@[elab_as_elim] theorem aQ.d6{c d f}{motive:List af->Prop}(r:aQ W G h c (d::f))(k:∀{v c},Rep W G h v d->aQ W G h c f->motive (v::c)):motive c:=by
  refine eQ r.inv λv g e a b=>?_;obtain rfl:=e;exact k a b
@[elab_as_elim] theorem aQ.ind{motive:List af->List D->Prop}{e c}(r:aQ W G h e c)(nil:motive [] [])(cons:∀{v d e c},Rep W G h v d->aQ W G h e c->motive e c->motive (v::e) (d::c)):motive e c:=by
  induction c generalizing e with
  | nil=>exact r.iN nil
  | cons d c f=>exact r.d6 λa b=>cons a b (f b)
def LI(W:Wd)(G:Gh)(h:aN)(b:List (aj×af)):List (aj×D)->Prop
 | []=>b= []
 | (k,d)::c=>∃v a,b=(k,v)::a/\fJ k=true/\k.length<=aP/\Rep W G h v d/\bC W G h a c
theorem bC.inv{f e}(r:bC W G h f e):LI W G h f e:=by cases r with| nil=>exact rfl| cons a b c d=>exact⟨_,_,rfl,a,b,c,d⟩
@[elab_as_elim] theorem bC.ind{motive:List (aj×af)->List (aj×D)->Prop}{f e}(r:bC W G h f e)(nil:motive [] [])
   (cons:∀{k v d f e},fJ k=true->k.length<=aP->Rep W G h v d->bC W G h f e->motive f e->motive ((k,v)::f) ((k,d)::e)):motive f e:=by
  induction e generalizing f with
  | nil=>obtain rfl:=r.inv;exact nil
  | cons p e i=>refine tI r.inv λv j g a b c d=>?_;obtain rfl:=g;exact cons a b c d (i d)
def LF(W:Wd)(G:Gh)(h:aN)(b:List (aj×aq)):List (aj×D)->Prop
 | []=>b= []
 | (x,d)::e=>∃c o v a,b=(x,c)::a/\bJ W G c/\h.get? c=some o/\o.data=.cell (some v)/\Rep W G h v d/\fu W G h a e
theorem fu.inv{g f}(r:fu W G h g f):LF W G h g f:=by cases r with| nil=>exact rfl| cons a b c d e=>exact⟨_,_,_,_,rfl,a,b,c,d,e⟩
@[elab_as_elim] theorem fu.ind{motive:List (aj×aq)->List (aj×D)->Prop}{g f}(r:fu W G h g f)(nil:motive [] [])
   (cons:∀{x c o v d g f},bJ W G c->h.get? c=some o->o.data=.cell (some v)->Rep W G h v d->fu W G h g f->motive g f->motive ((x,c)::g) ((x,d)::f)):motive g f:=by
  induction f generalizing g with
  | nil=>obtain rfl:=r.inv;exact nil
  | cons p f j=>refine IW r.inv λc o v k i a b c d e=>?_;obtain rfl:=i;exact cons a b c d e (j e)
end
theorem Step.refl{W M G h}:Step W M G h G h:=⟨λa a e=>e,λa a e=>e,rfl,λa x=>x,λa x=>.inl x,λa a e a a a a=>e,bb _,rfl,λa o e a a a=>⟨o.slots,e⟩⟩
theorem Step.all{W M G h G' h'}(g:∀i a,G.g i=some a->G'.g i=some a)(d:∀i a,G.d i=some a->G'.d i=some a)(m:G'.fr=G.fr)(l:∀i,G'.c0 i->G.c0 i)(j:∀a,G'.own a->G.own a∨h.objs.size<=a)
 (k:∀a o,h.get? a=some o->¬M a->h'.get? a=some o) (c:h.objs.size<=h'.objs.size) (n:G'.ou=G.ou:=by rfl):Step W M G h G' h':=
 ⟨g,d,m,l,j,λa o e b f b b=>k a o e f,c,n,λa o e b b f=>⟨o.slots,k a o e f⟩⟩
theorem Step.trans{W M G h G' h' c f}(S:Step W M G h G' h')(T:Step W M G' h' c f):Step W M G h c f where
 g i a e:=T.g i a (S.g i a e)
 d i a e:=T.d i a (S.d i a e)
 fr:=T.fr.trans S.fr
 c0 i x:=S.c0 i (T.c0 i x)
 new a x:=(T.new a x).elim (S.new a) λy=>.inr (aE S.size y)
 keep a o e ho j ht hf:=T.keep a o (S.keep a o e ho j ht hf) (λy=>(S.new a y).elim ho λz=>absurd (b9 e) (Nat.not_lt.mpr z)) j ht (by exact aa (S.fr ..)<|aa (S.ou ..)<|hf)
 size:=aE S.size T.size
 ou:=T.ou.trans S.ou
 ig a o e hf k j:=aL (S.ig a o e hf k j) λb l=>aL (T.ig a _ l (by exact aa (S.fr ..)<|hf) (by exact aa (S.ou ..)<|k) j) λm q=>⟨m,q⟩
theorem Step.weaken{W M M' G h G' h'}(S:Step W M G h G' h')(k:∀a,M a->M' a):Step W M' G h G' h':=
 ⟨S.g,S.d,S.fr,S.c0,S.new,λa o e f b i=>S.keep a o e f (λx=>b (k a x)) i,S.size,S.ou,λa o e c j b=>S.ig a o e c j λx=>b (k a x)⟩
theorem Step.bq{W M G h G' h'}(S:Step W M G h G' h'){a:aq}{o:bu}(e:h.get? a=some o)(f:bJ W G a):bJ W G' a:=by
 refine⟨λx=>?_,by exact aa (S.fr ..)<|f.2.1,f.2.2⟩
 rcases S.new a x with y| y
 .exact f.1 y
 .exact absurd (b9 e) (Nat.not_lt.mpr y)
theorem Step.get{W M G h G' h'}(S:Step W M G h G' h')(b:∀a,M a->G.fr a){a:aq}{o:bu}(e:h.get? a=some o)(f:bJ W G a):h'.get? a=some o:=
 S.keep a o e f.1 (λx=>f.2.1 (b a x)) f.2.2 λx=>absurd x f.2.1
theorem Step.dat{W M G h G' h'}(S:Step W M G h G' h'){a:aq}{o:bu}(e:h.get? a=some o)(c:¬G.own a)(b:¬M a)(d:a≠W.tab):∃f,h'.get? a=some {o with slots:=f}:=by
 by_cases q:G.fr a/\G.ou a
 .exact S.ig a o e q.1 q.2 b
 .exact⟨o.slots,S.keep a o e c b d λx y=>q ⟨x,y⟩⟩
structure cH(W:Wd)(G:Gh)(h:aN)(G':Gh)(h':aN):Prop where
 g:∀i a,G.g i=some a->G'.g i=some a
 bq:∀a o,h.get? a=some o->bJ W G a->bJ W G' a/\h'.get? a=some o
theorem Step.ea{W M G h G' h'}(S:Step W M G h G' h')(c:∀a,M a->G.fr a):cH W G h G' h':=⟨S.g,λb b e f=>⟨S.bq e f,S.get c e f⟩⟩
theorem aQ.map{W:Wd}{G:Gh}{h:aN}{G':Gh}{h':aN}(H:∀v d,Rep W G h v d->Rep W G' h' v d){e ds}(r:aQ W G h e ds):aQ W G' h' e ds:=r.ind .nil λa c b=>.cons (H _ _ a) b
theorem bC.map{W:Wd}{G:Gh}{h:aN}{G':Gh}{h':aN}(H:∀v d,Rep W G h v d->Rep W G' h' v d){e ds}(r:bC W G h e ds):bC W G' h' e ds:=r.ind .nil λx y a c b=>.cons x y (H _ _ a) b
theorem uI{W:Wd}{G:Gh}{h:aN}{G':Gh}{h':aN}{a c}(S:∀a o,h.get? a=some o->bJ W G a->bJ W G' a/\h'.get? a=some o)(f:bJ W G a)(e:h.DictOf (strKind W.prog W.w) a c):bJ W G' a/\h'.DictOf (strKind W.prog W.w) a c:=by
 refine pj (id e) λb b b d b=>?_
 exact⟨(S _ _ d f).1,e.at λb d=>(S _ _ d f).2⟩
theorem uF{W:Wd}{G:Gh}{h:aN}{G':Gh}{h':aN}{d q}(S:∀a o,h.get? a=some o->bJ W G a->bJ W G' a/\h'.get? a=some o)(x:∃c,d=.ref c/\bJ W G c)(i:h.CodeRec d q):(∃c,d=.ref c/\bJ W G' c)/\h'.CodeRec d q:=by
 refine aw x λc b f=>?_;obtain rfl:=b
 refine wQ i λg o l t j e k=>?_
 obtain rfl:c=g:=jA j
 exact⟨⟨c,rfl,(S _ _ e f).1⟩,c,o,l,t,rfl,(S _ _ e f).2,k⟩
theorem Rep.keep{W:Wd}{G:Gh}{h:aN}{G':Gh}{h':aN}(S:cH W G h G' h'){v d}(r:Rep W G h v d):Rep W G' h' v d:=by
 exact Rep.rec (motive_1:=λv d i=>Rep W G' h' v d) (motive_2:=λo k i=>aQ W G' h' o k) (motive_3:=λo k i=>bC W G' h' o k) (motive_4:=λo k i=>fu W G' h' o k)
  .none .bool .int .str (λz f e c j m i r=>.list z (S.bq _ _ e f).1 (S.bq _ _ e f).2 c j m r) (λz f e c j m i r=>.tup z (S.bq _ _ e f).1 (S.bq _ _ e f).2 c j m r)
  (λz f ns e i r=>.dict z (uI S.bq f e).1 ns (uI S.bq f e).2 r) (λe=>.ref (S.g _ _ e)) .typ
  (λf e c j m l i x p r=>.lam (S.bq _ _ e f).1 (S.bq _ _ e f).2 c j m l r (uF S.bq x p).1 (uF S.bq x p).2)
  .nil (λi i r n=>.cons r n) .nil (λa b i i r n=>.cons a b r n) .nil (λf e d i i r n=>.cons (S.bq _ _ e f).1 (S.bq _ _ e f).2 d r n) r
section
variable {W:Wd} {G:Gh} {h:aN} {G':Gh} {h':aN} {M:aq->Prop}
theorem aQ.keep(S:cH W G h G' h'){b ds}(r:aQ W G h b ds):aQ W G' h' b ds:=r.map λa a x=>x.keep S
theorem bC.keep(S:cH W G h G' h'){b ds}(r:bC W G h b ds):bC W G' h' b ds:=r.map λa a x=>x.keep S
theorem fu.keep(S:cH W G h G' h'){g ds}(r:fu W G h g ds):fu W G' h' g ds:=r.ind .nil λf e d a c b=>.cons (S.bq _ _ e f).1 (S.bq _ _ e f).2 d (a.keep S) b
theorem Rep.step{v d}(r:Rep W G h v d)(S:Step W M G h G' h')(b:∀a,M a->G.fr a):Rep W G' h' v d:=r.keep (S.ea b)
theorem aQ.step{v d}(r:aQ W G h v d)(S:Step W M G h G' h')(b:∀a,M a->G.fr a):aQ W G' h' v d:=r.keep (S.ea b)
theorem aQ.length{vs ds}(r:aQ W G h vs ds):vs.length=ds.length:=r.ind rfl λa a e=>congrArg (· +1) e
theorem aQ.append{g f e d}(r:aQ W G h g f)(i:aQ W G h e d):aQ W G h (g++e) (f++d):=r.ind i λa c b=>.cons a b
theorem aQ.get{f c}(r:aQ W G h f c){i:Nat}{d:D}(e:c[i]?=some d):∃v,f[i]?=some v/\Rep W G h v d:=
 r.ind (motive:=λf c=>∀(i:Nat) (d:D),c[i]?=some d->∃v,f[i]?=some v/\Rep W G h v d) (λb b e=>aY e) (λ{v _ _ _} a b g i x e=>match i,e with
  | 0,e=>⟨v,rfl,aM e▸a⟩
  | i+1,e=>g i _ e) i d e
theorem aQ.take{d c}(r:aQ W G h d c):∀n:Nat,aQ W G h (d.take n) (c.take n):=
 r.ind (λn=>by exact aa (KZ ..)<|aa (KZ ..)<| .nil) λa b e n=>match n with| 0=>.nil| n+1=>.cons a (e n)
theorem aQ.drop{c b}(r:aQ W G h c b):∀n:Nat,aQ W G h (c.drop n) (b.drop n):=
 r.ind (λn=>by exact aa (Kn ..)<|aa (Kn ..)<| .nil) λa r d n=>match n with| 0=>.cons a r| n+1=>d n
theorem aQ.snoc{c b v d}(r:aQ W G h c b)(a:Rep W G h v d):aQ W G h (c++ [v]) (b++ [d]):=r.append (.cons a .nil)
end
structure uf(W:Wd)(G:Gh)(h:aN)(l:List af):Prop where
 triples:CW l
 code:∀pos cv,rY pos l=some cv->∃c,cv=.ref c/\bJ W G c/\h.CodeRec cv W.jK
def TabAt(W:Wd)(G:Gh)(h:aN):Prop:=∃ps,h.get? W.tab=some (Bh ps)/\uf W G h ps.toList
theorem uf.keep{W G h G' h' l}(x:uf W G h l)(K:∀a o,h.get? a=some o->bJ W G a->bJ W G' a/\h'.get? a=some o):uf W G' h' l:=
 ⟨x.triples,λd g e=>by
   refine bI (x.code d g e) λc b f r=>?_;obtain rfl:=b
   refine wQ r λn o m t i j k=>?_
   cases i
   have:=K _ _ j f
   exact⟨_,rfl,this.1,_,o,m,t,rfl,this.2,k⟩⟩
theorem TabAt.keep{W G h G' h'}(x:TabAt W G h)(K:∀a o,h.get? a=some o->bJ W G a->bJ W G' a/\h'.get? a=some o)(b:∀ps,h.get? W.tab=some (Bh ps)->h'.get? W.tab=some (Bh ps)):TabAt W G' h':=
 aw x λps e r=>⟨ps,b _ e,r.keep K⟩
structure Inv(W:Wd)(G:Gh)(s:ai):Prop where
 keep:∀b o,W.base.get? b=some o->s.heap.get? b=some o
 size:W.base.objs.size<=s.heap.objs.size
 gens:s.gens= #[]
 os:s.os=W.os
 cn:∀a,G.own a->W.base.objs.size<=a/\a<s.heap.objs.size/\¬G.fr a/\a≠W.tab
 b0:∀a,G.fr a->W.base.objs.size<=a/\a<s.heap.objs.size/\a≠W.tab
 gR:∀i j a,G.c0 i->G.c0 j->G.g i=some a->G.g j=some a->i=j
 g7:∀i j a,G.c0 i->G.c0 j->G.d i=some a->G.d j=some a->i=j
 gd:∀i j a,G.c0 i->G.c0 j->G.g i=some a->G.d j=some a->False
 tab:TabAt W G s.heap
 eO:W.tab<W.base.objs.size
 hJ:W.base.get? W.tab=none
 b8:∀a,G.ou a->G.fr a
def ix(h:aN)(a:aq)(m:aj->Option af)(n:Nat):Prop:=
 ∃o b c,h.get? a=some o/\o.data=.dict b c/\StrKeys b/\(∀name,vT b name=m name)/\b.size<=n
theorem ix.ns{h a m n}(x:ix h a m n):h.Ns a m:=jU x λo g c e d k f b=>⟨o,g,c,e,d,k,f⟩
noncomputable def jP (led:Bool):CU:={mask:=7,place:= #[1],dummies:= #[],finger:=0,led:=led,moves:=0,plain:=true}
noncomputable def i3 (a:Bool):Bool->bu
 | false=>{cls:=.type "set",dict:=none,data:=.set #[] 0 (.fresh 0 0 a)}
 | true=>{cls:=.type "set",dict:=none,data:=.set #[(1,.bool true)] 1 (jP a)}
noncomputable def lW (it:aq):bu:={cls:=.type "method-wrapper",data:=.fields #[.builtin "list_iterator.__next__",.ref it]}
noncomputable def Wd.led (W:Wd):Bool:= !W.w.params.followText "set-order"
def cg(W:Wd)(G:Gh)(h:aN)(a:aq)(da:Option aq):Cell->Prop
 | .list xs=>xs.length<=aP/\∃o p n,h.get? a=some o/\o.cls=.type "list" /\(o.dict=none/\o.slots= #[])/\o.data=.seq p n/\aQ W G h p.toList xs
 | .dict m=>m.length<=aP/\a≠iR/\∃f,h.DictOf (strKind W.prog W.w) a f/\bC W G h f m
 | .set xs=>h.SetOf (strKind W.prog W.w) a (λk=>decide (k∈xs)) xs.length
 | .inst k c=>∃o e f,da=some e/\h.get? a=some o/\W.kind k o/\o.dict=some e/\ix h e (λx=>f.lookup x) f.length/\bC W G h f c
 | .slots k c=>∃o e,da=some e/\h.get? a=some o/\W.kind k o/\o.dict=some e/\(∃q,h.get? e=some q)/\o.isFreed=false/\∀(i:Nat) (d:D),c.lookup i=some d->∃v,(o.slots[i]?).join=some v/\Rep W G h v d
 | .iter l j=>∃it b,da=some it/\G.g l=some b/\h.get? a=some (lW it)/\h.IsListIter it b j
 | .i0 b=>h.get? a=some (i3 W.led b)
 | .ia k=>da=none/\∃o,h.get? a=some o/\W.kind k o/\o.dict=none
 | .h_ m=>Rep W G h (.ref a) (.dict m)
structure Cells(W:Wd)(G:Gh)(h:aN)(σ:MH):Prop where
 at_:∀i c,σ.cell i=some c->(c.qd=false->G.c0 i)/\∃a,G.g i=some a/\cg W G h a (G.d i) c
 free:∀i,σ.next<=i->G.g i=none/\G.d i=none/\G.c0 i
end
section
theorem vX{x y:String}(h:au x=au y):x=y:=by
 rw [x8,x8] at h
 injection h with h
 have c:x.toList.map BW=y.toList.map BW:=by simpa using h
 have d:∀a b:Char,a.toNat=b.toNat->a=b:=λa b e=>Char.ext (UInt32.toNat_inj.mp e)
 exact String.toList_inj.mp (List.map_inj_right (λa b e=>d a b e)|>.mp c)
theorem qA(x:String):fJ (au x)=true:=by
 refine aa (x8 ..) ?_
 delta fJ
 refine aa (.symm (I1 ..)) ?_
 show(x.toList.map BW).all _=true
 refine aa (ry ..) ?_
 refine List.all_eq_true.mpr λc a=>?_
 have b:c.val.toNat<1114112:=by
  have h:=c.valid
  simp only [UInt32.isValidChar,Nat.isValidChar] at h
  lia
 simpa using b
theorem zU(x:String):(au x).length=x.length:=by
 refine aa (x8 ..) ?_;simp [Str.length,← String.length_toList]
abbrev aF:af->ai->Prop:=λa a=>False
abbrev bf:aq->Prop:=λa=>False
structure SI where
 sc:cR
 ro:List aj
 fz:List aj:=[]
 here:Option (af×aj):=none
noncomputable abbrev SI.fn (fd:gc):SI:={sc:=fd.scope,ro:=[],here:=some (fd.code,fd.qualname++ ".<locals>.")}
noncomputable def SI.kind (si:SI) (x:String):Option gY:=si.sc.names.lookup (au x)
structure Wd.Ok(W:Wd):Prop where
 gn:W.K.In W.base
 g:W.base.Ns kW W.mg
 b:W.base.Ns j4 W.mb
 nolimit:W.base.NoLimit
 nodigits:∃mc,W.base.Ns DP mc/\mc "sys.int_max_str_digits" =none
def BZ(G:Gh)(h:aN)(M:aq->Prop)(a:aq)(e:bg):Prop:=e.scope.kind≠ .module/\∃L,e.frame=some L/\G.fr L/\G.ou L/\(L=a∨(¬M L/\∃o,h.get? L=some o/\∀b,o.data≠ .fields b))
def Fo(A:aO)(G:Gh)(h:aN):Prop:=∃fs,A.frames=some fs/\∀e∈fs,e.scope.kind≠ .module/\∃L,e.frame=some L/\G.fr L/\G.ou L/\∃o,h.get? L=some o/\∀a,o.data≠ .fields a
structure aT(W:Wd)(A:aO)(G:Gh)(h:aN)(si:SI)(env:bg)(M:aq->Prop)(ρ:aC):Prop where
 sc:env.scope=si.sc
 fn:si.sc.kind=.function
 gl:env.globals=kW
 bl:env.builtins=j4
 dg:∀a,M a->G.fr a
 jf:M env.locals
 ns:∃m,h.Ns env.locals m/\∀x d,ρ x=some d->si.kind x=some .local->∃v,m (au x)=some v/\Rep W G h v d
 cells:∀n c,env.cells.lookup n=some c->¬G.own c/\c≠W.tab/\∃v,h.IsCell c v
 apart:env.cells.Pairwise λx y=>x.2≠y.2
 cell:∀x d,ρ x=some d->(si.kind x=some .cell∨si.kind x=some .free)->∃c v,env.cells.lookup (au x)=some c/\h.IsCell c (some v)/\Rep W G h v d
 kN:∀x,si.kind x=some .cell->au x∉si.ro->∃c,env.cells.lookup (au x)=some c/\M c
 has:∀x:aj,(si.sc.names.lookup x=some .cell∨si.sc.names.lookup x=some .free)->∃c,env.cells.lookup x=some c
 fz:∀x∈si.fz,∀c,env.cells.lookup x=some c->¬G.fr c
 here:∀p,si.here=some p->env.code=p.1/\env.qual=p.2/\env.frame=some env.locals/\∃fs,A.frames=some (env::fs)
 fo:∃fs,A.frames=some fs/\∀e∈fs,BZ G h M env.locals e
structure St(W:Wd)(G:Gh)(s:ai)(σ:MH):Prop where
 inv:Inv W G s
 cells:Cells W G s.heap σ
def br(n:Nat)(A:aO):Prop:=A.depth+4*n<=900/\A.units+30*n<=9000/\A.guards=some []/\A.handled=none
theorem br.le{n m A}(r:br n A)(h:m<=n):br m A:=⟨by have:=r.1;lia,by have:=r.2.1;lia,r.2.2⟩
theorem br.units{n A}(r:br n A):A.units+100<ox:=by have:=r.2.1;refine aa (show ox=9900 from rfl) ?_;lia
theorem br.depth{n A}(r:br n A):A.depth<UI:=by have:=r.1;refine aa (show UI=1000 from rfl) ?_;lia
theorem aT.move{W:Wd}{A:aO}{G:Gh}{h:aN}{si:SI}{g:bg}{M:aq->Prop}{ρ:aC}{G':Gh}{h':aN}(F:aT W A G h si g M ρ)(p:∀a,M a->G'.fr a)(Q:∀a,G.fr a->G.ou a->G'.fr a/\G'.ou a)(K:∀v d,Rep W G h v d->Rep W G' h' v d)
 (E:∀a o,h.get? a=some o->¬G.own a->a≠W.tab->(a=g.locals∨G.ou a∨∃x,g.cells.lookup x=some a)->(∃y,h'.get? a=some {o with slots:=y})/\¬G'.own a/\(¬G.fr a->¬G'.fr a)) (H:∀a,G.fr a->¬G.own a/\a≠W.tab):aT W A G' h' si g M ρ:=
 have w:∀{x c v},g.cells.lookup x=some c->h.IsCell c v->h'.IsCell c v/\¬G'.own c/\(¬G.fr c->¬G'.fr c):=λ{x c v} e P=>aw P λo R d=>
  bP (E c o R (F.cells x c e).1 (F.cells x c e).2.1 (.inr (.inr ⟨x,e⟩))) λI C l=>aL I λy q=>
  ⟨⟨_,q,d⟩,C,l⟩
 {sc:=F.sc,
   fn:=F.fn,
   gl:=F.gl,
   bl:=F.bl,
   dg:=p,
   jf:=F.jf,
   ns:=aw F.ns λm J k=>pj J λo T S e r=>
    have n:=H _ (F.dg _ F.jf)
    aA (E _ o e n.1 n.2 (.inl rfl)) λN f=>aL N λy q=>
    ⟨m,⟨_,T,S,q,r⟩,λx d j B=>aw (k x d j B) λv a b=>⟨v,a,K _ _ b⟩⟩,
   cells:=λn c p=>bP (F.cells n c p) λa b s=>aL s λv i=>⟨(w p i).2.1,b,v,(w p i).1⟩,
   apart:=F.apart,
   cell:=λx d j B=>eQ (F.cell x d j B) λc v e i r=>⟨c,v,e,(w e i).1,K _ _ r⟩,
   kN:=F.kN,
   has:=F.has,
   fz:=λx j c z=>bP (F.cells x c z) λf f t=>aL t λv i=>(w z i).2.2 (F.fz x j c z),
   here:=F.here,
   fo:=aw F.fo λfs e k=>
    ⟨fs,e,λx j=>aA (k x j) λq u=>dG u λL C l D U=>
      ⟨q,L,C,(Q L l D).1,(Q L l D).2,U.imp id λ⟨V,o,X,Y⟩=>⟨V,aA (E L o X (H L l).1 (H L l).2 (.inr (.inl D))) λO f=>aL O λy Z=>⟨_,Z,Y⟩⟩⟩⟩}
theorem aT.step{W A G h si c M ρ G' h'}(F:aT W A G h si c M ρ)(S:Step W bf G h G' h')(d:∀a,G.fr a->¬G.own a/\a≠W.tab):aT W A G' h' si c M ρ:=
 F.move (λa x=>by exact aa (S.fr ..)<|F.dg a x) (λa x y=>⟨by exact aa (S.fr ..)<|x,by exact aa (S.ou ..)<|y⟩) (λb b r=>r.step S λb x=>x.elim)
  (λa o e n t b=>⟨S.dat e n (λx=>x) t,λy=>(S.new a y).elim n λz=>absurd (b9 e) (Nat.not_lt.mpr z),λn=>by exact aa (S.fr ..)<|n⟩) d
theorem aT.EV{W A G h si b M ρ G' h'}(F:aT W A G h si b M ρ)(S:Step W M G h G' h'):∃fs,A.frames=some fs/\∀e∈fs,BZ G' h' M b.locals e:=
 aw F.fo λfs e k=>
 ⟨fs,e,λx i=>aA (k x i) λj c=>dG c λL l d f m=>
   ⟨j,L,l,by exact aa (S.fr ..)<|d,by exact aa (S.ou ..)<|f,m.imp id λ⟨g,o,n,p⟩=>⟨g,aL (S.ig L o n d f g) λa q=>⟨_,q,p⟩⟩⟩⟩
theorem aT.ku{W A G h si c M ρ}(F:aT W A G h si c M ρ):Fo A G h:=
 aw F.fo λfs e k=>
 ⟨fs,e,λx g=>aA (k x g) λi b=>dG b λL j l m n=>
   ⟨i,L,j,l,m,n.elim (λq=>aw F.ns λa f a=>BD f λo a a e d a=>⟨o,q▸e,λr p=>nomatch d.symm.trans p⟩) λq=>q.2⟩⟩
theorem Fo.step{W A M G h G' h'}(F:Fo A G h)(S:Step W M G h G' h')(i:∀a,G.fr a->G.ou a->¬M a):Fo A G' h':=
 aw F λfs e k=>
 ⟨fs,e,λx j=>aA (k x j) λl c=>dG c λL m f g d=>aw d λo n p=>
   aL (S.ig L o n f g (i L f g)) λb q=>
   ⟨l,L,m,by exact aa (S.fr ..)<|f,by exact aa (S.ou ..)<|g,_,q,p⟩⟩
theorem Inv.dJ{W G s}(I:Inv W G s):∀a,G.fr a->¬G.own a/\a≠W.tab:=λa x=>⟨λy=>(I.cn a y).2.2.1 x,(I.b0 a x).2.2⟩
theorem aT.go{W G s si a M ρ G' h'}(F:aT W A G s.heap si a M ρ)(I:Inv W G s)(S:Step W bf G s.heap G' h'):aT W A G' h' si a M ρ:=F.step S I.dJ
theorem Rep.go{W G h G' h' v d}(r:Rep W G h v d)(S:Step W bf G h G' h'):Rep W G' h' v d:=r.step S λa x=>x.elim
theorem aQ.go{W G h G' h' v d}(r:aQ W G h v d)(S:Step W bf G h G' h'):aQ W G' h' v d:=r.step S λa x=>x.elim
noncomputable abbrev Wd.M (W:Wd):lB:=bX W.prog W.w
def Out(W:Wd)(G:Gh)(s:ai)(ab:MH)(d:D)(v:af)(a:ai):Prop:=
 ∃G',Step W bf G s.heap G' a.heap/\St W G' a ab/\Rep W G' a.heap v d
def Ev(W:Wd)(n:Nat)(si:SI)(e:ay)(m:ME):Prop:=
 ∀{A a M G s ρ σ r},br n A->St W G s σ->aT W A G s.heap si a M ρ->m ρ σ=some r->ar W.M A (aU e a) (Out W G s r.2 r.1) aF s
def fH(W:Wd)(n:Nat)(t:af->bY af)(f:D->MH->Option (D×MH)):Prop:=
 ∀{A G s σ v d r},br n A->St W G s σ->Rep W G s.heap v d->f d σ=some r->ar W.M A (t v) (Out W G s r.2 r.1) aF s
def bL(W:Wd)(n:Nat)(t:af->af->bY af)(f:D->D->MH->Option (D×MH)):Prop:=
 ∀{A G s σ v u d e r},br n A->St W G s σ->Rep W G s.heap v d->Rep W G s.heap u e->f d e σ=some r->ar W.M A (t v u) (Out W G s r.2 r.1) aF s
theorem Out.elim{W G s ab d v s'}{P:Prop}(h:Out W G s ab d v s')(k:∀G',Step W bf G s.heap G' s'.heap->St W G' s' ab->Rep W G' s'.heap v d->P):P:=bI h λa S st r=>k _ S st r
theorem Out.trans{W G s a ak ab d v s'}(S:Step W bf G s.heap a ak.heap)(h:Out W a ak ab d v s'):Out W G s ab d v s':=h.elim λG' b st r=>⟨G',S.trans b,st,r⟩
theorem iu{W:Wd}{A G s σ d}{t:bY af}{Q:af->ai->Prop}(h:ar W.M A t (Out W G s σ d) aF s)(k:∀v b G',Step W bf G s.heap G' b.heap->St W G' b σ->Rep W G' b.heap v d->Q v b):ar W.M A t Q aF s:=
 bD h λa a o=>o.elim λG' S st r=>k _ _ G' S st r
theorem gG{W:Wd}{A G s b ak ab d}{t:bY af}(S:Step W bf G s.heap b ak.heap)(h:ar W.M A t (Out W b ak ab d) aF ak):ar W.M A t (Out W G s ab d) aF ak:=
 bD h λa a x=>x.trans S
theorem Inv.tok{W G s t}(I:Inv W G s):Inv W G {s with toks:=t}:=⟨I.keep,I.size,I.gens,I.os,I.cn,I.b0,I.gR,I.g7,I.gd,I.tab,I.eO,I.hJ,I.b8⟩
theorem St.tok{W G s σ t}(I:St W G s σ):St W G {s with toks:=t} σ:=⟨I.inv.tok,I.cells⟩
theorem Out.now{W G s σ d v}(st:St W G s σ)(r:Rep W G s.heap v d):Out W G s σ d v s:=⟨G,.refl,st,r⟩
theorem Out.tok{W G s σ d v t}(st:St W G s σ)(r:Rep W G s.heap v d):Out W G s σ d v {s with toks:=t}:=⟨G,.refl,st.tok,r⟩
theorem Step.push{W G}{s:ai}(o:bu):Step W bf G s.heap G (s.heap.push o):=
 .all (λa a e=>e) (λa a e=>e) rfl (λa x=>x) (λa x=>.inl x) (λa a e a=>bH _ e) (by exact aa (c9 ..)<|Nat.le_succ _)
theorem Gp{h:aN}{a:aq}(o:bu)(x:a<h.objs.size):a<(h.push o).objs.size:=by exact aa (c9 ..)<|Nat.lt_succ_of_lt x
theorem Inv.push{W G s}(I:Inv W G s)(o:bu):Inv W G {s with heap:=s.heap.push o} where
 keep b x e:=bH _ (I.keep b x e)
 size:=by show _<=(s.heap.push o).objs.size;refine aa (c9 ..) ?_;have:=I.size;lia
 gens:=I.gens
 os:=I.os
 cn a x:=⟨(I.cn a x).1,Gp _ (I.cn a x).2.1,(I.cn a x).2.2⟩
 b0 a x:=⟨(I.b0 a x).1,Gp _ (I.b0 a x).2.1,(I.b0 a x).2.2⟩
 gR:=I.gR
 g7:=I.g7
 gd:=I.gd
 tab:=I.tab.keep (λa d e f=>⟨f,bH _ e⟩) λc e=>bH _ e
 eO:=I.eO
 hJ:=I.hJ
 b8:=I.b8
theorem cg.oZ{W G h a s c G' h'}(x:cg W G h a s c)(S:cH W G h G' h')
 (f:c.qd=false->∀o,h.get? a=some o->h'.get? a=some o) (y:c.qd=false->∀b o,s=some b->h.get? b=some o->h'.get? b=some o):cg W G' h' a s c:=by
 induction c with
 | h_ z=>exact Rep.keep S x
 | list xs=>exact fE (dX λo=>dX λL=>dX λn=>nJ (f rfl o) (fE (fE (fE (aQ.keep S))))) x
 | dict z=>exact fE (fE (dX λr=>nJ (λe=>e.at (f rfl)) (bC.keep S))) x
 | set xs=>exact dX (λo=>dX λE=>dX λn=>dX λt=>eH (f rfl o)) x
 | inst k m=>exact dX (λo=>dX λu=>dX λr ⟨p,q,A,B,⟨F,E,H,w,C⟩,r4⟩=>⟨p,f rfl _ q,A,B,⟨F,E,H,y rfl _ _ p w,C⟩,r4.keep S⟩) x
 | slots k m=>exact dX (λo=>dX λu ⟨p,q,A,B,w,C,r4⟩=>⟨p,f rfl _ q,A,B,w.imp λF=>y rfl _ _ p,C,λi d K=>(r4 i d K).imp λv=>fE (Rep.keep S)⟩) x
 | i0 b=>exact f rfl _ x
 | ia k=>exact fE (dX λo=>eH (f rfl o)) x
 | iter l j=>exact dX (λit=>dX λb ⟨D,e,q,o,I,J⟩=>⟨D,S.g _ _ e,f rfl _ q,o,y rfl _ _ D I,J⟩) x
theorem cg.keep{W G h a da c G' h'}(x:cg W G h a da c)(S:cH W G h G' h')
 (e:∀o,h.get? a=some o->h'.get? a=some o) (f:∀b o,da=some b->h.get? b=some o->h'.get? b=some o):cg W G' h' a da c:=x.oZ S (λd=>e) λd=>f
theorem cg.step{W G h a d c M G' h'}(x:cg W G h a d c)(S:Step W M G h G' h')(e:∀a,M a->G.fr a)
 (f:∀o,h.get? a=some o->h'.get? a=some o) (g:∀b o,d=some b->h.get? b=some o->h'.get? b=some o):cg W G' h' a d c:=x.keep (S.ea e) f g
theorem Cells.push{W G}{s:ai}{σ}(C:Cells W G s.heap σ)(o:bu):Cells W G (s.heap.push o) σ:=
 ⟨λi c e=>aA (C.at_ i c e) λl d=>aw d λa x y=>⟨l,a,x,y.step (Step.push (s:=s) o) (λb x=>x.elim) (λb e=>bH _ e) (λb b b e=>bH _ e)⟩,C.free⟩
theorem St.push{W G s σ}(st:St W G s σ)(o:bu):St W G {s with heap:=s.heap.push o} σ:=⟨st.inv.push o,st.cells.push o⟩
theorem St.bq{W G s σ}(st:St W G s σ):bJ W G s.heap.objs.size:=by
 refine⟨λx=>?_,λx=>?_,λe=>?_⟩
 .exact fV _ (st.inv.cn _ x).2.1
 .exact fV _ (st.inv.b0 _ x).2.1
 .exact fV _ (a9 (e▸st.inv.eO) st.inv.size)
theorem SP{W:Wd}{A G s σ b a}(st:St W G s σ)(r:aQ W G s.heap b a)(c:a.length<=aP):ar W.M A (Ap b) (Out W G s σ (.list a)) aF s:=by
 refine iS (?_:Out W G s σ _ _ _) (by show b.toArray.size<=gF;exact aa (rH ..)<|aa (r.length ..)<|Nat.le_trans c f9)
 exact⟨G,.push _,st.push _,.list (n:=0) c st.bq (c5 _ rfl) rfl rfl rfl (by simpa using r.go (Step.push (s:=s) _))⟩
theorem SQ{W:Wd}{A G s σ b a}(st:St W G s σ)(r:aQ W G s.heap b a)(c:a.length<=aP):ar W.M A (m6 b) (Out W G s σ (.tup a)) aF s:=by
 refine iS (?_:Out W G s σ _ _ _) (by show b.toArray.size<=gF;exact aa (rH ..)<|aa (r.length ..)<|Nat.le_trans c f9)
 exact⟨G,.push _,st.push _,.tup c st.bq (c5 _ rfl) rfl ⟨rfl,rfl⟩ rfl (by simpa using r.go (Step.push (s:=s) _))⟩
namespace ME
noncomputable def zq (d:D):ME:=λa σ=>some (d,σ)
end ME
section
variable {W:Wd} {n:Nat} {si:SI}
theorem Ev.int{i k b}:Ev W n si (.Constant (.int i) k b) (.int i):=λa st a e=>sj e (wpAny_Constant_int (.tok st (.int _ _)))
theorem Ev.str{x k b}(hl:x.length<=1000):Ev W n si (.Constant (.str (au x)) k b) (.str x):=λa st a e=>
 sj e (Constant_str (.tok st (.str _ _ (qA _) (by exact aa (zU ..)<|Nat.le_trans hl (by decide)))))
theorem Ev.bool{b k c}:Ev W n si (.Constant (.bool b) k c) (.bool b):=λa st a e=>sj e (aD (.now st (.bool _)))
theorem Ev.S_{k b}:Ev W n si (.Constant .none k b) .none_:=λa st a e=>sj e (aD (.now st .none))
theorem F2{A b M G s ρ σ d}{x:String}(st:St W G s σ)(F:aT W A G s.heap si b M ρ)(h:ρ x=some d)
 (a:(si.kind x==some .local|| si.kind x==some .cell|| si.kind x==some .free)=true) (j:(au x==("__classdict__" :aj))=false):
 ar W.M A (loadName b (au x)) (Out W G s σ d) aF s:=by
 have g:b.kindOf (au x)=si.kind x:=by delta tW SI.kind;exact aa (F.sc ..) rfl
 have f:b.scope.kind=.function:=by exact aa (F.sc ..)<|F.fn
 simp only [nK,beq_iff_eq] at a
 rcases a with (a| a)| a
 .refine aw F.ns λm l k=>?_
  refine aw (k x d h a) λv n r=>?_
  exact wpAny_loadName_local f (g.trans a) l n (.now st r)
 .refine eQ (F.cell x d h (.inl a)) λc v e i r=>?_
  exact wpAny_loadName_cell f (g.trans a) e i (.now st r)
 .refine eQ (F.cell x d h (.inr a)) λc v e i r=>?_
  exact wpAny_loadName_free f (g.trans a) e i (.now st r) j
theorem Rh{A a M G s ρ σ}{x:String}{v:af}{Q:af->ai->Prop}(d:W.Ok)(st:St W G s σ)(F:aT W A G s.heap si a M ρ)
 (c:W.mg (au x)=some v∨(W.mg (au x)=Option.none/\W.mb (au x)=some v)) (h:Q v s):ar W.M A (loadGlobal a (au x)) Q aF s:=by
 have g:s.heap.Ns a.globals W.mg:=by exact aa (F.gl ..)<|d.g.keeps st.inv.keep
 have b:s.heap.Ns a.builtins W.mb:=by exact aa (F.bl ..)<|d.b.keeps st.inv.keep
 rcases c with c| ⟨h1,h2⟩
 .exact loadGlobal_global g c h
 .exact loadGlobal_builtin g h1 b h2 h
theorem g8{A a M G s ρ σ}{x:String}{b:bc}{v:af}{Q:af->ai->Prop}(e:W.Ok)(st:St W G s σ)(F:aT W A G s.heap si a M ρ)(c:si.kind x=some .globalImplicit)
 (hb:(au x==("__debug__" :aj))=false)
 (d:W.mg (au x)=some v∨(W.mg (au x)=Option.none/\W.mb (au x)=some v)) (h:Q v s):ar W.M A (aU (.Name (au x) b) a) Q aF s:=
 Name_function_global (by exact aa (F.sc ..)<|F.fn) (by delta tW;exact aa (F.sc ..)<|c) (Rh e st F d h) hb
end
end
section
section
variable {W:Wd} {n:Nat} {si:SI}
theorem bR{A c M G s ρ σ r}{e:ay}{m:ME}{t:af->ai->Prop}(g:Ev W n si e m)(i:br n A)(st:St W G s σ)(F:aT W A G s.heap si c M ρ)(f:m ρ σ=some r)
 (K:∀{b ak v},Step W bf G s.heap b ak.heap->St W b ak r.2->aT W A b ak.heap si c M ρ->Rep W b ak.heap v r.1->t v ak):
 ar W.M A (aU e c) t aF s:=
 iu (g i st F f) λa a a S d h=>K S d (F.go st.inv S) h
theorem r8{A b M G s ρ σ p q}{e f:ay}{m o:ME}{t:af->af->ai->Prop}(y:Ev W n si e m)(z:Ev W n si f o)(r:br n A)(st:St W G s σ)(F:aT W A G s.heap si b M ρ)
 (w:m ρ σ=some p) (x:o ρ p.2=some q)
 (K:∀{a ak v u},Step W bf G s.heap a ak.heap->St W a ak q.2->aT W A a ak.heap si b M ρ->Rep W a ak.heap v p.1->Rep W a ak.heap u q.1->t v u ak):
 ar W.M A (aU e b) (λv ak=>ar W.M A (aU f b) (t v) aF ak) aF s:=
 bR y r st F w λj d h k=>bR z r d h x λc g i l=>K (j.trans c) g i (k.go c) l
theorem Ev.binop{l op r b d g f}(k:bL W n (kL op) f)(hl:Ev W n si l d)(m:Ev W n si r g):Ev W n si (.BinOp l op r b) (.bh f d g):=λh st F e=>
 ob e λa i e=>ob e λa j e=>wpAny_BinOp (r8 hl m h st F i j λS c a o p=>gG S (k h c o p e))
theorem Ev.yX{l op r b d g f}(k:bL W n (iJ op) f)(hl:Ev W n si l d)(o:Ev W n si r g)(m:yn op r=false):Ev W n si (.Compare l [op] [r] b) (.bh f d g):=λh st F e=>
 ob e λa i e=>ob e λa j e=>wpAny_Compare1 (r8 hl o h st F i j λS c a p q=>gG S (k h c p q e)) m
theorem bL.pure{t:af->af->bY af}{f:D->D->MH->Option D}(h:∀{A G s σ v u d e r},br n A->St W G s σ->Rep W G s.heap v d->Rep W G s.heap u e->f d e σ=some r->ar W.M A (t v u) (Out W G s σ r) aF s):
 bL W n t (cm f):=λi st c g e=>ob e λa b e=>sj e (h i st c g b)
theorem fH.pure{t:af->bY af}{f:D->MH->Option D}(h:∀{A G s σ v d r},br n A->St W G s σ->Rep W G s.heap v d->f d σ=some r->ar W.M A (t v) (Out W G s σ r) aF s):
 fH W n t (gD f):=λg st c e=>ob e λa b e=>sj e (h g st c b)
theorem Out.int{G s σ i}(st:St W G s σ):Out W G s σ (.int i) (.int i s.toks) {s with toks:=s.toks+1}:=.tok st (.int _ _)
theorem Cell.qj{c xs}(h:Cell.ij c=some xs):c=.list xs:=by induction c<;>first| exact aY h| exact congrArg _ (aM h)
theorem St.yE{G s σ v d i c}{motive:af->D->Prop}(st:St W G s σ)(r:Rep W G s.heap v d)(h:d.fP=some i)(j:σ.cell i=some c)(k:∀a,G.g i=some a->(c.qd=false->G.c0 i)->cg W G s.heap a (G.d i) c->motive (.ref a) (.ref i)):motive v d:=by
 refine r.HC h λa f=>?_
 refine aA (st.cells.at_ _ _ j) λl e=>?_;refine aw e λb hb x=>?_
 rw [f] at hb
 exact k a f l (aM hb▸x)
@[elab_as_elim] theorem oh{G s σ v d xs}{motive:af->Prop}(st:St W G s σ)(r:Rep W G s.heap v d)(h:bU σ d=some xs)
   (k:∀{a o vs n},s.heap.get? a=some o->o.cls=.type "list" ->o.dict=none->o.data=.seq vs n->aQ W G s.heap vs.toList xs->xs.length<=aP->motive (.ref a)):motive v:=by
  unfold bU at h
  split at h
  .rename_i hl
   obtain rfl:=aM h
   exact r.listE (motive:=λv _=>motive v) hl λz _ e c dd f g=>k e c dd f g z
  .exact ob h λi l h=>ob h λc j h=>st.yE (motive:=λv _=>motive v) r l j λa _ _ x=>by
    obtain rfl:=Cell.qj h
    refine aA x λz b=>?_;refine jU b λo vs n e c dd f g=>?_
    exact k e c dd.1 f g z
@[elab_as_elim] theorem fL{G s σ v d xs}{motive:af->Prop}(st:St W G s σ)(r:Rep W G s.heap v d)(h:bU σ d=some xs)(k:∀{a f},s.heap.IsList a f->aQ W G s.heap f.toList xs->xs.length<=aP->motive (.ref a)):motive v:=
  oh st r h λe c b g i z=>k ⟨_,e,c,_,g⟩ i z
theorem eX{G h}{a:Array af}{xs:List D}(r:aQ W G h a.toList xs):a.size=xs.length:=Array.length_toList.symm.trans r.length
theorem size_le{G h}{a:Array af}{xs:List D}(r:aQ W G h a.toList xs)(z:xs.length<=aP):a.size<=gF:=by exact aa (eX r ..)<|Nat.le_trans z f9
theorem Ij{x y:aj}(h:fJ x=true)(k:fJ y=true):fJ (x++y)=true:=by
 unfold fJ at*
 show((x.cps++y.cps).all _)=true
 exact aa (Array.all_append ..)<|aa (h ..)<|aa (k ..) rfl
theorem L7{A G s σ a b f g xs h}(st:St W G s σ)(q:s.heap.IsList a f)(r:s.heap.IsList b g)(m:aQ W G s.heap f.toList xs)(o:aQ W G s.heap g.toList h)(l:xs.length+h.length<=aP):
 ar W.M A (kL .Add (.ref a) (.ref b)) (Out W G s σ (.list (xs++h))) aF s:=by
 obtain⟨⟨p,dd,j,u⟩,k,rfl,n,rfl⟩:=id q
 obtain⟨⟨i,d,data2,e⟩,c,rfl,t,rfl⟩:=id r
 refine N8 ⟨_,k,rfl⟩ ⟨_,c,rfl⟩ S7 U0 LA Ly (Lv _ _) (list_addW a b f g n t dd d u e (by exact aa (eX m ..)<|aa (eX o ..)<|Nat.le_trans l f9)) ⟨k,c,?_⟩
 exact⟨G,.push _,st.push _,.list (n:=0) (by exact aa (bF ..)<|l) st.bq (c5 _ rfl) rfl rfl rfl (by exact aa (wV ..)<|(m.append o).go (Step.push (s:=s) _))⟩
theorem Op.add:bL W n (kL .Add) (cm pX):=bL.pure λp st d f e=>by
 unfold pX at e
 split at e
 .rename_i b
  exact ob e λy c e=>sj e (d.gB b λ_=>f.gB c λ_=>add_int (.int st))
 .split at e
  .rename_i b
   exact ob e λy c e=>og e λa e=>sj e (d.c8 b λ_ i _=>f.c8 c λ_ j _=>
    XP (λq r=>.tok st (.str _ _ (Ij i j) (by exact aa (LO ..)<|a))) (aE a f9))
  .exact ob e λxs g e=>ob e λs h e=>og e λa e=>sj e (fL st d g λk m _=>fL st f h λl o _=>L7 st k l m o a)
theorem bL.ints{t:af->af->bY af}{f:Int->Int->Option D}(h:∀{A G s σ x y r i j},St W G s σ->f x y=some r->ar W.M A (t (.int x i) (.int y j)) (Out W G s σ r) aF s):bL W n t (cm (intD f)):=
 bL.pure λk st d g e=>ob e λx b e=>ob e λy c e=>d.gB b λa=>g.gB c λa=>h st e
theorem Op.sub:bL W n (kL .Sub) (cm Be):=bL.ints λst e=>sj e (sub_int (.int st))
theorem Op.mod:bL W n (kL .Mod) (cm Aj):=bL.ints λst e=>og e λa e=>sj e (mod_int' (rj a) (by
 exact aa (Int.fmod_eq_emod_of_nonneg _ (J9 a) ..)<| .int st))
theorem SG{x y:Int}(h:x.natAbs<1000000):IntMulOk x y:=by
 refine XM ?_
 unfold Xk
 by_cases a:x=0
 .refine aa (if_pos (by simpa using a)) ?_;omega
 .refine aa (if_neg (by simpa using a)) ?_
  have:x.natAbs.log2<20:=(Nat.log2_lt (by omega)).mpr (by omega)
  omega
theorem Op.mul:bL W n (kL .Mult) (cm GV):=bL.ints λst e=>og e λa e=>sj e (mul_int (.int st) (SG a.1))
theorem Op.fdiv:bL W n (kL .FloorDiv) (cm EM):=bL.ints λst e=>og e λa e=>sj e (floordiv_int (rj a.1) (by
 exact aa (Int.fdiv_eq_ediv_of_nonneg _ (J9 a.1) ..)<| .int st) (.inl (Lu (by omega))))
end
end
section
section
variable {W:Wd} {n:Nat} {si:SI}
structure CQ(h:aN)(v:af)(p:fX)(k:Nat):Prop where
 rd:∃as,Reads h v p as
 lay:p.canLay0=true
 dep:p.depth<=k
structure x3(h:aN)(vs:List af)(ps:List fX)(k:Nat):Prop where
 rd:∃as,ReadsAll h vs ps as
 lay:Lm ps=true
 dep:PyData.depthAll ps<=k
theorem Hv{G h k}{f:D->Option fX}(H:∀{v d p},Rep W G h v d->f d=some p->CQ h v p k){i g ps}(r:aQ W G h i g):hB f g=some ps->x3 h i ps k:=
 r.ind (motive:=λi g=>∀ps,hB f g=some ps->x3 h i ps k) (λc e=>sj e ⟨⟨[],.nil⟩,rfl,fW _⟩)
  (λr c o c e=>ob e λp n e=>ob e λps j e=>sj e (
    have a:=H r n;have b:=o _ j
    ⟨aL a.rd λc l=>aL b.rd λc m=>⟨_,.cons l m⟩,by unfold Lm;exact aa (a.lay ..)<|aa (b.lay ..) rfl,Nat.max_le.mpr ⟨a.dep,b.dep⟩⟩)) ps
theorem pb{G s σ}(st:St W G s σ)(k:Nat):∀{v d p},Rep W G s.heap v d->cX σ k d=some p->CQ s.heap v p k:=by
 induction k with
 | zero=>exact λr e=>aY e
 | succ k w=>
  intro v d p r e
  have H:∀{q o ps},aQ W G s.heap q o->hB (cX σ k) o=some ps->x3 s.heap q ps k:=λr e=>Hv w r e
  have e:(match bU σ d with| some xs=>(hB (cX σ k) xs).bind λps=>some (Lp ps)| none=>_)=some p:=e
  induction m:bU σ d with
  | some xs=>
   rw [m] at e
   exact ob e λps l e=>sj e (oh st r m λe c g j n g=>(
    have a:=H n l
    ⟨aL a.rd λg h=>⟨_,.list e c j h⟩,a.lay,jZ a.dep⟩))
  | none=>
   rw [m] at e
   cases r with
   | none=>exact sj e ⟨⟨_,.none⟩,rfl,fW _⟩
   | bool b=>exact sj e ⟨⟨_,.bool _⟩,rfl,fW _⟩
   | int i t=>exact sj e ⟨⟨_,.int _ _⟩,rfl,fW _⟩
   | str x t a b=>exact sj e ⟨⟨_,.str _ _⟩,a,fW _⟩
   | tup z f u c dd j n=>
    exact ob e λps l e=>sj e (
     have a:=H n l
     ⟨aL a.rd λg h=>⟨_,.tuple u c j h⟩,a.lay,jZ a.dep⟩)
   | _=>exact aY e
theorem Op.eq:bL W n (iJ .Eq) (cm uQ):=bL.pure λl st j k e=>ob e λb hb e=>sj e (ob hb λp h hb=>ob hb λq i hb=>sj hb (
 have a:=pb st 6 j h;have c:=pb st 6 k i
 aL a.rd λd f=>aL c.rd λd g=>
 XR f g a.lay c.lay (by have:=l.units;have:=a.dep;have:=c.dep;lia) (.now st (.bool _))))
theorem Op.ne:bL W n (iJ .NotEq) (cm sO):=bL.pure λl st j k e=>ob e λb hb e=>sj e (ob hb λp h hb=>ob hb λq i hb=>sj hb (
 have a:=pb st 6 j h;have c:=pb st 6 k i
 aL a.rd λd f=>aL c.rd λd g=>
 XS f g a.lay c.lay (by have:=l.units;have:=a.dep;have:=c.dep;lia) (.now st (.bool _))))
theorem Op.lt:bL W n (iJ .Lt) (cm Gn):=bL.ints λst e=>sj e (lt_int (.now st (.bool _)))
theorem Op.gt:bL W n (iJ .Gt) (cm Fb):=bL.ints λst e=>sj e (gt_int (.now st (.bool _)))
theorem AX{G h v d}(r:Rep W G h v d):(v==Value.none)=jb d:=by cases r<;>rfl
theorem AY{G h v d}(r:Rep W G h v d)(h:jb d=true):v=.none:=eq_of_beq ((AX r).trans h)
theorem Op.is:bL W n (iJ .Is) (cm FH):=bL.pure λc st a b e=>og e λhb e=>sj e (by
 exact aa (AY b hb ..)<|is_none_gen (by exact aa (AX a ..)<| .now st (.bool _)))
theorem Op.kg:bL W n (iJ .IsNot) (cm G1):=bL.pure λc st a b e=>og e λhb e=>sj e (by
 exact aa (AY b hb ..)<|isnot_none_gen (by exact aa (AX a ..)<| .now st (.bool _)))
@[elab_as_elim] theorem um{G s σ v d f}{motive:af->Prop}(st:St W G s σ)(r:Rep W G s.heap v d)(h:j1 σ d=some f)
   (k:∀{a b},a≠iR->s.heap.DictOf (strKind W.prog W.w) a b->bC W G s.heap b f->f.length<=aP->motive (.ref a)):motive v:=by
  unfold j1 at h
  split at h
  .rename_i hl
   obtain rfl:=aM h
   exact r.y8 (motive:=λv _=>motive v) hl λz _ ns e j=>k ns e j z
  .exact ob h λi n h=>ob h λc m h=>st.yE (motive:=λv _=>motive v) r n m λa _ _ x=>by
    induction c with
    | dict g=>obtain rfl:=aM h;refine bP x λz ns l=>?_;refine aw l λb e j=>?_;exact k ns e j z
    | h_ g=>obtain rfl:=aM h;exact Rep.y8 (motive:=λv _=>motive v) x rfl λz _ ns e j=>k ns e j z
    | _=>exact aY h
inductive kB (W:Wd) (G:Gh) (h:aN):Option af->Option D->Prop
 | none:kB W G h none none
 | some {v d}:Rep W G h v d->kB W G h (some v) (some d)
theorem kB.isSome{G h a b}(x:kB W G h a b):a.isSome=b.isSome:=by induction x<;>rfl
theorem kB.someE{G h a b d}{P:Prop}(x:kB W G h a b)(e:b=.some d)(k:∀v,a=.some v->Rep W G h v d->P):P:=by
 induction x with
 | none=>exact aY e
 | some r=>exact k _ rfl (aM e▸r)
theorem bC.valueAt{G h b c}(r:bC W G h b c)(k:aj):kB W G h (mz b k) (c.lookup k):=
 r.ind (motive:=λb c=>kB W G h (mz b k) (c.lookup k)) .none λ{e v d g j} a a r a i=>by
  by_cases f:e=k
  .subst f
   refine aa (Cp ..) ?_
   have:mz ((e,v)::g) e=Option.some v:=by simp [mz]
   exact aa (this ..)<| .some r
  .have hb:(k==e)=false:=beq_eq_false_iff_ne.mpr (Ne.symm f)
   refine aa (dI ..)<|aa (hb ..) ?_
   have:mz ((e,v)::g) k=mz g k:=by simp [mz,f]
   exact aa (this ..)<|i
theorem bC.length{G h b c}(r:bC W G h b c):b.length=c.length:=r.ind rfl λa a a a e=>congrArg (· +1) e
theorem jI(k:aj)(t:de):(strKind W.prog W.w).is k (.str k t)=true:=beq_self_eq_true k
theorem o6{a:aq}(h:a≠iR):(a==iR)=false:=beq_eq_false_iff_ne.mpr h
theorem zM{G h a b}(r:bC W G h a b)(k:aj):(mz a k).isSome=(b.lookup k).isSome:=(r.valueAt k).isSome
def J5(W:Wd)(A:aO)(G:Gh)(s:ai)(σ:MH)(v u:af)(b:Bool):Prop:=
 ar W.M A (iJ .In v u) (Out W G s σ (.bool b)) aF s/\ar W.M A (iJ .NotIn v u) (Out W G s σ (.bool (!b))) aF s
theorem FE{A G s σ x c v u b}(C:br n A)(st:St W G s σ)(g:Rep W G s.heap v x)(f:Rep W G s.heap u c)(h:mT σ x c=some b):J5 W A G s σ v u b:=by
 unfold mT at h
 split at h
 .rename_i t
  exact ob h λu q h=>sj h (g.c8 q λ_ _ _=>f.c8 t λ_ _ _=>⟨in_str (.now st (.bool _)),notIn_str (.now st (.bool _))⟩)
 .split at h
  .rename_i xs e
   refine ob h λp z h=>ob h λps d h=>sj h ?_
   have a:=pb st 6 g z
   refine oh st f e λl m _ o D _=>?_
   have b:=Hv (pb st 6) D d
   have q:=C.units;have:=a.dep;have:=b.dep
   refine aL a.rd λ_ i=>?_
   refine aL b.rd λ_ j=>?_
   exact⟨XT (.list l m o j) i b.lay a.lay (by lia) (.now st (.bool _)),XU (.list l m o j) i b.lay a.lay (by lia) (.now st (.bool _))⟩
  .exact ob h λB w h=>ob h λk y h=>sj h (um st f w λns hD r _=>g.c8 y λ_ _ _=>
    ⟨wpAny_in_of (jI _ _) (o6 ns) hD.mapOf (by exact aa (zM r ..)<| .tok st (.bool _)),
      wpAny_notIn_of (jI _ _) (o6 ns) hD.mapOf (by exact aa (zM r ..)<| .tok st (.bool _))⟩)
theorem Op.jH:bL W n (iJ .In) (cm inD):=bL.pure λd st a c e=>ob e λb hb e=>sj e (FE d st a c hb).1
theorem Op.jg:bL W n (iJ .NotIn) (cm Au):=bL.pure λd st a c e=>ob e λb hb e=>sj e (FE d st a c hb).2
end
end
section
namespace MB
end MB
section
variable {W:Wd} {n:Nat} {si:SI}
def iY(W:Wd)(G:Gh)(s:ai)(ab:MH)(b:Bool)(c:Bool)(a:ai):Prop:=
 c=b/\∃G',Step W bf G s.heap G' a.heap/\St W G' a ab
theorem iY.trans{G s d ak ab b c s'}(S:Step W bf G s.heap d ak.heap)(h:iY W d ak ab b c s'):iY W G s ab b c s':=h.imp_right (dX λa=>eH S.trans)
theorem Bz{A G s c ak ab b}{t:bY Bool}(S:Step W bf G s.heap c ak.heap)(h:ar W.M A t (iY W c ak ab b) aF ak):ar W.M A t (iY W G s ab b) aF ak:=bD h λa a x=>x.trans S
theorem iY.now{G s σ b}(st:St W G s σ):iY W G s σ b b s:=⟨rfl,G,.refl,st⟩
theorem iY.tok{G s σ b t}(st:St W G s σ):iY W G s σ b b {s with toks:=t}:=⟨rfl,G,.refl,st.tok⟩
theorem qQ{A G s σ b}{t:bY Bool}{Q:Bool->ai->Prop}(h:ar W.M A t (iY W G s σ b) aF s)(k:∀a G',Step W bf G s.heap G' a.heap->St W G' a σ->Q b a):ar W.M A t Q aF s:=
 bD h λc a d=>aA d λe f=>aw f λG' S st=>by subst e;exact k a G' S st
theorem u6{G h}{b:Array af}{xs:List D}(r:aQ W G h b.toList xs):b.isEmpty=xs.isEmpty:=by
 exact aa (.symm (Array.isEmpty_toList ..))<|r.ind rfl λa a a=>rfl
theorem nv{n:Nat}(h:n<=aP):(n:Int)<2 ^ 63:=by have:aP=1000000:=rfl;lia
theorem qF{A G s σ v d b}(st:St W G s σ)(r:Rep W G s.heap v d)(h:k9 σ d=some b):ar W.M A (truthy v) (iY W G s σ b) aF s:=by
 unfold k9 at h
 split at h
 .rename_i xs j
  exact sj h (fL st r j λhl a z=>WV hl (by exact aa (eX a ..)<|nv z) (by exact aa (u6 a ..)<| .tok st))
 .cases r with
  | none=>exact sj h (truthy_none (.now st))
  | bool=>exact sj h (IU (.now st))
  | int=>exact sj h (XQ (.now st))
  | str x t k i=>
   refine sj h (P.truthy_str (Int.not_le.mpr (nv i)) ?_)
   have e:((x.length:Int) !=0)= !(x.length==0):=congrArg (!·) (Bool.eq_iff_iff.mpr (by simp))
   exact aa (e ..)<| .tok st
  | tup z f e c dd g a=>exact sj h (truthy_tuple ⟨_,e,c,_,g⟩ (by exact aa (eX a ..)<|nv z) (by exact aa (u6 a ..)<| .tok st))
  | _=>exact aY h
def Eb(W:Wd)(n:Nat)(si:SI)(e:ay)(m:MB):Prop:=
 ∀{A a M G s ρ σ r},br n A->St W G s σ->aT W A G s.heap si a M ρ->m ρ σ=some r->ar W.M A (qf e a (aU e a)) (iY W G s r.2 r.1) aF s
theorem jD{A c M G s ρ σ r}{e:ay}{m:MB}{t:Bool->ai->Prop}(g:Eb W n si e m)(h:br n A)(st:St W G s σ)(F:aT W A G s.heap si c M ρ)(f:m ρ σ=some r)
 (K:∀{b ak},Step W bf G s.heap b ak.heap->St W b ak r.2->aT W A b ak.heap si c M ρ->t r.1 ak):
 ar W.M A (qf e c (aU e c)) t aF s:=
 qQ (g h st F f) λa a S d=>K S d (F.go st.inv S)
theorem Eb.val{e m}(j:Ev W n si e m)(k:∀d c,qf e d c=(do let v ← c;ip e.pos;kf [v] (truthy v))):Eb W n si e (.val m):=λl st F h=>
 ob h λp g h=>ob h λb i h=>sj h (wpAny_isTrue_value (bR j l st F g λS f a r=>Bz S (qF f r i)) (k _ _))
theorem Eb.yX{l op r e j k f}(v:bL W n (iJ op) f)(hl:Ev W n si l j)(x:Ev W n si r k)(w:yn op r=false):Eb W n si (.Compare l [op] [r] e) (.val (.bh f j k)):=λm st F h=>
 ob h λp c h=>ob h λb s h=>sj h (ob c λq t c=>ob c λA u c=>
  WK (r8 hl x m st F t u λS i a y z=>iu (v m i y z c) λa a a o d g=>Bz (S.trans o) (qF d g s)) w)
theorem Eb.not{x c b}(f:Eb W n si x b):Eb W n si (.UnaryOp .Not x c) (.not b):=λg st F h=>
 ob h λp e h=>sj h (wpAny_isTrue_Not (jD f g st F e λS d a=>⟨rfl,_,S,d⟩))
theorem Eb.yh{x y f a b}(l:Eb W n si x a)(m:Eb W n si y b):Eb W n si (.BoolOp .And [x,y] f) (.and a b):=λi st F h=>
 ob h λp k h=>IP (WG (jD l i st F k λS d j=>oc h
  (λe h=>by
    refine aa (if_pos e ..) ?_
    refine WG (jD m i d j h λg c _=>?_)
    split
    .rename_i hb;exact wpAny_allTrue_And_nil ⟨hb.symm,_,S.trans g,c⟩
    .rename_i hb;exact⟨(Bool.eq_false_iff.mpr hb).symm,_,S.trans g,c⟩)
  λe h=>sj h (by exact aa (if_neg (by rw [e];decide))<|⟨rfl,_,S,d⟩)))
theorem Eb.AF{x y f a b}(l:Eb W n si x a)(m:Eb W n si y b):Eb W n si (.BoolOp .Or [x,y] f) (.or a b):=λi st F h=>
 ob h λp k h=>IP (wJ (jD l i st F k λS d j=>oc h
  (λe h=>sj h (by exact aa (if_pos e ..)<|⟨rfl,_,S,d⟩))
  λe h=>by
   refine aa (if_neg (by rw [e];decide)) ?_
   refine wJ (jD m i d j h λg c _=>?_)
   split
   .rename_i hb;exact⟨hb.symm,_,S.trans g,c⟩
   .rename_i hb;exact WH ⟨(Bool.eq_false_iff.mpr hb).symm,_,S.trans g,c⟩))
theorem Eb.or3{x y z l a b c}(t:Eb W n si x a)(u:Eb W n si y b)(v:Eb W n si z c):Eb W n si (.BoolOp .Or [x,y,z] l) (.or a (.or b c)):=λm st F h=>
 ob h λp r h=>IP (wJ (jD t m st F r λS g o=>oc h
  (λe h=>sj h (by exact aa (if_pos e ..)<|⟨rfl,_,S,g⟩))
  λe h=>by
   exact aa (if_neg (by rw [e];decide))<|ob h λq s h=>wJ (jD u m g o s λk d j=>oc h
    (λe h=>sj h (by exact aa (if_pos e ..)<|⟨rfl,_,S.trans k,d⟩))
    λe h=>by
     refine aa (if_neg (by rw [e];decide)) ?_
     refine wJ (jD v m d j h λf i _=>?_)
     split
     .rename_i hb;exact⟨hb.symm,_,(S.trans k).trans f,i⟩
     .rename_i hb;exact WH ⟨(Bool.eq_false_iff.mpr hb).symm,_,(S.trans k).trans f,i⟩)))
theorem Ev.ite{t x y c b g i}(k:Eb W n si t b)(l:Ev W n si x g)(m:Ev W n si y i):Ev W n si (.IfExp t x y c) (.ite b g i):=λd st F h=>
 ob h λp j h=>wpAny_IfExp (jD k d st F j λS a f=>oc h
  (λe h=>by exact aa (if_pos e ..)<|gG S (l d a f h)) λe h=>by exact aa (if_neg (by rw [e];decide))<|gG S (m d a f h))
theorem Ev.not{x g b}(l:Ev W n si x b):Ev W n si (.UnaryOp .Not x g) (.ax (gD GY) b):=λm st F h=>
 ob h λp k h=>ob h λd f h=>sj h (ob f λc f h=>sj h (
  WE (bR l m st F k λS i a r=>gG S (not_value (qQ (qF i r f) λa a j e=>⟨_,j,e,.bool _⟩)))))
theorem Ev.neg{x f b}(j:Ev W n si x b):Ev W n si (.UnaryOp .USub x f) (.ax (gD An) b):=λk st F h=>
 ob h λp i h=>ob h λd e h=>sj h (ob e λc e h=>sj h (WE (bR j k st F i λS g a r=>gG S (r.gB (motive:=λv a=>ar _ _ (unaryOp .USub v) _ _ _) e λa=>neg_int (.int g)))))
theorem Ev.AF{x y g i j}(q:Ev W n si x i)(s:Ev W n si y j):Ev W n si (.BoolOp .Or [x,y] g) (.or i j):=λk st F h=>
 ob h λp m h=>ob h λc o h=>BoolOp_or (bR q k st F m λS d l r=>qQ (qF d r o) λa a f b=>oc h
  (λe h=>sj h (by exact aa (if_pos e ..)<|⟨_,S.trans f,b,r.go f⟩)) λe h=>by
    exact aa (if_neg (by rw [e];decide))<|BoolOp_one (gG (S.trans f) (s k b (l.go d.inv f) h)))
theorem Ev.yh{x y g i j}(q:Ev W n si x i)(s:Ev W n si y j):Ev W n si (.BoolOp .And [x,y] g) (.and i j):=λk st F h=>
 ob h λp m h=>ob h λc o h=>BoolOp_and (bR q k st F m λS d l r=>qQ (qF d r o) λa a f b=>oc h
  (λe h=>by exact aa (if_pos e ..)<|BoolOp_one (gG (S.trans f) (s k b (l.go d.inv f) h))) λe h=>sj h (by
    exact aa (if_neg (by rw [e];decide))<|⟨_,S.trans f,b,r.go f⟩))
end
end
section
section
variable {W:Wd} {n:Nat} {si:SI}
theorem Fy{G h}{b:Array af}{xs:List D}{k:Int}{d:D}{P:Prop}(g:aQ W G h b.toList xs)(z:xs.length<=aP)(e:ef xs k=some d)
 (j:∀{v},0<=k->k<b.size->k<2 ^ 63->b[k.toNat]?=some v->Rep W G h v d->P) (i:∀{v},k<0-> -(b.size:Int)<=k-> -2 ^ 63<=k->b[(k+b.size).toNat]?=some v->Rep W G h v d->P):P:=by
 have hl:=eX g
 have m:=nv z
 rw [hl] at j i
 refine oc e (λa e=>?_) λa e=>og e λl e=>?_
 .have a:=of_decide_eq_true a
  have c:k.toNat<xs.length:=(List.getElem?_eq_some_iff.mp e).1
  refine aw (g.get e) λv f r=>?_
  exact j a ((Kc a).mp c) (B5 ((Kc a).mp c) m) (by exact aa (.symm (jV ..))<|f) r
 .refine aw (g.get e) λv f r=>?_
  exact i (Int.not_le.mp (of_decide_eq_false a)) l (by lia) (by exact aa (.symm (jV ..))<|f) r
def ug(W:Wd)(A:aO)(Q:af->ai->Prop)(E:af->ai->Prop)(s:ai)(v u:af):Prop:=
 ∃T id,gr (.type T) "__getitem__" =pure (some (.builtin id))/\s.TypeIs v T/\ar W.M A (uU v u) Q E s
abbrev J4(W:Wd)(A:aO)(G:Gh)(s:ai)(σ:MH)(d:D)(v u:af):Prop:=ug W A (Out W G s σ d) aF s v u
theorem Qv{A G s σ c i v u d}(st:St W G s σ)(o:Rep W G s.heap v c)(p:Rep W G s.heap u i)(h:mS c i σ=some d):J4 W A G s σ d v u:=by
 unfold mS at h
 split at h
 .rename_i xs n
  refine ob h λk l h=>p.gB l λt=>o.jm n λz f e m dd w q=>?_
  exact Fy q z h (λ{v} a j b g r=>⟨"tuple",_,PySem.F.slot_tuple_getitem.lookup,⟨_,e,m⟩,Pf ⟨_,e,m,_,w⟩ (Int.le_trans (by decide) a) b (by
   unfold wk;simp only [if_neg (Int.not_lt.mpr a)];exact aa (if_pos (by rw [decide_eq_true a,decide_eq_true j];rfl)) rfl) g (.now st r)⟩)
   λ{v} a j b g r=>⟨"tuple",_,PySem.F.slot_tuple_getitem.lookup,⟨_,e,m⟩,Pf ⟨_,e,m,_,w⟩ b (B5 a (by decide)) (by
    unfold wk;simp only [if_pos a];exact aa (if_pos (by rw [decide_eq_true (by lia),decide_eq_true (by lia)];rfl)) rfl) g (.now st r)⟩
 .split at h
  .rename_i xs n
   refine ob h λk l h=>p.gB l λt=>fL st o n λhl q z=>⟨"list",_,slot_list_getitem.lookup,hl.typeIs,?_⟩
   exact Fy q z h (λa j b g r=>wpAny_getItem_list hl a b g (.now st r)) λa j b g r=>wpAny_getItem_list_neg hl a j b g (.now st r)
  .exact ob h λB y h=>ob h λk l h=>p.c8 l λt _ _=>um st o y λns hD C z=>(C.valueAt k).someE h λv x r=>
    ⟨"dict",_,PySem.F.slot_dict_getitem.lookup,hD.typeIs,wpAny_getItem_of (jI _ _) hD.mapOf x (.tok st r)⟩
theorem VK(e:ay)(o i:af):subscripted e false o i=Hd [i,o] (uU o i)∨subscripted e false o i=Hd [o,i] (uU o i):=by
 cases e with
 | Slice a b c d=>cases c with
  | none=>exact .inl rfl
  | some=>exact .inr rfl
 | _=>exact .inr rfl
theorem Bf{A g E s}{c b:ay}{n:bc}{Q:af->ai->Prop}
 (h:ar W.M A (aU c g) (λo ak=>ar W.M A (aU b g) (λi d=>ug W A Q E d o i) E ak) E s):
 ar W.M A (aU (.Subscript c b n) g) Q E s:=by
 refine aa (eval_Subscript ..) ?_
 refine ah (bD h λo ak k=>ah (bz (bD k λi d p=>eQ p λT id hl q t=>ah (cQ (ah ?_)))))
 refine aa (getitemInPython_of_ne q.not_modules ..) ?_
 refine ah (qP q hl (aD (ah ?_)))
 have j:∀m,ar W.M A (Hd m (uU o i)) (λr f=>ar W.M A (letTemporaryGo c o r>>=λa=>pure r) Q E f) E d:=λm=>
  wpAny_operating (bD t λr f l=>ah (tG (aD l)))
 exact(VK b o i).elim (λe=>aa e<|j _) λe=>aa e<|j _
theorem Ev.idx{c b d g h}(hl:Ev W n si c g)(l:Ev W n si b h):Ev W n si (.Subscript c b d) (.bh (cm mS) g h):=λp st F e=>
 ob e λa i e=>ob e λa j e=>ob e λa k e=>sj e (Bf (r8 hl l p st F i j λS f a m o=>
  (Qv f m o k).imp λa=>dX λa=>fE (fE (gG S))))
def nN(W:Wd)(n:Nat)(si:SI):Option ay->Option ME->Prop
 | .none,.none=>True
 | .some e,.some m=>Ev W n si e m
 | _,_=>False
def rk(v:af)(i:Option Int):Prop:=match i with| none=>v=.none| some k=>∃t,v=.int k t
theorem sY{A c M G s ρ σ r}{e:Option ay}{m:Option ME}{t:af->ai->Prop}(d:nN W n si e m)(q:br n A)(st:St W G s σ)(F:aT W A G s.heap si c M ρ)(g:jF m ρ σ=some r)
 (K:∀{b ak v},Step W bf G s.heap b ak.heap->St W b ak r.2->aT W A b ak.heap si c M ρ->rk v r.1->t v ak):
 ar W.M A (evalPart e c) t aF s:=by
 induction e with
 | none=>
  induction m with
  | none=>obtain rfl:=aM g;exact aa (OI ..)<|wpAny_pure (K .refl st F rfl)
  | some m=>exact d.elim
 | some e=>
  induction m with
  | none=>exact d.elim
  | some m=>
   exact aa (evalPart_some ..)<|ob g λp k h=>ob h λi l h=>by
    obtain rfl:=aM h
    exact bR d q st F k λS f j o=>K S f j (o.gB (motive:=λv a=>∃t,v=.int i t) l λt=>⟨t,rfl⟩)
theorem sy{v i}(h:rk v i):IsPart v i:=by
 induction i with
 | none=>subst h;exact .none
 | some k=>refine aL h λt a=>?_;obtain rfl:=a;exact .int k t
theorem Vx{x:aj}(h:fJ x=true)(l:List Nat):fJ ⟨(l.filterMap (x.cps[·]?)).toArray⟩=true:=by
 unfold fJ at*
 rw [← I1] at*
 refine List.all_eq_true.mpr λc b=>?_
 refine aw (List.mem_filterMap.mp b) λi a d=>?_
 exact List.all_eq_true.mp h _ (Array.mem_toList_iff.mpr (Array.mem_of_getElem? d))
theorem Rl(x:aj)(lo a:Option Int):(ng x lo a).length<=x.length:=LP x lo a
theorem Vg{A G s σ q x t lo p r w}(st:St W G s σ)(B:s.heap.IsSliceOf q r w .none)(pl:rk r lo)(C:rk w p)(n:fJ x=true)(d:x.length<=aP):
 ar W.M A (uU (.str x t) (.ref q)) (Out W G s σ (.str (ng x lo p))) aF s:=by
 refine bI B λo e c y=>?_
 have b:∀{v i},rk v i->∃l:Option (Int×de),partValue l=v/\l.map (·.1)=i:=λ{v i} h=>match i,h with
  | none,h=>⟨none,h.symm,rfl⟩
  | some k,⟨t,h⟩=>⟨some (k,t),h.symm,rfl⟩
 refine aw (b pl) λl f g=>?_;obtain rfl:=f;obtain rfl:=g
 refine aw (b C) λu j m=>?_;obtain rfl:=j;obtain rfl:=m
 refine wpAny_getItem_str_slice (l:=l) (u:=u) (st:=none) ⟨o,e,c,y⟩ rfl ?_
 have a:=Rl x (l.map (·.1)) (u.map (·.1))
 unfold ng CX at a ⊢
 show(if ((1:Int)==1 && (Xm (l.map (·.1)) (u.map (·.1)) 1 x.length).length==x.length)=true then Made.val (.str x t) else Made.str _).post _ s
 split
 .exact .now st (.str _ _ n d)
 .rename_i z
  rw [if_neg z] at a
  exact⟨aE (aE a d) f9,.tok st (.str _ _ (Vx n _) (aE a d))⟩
theorem Ev.slice{g c f p C P Q R}(hc:Ev W n si g P)(hl:nN W n si c Q)(hu:nN W n si f R):Ev W n si (.Subscript g (.Slice c f none p) C) (.slice P Q R):=λD st F h=>
 ob h λx U h=>ob h λl V h=>ob h λu X h=>ob h λd q h=>sj h (by
 refine Bf (bR hc D st F U λS G T rc=>wpAny_Slice (sY hl D G T V λj m r N=>sY hu D m r X λ{b a I} k o J O=>?_))
 rename_i v _ _ H
 refine aa (OI ..) ?_
 refine aD ?_
 have y:=J1 a.heap H I .none
 have i:=o.push {cls:=.type "slice",data:=.fields #[H,I,.none]}
 have L:Step W bf b a.heap b (a.heap.push {cls:=.type "slice",data:=.fields #[H,I,.none]}):=.push _
 have A:=((rc.go j).go k).go L
 have K:=((S.trans j).trans k).trans L
 unfold A4 at q
 split at q
 .rename_i B
  exact sj q (A.c8 B λt Y Z=>⟨"str",_,PySem.F.slot_str_getitem.lookup,typeIs_str _ _ _,gG K (Vg i y N O Y Z)⟩)
 .refine ob q λxs B q=>sj q ?_
  show ug _ _ _ _ _ _ _
  refine fL (v:=v) i A B λM E z=>?_
  have hz:=eX E
  have w:(jQ xs l.1 u.1).length<=aP:=aE (KO _ _) (by exact aa (t9 ..)<|Nat.le_trans (rL _ _) z)
  refine⟨"list",_,slot_list_getitem.lookup,M.typeIs,WJ M y (sy N) (sy O) .none (λe=>nomatch e) ?_ (size_le E z)⟩
  refine⟨b,K.trans (.push (s:={a with heap:=a.heap.push _}) _),i.push _,.list (n:=0) w i.bq (c5 _ rfl) rfl rfl rfl ?_⟩
  refine aa (slicePick_plain ..) ?_
  unfold jQ
  exact aa (.symm (hz ..))<|((E.drop _).take _).go (.push (s:={a with heap:=a.heap.push _}) _))
def dN(W:Wd)(n:Nat)(si:SI)(e:List ay)(f:List ME):Prop:=
 ∀{A b M G s ρ σ r} {c:bc} {t:List af->ai->Prop},br n A->St W G s σ->aT W A G s.heap si b M ρ->aG f ρ σ=some r->
   (∀{a ak d},Step W bf G s.heap a ak.heap->St W a ak r.2->aT W A a ak.heap si b M ρ->aQ W a ak.heap d r.1->t d ak)->
   ar W.M A (wx (fZ c (bB e b))) t aF s
theorem dN.nil:dN W n si [] []:=λa st F e K=>by obtain rfl:=aM e;exact aD (K .refl st F .nil)
theorem dN.cons{e d m j}(t:Ev W n si e m)(u:dN W n si d j)(v:∀b,bB (e::d) b=(false,aU e b)::bB d b):dN W n si (e::d) (m::j):=λ{a _ _ _ _ _ _ _ _ _} k st F h K=>
 ob h λp o h=>ob h λq s h=>by
  obtain rfl:=aM h
  exact l8 (bR t k st F o λS g l r=>u k g l s λi c f w=>K (S.trans i) c f (.cons (r.go i) w)) (v _)
theorem Ev.list{d f b}(h:dN W n si d f):Ev W n si (.List d b) (.list f):=λj st F e=>
 ob e λp g e=>og e λi e=>sj e (List_ (h j st F g λS c a k=>gG S (SP c k i)))
theorem Ev.tup{d f k b}(h:dN W n si d f):Ev W n si (.Tuple d k b) (.tup f):=λj st F e=>
 ob e λp g e=>og e λi e=>sj e (Tuple_ (h j st F g λS c a l=>gG S (SQ c l i)))
end
end
section
theorem HH{M:lB}{b:Ctx}{p:bc}{t:bY Fin}{fs:List Frame}{s a:ai}{e:End}(h:Runs M b p t fs s e a):s.heap.objs.size<=a.heap.objs.size:=by
 induction h<;>(try simp only [Shared.setGen,c9,J3] at*)<;>first| exact bb _| assumption| lia
theorem Wq{M:lB}{f:Ctx}{p:bc}{g:Nat}{r:Resume}{s c:ai}{d:GenResult}:Wakes M f p g r s d c->s.heap.objs.size<=c.heap.objs.size:=by
 delta Wakes
 have X:∀{f t p fs} {R:End->Prop},(∃b ak,Runs M f p t fs (s.setGen g .running) b ak/\b.quiet=true/\R b/\c=ak.setGen g b.genState)->s.heap.objs.size<=c.heap.objs.size:=λh=>
  nI h λb ak i a a e=>e▸(HH i:(s.setGen g .running).heap.objs.size<=ak.heap.objs.size)
 have Y:∀{R:Prop},R/\c=s->s.heap.objs.size<=c.heap.objs.size:=λh=>h.2▸bb _
 have Z:∀{R:Prop},R/\c=s.setGen g .finished->s.heap.objs.size<=c.heap.objs.size:=λh=>h.2▸bb _
 induction s.gens[g]? with
 | none=>exact False.elim
 | some x=>induction x with
  | fresh=>induction r with
   | send v=>cases v<;>first| exact X| exact Y
   | throw=>exact Z
  | suspended=>exact X
  | _=>exact Y
theorem WW{α:Type}(M:lB)(w:Ctx)(n:Nat)(t:bY α):∀(Q:α->bc->ai->Prop) (E:af->bc->ai->Prop) (p:bc) (s:ai),n<=s.heap.objs.size->Sem.wp M w t Q E p s->
 Sem.wp M w t (λa j i=>n<=i.heap.objs.size/\Q a j i) (λe j i=>n<=i.heap.objs.size/\E e j i) p s:=by
 induction t with
 | pure a=>intro Q E p s b h;exact⟨b,h⟩
 | raise e=>intro Q E p s b h;exact⟨b,h⟩
 | unsupported _=>intro Q E p s _ h;exact h
 | finish _=>intro Q E p s _ h;exact h
 | rule _ k d=>intro Q E p s b h;exact d () Q E p s b h
 | «at» j k d=>intro Q E p s b h;exact d () Q E j s b h
 | load a _ k d=>intro Q E p s b ⟨o,x,h⟩;exact⟨o,x,d o Q E p s b h⟩
 | update a _ f k d=>intro Q E p s b h;exact⟨h.1,d () Q E p _ (by exact aa (J3 ..)<|b) h.2⟩
 | loadIfAlive a k d=>intro Q E p s b h;exact d _ Q E p s b h
 | point _ k d=>intro Q E p s b h;exact d () Q E p s b h
 | register _ _=>intro Q E p s _ h;exact h
 | alloc o k d=>intro Q E p s b h;exact d _ Q E p _ (by exact aa (c9 ..)<|Nat.le_succ_of_le b) h
 | fresh k d=>intro Q E p s b h;exact d _ Q E p _ b h
 | ask k d=>intro Q E p s b h;exact d _ Q E p s b h
 | choose z m k d=>intro Q E p s b h;exact⟨h.1,d _ Q E p _ b h.2⟩
 | os q _ k d=>intro Q E p s b h;exact d _ Q E p _ b h
 | call c A _ _ k d=>intro Q E p s b ⟨r,i,u,h⟩;exact⟨r,i,u,d r Q E p i (aE b (HH u)) h⟩
 | handled own k d=>intro Q E p s b h;exact d _ Q E p s b h
 | genState g k d=>intro Q E p s b ⟨st,y,h⟩;exact⟨st,y,d _ Q E p s b h⟩
 | newGen c k d=>intro Q E p s b h;exact d _ Q E p _ b h
 | resume g r _ k d=>intro Q E p s b ⟨l,i,v,h⟩;exact⟨l,i,v,d l Q E p i (aE b (Wq v)) h⟩
 | yield _ _ _ _=>intro Q E p s _ h;exact h
 | stack k d=>intro Q E p s b h;exact d _ Q E p s b h
 | fork _ _=>intro Q E p s _ h;exact h
 | thread k d=>intro Q E p s b h;exact d _ Q E p s b h
 | await _ _ _ _ _=>intro Q E p s _ h;exact h
theorem iT{α:Type}{M:lB}{A:aO}{s:ai}{t:bY α}{Q:α->ai->Prop}{E:af->ai->Prop}(h:ar M A t (λa s'=>s.heap.objs.size<=s'.heap.objs.size->Q a s') E s):ar M A t Q E s:=
 λd p c=>Sem.wp_mono M d t (λb b b x=>x.2 x.1) (λb b b x=>x.2) p s (WW M d _ t _ _ p s (bb _) (h d p c))
section
variable {W:Wd} {n:Nat} {si:SI}
theorem Inv.gp{G:Gh}{s s':ai}{M:aq->Prop}(I:Inv W G s)(d:∀a,M a->G.fr a)(k:∀b o,¬M b->s.heap.get? b=some o->s'.heap.get? b=some o)(g:s.heap.objs.size<=s'.heap.objs.size)
 (h:s'.gens=s.gens) (i:s'.os=s.os):Inv W G s' where
 keep b o e:=k b o (λx=>absurd (b9 e) (Nat.not_lt.mpr (I.b0 b (d b x)).1)) (I.keep b o e)
 size:=aE I.size g
 gens:=h.trans I.gens
 os:=i.trans I.os
 cn a x:=(I.cn a x).imp_right (eH λy=>a9 y g)
 b0 a x:=(I.b0 a x).imp_right (eH λy=>a9 y g)
 gR:=I.gR
 g7:=I.g7
 gd:=I.gd
 tab:=I.tab.keep (λa o e f=>⟨f,k a o (λx=>f.2.1 (d a x)) e⟩) λc e=>k _ _ (λx=>(I.b0 _ (d _ x)).2.2 rfl) e
 eO:=I.eO
 hJ:=I.hJ
 b8:=I.b8
theorem Inv.Hg{G:Gh}{s:ai}{M:aq->Prop}(I:Inv W G s)(c:∀a,M a->G.fr a){b}(x:G.own b):¬M b:=λy=>(I.cn b x).2.2.1 (c b y)
theorem Cells.gp{G:Gh}{s:ai}{h':aN}{σ}{M:aq->Prop}(C:Cells W G s.heap σ)(I:Inv W G s)(g:∀a,M a->G.fr a)(k:∀b o,¬M b->s.heap.get? b=some o->h'.get? b=some o):Cells W G h' σ:=
 ⟨λi c e=>have x:=C.at_ i c e;⟨x.1,x.2.imp λa y=>⟨y.1,y.2.oZ ⟨λd d e=>e,λb o e f=>⟨f,k b o (λx=>f.2.1 (g b x)) e⟩⟩ (λh o e=>k _ o (I.Hg g ⟨i,x.1 h,.inl y.1⟩) e) (λh b o hb e=>k _ o (I.Hg g ⟨i,x.1 h,.inr hb⟩) e)⟩⟩,C.free⟩
theorem St.gp{G:Gh}{s s':ai}{σ}{M:aq->Prop}(st:St W G s σ)(d:∀a,M a->G.fr a)(k:∀b o,¬M b->s.heap.get? b=some o->s'.heap.get? b=some o)(f:s.heap.objs.size<=s'.heap.objs.size)
 (g:s'.gens=s.gens) (i:s'.os=s.os):St W G s' σ/\Step W M G s.heap G s'.heap:=
 ⟨⟨st.inv.gp d k f g i,st.cells.gp st.inv d k⟩,.all (λc c e=>e) (λc c e=>e) rfl (λc x=>x) (λc x=>.inl x) (λa o e h=>k a o h e) f⟩
noncomputable def i7 (si:SI) (x:String):Bool:=si.kind x==some .local|| (si.kind x==some .cell && !si.ro.contains (au x))
theorem aC.tf{ρ:aC}{x y d a}{P:Prop}(h:ρ.set x d y=some a)(b:y=x->d=a->P)(c:y≠x->ρ y=some a->P):P:=by
 delta aC.set at h
 by_cases e:y=x
 .rw [if_pos e] at h;exact b e (aM h)
 .rw [if_neg e] at h;exact c e h
theorem vU{h:aN}{a c m v}(n:h.Ns a m)(i:h.IsCell c v):c≠a:=λq=>by
 refine BD n λo k j e g b=>?_
 refine aw i λl f d=>?_
 rw [q,e] at f
 rw [← aM f,g] at d
 exact nomatch d
def LN(W:Wd)(A:aO)(si:SI)(a:bg)(M:aq->Prop)(G:Gh)(s:ai)(ρ:aC)(σ:MH)(s':ai):Prop:=Step W M G s.heap G s'.heap/\St W G s' σ/\aT W A G s'.heap si a M ρ
theorem Bb{A j M G s ρ σ v d}{x:String}(st:St W G s σ)(F:aT W A G s.heap si j M ρ)(r:Rep W G s.heap v d)(R:i7 si x=true):
 ar W.M A (storeName j (au x) v) (λa s'=>LN W A si j M G s (ρ.set x d) σ s') aF s:=by
 have D:j.kindOf (au x)=si.kind x:=by delta tW SI.kind;exact aa (F.sc ..) rfl
 have B:j.scope.kind=.function:=by exact aa (F.sc ..)<|F.fn
 refine aw F.ns λm l O=>?_
 refine(nK _ _▸R).elim (λh=>?_) λh=>?_
 .have h:=eq_of_beq h
  refine wpAny_storeName_local (D.trans h) l (λh' Q n=>?_) (by exact aa (B ..) rfl)
  refine aA (st.gp (s':={s with heap:=h',toks:=s.toks+1}) (M:=M) F.dg (λb o nm e=>n.extBut b o (λq=>nm (q▸F.jf)) e) (bN n.1.symm) rfl rfl) λu S=>?_
  exact⟨S,u,F.sc,F.fn,F.gl,F.bl,F.dg,F.jf,⟨_,Q,λy p g f=>aC.tf g (λe H=>⟨v,by exact aa (e ..)<|aa (if_pos rfl ..) rfl,H▸r.step S F.dg⟩) λt g=>(O y p g f).imp λz x=>⟨by exact aa (if_neg λq=>t (vX q) ..)<|x.1,x.2.step S F.dg⟩⟩,
   λk c w=>(F.cells k c w).imp id (nJ id (dX λz i=>i.sameBut n (vU l i))),F.apart,
   λy p g f=>aC.tf g (λe a=>by rw [e,h] at f;exact f.elim (λq=>nomatch q) λq=>nomatch q) λa g=>(F.cell y p g f).imp λc=>dX λz ⟨e,i,b⟩=>⟨e,i.sameBut n (vU l i),b.step S F.dg⟩,F.kN,F.has,F.fz,F.here,F.EV S⟩
 .have h:=(jo _ _▸h:_/\_)
  have K:=h.2
  have h:=eq_of_beq h.1
  refine aw (F.kN x h (by simpa using K)) λc w I=>?_
  refine bP (F.cells _ c w) λa a L=>?_;refine aL L λP N=>?_
  refine wpAny_storeName_cell B (D.trans h) w N (λh' C n=>?_)
  refine aA (st.gp (s':={s with heap:=h'}) (M:=M) F.dg (λb o nm e=>n.extBut b o (λq=>nm (q▸I)) e) (bN n.1.symm) rfl rfl) λu S=>?_
  exact⟨S,u,F.sc,F.fn,F.gl,F.bl,F.dg,F.jf,⟨m,l.sameBut n (Ne.symm (vU l N)),λy p g f=>aC.tf g (λe a=>by rw [e,h] at f;exact nomatch f) λa g=>(O y p g f).imp λz x=>⟨x.1,x.2.step S F.dg⟩⟩,
   λk E J=>(F.cells k E J).imp id (nJ id λ⟨z,i⟩=>if q:E=c then ⟨_,q▸C⟩ else ⟨z,i.sameBut n q⟩),F.apart,
   λy p g f=>aC.tf g (λe H=>⟨c,v,by exact aa (e ..)<|w,C,H▸r.step S F.dg⟩) λt g=>(F.cell y p g f).imp λE=>dX λz ⟨e,i,b⟩=>⟨e,i.sameBut n λq=>t (vX (SH F.apart (mem_of_lookup e) (mem_of_lookup (q▸w)))),b.step S F.dg⟩,F.kN,F.has,F.fz,F.here,F.EV S⟩
end
end
section
namespace MT
end MT
theorem Fl.FG{f:Fl}(h:f.oY=true):f=.next:=by induction f<;>first| rfl| exact nomatch h
namespace MS
noncomputable def block:List MS->MS
 | []=>nil
 | [x]=>x
 | x::xs=>cons x (block xs)
end MS
section
variable {W:Wd} {n:Nat} {si:SI}
def gK(W:Wd)(G:Gh)(h:aN):gw->Fl->Prop
 | .next,.next=>True
 | .brk,.brk=>True
 | .cont,.cont=>True
 | .ret v,.ret d=>Rep W G h v d
 | _,_=>False
def JS(W:Wd)(G:Gh)(h:aN)(f:gw):Fl->Prop
 | .next=>f=.next
 | .brk=>f=.brk
 | .cont=>f=.cont
 | .ret d=>∃v,f=.ret v/\Rep W G h v d
theorem gK.inv{G h f a}(r:gK W G h f a):JS W G h f a:=by
 induction a<;>induction f<;>first| exact rfl| exact r.elim| exact⟨_,rfl,r⟩
def hY(W:Wd)(A:aO)(si:SI)(b:bg)(M:aq->Prop)(G:Gh)(s:ai)(r:Fl×aC×MH)(f:gw)(a:ai):Prop:=
 ∃G',Step W M G s.heap G' a.heap/\St W G' a r.2.2/\aT W A G' a.heap si b M r.2.1/\gK W G' a.heap f r.1
def Ex(W:Wd)(n:Nat)(si:SI)(st:bZ)(m:MS):Prop:=
 ∀{A a M G s ρ σ r},br n A->St W G s σ->aT W A G s.heap si a M ρ->m ρ σ=some r->ar W.M A (exec st a) (hY W A si a M G s r) aF s
def dY(W:Wd)(n:Nat)(si:SI)(st:List bZ)(m:MS):Prop:=
 ∀{A a M G s ρ σ r},br n A->St W G s σ->aT W A G s.heap si a M ρ->m ρ σ=some r->ar W.M A (ja st a) (hY W A si a M G s r) aF s
theorem Step.any{M:aq->Prop}{G h G' h'}(S:Step W bf G h G' h'):Step W M G h G' h':=S.weaken λa x=>x.elim
theorem hY.elim{a M G s r f s'}{P:Prop}(h:hY W A si a M G s r f s')(k:∀G',Step W M G s.heap G' s'.heap->St W G' s' r.2.2->aT W A G' s'.heap si a M r.2.1->gK W G' s'.heap f r.1->P):P:=dG h λG' S st F x=>k G' S st F x
theorem hY.trans{c M G s b ak r f s'}(S:Step W M G s.heap b ak.heap)(h:hY W A si c M b ak r f s'):hY W A si c M G s r f s':=h.imp λa=>eH S.trans
theorem qR{A:aO}{c M G s b ak r}{t:bY gw}(S:Step W M G s.heap b ak.heap)(h:ar W.M A t (hY W A si c M b ak r) aF ak):ar W.M A t (hY W A si c M G s r) aF ak:=bD h λa a x=>x.trans S
theorem wpS{A:aO}{b M G s r}{t:bY gw}{Q:gw->ai->Prop}(h:ar W.M A t (hY W A si b M G s r) aF s)(k:∀f c G',Step W M G s.heap G' c.heap->St W G' c r.2.2->aT W A G' c.heap si b M r.2.1->gK W G' c.heap f r.1->Q f c):ar W.M A t Q aF s:=
 bD h λa a o=>o.elim (k _ _)
theorem hY.next{a M G s G' s' ae ab}(S:Step W M G s.heap G' s'.heap)(st:St W G' s' ab)(F:aT W A G' s'.heap si a M ae):hY W A si a M G s (.next,ae,ab) .next s':=⟨G',S,st,F,trivial⟩
theorem dY.nil:dY W n si [] .nil:=λa st F e=>sj e (wK (.next .refl st F))
theorem dY.cons{x xs m g}(l:Ex W n si x m)(k:dY W n si xs g):dY W n si (x::xs) (.cons m g):=λi st F e=>
 ob e λp j e=>tF (bD (l i st F j) λf ak o=>o.elim λd S a b r=>oc e
  (λc e=>by
    rw [Fl.FG c] at r
    obtain rfl:=r.inv
    exact qR S (k i a b e))
  λc e=>by
   obtain rfl:=aM e
   induction f with
   | next=>exact absurd (show p.1.oY=true by induction h:p.1<;>rw [h] at r<;>first| rfl| exact r.elim) (by refine aa (c ..) ?_;decide)
   | _=>exact o)
theorem dY.one{x m}(a:Ex W n si x m):dY W n si [x] m:=λb st F e=>
 tF (bD (a b st F e) λf ak h=>by
  induction f with
  | next=>exact wK h
  | _=>exact h)
theorem drop_eq(e:ay)(a:bc)(v:af):za e a v=pure .next∨za e a v=za (.Starred e a) a v:=by cases e<;>first| exact .inl rfl| exact .inr (by kernel_rfl)
theorem Ej{A s}{e:ay}{a:bc}{v:af}{Q:gw->ai->Prop}(h:Q .next s):ar W.M A (za e a v) Q aF s:=by
 rcases drop_eq e a v with q| q<;>refine aa (q ..) ?_
 .exact aD h
 .induction v with
  | ref=>exact ah (cQ (ah (IT (fN entry_let_go (show ar _ _ (CS .none) _ _ _ from aD (aD h))))))
  | _=>exact aD h
theorem Ex.expr{e b m}(g:Ev W n si e m)(i:∀a:bg,a.scope=si.sc->zK a=false)(j:∀a,Iw e none b.line a=pure false):Ex W n si (.Expr e b) (.expr m):=λk st F h=>
 ob h λp f h=>sj h (by
  exact aa (exec_Expr _ _ _ (i _ F.sc) (j _) ..)<|wpAny_bind (cQ (ah (bR g k st F f λS c d r=>Ej (.next S.any c d)))))
theorem Ex.ret{e a m}(f:Ev W n si e m):Ex W n si (.Return (some e) a) (.ret m):=λg st F h=>
 ob h λp d h=>sj h (wpAny_Return_some (bR f g st F d λS b c r=>⟨_,S.any,b,c,r⟩))
theorem Ex.brk{b}:Ex W n si (.Break b) .brk:=λa st F e=>sj e λa a a=>⟨_,.refl,st,F,trivial⟩
theorem Ex.cont{b}:Ex W n si (.Continue b) .cont:=λa st F e=>sj e λa a a=>⟨_,.refl,st,F,trivial⟩
theorem Ex.ite{t xs j c b g i}(l:Eb W n si t b)(m:dY W n si xs g)(o:dY W n si j i):Ex W n si (.If t xs j c) (.ite b g i):=λd st F h=>
 ob h λp k h=>wpAny_If (jD l d st F k λS a f=>oc h (λe h=>by exact aa (if_pos e ..)<|qR S.any (m d a f h)) λe h=>by exact aa (if_neg (by rw [e];decide))<|qR S.any (o d a f h))
def xU(W:Wd)(A:aO)(si:SI)(a:bg)(M:aq->Prop)(G:Gh)(s:ai)(r:aC×MH)(b:ai):Prop:=∃G',Step W M G s.heap G' b.heap/\St W G' b r.2/\aT W A G' b.heap si a M r.1
theorem kA{A:aO}{b M G s r}{t:bY Unit}{Q:Unit->ai->Prop}(h:ar W.M A t (λa s'=>xU W A si b M G s r s') aF s)(k:∀s' G',Step W M G s.heap G' s'.heap->St W G' s' r.2->aT W A G' s'.heap si b M r.1->Q () s'):ar W.M A t Q aF s:=
 bD h λa s' c=>bI c λG' S st F=>k s' G' S st F
def Et(W:Wd)(n:Nat)(si:SI)(t:ay)(m:MT):Prop:=
 ∀{A b M G s ρ σ v d r},br n A->St W G s σ->aT W A G s.heap si b M ρ->Rep W G s.heap v d->m d ρ σ=some r->
   ar W.M A (assign t b v) (λa c=>xU W A si b M G s r c) aF s
theorem Et.name{x pos}(b:i7 si x=true):Et W n si (.Name (au x) pos) (.name x):=λa st F r e=>
 sj e (assign_Name (bD (Bb st F r b) λa a o=>⟨_,o⟩))
def ll(W:Wd)(n:Nat)(si:SI)(g:List ay)(e:List MT):Prop:=
 ∀{A b M G s ρ σ d c r},br n A->St W G s σ->aT W A G s.heap si b M ρ->aQ W G s.heap d c->MT.seq e c ρ σ=some r->
   ar W.M A (Du ((gy g b).map (·.2)) d) (λa f=>xU W A si b M G s r f) aF s
theorem ll.nil:ll W n si [] []:=λ{a _ _ _ _ _ _ _ b _} a st F r e=>by
 induction b with
 | nil=>exact sj e (aD ⟨_,.refl,st,F⟩)
 | cons=>exact aY e
theorem ll.cons{t k m q}(w:Et W n si t m)(v:ll W n si k q)(x:∀b,gy (t::k) b=(false,assign t b)::gy k b):ll W n si (t::k) (m::q):=λ{a _ _ _ _ _ _ _ o _} s st F r e=>by
 induction o with
 | nil=>exact aY e
 | cons d o=>
  refine ob e λp u e=>?_
  refine r.d6 λz y=>?_
  exact aa (x ..)<|wpAny_bind (bz (kA (w s st F z u) λak l S c g=>kA (v s c g (y.step S F.dg) e) λa i j f h=>⟨i,S.trans j,f,h⟩))
theorem MT.UZ{c:List MT}:∀{b:List D} {ρ σ r},MT.seq c b ρ σ=some r->c.length=b.length:=by
 induction c with
 | nil=>intro b;induction b with| nil=>exact λa=>rfl| cons=>exact λe=>aY e
 | cons m c d=>intro b;induction b with| nil=>exact λe=>aY e| cons=>exact λe=>ob e λa a e=>congrArg (· +1) (d e)
theorem St.grow{G:Gh}{s s':ai}{σ}(st:St W G s σ)(k:∀b o,s.heap.get? b=some o->s'.heap.get? b=some o)(f:s.heap.objs.size<=s'.heap.objs.size)
 (c:s'.gens=s.gens:=by rfl) (d:s'.os=s.os:=by rfl):St W G s' σ/\Step W bf G s.heap G s'.heap:=
 st.gp (M:=bf) (λa x=>x.elim) (λb o a e=>k b o e) f c d
theorem Et.tup{j k u w}(hl:ll W n si j w)(q:j.length=w.length)(t:∀h,(gy j h).length=j.length/\(gy j h).findIdx? (·.1)=none):Et W n si (.Tuple j k u) (.tup w):=λ{A h M G s ρ σ v d K} y st F r e=>by
 refine ob e λJ E e=>r.jm E λ{a o L} z f D c dd C B=>?_
 show ar _ _ (do ip u;Bp _ (gy j _)) _ _ _
 refine ah (cQ ?_)
 unfold Bp
 refine aa ((t _).2 ..)<|aa ((t h).1.trans (q.trans ((MT.UZ e).trans (eX B).symm)) ..) ?_
 refine ah (bz (iT (unpackItems_tuple y.2.2.2 ⟨_,D,c,_,C⟩ λh' H I=>?_)))
 refine aA (st.grow (s':={s with heap:=h'}) (λb o e=>H b o (bj (b9 e)) e) I) λx S=>?_
 exact kA (hl y x (F.go st.inv S) (B.go S) e) λg m p i l=>⟨m,S.any.trans p,i,l⟩
theorem Ex.assign{t b pos m mt}(s:Ev W n si b m)(v:Et W n si t mt)(u:∀c:bg,c.scope=si.sc->kq [t] b pos.line c=pure false)(w:∀c:bg,c.scope=si.sc->l0 [t] b c=pure none)
 (x:∀c,gy [t] c= [(false,iy t c)]):Ex W n si (.Assign [t] b pos) (.assign mt m):=λj st F h=>
 ob h λp l h=>ob h λq o h=>sj h (by
  refine aa (zi ..)<|aa (u _ F.sc ..) ?_
  refine ah (cQ (ah (aD ?_)))
  refine aa (if_neg (by decide)) ?_
  refine ah (bR s j st F l λS g k r=>?_)
  refine aa (w _ F.sc ..) ?_
  refine ah (aD ?_)
  refine aa (x ..) ?_
  show ar _ _ (iy t _ _>>=λa=>pure Flow.next) _ _ _
  exact ah (kA (v j g k r o) λa i f d e=>aD (.next (S.any.trans f) d e)))
end
end
section
noncomputable def ES (f:gw):af:=match f with| .ret v=>v| _=>.none
inductive gx (W:Wd) (G:Gh) (h:aN):List (aj×af)->List (String×D)->Prop
 | nil:gx W G h [] []
 | cons {x v d bs cs}:Rep W G h v d->gx W G h bs cs->gx W G h ((au x,v)::bs) ((x,d)::cs)
def LD(W:Wd)(G:Gh)(h:aN)(bs:List (aj×af)):List (String×D)->Prop
 | []=>bs= []
 | (x,d)::b=>∃v a,bs=(au x,v)::a/\Rep W G h v d/\gx W G h a b
theorem gx.inv{W G h bs c}(r:gx W G h bs c):LD W G h bs c:=by induction r with| nil=>exact rfl| cons a b=>exact⟨_,_,rfl,a,b⟩
@[elab_as_elim] theorem gx.ind{W G h}{motive:List (aj×af)->List (String×D)->Prop}{e c}(r:gx W G h e c)(nil:motive [] [])
   (cons:∀{x v d e c},Rep W G h v d->gx W G h e c->motive e c->motive ((au x,v)::e) ((x,d)::c)):motive e c:=by
  induction c generalizing e with
  | nil=>obtain rfl:=r.inv;exact nil
  | cons p c g=>refine eQ r.inv λv i f a b=>?_;obtain rfl:=f;exact cons a b (g b)
section
variable {W:Wd} {n:Nat}
def xR(W:Wd)(G:Gh)(s:ai)(r:D×MH)(x:hZ)(s':ai):Prop:=∃v,x=.ok (.ret v)/\Out W G s r.2 r.1 v s'
def ba(W:Wd)(n:Nat)(a:aq)(F:FM):Prop:=
 ∀{A G s σ c b r},br n A->St W G s σ->aQ W G s.heap c b->Fo A G s.heap->F b σ=some r->
   eU W.M A (.call (.ref a) ⟨c,[]⟩) (xR W G s r) s
def b6(W:Wd)(f:gc)(b:gu):Prop:=
 ∀{A G s σ e d bs},br 0 A->St W G s σ->aQ W G s.heap e d->b d=some bs->
   ar W.M A (kM f ⟨e,[]⟩) (λa c=>Step W bf G s.heap G c.heap/\St W G c σ/\gx W G c.heap a bs) aF s
theorem cellsFrom_some(a:List (aj×gY)):∀(k:Nat) (b:List (aj×aq)) (x:aj),(a.lookup x=some .cell∨(b.lookup x).isSome=true)->((iH k a b).lookup x).isSome=true:=by
 induction a with
 | nil=>exact λk b x h=>h.elim (λh=>aY h) id
 | cons p r c=>
  intro k b x h
  obtain⟨y,e⟩:=p
  unfold iH
  rw [dI] at h
  induction hb:x==y with
  | true=>
   rw [hb] at h
   split
   .exact c (k+1) _ x (.inr (by exact aa (dI ..)<|aa (hb ..) rfl))
   .rename_i d
    exact c k b x (h.elim (λh=>(d (beq_iff_eq.mpr (aM h))).elim) .inr)
  | false=>
   rw [hb] at h
   split
   .exact c (k+1) _ x (h.imp id λh=>by exact aa (dI ..)<|aa (hb ..)<|h)
   .exact c k b x h
noncomputable def lI (sc:cR) (x:String):Bool:=sc.names.lookup (au x)==some .local|| sc.names.lookup (au x)==some .cell
theorem DC{sc x}(h:lI sc x=true):sc.names.lookup (au x)=some .local∨sc.names.lookup (au x)=some .cell:=
 (nK _ _▸h:_∨_).imp eq_of_beq eq_of_beq
def Lies(W:Wd)(G:Gh)(h:aN)(sc:cR)(m a:aj->Option af)(ρ:aC):Prop:=
 ∀x d,ρ x=some d->(sc.names.lookup (au x)=some .local/\∃v,m (au x)=some v/\Rep W G h v d)∨(sc.names.lookup (au x)=some .cell/\∃v,a (au x)=some v/\Rep W G h v d)
theorem DD{G h}{sc:cR}{kindOf:aj->Option gY}(g:∀x,kindOf x=sc.names.lookup x){c bs}(r:gx W G h c bs):(∀b∈bs,lI sc b.1=true)->∀(m f:aj->Option af) (ρ:aC),
 Lies W G h sc m f ρ->Lies W G h sc (uv kindOf c m) (bindC kindOf c f) (bs.foldl (λρ b=>ρ.set b.1 b.2) ρ):=
 r.ind (motive:=λc bs=>(∀b∈bs,lI sc b.1=true)->∀(m f:aj->Option af) (ρ:aC),Lies W G h sc m f ρ->Lies W G h sc (uv kindOf c m) (bindC kindOf c f) (bs.foldl (λρ b=>ρ.set b.1 b.2) ρ))
  (λa a a a h=>h) λ{y v u w t} r a p hb m f ρ n=>by
  refine aa (rC ..) ?_
  unfold uv bindC
  refine p (λb k=>hb b (bT _ k)) _ _ _ λx d e=>aC.tf e (λl o=>?_) λl e=>?_
  .subst l o
   exact(DC (hb _ a0)).imp (λj=>⟨j,v,by exact aa (g ..)<|aa (if_pos j ..)<|if_pos rfl,r⟩) λj=>⟨j,v,by exact aa (g ..)<|aa (if_neg (by rw [j];decide))<|if_pos rfl,r⟩
  .have i:¬au x=au y:=λq=>l (vX q)
   refine(n x d e).imp (fE (dX λs=>eH λb=>?_)) (fE (dX λs=>eH λb=>?_))
   .split
    .exact(if_neg i).trans b
    .exact b
   .split
    .exact b
    .exact(if_neg i).trans b
theorem gx.names{G h c bs}(r:gx W G h c bs):∀x∈c,∃b∈bs,x.1=au b.1:=
 r.ind (λa h=>nomatch h) λ{x v d j i} a a g y f=>(List.mem_cons.mp f).elim (λe=>⟨(x,d),a0,by exact aa (e ..) rfl⟩) λf=>(g y f).imp λb=>eH (bT _)
theorem br.deeper{A a}(r:br (n+1) A):br n (A.deeper a):=⟨by have:=r.1;show A.depth+1+_<=_;lia,by have:=r.2.1;show A.units+3+_<=_;lia,r.2.2.1,r.2.2.2⟩
theorem br.in1{A}(r:br (n+1) A):br n A.in1:=⟨by have:=r.1;show A.depth+_<=_;lia,by have:=r.2.1;show A.units+1+_<=_;lia,r.2.2.1,r.2.2.2⟩
theorem gx.keep{G h G' h'}(K:cH W G h G' h'){b bs}(r:gx W G h b bs):gx W G' h' b bs:=r.ind .nil λr a c=>.cons (r.keep K) c
theorem gK.keep{G h G' h'}(K:cH W G h G' h'){f a}(r:gK W G h f a):gK W G' h' f a:=by
 induction a with
 | ret d=>refine aw r.inv λv b r=>?_;obtain rfl:=b;exact Rep.keep K r
 | _=>obtain rfl:=r.inv;exact trivial
theorem Cells.to{G G':Gh}{h h':aN}{σ}(C:Cells W G h σ)(K:cH W G h G' h')(k:G'.g=G.g:=by rfl)(j:G'.d=G.d:=by rfl)(m:G'.c0=G.c0:=by rfl)(hk:∀b o,h.get? b=some o->h'.get? b=some o):Cells W G' h' σ:=
 ⟨λi c e=>have x:=C.at_ i c e;⟨λn=>by exact aa (m ..)<|x.1 n,x.2.imp λa y=>⟨by exact aa (k ..)<|y.1,by exact aa (j ..)<|y.2.keep K (λf e=>hk _ _ e) λf f f e=>hk _ _ e⟩⟩,λi l=>by exact aa (k ..)<|aa (j ..)<|aa (m ..)<|C.free i l⟩
theorem sC{G:Gh}{s:ai}{σ:MH}{fr ou:aq->Prop}(st:St W G s σ)(d:∀b,fr b->G.fr b)(g:∀b,ou b->fr b):St W {G with fr:=fr,ou:=ou} s σ/\cH W G s.heap {G with fr:=fr,ou:=ou} s.heap:=
 have K:cH W G s.heap {G with fr:=fr,ou:=ou} s.heap:=⟨λc c e=>e,λb o e f=>⟨⟨f.1,λx=>f.2.1 (d b x),f.2.2⟩,e⟩⟩
 have I:=st.inv
 ⟨⟨⟨I.keep,I.size,I.gens,I.os,λa x=>eP (I.cn a x) λh i j k=>⟨h,i,λy=>j (d a y),k⟩,λb x=>I.b0 b (d b x),I.gR,I.g7,I.gd,I.tab.keep K.bq λc e=>e,I.eO,I.hJ,g⟩,st.cells.to K (hk:=λc c e=>e)⟩,K⟩
theorem kV{G:Gh}{s:ai}{σ:MH}{fr:aq->Prop}(st:St W G s σ)(a:∀b,fr b->G.fr b)(c:∀b,G.ou b->fr b):St W {G with fr:=fr} s σ/\cH W G s.heap {G with fr:=fr} s.heap:=sC st a c
theorem qy{G:Gh}{fy iL h:aN}{xl:Gh}{j ou k:aq->Prop}{jx M:aq->Prop}(f:∀b,M b->fy.objs.size<=b)(c:∀b o,fy.get? b=some o->iL.get? b=some o)
 (hsz:fy.objs.size<=iL.objs.size) (m:∀a,a<fy.objs.size->(j a/\ou a↔G.fr a/\G.ou a)) (l:k=G.ou) (S:Step W (λb=>jx b∨M b) {G with fr:=j,ou:=ou} iL xl h):Step W jx G fy {xl with fr:=G.fr,ou:=k} h where
 g:=S.g
 d:=S.d
 fr:=rfl
 c0:=S.c0
 new a x:=(S.new a x).imp id λy=>aE hsz y
 keep a o e ho hm ht hf:=S.keep a o (c a o e) ho (λi=>i.elim hm λi=>absurd (b9 e) (Nat.not_lt.mpr (f a i))) ht λx y=>have z:=(m a (b9 e)).mp ⟨x,y⟩;hf z.1 z.2
 size:=aE hsz S.size
 ou:=l
 ig a o e x y hm:=have z:=(m a (b9 e)).mpr ⟨x,y⟩;S.ig a o (c a o e) z.1 z.2 λi=>i.elim hm λi=>absurd (b9 e) (Nat.not_lt.mpr (f a i))
theorem ve{G:Gh}{ak b3 eZ:ai}{c:Gh}{ab:MH}{jx M:aq->Prop}(f:∀b,G.ou b->G.fr b)(d:∀b,M b->ak.heap.objs.size<=b)(e:∀b o,ak.heap.get? b=some o->b3.heap.get? b=some o)
 (hsz:ak.heap.objs.size<=b3.heap.objs.size) (S:Step W (λb=>jx b∨M b) {G with fr:=λb=>G.fr b∨M b} b3.heap c eZ.heap) (st:St W c eZ ab):
 Step W jx G ak.heap {c with fr:=G.fr} eZ.heap/\St W {c with fr:=G.fr} eZ ab/\cH W c eZ.heap {c with fr:=G.fr} eZ.heap:=
 ⟨qy d e hsz (λa l=>⟨λx=>⟨x.1.resolve_right λz=>absurd l (Nat.not_lt.mpr (d a z)),x.2⟩,eH .inl⟩) S.ou S,kV st (λb x=>by exact aa (S.fr ..)<| .inl x) λb x=>f b (by exact aa (.symm (S.ou ..))<|x)⟩
theorem jE{G:Gh}{ak b3:ai}{σ:MH}{M:aq->Prop}(st:St W G ak σ)(d:∀b,M b->ak.heap.objs.size<=b/\b<b3.heap.objs.size)(c:∀b o,ak.heap.get? b=some o->b3.heap.get? b=some o)
 (hsz:ak.heap.objs.size<=b3.heap.objs.size) (k:b3.gens=ak.gens) (m:b3.os=ak.os):
 St W {G with fr:=λb=>G.fr b∨M b} b3 σ/\cH W G ak.heap {G with fr:=λb=>G.fr b∨M b} b3.heap:=
 have uS:∀{b:aq},b<ak.heap.objs.size->¬M b:=λl h=>absurd l (Nat.not_lt.mpr (d _ h).1)
 have K:cH W G ak.heap {G with fr:=λb=>G.fr b∨M b} b3.heap:=⟨λa a e=>e,λb ob i f=>⟨⟨f.1,λg=>g.elim f.2.1 (uS (b9 i)),f.2.2⟩,c b ob i⟩⟩
 have I:Inv W G b3:=st.inv.gp (M:=bf) (λa x=>x.elim) (λb o a e=>c b o e) hsz k m
 ⟨⟨{I with
     cn:=λb x=>eP (st.inv.cn b x) λn j p r=>⟨n,a9 j hsz,λg=>g.elim p (uS j),r⟩
     b0:=λb x=>x.elim (I.b0 b) λx=>⟨aE st.inv.size (d b x).1,(d b x).2,λq=>absurd (a9 st.inv.eO st.inv.size) (Nat.not_lt.mpr (q▸(d b x).1))⟩
     tab:=st.inv.tab.keep K.bq λa e=>c _ _ e
     b8:=λb x=>.inl (I.b8 b x)},st.cells.to K (hk:=c)⟩,K⟩
noncomputable def Gh.lP (G:Gh) (M:aq->Prop) (L:aq):Gh:={G with fr:=λb=>G.fr b∨M b,ou:=λb=>G.ou b∨b=L}
def Lg(W:Wd)(M:aq->Prop)(L:aq)(G:Gh)(s:ai)(r:Fl×aC×MH)(f:gw)(c:ai):Prop:=
 ∃a:Gh,∃d:aq->Prop,Step W M (G.lP M L) s.heap {a with fr:=λb=>G.fr b∨M b} c.heap/\
  St W {a with fr:=λb=>G.fr b∨d b} c r.2.2/\gK W {a with fr:=λb=>G.fr b∨d b} c.heap f r.1
def lh(W:Wd)(n:Nat)(e:gc)(d:List bZ)(m:MS):Prop:=
 ∀{A:aO} {a:bg} {M:aq->Prop} {G:Gh} {s:ai} {ρ:aC} {σ:MH} {r:Fl×aC×MH},br n A->St W (G.lP M a.locals) s σ->aT W A (G.lP M a.locals) s.heap (SI.fn e) a M ρ->(∀b,M b->¬G.fr b)->(∀b,G.ou b->G.fr b)->(∀x c,a.cells.lookup x=some c->M c)->m ρ σ=some r->
   ar W.M A (ja d a) (Lg W M a.locals G s r) aF s
theorem lh.of{fd body m}(i:dY W n (SI.fn fd) body m):lh W n fd body m:=λ{A h M G s ρ σ r} j st F a a a e=>
 wpS (i j st F e) λf k c S g a r=>by
  have d: {c with fr:=λb=>G.fr b∨M b}=c:=by exact aa (show(λb=>G.fr b∨M b)=c.fr from S.fr.symm) rfl
  exact⟨c,M,d.symm▸S,d.symm▸g,d.symm▸r⟩
structure BX(W:Wd)(a:aq)(fd:gc)(body:List bZ)(bind:gu):Prop where
 ok:W.Ok
 ha:∃o,W.K.lookup a=some o/\o.data=.func fd
 hb:fd.body=.stmts body
 Py:codeIn W.K fd.code fd.qualname=true
 Pz:fd.closure= []
 PN:fd.globals=kW
 Pw:fd.builtins=j4
 zy:∀x,(x,iw)∉fd.scope.names
 zx:fd.scope.isCoroutine=false
 zA:fd.scope.isGenerator=false
 hk:fd.scope.kind=.function
 zw:b6 W fd bind
 sh:∀ds bs,bind ds=some bs->∀b∈bs,lI fd.scope b.1=true
structure Ju(W:Wd)(A:aO)(fd:gc)(G:Gh)(ak:ai)(σ:MH)(bs:List (String×D))(env:bg)(M:aq->Prop)(b3:ai):Prop where
 st:St W (G.lP M env.locals) b3 σ
 F:aT W (A.deeper env) (G.lP M env.locals) b3.heap (SI.fn fd) env M (c_ bs)
 ge:∀b,M b->ak.heap.objs.size<=b
 cM:∀x c,env.cells.lookup x=some c->M c
 keep:∀b o,ak.heap.get? b=some o->b3.heap.get? b=some o
 size:ak.heap.objs.size<=b3.heap.objs.size
 lP:env.frame=some env.locals
theorem Nu{a:aq}{C:gc}{O:List bZ}{N:gu}(t:BX W a C O N){A G s σ vs ds bs}{R:hZ->ai->Prop}(rm:br (n+1) A)(st:St W G s σ)(rv:aQ W G s.heap vs ds)(fo:Fo A G s.heap)(e:N ds=some bs)
 (K:∀j M ak m,Step W bf G s.heap G ak.heap->St W G ak σ->Ju W A C G ak σ bs j M m->ar W.M (A.deeper j) (ja O j) (λf s'=>R (.ok (.ret (ES f))) s') aF m):
 eU W.M A (.call (.ref a) ⟨vs,[]⟩) R s:=by
 refine aw t.ha λo ha hd=>?_
 refine codeAny_call_function rm.depth (st.inv.keep _ _ (t.ok.gn _ _ ha)) hd t.zx t.zA t.hb (codeRec_of (t.ok.gn.keeps st.inv.keep) t.Py) ?_
 refine gW (t.zw (rm.in1.le (fW _)) st rv e) (λT ak kp=>bP kp λJ l rb=>?_) λi i x=>x.elim
 refine aa (t.Pz ..) ?_
 have cs:∀x,C.scope.names.lookup x=some .cell->((iH (ak.heap.objs.size+1) C.scope.names []).lookup x).isSome=true:=λx h=>cellsFrom_some _ _ _ _ (.inl h)
 have uZ:∀x∈T,C.scope.names.lookup x.1=some .local∨(C.scope.names.lookup x.1=some .cell/\((iH (ak.heap.objs.size+1) C.scope.names []).lookup x.1).isSome=true):=λx I=>by
  refine aw (rb.names x I) λb U e'=>?_
  exact aa (e' ..)<|(DC (t.sh ds bs e b U)).imp id λh=>⟨h,cs _ h⟩
 refine wpAny_newFunctionEnv_cells t.hk uZ λj Q m X=>?_
 refine ew X.toInCall.same λiL tk H=>?_
 have r:=X.toInCall.keep
 refine⟨(t.ok.nolimit.keeps l.inv.keep).keeps r,codeAny_func (gW (K j (λb=>b=j.locals∨∃x,j.cells.lookup x=some b) ak m J l ?_) (λi i x=>x) λi i x=>x.elim)⟩
 have qa:j.scope=C.scope:=by exact aa (Q ..) rfl
 have Z:j.locals=ak.heap.objs.size:=by exact aa (Q ..) rfl
 have V:∀{x},C.scope.names.lookup x=some .cell->∃c,j.cells.lookup x=some c:=λ{x} h=>by exact aa (Q ..)<|Option.isSome_iff_exists.mp (cs x h)
 have PY:∀x,j.kindOf x=C.scope.names.lookup x:=λx=>by unfold tW;exact aa (qa ..) rfl
 have P:j.locals<m.heap.objs.size:=X.toInCall.ns.lt
 have hsz:ak.heap.objs.size<=m.heap.objs.size:=jy (Z▸P)
 have u:∀b,(b=j.locals∨∃x,j.cells.lookup x=some b)->ak.heap.objs.size<=b:=λb hb=>hb.elim (λe=>bN (e▸Z.symm)) λjk=>aL jk λx I=>jy (Z▸X.above x b (mem_of_lookup I))
 refine aA (jE l (M:=λb=>b=j.locals∨∃x,j.cells.lookup x=some b) (λb hb=>⟨u b hb,hb.elim (λe=>e▸P) λ⟨x,I⟩=>(X.cell x b I).lt⟩) r hsz (by exact aa (H ..) rfl) (by exact aa (H ..) rfl)) λz B=>?_
 have z:=(sC (ou:=λb=>G.ou b∨b=j.locals) z (λi x=>x) λb x=>x.elim (λx=>.inl (st.inv.b8 b x)) λx=>.inr (.inl x)).1
 have B:cH W G ak.heap (G.lP (λb=>b=j.locals∨∃x,j.cells.lookup x=some b) j.locals) m.heap:=⟨B.g,B.bq⟩
 refine aw (fo.step J λi i i x=>x) λfs zz zP=>?_
 have F:j.frame=some j.locals:=by exact aa (Q ..) rfl
 have E:(A.deeper j).frames=some (j::fs):=I0 zz
 have S:=DD PY (rb.keep B) (t.sh ds bs e) (λi=>none) (λi=>none) (λi=>none) (λx d e=>aY e)
 exact⟨z,{
  sc:=qa
  fn:=t.hk
  gl:=by exact aa (Q ..)<|t.PN
  bl:=by exact aa (Q ..)<|t.Pw
  dg:=λb U=>.inr U
  jf:=.inl rfl
  ns:=⟨_,X.toInCall.ns,λx d I w=>(S x d I).elim And.right λh=>absurd (h.1.symm.trans w) (by decide)⟩
  cells:=λk c D=>⟨λI=>absurd (l.inv.cn c I).2.1 (Nat.not_lt.mpr (u c (.inr ⟨k,D⟩))),λq=>absurd (a9 l.inv.eO l.inv.size) (Nat.not_lt.mpr (q▸u c (.inr ⟨k,D⟩))),⟨_,X.cell k c D⟩⟩
  apart:=X.apart
  cell:=λx d I w=>(S x d I).elim (λh=>by have h0:(SI.fn C).kind x=some .local:=h.1;rw [h0] at w;exact w.elim (λq=>nomatch q) λq=>nomatch q)
   λs_=>aA s_ λh0 Ur=>aw Ur λv h1 h2=>aL (V h0) λc D=>⟨c,v,D,h1▸X.cell _ c D,h2⟩
  kN:=λx w i=>(V w).imp λc D=>⟨D,.inr ⟨_,D⟩⟩
  has:=λx w=>w.elim V λh0=>absurd (mem_of_lookup h0) (t.zy _)
  fz:=λi h=>nomatch h
  here:=λp hp=>by obtain rfl:=aM hp;exact⟨by exact aa (Q ..) rfl,by exact aa (Q ..) rfl,F,fs,E⟩
  fo:=⟨_,E,λe Y=>(List.mem_cons.mp Y).elim (λq=>by exact aa (q ..)<|⟨by refine aa (qa ..)<|aa (t.hk ..) ?_;decide,_,F,.inr (.inl rfl),.inr rfl,.inl rfl⟩) λY=>
   aA (zP e Y) λk1 Us=>dG Us λL k2 k3 k4 Ut=>aw Ut λo k5 k6=>
   ⟨k1,L,k2,.inl k3,.inl k4,.inr ⟨λy=>absurd (b9 k5) (Nat.not_lt.mpr (u L y)),o,r _ _ k5,k6⟩⟩⟩},u,λx c D=>.inr ⟨x,D⟩,r,hsz,F⟩
theorem gK.val{G h f a d}(r:gK W G h f a)(e:a.val?=some d):Rep W G h (ES f) d:=by
 induction a with
 | next=>obtain rfl:=r.inv;obtain rfl:=aM e;exact .none
 | ret=>refine aw r.inv λv b r=>?_;obtain rfl:=b;obtain rfl:=aM e;exact r
 | _=>exact aY e
theorem ba.Ti{a:aq}{D:gc}{i:List bZ}{h:gu}{m:MS}(J:BX W a D i h)(P:lh W n D i m):ba W (n+1) a (bO h m):=λ{A G s σ T S r} E st Q fo e=>
 ob e λbs w e=>ob e λp K e=>ob e λd O e=>sj e (Nu J E st Q fo w λN M ak H o j X=>
  bD (P E.deeper X.st X.F (λb x y=>absurd (j.inv.b0 b y).2.1 (Nat.not_lt.mpr (X.ge b x))) st.inv.b8 X.cM K) λf I B=>eQ B λg R q k v=>
   have L:=sC (fr:=G.fr) (ou:=G.ou) k (λb x=>.inl x) st.inv.b8
   have t:∀{b},M b->b<ak.heap.objs.size->False:=λy l=>absurd l (Nat.not_lt.mpr (X.ge _ y))
   ⟨_,rfl,{g with fr:=G.fr,ou:=G.ou},o.trans (qy (jx:=bf) (M:=M) (xl:={g with fr:=λb=>G.fr b∨M b}) X.ge X.keep X.size
     (λa l=>⟨λC=>aA C λx y=>⟨x.resolve_right λz=>t z l,y.resolve_right λz=>t (z▸X.F.jf) l⟩,λu=>aA u λx y=>⟨.inl x,.inl y⟩⟩) rfl (q.weaken λc x=>.inr x)),L.1,(v.keep L.2).val O⟩)
theorem ba.QI{a:aq}{o:bu}{c:gc}{e:List bZ}{d:gu}{m:MS}(w:W.Ok)(t:W.K.lookup a=some o)(u:o.data=.func c)(hb:c.body=.stmts e)
 (k:codeIn W.K c.code c.qualname=true) (f:c.closure= []) (q:c.globals=kW) (i:c.builtins=j4)
 (p:∀x,(x,iw)∉c.scope.names) (l:c.scope.isCoroutine=false) (g:c.scope.isGenerator=false) (v:c.scope.kind=.function)
 (h:b6 W c d) (j:∀r bs,d r=some bs->∀b∈bs,lI c.scope b.1=true) (s:lh W n c e m):ba W (n+1) a (bO d m):=
 ba.Ti ⟨w,⟨o,t,u⟩,hb,k,f,q,i,p,l,g,v,h,j⟩ s
end
end
section
section
variable {W:Wd} {n:Nat}
def rp(W:Wd)(G:Gh)(h:aN)(G':Gh)(h':aN):Prop:=∀a o,h.get? a=some o->bJ W G a->bJ W G' a/\h'.get? a=some o
theorem band{a b:Bool}(h:(a && b)=true):a=true/\b=true:=jo _ _▸h
theorem Rep.u_{G h G' h'}(S:rp W G h G' h'){v d}(r:Rep W G h v d):∀k,noRef k d=true->Rep W G' h' v d:=by
 have o:∀{P:Prop} {d:D} (k:Nat),noRef k d=true->(∀j,noRef (j+1) d=true->P)->P:=λk e f=>match k,e with
  | 0,e=>nomatch e
  | k+1,e=>f k e
 exact Rep.rec (motive_1:=λv d g=>∀k,noRef k d=true->Rep W G' h' v d) (motive_2:=λA q g=>∀k,q.all (noRef k)=true->aQ W G' h' A q) (motive_3:=λA q g=>∀k,(q.all λp=>noRef k p.2)=true->bC W G' h' A q) (motive_4:=λA q g=>∀k,(q.all λp=>noRef k p.2)=true->fu W G' h' A q)
  (λg g=>.none) (λb g g=>.bool b) (λi t g g=>.int i t) (λs t a b g g=>.str s t a b)
  (λz f e c u w g r k m=>o k m λj m=>.list z (S _ _ e f).1 (S _ _ e f).2 c u w (r j m)) (λz f e c u w g r k m=>o k m λj m=>.tup z (S _ _ e f).1 (S _ _ e f).2 c u w (r j m))
  (λz f ns e g r k m=>o k m λj m=>.dict z (uI S f e).1 ns (uI S f e).2 (r j m)) (λe k m=>o k m λj m=>nomatch m) (λn g g=>.typ n)
  (λf e c u w l g x B r k m=>o k m λj m=>.lam (S _ _ e f).1 (S _ _ e f).2 c u w l (r j m) (uF S x B).1 (uF S x B).2)
  (λg g=>.nil) (λg g r y k m=>.cons (r k (band m).1) (y k (band m).2)) (λg g=>.nil) (λa b g g r y k m=>.cons a b (r k (band m).1) (y k (band m).2))
  (λg g=>.nil) (λf e d g g r y k m=>.cons (S _ _ e f).1 (S _ _ e f).2 d (r k (band m).1) (y k (band m).2)) r
theorem E2{G h G' h'}{f:D->Option D}(H:∀{v d j},Rep W G h v d->f d=some j->Rep W G' h' v j){i c b}(r:aQ W G h i c):uT f c=some b->aQ W G' h' i b/\b.length=c.length:=
 r.ind (motive:=λi c=>∀b,uT f c=some b->aQ W G' h' i b/\b.length=c.length) (λa e=>sj e ⟨.nil,rfl⟩)
  (λr a k a e=>ob e λx l e=>ob e λxs g e=>sj e ⟨.cons (H r l) (k _ g).1,congrArg (· +1) (k _ g).2⟩) b
theorem E3{G h G' h'}{f:D->Option D}(H:∀{v d j},Rep W G h v d->f d=some j->Rep W G' h' v j){i c b}(r:bC W G h i c):sd f c=some b->bC W G' h' i b/\b.length=c.length:=
 r.ind (motive:=λi c=>∀b,sd f c=some b->bC W G' h' i b/\b.length=c.length) (λa e=>sj e ⟨.nil,rfl⟩)
  (λm n r a k a e=>ob e λx l e=>ob e λxs g e=>sj e ⟨.cons m n (H r l) (k _ g).1,congrArg (· +1) (k _ g).2⟩) b
theorem O6{G G':Gh}{h:aN}{σ:MH}(C:Cells W G' h σ)(S:rp W G' h G h)(own:∀a o,G'.own a->h.get? a=some o->bJ W G a)(k:Nat):
 ∀{v d g},Rep W G' h v d->bq σ k d=some g->Rep W G h v g:=by
 induction k with
 | zero=>exact λf e=>aY e
 | succ k H=>
  intro v d g r e
  have e:(match d.fP with| some i=>(σ.cell i).bind λc=>aI (bq σ k) c| none=>if noRef (k+1) d=true then some d else none)=some g:=e
  induction q:d.fP with
  | some i=>
   rw [q] at e
   refine ob e λc D e=>r.HC (motive:=λv f=>Rep W G h v g) q λa p=>?_
   refine aA (C.at_ _ _ D) λl s=>?_;refine aw s λb hb x=>?_
   obtain rfl:=aM (p.symm.trans hb)
   induction c with
   | list xs=>
    refine aA x λz t=>?_;refine jU t λo J m w c dd A n=>?_
    exact ob e λI j e=>sj e (.list (by exact aa ((E2 H n j).2 ..)<|z) (own _ _ ⟨i,l rfl,.inl p⟩ w) w c dd.1 A (E2 H n j).1)
   | dict E=>
    refine bP x λz ns u=>?_;refine aw u λy hD n=>?_
    exact ob e λI j e=>sj e (.dict (by exact aa ((E3 H n j).2 ..)<|z) (pj hD λf f f B f=>own _ _ ⟨i,l rfl,.inl p⟩ B) ns hD (E3 H n j).1)
   | _=>exact aY e
  | none=>rw [q] at e;exact og e λF e=>sj e (r.u_ S _ F)
theorem aQ.u_{G h G' h'}(S:rp W G h G' h'){d c}(r:aQ W G h d c)(k:Nat):c.all (noRef k)=true->aQ W G' h' d c:=r.ind (motive:=λd c=>c.all (noRef k)=true->aQ W G' h' d c) (λb=>.nil) λa b f e=>.cons (a.u_ S k (band e).1) (f (band e).2)
noncomputable def Gh.oP (G:Gh):Gh:={g:=λa=>none,d:=λa=>none,fr:=λb=>G.fr b∨G.own b,c0:=λa=>True,ou:=λb=>G.ou b/\G.fr b}
theorem zB{G:Gh}:∀b,¬G.oP.own b:=λa c=>aw c λa a x=>x.elim aY aY
theorem Fn{G:Gh}{h:aN}:rp W G h G.oP h:=λb a e f=>⟨⟨zB b,λx=>x.elim f.2.1 f.1,f.2.2⟩,e⟩
section
variable {G:Gh} {s:ai} {σ:MH} (st:St W G s σ)
include st
theorem PQ:St W G.oP s MH.nil:=
 ⟨⟨st.inv.keep,st.inv.size,st.inv.gens,st.inv.os,λb x=>(zB b x).elim,λb x=>x.elim (st.inv.b0 b) λx=>(st.inv.cn b x).imp id (nJ id And.right),λa a a a a=>aY,λa a a a a=>aY,λa a a a a=>aY,
    st.inv.tab.keep Fn λa e=>e,st.inv.eO,st.inv.hJ,λa x=>.inl x.2⟩,⟨λa a=>aY,λa a=>⟨rfl,rfl,trivial⟩⟩⟩
theorem PO{G':Gh}{k:ai}{ab:MH}(S:Step W bf G.oP s.heap G' k.heap)(h:St W G' k ab){v d t}(r:Rep W G' k.heap v d)(e:bq ab 5 d=some t):Out W G s σ t v k:=by
 have m:∀b,¬G'.fr b->¬G.fr b/\¬G.own b:=λb x=>by rw [S.fr] at x;exact⟨λy=>x (.inl y),λy=>x (.inr y)⟩
 have j:∀b o,s.heap.get? b=some o->b≠W.tab->(G.fr b->¬G.ou b)->k.heap.get? b=some o:=λb o e p l=>S.keep b o e (zB b) (λx=>x) p λg y=>l y.2 y.1
 have n:∀b,G.own b->b≠W.tab/\(G.fr b->¬G.ou b):=λb x=>⟨(st.inv.cn b x).2.2.2,λy=>absurd y (st.inv.cn b x).2.2.1⟩
 have kn:rp W G' k.heap G k.heap:=λb o e f=>⟨⟨(m b f.2.1).2,(m b f.2.1).1,f.2.2⟩,e⟩
 have q:Step W bf G s.heap G k.heap:=⟨λg g e=>e,λg g e=>e,rfl,λg x=>x,λg x=>.inl x,λb o e g g p=>j b o e p,S.size,rfl,λb o e x y w=>S.ig b o e (.inl x) ⟨y,x⟩ w⟩
 exact⟨G,q,⟨⟨λb o e=>h.inv.keep b o e,h.inv.size,h.inv.gens,h.inv.os,λb x=>(st.inv.cn b x).imp id (eH λy=>a9 y S.size),λb x=>(st.inv.b0 b x).imp id (eH λy=>a9 y S.size),st.inv.gR,st.inv.g7,st.inv.gd,h.inv.tab.keep kn λg e=>e,h.inv.eO,h.inv.hJ,st.inv.b8⟩,
  ⟨λi c u=>have x:=st.cells.at_ i c u;⟨x.1,x.2.imp λa y=>⟨y.1,y.2.oZ (q.ea λg x=>x.elim) (λl o e=>j _ _ e (n _ ⟨i,x.1 l,.inl y.1⟩).1 (n _ ⟨i,x.1 l,.inl y.1⟩).2) λl z o hb e=>j _ _ e (n _ ⟨i,x.1 l,.inr hb⟩).1 (n _ ⟨i,x.1 l,.inr hb⟩).2⟩⟩,st.cells.free⟩⟩,
  O6 h.cells kn (λb o x e=>have y:=m b (h.inv.cn b x).2.2.1;⟨y.2,y.1,(h.inv.cn b x).2.2.2⟩) 5 r e⟩
end
theorem Fo.oP{A:aO}{G:Gh}{h:aN}(F:Fo A G h):Fo A G.oP h:=
 aw F λfs e k=>
 ⟨fs,e,λx c=>aA (k x c) λd a=>dG a λL f b g i=>⟨d,L,f,.inl b,⟨g,b⟩,i⟩⟩
theorem ba.hide{a F}(g:ba W n a F):ba W n a (fO F):=λ{A G s σ q l r} j st k fo e=>
 ob e λd b e=>og b λh b=>ob b λp b f=>sj e (g6 (g j (PQ st) (k.u_ Fn 6 h) fo.oP b) λx m o=>o.imp λv=>fE λ⟨G',S,c,i⟩=>PO st S c i f)
theorem ba.le{a F m}(b:ba W n a F)(h:n<=m):ba W m a F:=λc=>b (c.le h)
end
end
section
section
variable {W:Wd} {n:Nat} {si:SI}
def fF(W:Wd)(n:Nat)(si:SI)(e:List ay)(g:MA):Prop:=
 ∀{A b M G s ρ σ r} {c:bc} {t:List af->ai->Prop},br n A->St W G s σ->aT W A G s.heap si b M ρ->g ρ σ=some r->
   (∀{a ak d},Step W bf G s.heap a ak.heap->St W a ak r.2->aT W A a ak.heap si b M ρ->aQ W a ak.heap d r.1->t d ak)->
   ar W.M A (wx (fZ c (bB e b))) t aF s
theorem fF.of{a b}(h:dN W n si a b):fF W n si a (aG b):=h
@[elab_as_elim] theorem yl{G s σ v d xs}{motive:af->Prop}(st:St W G s σ)(r:Rep W G s.heap v d)(h:gP σ d=some xs)
   (k:∀{a o i m T},s.heap.get? a=some o->o.cls=.type T->(T= "list" ∨T= "tuple")->o.data=.seq i m->aQ W G s.heap i.toList xs->xs.length<=aP->motive (.ref a)):motive v:=by
  delta gP at h
  split at h
  .rename_i j
   obtain rfl:=aM h
   exact r.jm (motive:=λv _=>motive v) j λz f e c dd b g=>k e c (.inr rfl) b g z
  .exact oh st r h λe c _ b g z=>k e c (.inl rfl) b g z
theorem Ms{A G s σ v d xs}{t:List af->ai->Prop}(st:St W G s σ)(r:Rep W G s.heap v d)(h:gP σ d=some xs)
 (K:∀{ak g},Step W bf G s.heap G ak.heap->St W G ak σ->aQ W G ak.heap g xs->t g ak):StarOf W.M A aF v t s:=
 yl st r h λ{a o g m T} e c i l j z=>by
  have b:s.TypeIs (.ref a) T:=⟨o,e,c⟩
  have k:ar W.M A (yZ (.ref a)) t aF s:=by
   refine iT (WI a i e c l (λh' n p=>?_) (size_le j z))
   refine aA (st.grow (s':={s with heap:=h'}) n p) λf S=>?_
   exact K S f (j.go S)
  delta StarOf GZ
  rcases i with rfl| rfl
  .exact ah (qP b PySem.F.slot_list_iter.lookup (aD ⟨rfl,k⟩))
  .exact ah (qP b PySem.F.slot_tuple_iter.lookup (aD ⟨rfl,k⟩))
theorem fF.Vp{e k p m s}(y:Ev W n si e m)(l:Ev W n si k s)(z:∀f,bB [e,.Starred k p] f= [(false,aU e f),(true,aU k f)]):fF W n si [e,.Starred k p] (r7 m s):=λ{a _ _ _ _ _ _ _ _ _} t st F h K=>
 ob h λp v h=>ob h λq w h=>ob h λB x h=>by
  obtain rfl:=aM h
  exact l8 (bR y t st F v λS o u r=>items_star (bR l t o u w λd c i j=>Ms c j x λb g A=>
   qM (by exact aa (hW ..)<|K ((S.trans d).trans b) g (i.go c.inv b) (.cons ((r.go d).go b) A)))) (z _)
theorem oI{A:aO}{a:bg}{g:List ay}{s:ai}(h:∀a,(bB g a).head?.any (·.1)=false){c:bc}{f:af}{t:Args->ai->Prop}(e:ar W.M A (wx (fZ c (bB g a))) (λj i=>t ⟨j,[]⟩ i) aF s):ar W.M A (p7 f true (fZ c (bB g a)) []) t aF s:=by
 have d:(fZ c (bB g a)).head?.any (·.1)=false:=by
  have:=h a
  delta fZ
  induction k:bB g a with
  | nil=>rfl
  | cons x r=>rw [k] at this;exact this
 generalize fZ c (bB g a)=l at d e
 induction l with
 | nil=>
  delta p7
  show ar W.M A (wx []>>=_) _ _ s
  exact ah (bD e λj i h'=>ah (aD (bz (ah (aD (ah (aD (aD h'))))))))
 | cons x r=>
  obtain⟨b,x⟩:=x
  obtain rfl:b=false:=d
  exact evalArgs_plain e
theorem zh{c g}(h:fF W n si c g)(d:∀b,(bB c b).head?.any (·.1)=false){A b M G s ρ σ r}{i:bc}{f:af}{t:Args->ai->Prop}(k:br n A)(st:St W G s σ)(F:aT W A G s.heap si b M ρ)(e:g ρ σ=some r)
 (K:∀{a ak j},Step W bf G s.heap a ak.heap->St W a ak r.2->aT W A a ak.heap si b M ρ->aQ W a ak.heap j r.1->t ⟨j,[]⟩ ak):
 ar W.M A (p7 f true (fZ i (bB c b)) []) t aF s:=oI d (h k st F e K)
theorem Np{A s}{a:aq}{o:bu}{e:gc}{c:bc}{first:List af}{args:List (Bool×bY af)}{Q:af->ai->Prop}(i:W.Ok)(g:W.K.lookup a=some o)(f:o.data=.func e)
 (h:ar W.M A (p7 (.ref a) true args []) (λx ak=>(∃G σ,St W G ak σ)/\ar W.M A (bM (.ref a) (first++x.pos) x.kw) Q aF ak) aF s):
 ar W.M A (i5 c (.ref a) first args []) Q aF s:=
 Nq (bD h λb b=>eH λd=>ew d λb b st=>⟨st.inv.keep _ _ (i.gn _ _ g),f⟩)
theorem p5{A G s σ vs ds r}{a:aq}{F:FM}(c:ba W n a F)(f:br n A)(st:St W G s σ)(g:aQ W G s.heap vs ds)(fo:Fo A G s.heap)(e:F ds σ=some r):
 ar W.M A (bM (.ref a) vs []) (Out W G s r.2 r.1) aF s:=
 jT (g6 (c f st g fo e) λx i b=>aw b λv d h=>by subst d;exact h)
theorem jB(id:aj)(p:bc)(args:List ay)(b:bc)(a:bg):aU (.Call (.Name id p) args [] b) a=(do
 i5 b (← aU (.Name id p) a) [] (fZ b (bB args a)) []):=rfl
def QL(W:Wd)(a:aq):Prop:=∃o b,W.K.lookup a=some o/\o.data=.func b
theorem Ev.Nk{x p d i g a F}(j:W.Ok)(u:si.kind x=some .globalImplicit)(hb:(au x==("__debug__" :aj))=false)(t:W.mg (au x)=some (.ref a))(s:QL W a)(q:ba W n a F)
 (h:fF W n si d g) (f:∀c,(bB d c).head?.any (·.1)=false):Ev W n si (.Call (.Name (au x) p) d [] i) (.a8 F g):=λk st Fr e=>
 ob e λp m e=>fc s λo y v r=>by
  exact aa (jB ..)<|wpAny_bind (g8 j st Fr u hb (.inl t) (Np j v r (zh h f k st Fr m λS b l w=>⟨⟨_,_,b⟩,gG S (p5 q k b w l.ku e)⟩)))
end
end
section
section
variable {W:Wd} {n:Nat} {si:SI}
def JT(kn:Prop)(a:gw->Prop):gw->Prop
 | .next=>kn
 | .cont=>kn
 | .brk=>a .next
 | .ret v=>a (.ret v)
theorem Gg{G h f}{q r:Fl×aC×MH}{i:aC->MH->Option (Fl×aC×MH)}{b:Prop}(c:gw->Prop)(x:gK W G h f q.1)(e:vz q i=some r)
 (kn:i q.2.1 q.2.2=some r->b) (j:∀g,r.2=q.2->gK W G h g r.1->c g):JT b c f:=by
 obtain⟨k,q⟩:=q
 induction k with
 | next=>obtain rfl:=x.inv;exact kn e
 | cont=>obtain rfl:=x.inv;exact kn e
 | brk=>obtain rfl:=x.inv;obtain rfl:=aM e;exact j .next rfl trivial
 | ret d=>refine aw x.inv λv a x=>?_;obtain rfl:=a;obtain rfl:=aM e;exact j (.ret v) rfl x
def La(W:Wd)(tg:ay)(it:af)(own:aq->Prop)(G:Gh)(σ:MH)(I:Gh->aN->Nat->Prop)(j:Nat)(x:Option D)(r:Option af)(c:ai):Prop:=
 match x,r with
 | none,none=>True
 | some d,some v=>∀{A},ar W.M A (zV tg it v) (λa b=>Step W own G c.heap G b.heap/\St W G b σ/\I G b.heap (j+1)/\Rep W G b.heap v d) aF c
 | _,_=>False
def Lj(W:Wd)(tg:ay)(it:af)(own:aq->Prop)(G:Gh)(s:ai)(σ:MH)(I:Gh->aN->Nat->Prop)(j:Nat)(x:Option D)(r:Option af)(a:ai):Prop:=
 Step W own G s.heap G a.heap/\St W G a σ/\La W tg it own G σ I j x r a
structure hV(W:Wd)(tg:ay)(it:af)(I:Gh->aN->Nat->Prop)(own:aq->Prop)(at_:dR):Prop where
 next:∀{A G s σ j x},br 0 A->St W G s σ->(∀a,own a->G.fr a)->I G s.heap j->at_ σ j=some x->
  ar W.M A (f7 it) (Lj W tg it own G s σ I j x) aF s
 self:∀{A G s j} {Q:af->ai->Prop},I G s.heap j->Q it s->ar W.M A (ik it) Q aF s
 shift:∀{G h G' h' j},I G h j->cH W G h G' h'->(∀a o,own a->h.get? a=some o->h'.get? a=some o)->I G' h' j
theorem hV.keep{tg:ay}{it:af}{I:Gh->aN->Nat->Prop}{own:aq->Prop}{at_:dR}(h:hV W tg it I own at_){M:aq->Prop}{G:Gh}{s:ai}{σ:MH}{G':Gh}{h':aN}{j:Nat}(st:St W G s σ)(d:I G s.heap j)
 (S:Step W M G s.heap G' h') (f:∀a,M a->G.fr a) (g:∀a,M a->¬own a) (c:∀a,own a->G.fr a/\¬G.ou a):I G' h' j:=
 h.shift d (S.ea f) λa o x e=>S.keep a o e (st.inv.dJ a (c a x).1).1 (λy=>g a y x) (st.inv.dJ a (c a x).1).2 λb=>(c a x).2
def nV(W:Wd)(tg:ay)(d:Gh)(ak:ai)(e:dR)(it:af)(c:ai):Prop:=
 ∃(own:aq->Prop) (I:Gh->aN->Nat->Prop),hV W tg it I own e/\(∀a,own a->ak.heap.objs.size<=a/\a<c.heap.objs.size)/\(∀b o,ak.heap.get? b=some o->c.heap.get? b=some o)/\
   ak.heap.objs.size<=c.heap.objs.size/\c.gens=ak.gens/\c.os=ak.os/\(cH W d ak.heap {d with fr:=λa=>d.fr a∨own a} c.heap->I {d with fr:=λa=>d.fr a∨own a} c.heap 0)
def CN(W:Wd)(tg:ay)(G:Gh)(s:ai)(ab:MH)(d:dR)(it:af)(c:ai):Prop:=∃a b,Step W bf G s.heap a b.heap/\St W a b ab/\nV W tg a b d it c
def du(W:Wd)(n:Nat)(si:SI)(tg e:ay)(b:MI):Prop:=
 ∀{A a M G s ρ σ r},br n A->St W G s σ->aT W A G s.heap si a M ρ->b ρ σ=some r->
   ar W.M A (aU e a) (λx ak=>ar W.M A (ik x) (CN W tg G s r.2.2 r.1) aF ak) aF s
theorem itR{tg:ay}{A:aO}{G b:Gh}{s c ak:ai}{ab:MH}{d:dR}{x:af}(S:Step W bf G s.heap b c.heap)(st:St W b c ab)(h:ar W.M A (ik x) (nV W tg b c d) aF ak):
 ar W.M A (ik x) (CN W tg G s ab d) aF ak:=bD h λa a e=>⟨b,c,S,st,e⟩
theorem aT.to{A:aO}{G G':Gh}{h h' f M ρ}(F:aT W A G h si f M ρ)(K:cH W G h G' h')(j:∀a,G'.own a->G.own a)(i:∀a,M a->G'.fr a)(k:∀a,G.fr a->G.ou a->G'.fr a/\G'.ou a)(hk:∀b o,h.get? b=some o->h'.get? b=some o)(g:∀c,c<h.objs.size->G'.fr c->G.fr c)(l:∀a,G.fr a->¬G.own a/\a≠W.tab):aT W A G' h' si f M ρ:=
 F.move i k (λd d r=>r.keep K) (λa o e n d d=>⟨⟨o.slots,hk a o e⟩,λx=>n (j a x),λn x=>n (g a (b9 e) x)⟩) l
theorem aT.own{A:aO}{G h f M ρ own h'}(F:aT W A G h si f M ρ)(S:Step W own G h G h')(d:∀a,own a->G.fr a/\¬G.ou a)(l:∀a,G.fr a->¬G.own a/\a≠W.tab)(j:∀a,M a->¬own a)
 (i:∀k c,f.cells.lookup k=some c->¬own c):aT W A G h' si f M ρ:=
 F.move F.dg (λb x y=>⟨x,y⟩) (λb b r=>r.step S λa x=>(d a x).1)
  (λa o e n t x=>⟨S.dat e n (x.elim (λq=>q▸j _ F.jf) λx=>x.elim (λy z=>(d a z).2 y) λg=>aL g λk q=>i k a q) t,n,λn=>n⟩) l
theorem aF.any{α:Type}{A:aO}{s:ai}{t:bY α}{Q:α->ai->Prop}{E:af->ai->Prop}(h:ar W.M A t Q aF s):ar W.M A t Q E s:=gW h (λa a x=>x) λa a x=>x.elim
structure CB(W:Wd)(A:aO)(si:SI)(env:bg)(M own:aq->Prop)(I:Gh->aN->Nat->Prop)(P:Gh->ai->Prop)(j:Nat)(ρ:aC)(σ:MH)(G:Gh)(s:ai):Prop where
 st:St W G s σ
 F:aT W A G s.heap si env M ρ
 P:P G s
 I:I G s.heap j
 own:∀a,own a->G.fr a/\¬G.ou a
structure Ja(W:Wd)(A:aO)(si:SI)(env:bg)(M own:aq->Prop)(P:Gh->ai->Prop)(G:Gh)(s:ai)(r:Fl×aC×MH)(f:gw)(s':ai)(G':Gh)(M':aq->Prop):Prop where
 S:Step W M' G s.heap G' s'.heap
 Mf:∀a,M' a->G.fr a/\¬own a
 P:P G' s'
 st:St W G' s' r.2.2
 F:aT W A G' s'.heap si env M r.2.1
 r:gK W G' s'.heap f r.1
structure K1(W:Wd)(n:Nat)(si:SI)(env:bg)(A:aO)(tg:ay)(it:af)(I:Gh->aN->Nat->Prop)(M own:aq->Prop)(at_:dR)(P:Gh->ai->Prop):Prop where
 ok:hV W tg it I own at_
 rm:br n A
 Mo:∀a,M a->¬own a
 co:∀k c,env.cells.lookup k=some c->¬own c
 hP:∀{G s σ G' s'},P G s->St W G s σ->Step W (λa=>M a∨own a) G s.heap G' s'.heap->P G' s'
theorem RK{tg:ay}{it:af}{I:Gh->aN->Nat->Prop}{own M:aq->Prop}{R:dR}{P:Gh->ai->Prop}{i:bg}{A:aO}{mt:MT}{mb:MS}{O:List bZ}{Q:gw->ai->Prop}{r:Fl×aC×MH}{f:Nat}{ρ σ G s}
 (C:K1 W n si i A tg it I M own R P) (ht:Et W n si tg mt)
 (hb:∀{G s ρ σ r},St W G s σ->aT W A G s.heap si i M ρ->P G s->(∀a,own a->G.fr a)->mb ρ σ=some r->ar W.M A (ja O i) (λf u=>∃G' M',Ja W A si i M own P G s r f u G' M') aF s)
 (fin:∀{G' u} z,P G' u->St W G' u r.2.2->aT W A G' u.heap si i M r.2.1->gK W G' u.heap z r.1->Q z u)
 (h:mQ R mt mb f 0 ρ σ=some r) (L:CB W A si i M own I P 0 ρ σ G s):eU W.M A (.forLoop tg it O [] i) (λr u=>∃z,r=.ok z/\Q z u) s:=by
 refine codeAny_forLoop_any (λk u=>∃j o aW G',mQ R mt mb k j o aW=some r/\CB W A si i M own I P j o aW G' u) ?_ f ⟨0,ρ,σ,_,h,L⟩
 rintro k u ⟨j,o,aW,G',c,L⟩
 induction k with
 | zero=>exact aY c
 | succ k=>
  refine ob c λx zv c=>aF.any (bD (C.ok.next (C.rm.le (fW _)) L.st (λa x=>(L.own a x).1) L.I zv) λy eZ jj=>bP jj λK l nr=>?_)
  have D:=L.F.own K L.own L.st.inv.dJ C.Mo C.co
  have J:=C.hP L.P L.st (K.weaken λb x=>.inr x)
  induction x with
  | none=>
   induction y with
   | none=>obtain rfl:=aM c;exact wK ⟨_,rfl,fin .next J l D trivial⟩
   | some v=>exact nr.elim
  | some d=>
   induction y with
   | none=>exact nr.elim
   | some v=>
    refine ob c λp et c=>ob c λq em c=>aF.any (bD nr λb kr kp=>eP kp λN m V AZ=>?_)
    have E:=D.own N L.own l.inv.dJ C.Mo C.co
    refine aF.any (kA (ht C.rm m E AZ et) λks H t w T=>?_)
    have g:∀a,own a->H.fr a/\¬H.ou a:=λa x=>by exact aa (t.fr ..)<|aa (t.ou ..)<|L.own a x
    have Y:=C.hP (C.hP J l (N.weaken λb x=>.inr x)) m (t.weaken λb x=>.inl x)
    have X:=C.ok.keep m V t E.dg C.Mo L.own
    exact aF.any (bD (hb w T Y (λa x=>(g a x).1) em) λX9 tw jk=>ew jk λU M' B=>Gg (λz=>∃Z,(Jv z:hZ)=.ok Z/\Q Z tw) B.r c
     (λc=>⟨k,cw _,j+1,q.2.1,q.2.2,U,c,B.st,B.F,B.P,C.ok.keep w X B.S (λa x=>(B.Mf a x).1) (λa x=>(B.Mf a x).2) g,λa x=>by exact aa (B.S.fr ..)<|aa (B.S.ou ..)<|g a x⟩)
     λz e x=>⟨z,rfl,fin z B.P (by exact aa (e ..)<|B.st) (by exact aa (e ..)<|B.F) x⟩)
structure K2(W:Wd)(A:aO)(si:SI)(env:bg)(M own:aq->Prop)(fq:Gh)(ak:ai)(ρ:aC)(σ:MH)(b3:ai):Prop where
 st:St W {fq with fr:=λa=>fq.fr a∨own a} b3 σ
 F:aT W A {fq with fr:=λa=>fq.fr a∨own a} b3.heap si env M ρ
 Mo:∀a,M a->¬own a
 co:∀k c,env.cells.lookup k=some c->¬own c
 ge:∀a,own a->ak.heap.objs.size<=a
 keep:∀b o,ak.heap.get? b=some o->b3.heap.get? b=some o
 size:ak.heap.objs.size<=b3.heap.objs.size
 K:cH W fq ak.heap {fq with fr:=λa=>fq.fr a∨own a} b3.heap
 no:∀a,own a->¬fq.ou a
theorem Gi{A:aO}{tg:ay}{f:Gh}{ak l:ai}{o:dR}{it:af}{p M ρ σ}{P:Prop}(z:nV W tg f ak o it l)(e:St W f ak σ)(h:aT W A f ak.heap si p M ρ)
 (K:∀own I,hV W tg it I own o->I {f with fr:=λa=>f.fr a∨own a} l.heap 0->K2 W A si p M own f ak ρ σ l->P):P:=by
 refine BC z λown I B n g hsz t w r=>?_
 refine aA (jE e n g hsz t w) λm j=>?_
 exact K own I B (r j) ⟨m,h.to j (λd x=>x) (λa x=>.inl (h.dg a x)) (λd x y=>⟨.inl x,y⟩) g (λc s y=>y.elim id λy=>absurd s (Nat.not_lt.mpr (n c y).1)) e.inv.dJ,
  λa x y=>absurd (e.inv.b0 a (h.dg a x)).2.1 (Nat.not_lt.mpr (n a y).1),λk c u y=>bP (h.cells k c u) λd d q=>aL q λv i=>absurd i.lt (Nat.not_lt.mpr (n c y).1),λb x=>(n b x).1,g,hsz,j,λa x y=>absurd (e.inv.b0 a (e.inv.b8 a y)).2.1 (Nat.not_lt.mpr (n a x).1)⟩
theorem Ex.cD{t i body z mi mt mb}(N:du W n si t i mi)(T:Et W n si t mt)(hb:dY W n si body mb)(R:∀j x,ib i j x=pure x):
 Ex W n si (.For t i body [] z) (.cD mi mt mb):=λ{A j M G s ρ σ r} E st F h=>
 ob h λp H h=>wpAny_For (bD (N E st F H) λx b q=>bD q λit u B=>eQ B λl ak g d O=>Gi O d (F.go st.inv g) λown I U K L=>
  g6 (RK (P:=λG' v=>Step W (λa=>M a∨own a) {l with fr:=λa=>l.fr a∨own a} u.heap G' v.heap) (Q:=hY W A si j M G s r)
   ⟨U,E,L.Mo,L.co,λx b S=>x.trans S⟩ T (λ{G s ρ σ r} st F S b e=>wpS (hb E st F e) λf v G' m k w D=>⟨G',M,m,λa x=>⟨F.dg a x,L.Mo a x⟩,S.trans (m.weaken λb x=>.inl x),k,w,D⟩)
   (λ{G' v} J m k w D=>
     have x:=ve (jx:=M) (M:=own) d.inv.b8 L.ge L.keep L.size m k
     ⟨_,g.any.trans x.1,x.2.1,w.to x.2.2 (λb x=>x) (λa x=>(F.go st.inv g).dg a x) (λa b y=>⟨d.inv.b8 a (by exact aa (.symm (m.ou ..))<|y),y⟩) (λb b e=>e) (λc b y=>by exact aa (m.fr ..)<| .inl y) k.inv.dJ,D.keep x.2.2⟩)
   h ⟨L.st,L.F,.refl,K,λa x=>⟨.inr x,L.no a x⟩⟩) λr v C=>aw C λJ e o=>by subst e;exact o) (R j)
end
end
section
noncomputable def Hh:List String:=["enumerate","zip","dict_itemiterator","dict_reverseitemiterator","odict_iterator","itertools.zip_longest","itertools.pairwise"]
theorem Rm{M:lB}{A:aO}{E:af->ai->Prop}{s:ai}{b:ay}{I:aq}{v:af}{o:bu}{T:String}{Q:Unit->ai->Prop}(i:s.heap.get? I=some o)(g:o.cls=.type T)(f:Hh.contains T=false)(h:Q () s):
 ar M A (zV b (.ref I) v) Q E s:=by
 have c:∀a:aq,ar M A (do
  let o ← load I
  match o.cls,o.data with
  | .type n,.fields d=>
   if ["enumerate","zip","dict_itemiterator","dict_reverseitemiterator","odict_iterator","itertools.zip_longest","itertools.pairwise"].contains n && d[0]?==some (gE a) then
    rule "for.unpacks-the-owned-tuple"
    updateField I 0 .none
  | _,_=>pure ():bY Unit) Q E s:=λa=>by
  refine ah (nG i ?_)
  refine aa (g ..) ?_
  generalize o.data=e
  induction e with
  | fields d=>
   have:(["enumerate","zip","dict_itemiterator","dict_reverseitemiterator","odict_iterator","itertools.zip_longest","itertools.pairwise"].contains T)=false:=f
   show ar M A (if (["enumerate","zip","dict_itemiterator","dict_reverseitemiterator","odict_iterator","itertools.zip_longest","itertools.pairwise"].contains T && d[0]?==some (gE a))=true then _ else pure ()) Q E s
   exact aa (this ..)<|aa (Bool.false_and ..)<|wpAny_pure h
  | _=>exact aD h
 induction v with
 | ref a=>cases b<;>first| exact c a| exact aD h
 | _=>cases b<;>exact aD h
section
variable {W:Wd} {n:Nat} {si:SI} {tg:ay}
theorem vZ{G:Gh}{s:ai}{σ}{I:aq}{h':aN}{tk}(st:St W G s σ)(c:G.fr I)(d:ly I s.heap h')(f:s.heap.objs.size<=h'.objs.size):
 Step W (λa=>a=I) G s.heap G h'/\St W G {s with heap:=h',toks:=tk} σ:=
 (st.gp (s':={s with heap:=h',toks:=tk}) (M:=λa=>a=I) (λa e=>e▸c) (λb o nm e=>d b o nm e) f rfl rfl).symm
def Ll(h:aN)(I:aq):Prop:=∃o T,h.get? I=some o/\o.cls=.type T/\Hh.contains T=false
def Turn(W:Wd)(I:aq)(P:Gh->aN->Nat->Prop)(b:dR):Prop:=
 ∀{A G s σ j x} {Q:Option af->ai->Prop},br 0 A->St W G s σ->G.fr I->P G s.heap j->b σ j=some x->
   (x=none->∀h' c,ly I s.heap h'->s.heap.objs.size<=h'.objs.size->Q none {s with heap:=h',toks:=c})->
   (∀d v h' c,x=some d->ly I s.heap h'->s.heap.objs.size<=h'.objs.size->Ll h' I->(Step W (λa=>a=I) G s.heap G h'->P G h' (j+1))->(Step W (λa=>a=I) G s.heap G h'->Rep W G h' v d)->Q (some v) {s with heap:=h',toks:=c})->
   ar W.M A (f7 (.ref I)) Q aF s
theorem hV.turn{I:aq}{P:Gh->aN->Nat->Prop}{c:dR}(T:Turn W I P c)(w:∀{A G s j} {Q:af->ai->Prop},P G s.heap j->Q (.ref I) s->ar W.M A (ik (.ref I)) Q aF s)
 (t:∀{G h G' h' j},P G h j->cH W G h G' h'->(∀o,h.get? I=some o->h'.get? I=some o)->P G' h' j):hV W tg (.ref I) P (λa=>a=I) c where
 next:=λ{A G s σ j x} z st b k g=>T z st (b _ rfl) k g
  (λe h' f i l=>have x:=vZ (tk:=f) st (b _ rfl) i l;⟨x.1,x.2,by subst e;exact trivial⟩)
  λd v h' f e i l m q r=>eQ m λo T p n y=>have x:=vZ (tk:=f) st (b _ rfl) i l;⟨x.1,x.2,by subst e;exact Rm p n y ⟨.refl,x.2,q x.1,r x.1⟩⟩
 self:=w
 shift:=λk K u=>t k K λo=>u I o rfl
theorem QY(I l:aq)(d:D)(J:d.kx=none):hV W tg (.ref I) (λG h j=>h.IsListIter I l j/\Rep W G h (.ref l) d) (λa=>a=I) (fj d):=
 .turn (λ{A G s σ j x Q} O st B w c g f=>aA w λC p=>ob c λxs u c=>by
  unfold gP at u
  rw [J] at u
  obtain rfl:=aM c
  have t:=p
  generalize k:eB l=v at p
  revert k
  refine fL st p u λ{a P} hl F z=>?_
  intro k
  obtain rfl:=jA k
  induction m:xs[j]? with
  | none=>exact iT (WS O.2.2.2 C hl (by exact aa (.symm (jV ..))<|List.getElem?_eq_none (by exact aa (F.length ..)<|List.getElem?_eq_none_iff.mp m)) λh' L N=>g m h' _ L N)
  | some y=>
   refine aw (F.get m) λv k r=>?_
   exact WT C hl (by exact aa (.symm (jV ..))<|k) λh' i E=>f y v h' _ m E.extBut (bN E.1.symm) (bI i λo n H b=>⟨o,_,n,H,by decide⟩) (λS=>⟨i,t.step S λa e=>e▸B⟩) λS=>r.step S λa e=>e▸B)
  (λh q=>wpAny_pyIter_listiter h.1 q) λh K M=>⟨aw h.1 λo n r=>⟨o,M _ n,r⟩,h.2.keep K⟩
theorem iter_tuple(I l:aq)(xs:List D):hV W tg (.ref I) (λG h j=>h.IsTupleIter I l j/\Rep W G h (.ref l) (.tup xs)) (λa=>a=I) (fj (.tup xs)):=
 .turn (λ{A G s σ j x Q} N st u t n g d=>aA t λw B=>by
  obtain rfl:xs[j]?=x:=aM n
  refine qS B.inv λa o O p z f e c dd H E=>?_
  obtain rfl:=jA p
  have hl:s.heap.IsTuple l O:=⟨o,e,c,0,H⟩
  induction k:xs[j]? with
  | none=>exact iT (wpAny_pyNext_tuple_end N.2.2.2 w hl (by exact aa (.symm (jV ..))<|List.getElem?_eq_none (by exact aa (E.length ..)<|List.getElem?_eq_none_iff.mp k)) λh' J M=>g k h' _ J M)
  | some y=>
   refine aw (E.get k) λv p r=>?_
   exact wpAny_pyNext_tuple_item w hl (by exact aa (.symm (jV ..))<|p) λh' i C=>d y v h' _ k C.extBut (bN C.1.symm) (bI i λo m F b=>⟨o,_,m,F,by decide⟩) (λS=>⟨i,B.step S λa e=>e▸u⟩) λS=>r.step S λa e=>e▸u)
  (λh q=>wpAny_pyIter_tupleiter h.1 q) λh K L=>⟨aw h.1 λo m r=>⟨o,L _ m,r⟩,h.2.keep K⟩
inductive AtPlace (W:Wd) (G:Gh) (h:aN):Option (aj×af)->Option (aj×D)->Prop
 | none:AtPlace W G h none none
 | some {k v d}:fJ k=true->k.length<=aP->Rep W G h v d->AtPlace W G h (some (k,v)) (some (k,d))
theorem bC.get{G h b ei}(r:bC W G h b ei):∀(i:Nat),AtPlace W G h b[i]? ei[i]?:=
 r.ind (λi=>.none) λd e r a c i=>match i with| 0=>.some d e r| i+1=>c i
theorem gA{G h G' h' l c g}(S:∀a o,h.get? a=some o->bJ W G a->bJ W G' a/\h'.get? a=some o)(f:bJ W G l)(e:ri (strKind W.prog W.w) h l c g):bJ W G' l/\ri (strKind W.prog W.w) h' l c g:=by
 refine fc (id e) λb b d b=>?_
 exact⟨(S _ _ d f).1,e.at' λb d=>(S _ _ d f).2⟩
theorem FO(I l:aq)(g:List (aj×D))(d:List (aj×af))(F:Nat):
 hV W tg (.ref I) (λG h j=>h.IsKeyIter I l j d.length F/\ri (strKind W.prog W.w) h l d F/\bC W G h d g/\bJ W G l) (λa=>a=I) (keysAt g):=
 .turn (λ{A G s σ j x Q} Y st N C y f c=>eP C λt hD u i=>by
  obtain rfl:=aM y
  have z:=u.get j
  generalize H:d[j]?=p at z
  generalize M:g[j]?=q at z
  rw [M] at f c
  induction z with
  | none=>exact iT (WO Y.2.2.2 t hD H λh' P T=>f rfl h' _ P T)
  | some U V r=>
   refine WQ t hD H λX h' n m J=>?_
   refine aL (LS n) λZ B=>?_;obtain rfl:=B
   have O:∀a,(λa=>a=I) a->G.fr a:=λa e=>e▸N
   exact c _ _ h' _ rfl J.extBut (bN J.1.symm) (bI m λo v L b=>⟨o,_,v,L,by decide⟩) (λS=>have K:=S.ea O;⟨m,(gA K.bq i hD).2,u.keep K,(gA K.bq i hD).1⟩) λS=>.str _ _ U V)
  (λh q=>wpAny_pyIter_keyiter h.1 q) λE k R=>eP E λt hD u i=>⟨aw t λo v r=>⟨o,R _ v,r⟩,(gA k.bq i hD).2,u.keep k,(gA k.bq i hD).1⟩
theorem qr{A:aO}{G:Gh}{s:ai}{o:bu}{I:Gh->aN->Nat->Prop}{d:dR}{t:bY af}(c:o.isFreed=false)
 (h:∀{Q:af->ai->Prop},Q (.ref s.heap.objs.size) {s with heap:=s.heap.push o}->ar W.M A t Q aF s) (i:hV W tg (.ref s.heap.objs.size) I (λa=>a=s.heap.objs.size) d)
 (g:∀{G'},cH W G s.heap G' (s.heap.push o)->(s.heap.push o).get? s.heap.objs.size=some o->I G' (s.heap.push o) 0):ar W.M A t (nV W tg G s d) aF s:=
 have f:(s.heap.push o).objs.size=s.heap.objs.size+1:=c9 ..
 h ⟨_,I,i,λa e=>⟨bN e.symm,by exact aa (e ..)<|Nat.lt_of_lt_of_eq (cw _) f.symm⟩,λb j e=>bH _ e,aE (dD _) (bN f.symm),rfl,rfl,
  λK=>g K (c5 _ c)⟩
theorem UG{A G s σ v d xs}(st:St W G s σ)(r:Rep W G s.heap v d)(h:gP σ d=some xs):ar W.M A (ik v) (nV W tg G s (fj d)) aF s:=by
 unfold gP at h
 split at h
 .rename_i n i
  obtain rfl:=D.IF i
  refine qS r.inv λa o b k z f e c dd m p=>?_;obtain rfl:=k
  exact qr (W:=W) rfl (λq=>wpAny_pyIter_tuple ⟨o,e,c,0,m⟩ q) (iter_tuple _ a n) (λK g=>⟨⟨_,g,rfl,rfl⟩,r.keep K⟩)
 .rename_i i
  have j:∀v,Rep W G s.heap v d->(∃a b,v=.ref a/\s.heap.IsList a b):=λv r=>fL (motive:=λv=>∃a b,v=.ref a/\s.heap.IsList a b) st r h λhl _ _=>⟨_,_,rfl,hl⟩
  refine fc (j v r) λa b l hl=>?_;obtain rfl:=l
  exact qr (W:=W) rfl (λq=>tH hl q) (QY _ a d i) (λK g=>⟨⟨_,g,rfl,rfl⟩,r.keep K⟩)
theorem du.of{e m}(s:Ev W n si e m):du W n si tg e (.of m):=λu st F h=>
 ob h λp k h=>bR s u st F k λ{i ak v} S b _ r=>by
  split at h
  .rename_i d o
   refine sj h (itR S b ?_)
   obtain rfl':=D.Ee o
   rw [rfl'] at r
   refine tJ r.inv λa c g z f ns e w=>?_;obtain rfl:=g
   refine aL e.dictAt λl hD=>?_
   exact qr (W:=W) rfl (λq=>IQ (o6 ns) hD q) (FO _ a d c l) (λK j=>⟨⟨_,j,rfl,rfl⟩,(gA K.bq f hD).2,w.keep K,(gA K.bq f hD).1⟩)
  .exact ob h λxs t h=>sj h (itR S b (UG b r t))
end
end
section
section
variable {W:Wd} {n:Nat} {si:SI} {tg:ay}
noncomputable def isVal:af->Bool| .ref _=>false| _=>true
theorem j7{A:aO}{E:af->ai->Prop}{s:ai}{M:lB}{d:bc}{f:af}{first:List af}{args:List (Bool×bY af)}{Q:af->ai->Prop}(g:isVal f=true)(b:args.any (·.1)=false)
 (h:ar M A (p7 f true args []) (λa ak=>ar M A (bM f (first++a.pos) a.kw) Q E ak) E s):ar M A (i5 d f first args []) Q E s:=by
 unfold i5
 refine ah (bz (bD h λa ak c=>ah (cQ ?_)))
 have i:FT f=pure .machine:=by induction f<;>first| rfl| exact nomatch g
 exact aa (b ..)<|aa (List.any_nil ..)<|aa (Bool.or_false ..)<|aa (i ..)<|wpAny_bind (aD (ah (bD c λr e j=>ah (bz (wpAny_point (aD j))))))
theorem kH{pos:bc}{l:List (Bool×bY af)}(h:l.any (·.1)=false):(fZ pos l).any (·.1)=false:=by
 unfold fZ;exact aa (List.any_map ..)<|h
theorem PC{l:List (Bool×bY af)}(h:l.any (·.1)=false):l.head?.any (·.1)=false:=by
 induction l with
 | nil=>rfl
 | cons x r=>exact(Bool.or_eq_false_iff.mp h).1
structure iv(W:Wd)(si:SI)(x:String)(f:af):Prop where
 hk:si.kind x=some .globalImplicit
 hb:(au x==("__debug__" :aj))=false
 hg:W.mg (au x)=none
 hm:W.mb (au x)=some f
theorem rU{A b M G s ρ σ r}{x:String}{p j:bc}{i:List ay}{g:MA}{f:af}{Q:af->ai->Prop}(o:W.Ok)(B:iv W si x f)(m:isVal f=true)(h:fF W n si i g)(d:∀b,(bB i b).any (·.1)=false)
 (q:br n A) (st:St W G s σ) (F:aT W A G s.heap si b M ρ) (e:g ρ σ=some r) (K:∀{c ak l},Step W bf G s.heap c ak.heap->St W c ak r.2->aQ W c ak.heap l r.1->ar W.M A (bM f l []) Q aF ak):
 ar W.M A (aU (.Call (.Name (au x) p) i [] j) b) Q aF s:=by
 exact aa (jB ..)<|wpAny_bind (g8 o st F B.hk B.hb (.inr ⟨B.hg,B.hm⟩) (j7 m (kH (d _)) (zh h (λb=>PC (d b)) q st F e λS k a t=>K S k t)))
theorem UA(a c:Int)(k j:Nat):(gU a c k)[j]?=if j<k then some (.int (a+(j:Int)*c)) else none:=by
 unfold gU
 refine aa (gg ..) ?_
 by_cases h:j<k
 .exact aa (List.getElem?_range h ..)<|aa (if_pos h ..) rfl
 .exact aa (mn (by rw [hX];lia))<|aa (if_neg h ..) rfl
theorem QZ(I:aq)(a c:Int)(k:Nat):hV W tg (.ref I) (λd h j=>IsRangeIter h I (a+(j:Int)*c) ((k:Int) - j) c) (λb=>b=I) (ie (gU a c k)):=
 .turn (λ{A G s σ j x Q} v st w i l f e=>by
  obtain rfl:=aM l
  rw [UA] at f e
  by_cases m:j<k
  .rw [if_pos m] at e
   refine wpAny_pyNext_range_item i (by lia) λh' g n=>e _ _ h' _ rfl n.extBut (bN n.1.symm) ⟨_,_,g,rfl,by decide⟩ (λd=>?_) λd=>.int _ _
   have o:a+(j:Int)*c+c=a+((j+1:Nat):Int)*c:=by refine aa (Int.natCast_add ..)<|aa (Int.add_mul ..)<|aa (Int.add_assoc ..) ?_;congr 2;exact(Int.one_mul c).symm
   have p:(k:Int) - j - 1=(k:Int) - ((j+1:Nat):Int):=by lia
   rw [o,p] at g
   exact g
  .rw [if_neg m] at f
   exact iT (wpAny_pyNext_range_end v.2.2.2 i (by lia) λh' r u=>f rfl h' _ r u))
  (λi q=>wpAny_pyIter_rangeiter i q) λi d t=>t _ i
theorem Hz(k:Int):pq 0 k 1=(k.toNat:Int):=by
 unfold pq
 refine aa (if_pos (by decide)) ?_
 split
 .refine aa (J8 ..) ?_;lia
 .lia
theorem Hy(k:Int)(h:0<=k):pq k 0 (-1)=(k.toNat:Int):=by
 unfold pq
 refine aa (if_neg (by decide)) ?_
 split
 .refine aa (show -(-1:Int)=1 from rfl)<|aa (J8 ..) ?_;lia
 .lia
theorem H7{a b c:Int}{k:Nat}(e:pq a b c=(k:Int))(h: -(10 ^ 9)<=a/\a<=10 ^ 9)(hb: -(10 ^ 9)<=b/\b<=10 ^ 9)(i: -(10 ^ 9)<=c/\c<=10 ^ 9)(j:k<=aP):BR a b c=true:=by
 have l:aP=1000000:=rfl
 have d:∀{x:Int},-(10 ^ 10)<=x->x<=10 ^ 10->Jk x=true:=λf g=>by
  unfold Jk;refine aa (jo ..)<|aa (decide_eq_true_eq ..)<|aa (decide_eq_true_eq ..) ?_;lia
 unfold BR
 rw [e,d (x:=a) (by lia) (by lia),d (x:=b) (by lia) (by lia),d (x:=c) (by lia) (by lia),d (x:=(k:Int)) (by lia) (by lia),wY,wY,wY,wY,nK]
 refine .inr ?_
 split<;>exact d (by lia) (by lia)
theorem HB{A:aO}{G s r a b c t u v}{k:Nat}(g:IsRange s.heap r a b c t u v)(h:pq a b c=(k:Int))(e:BR a b c=true):
 ar W.M A (ik (.ref r)) (nV W tg G s (ie (gU a c k))) aF s:=by
 refine qr (W:=W) (o:={cls:=.type "range_iterator",data:=.fields #[gE a,gE (pq a b c),gE c]}) rfl (λq=>wpAny_pyIter_range g e q) (QZ _ a c k) (λd f=>?_)
 show(s.heap.push _).get? _=_
 exact aa (f ..)<|aa (h ..)<|aa (Int.natCast_zero ..)<|aa (Int.zero_mul ..)<|aa (Int.add_zero ..)<|aa (Int.sub_zero ..) rfl
theorem du.gT{e p f m}(z:W.Ok)(w:si.kind "range" =some .globalImplicit)(v:W.mg (au "range")=none)(x:W.mb (au "range")=some (.type "range"))(u:Ev W n si e m)
 (j:∀b,bB [e] b= [(false,aU e b)]):du W n si tg (.Call (.Name (au "range") p) [e] [] f) (.gT m):=λ{A b M G s ρ σ r} B st F h=>
 ob h λq l h=>ob h λk d h=>ob h λa c h=>og c λE c=>by
  obtain rfl:=aM c
  obtain rfl:=aM h
  have o:dN W n si [e] [m]:=dN.cons u dN.nil (by intro b;exact aa (j ..) rfl)
  refine rU z ⟨w,by decide,v,x⟩ rfl (fF.of o) (by intro b;exact aa (j ..) rfl) (r:=([q.1],q.2)) B st F (by unfold aG;exact aa (l ..) rfl) λ{i ak H} S g D=>?_
  refine D.d6 λr C=>C.iN ?_
  refine r.gB d λt=>?_
  have y:aP=1000000:=rfl
  exact call_range_1 (itR (S.trans (.push _)) (g.push _).tok (HB (Ke ..) (Hz k) (H7 (Hz k) (by lia) (by lia) (by lia) (by lia))))
theorem du.pd{e p f g i j l v m}(N:W.Ok)(J:si.kind "range" =some .globalImplicit)(I:W.mg (au "range")=none)(K:W.mb (au "range")=some (.type "range"))(H:Ev W n si e m)
 (B:∀c,bB [e,.Constant (.int 0) j f,.UnaryOp .USub (.Constant (.int 1) l g) i] c= [(false,aU e c),(false,aU (.Constant (.int 0) j f) c),(false,aU (.UnaryOp .USub (.Constant (.int 1) l g) i) c)]):
 du W n si tg (.Call (.Name (au "range") p) [e,.Constant (.int 0) j f,.UnaryOp .USub (.Constant (.int 1) l g) i] [] v) (.pd m):=λ{A c M G s ρ σ r} Q st F h=>
 ob h λq D h=>ob h λk u h=>ob h λa o h=>og o λC o=>by
  obtain rfl:=aM o
  obtain rfl:=aM h
  have E:dN W n si [e,.Constant (.int 0) j f,.UnaryOp .USub (.Constant (.int 1) l g) i] [m,.int 0,.ax (gD An) (.int 1)]:=
   dN.cons H (dN.cons Ev.int (dN.cons (Ev.neg Ev.int) dN.nil (by intro c;rfl)) (by intro c;rfl)) (by intro c;exact aa (B ..) rfl)
  refine rU N ⟨J,by decide,I,K⟩ rfl (fF.of E) (by intro c;exact aa (B ..) rfl) (r:=([q.1,.int 0,.int (-1)],q.2)) Q st F (by unfold aG;exact aa (D ..) rfl) λ{z ak T} S y R=>?_
  refine R.d6 λr d=>d.d6 λO d=>d.d6 λP d=>d.iN ?_
  refine r.gB u λt=>?_
  refine aL O.inv λb w=>?_;obtain rfl:=w
  refine aL P.inv λb x=>?_;obtain rfl:=x
  have L:aP=1000000:=rfl
  exact call_range_3 (by decide) (itR (S.trans (.push _)) (y.push _) (HB (Ke ..) (Hy k C.1) (H7 (Hy k C.1) (by lia) (by lia) (by lia) (by lia)))) (.inl (Lu (by decide)))
end
end
section
theorem qK{α:Type}{f:Nat->α}{i:Nat}{a:α}:upd f i a i=a:=if_pos rfl
theorem ec{α:Type}{f:Nat->Option α}{i j:Nat}{a:Option α}{b:α}{P:Prop}(e:upd f i a j=some b)(c:j=i->a=some b->P)(d:j≠i->f j=some b->P):P:=by
 unfold upd at e
 by_cases h:j=i
 .rw [if_pos h] at e;exact c h e
 .rw [if_neg h] at e;exact d h e
theorem k_{α:Type}{f:Nat->α}{i j:Nat}{a:α}(h:j≠i):upd f i a j=f j:=if_neg h
section
variable {W:Wd} {n:Nat} {si:SI}
structure rg(W:Wd)(G:Gh)(s:ai)(ab:MH)(c:Cell)(a:aq)(fq:Gh)(s':ai):Prop where
 ge:s.heap.objs.size<=a
 fr:fq.fr=λb=>G.fr b∨b=a
 S:Step W bf G s.heap {fq with fr:=G.fr} s'.heap
 st:St W fq s' ab
 cr:cg W fq s'.heap a none c
 nf:¬G.fr a
 no:∀b,fq.ou b->G.fr b
def dy(W:Wd)(G:Gh)(s:ai)(r:Cell×MH)(v:af)(s':ai):Prop:=∃b a,v=.ref a/\rg W G s r.2 r.1 a b s'
def bG(W:Wd)(n:Nat)(si:SI)(e:ay)(m:MF):Prop:=
 ∀{A a M G s ρ σ r},br n A->St W G s σ->aT W A G s.heap si a M ρ->m ρ σ=some r->ar W.M A (aU e a) (dy W G s r) aF s
theorem dy.trans{G s b ak r v s'}(S:Step W bf G s.heap b ak.heap)(h:dy W b ak r v s'):dy W G s r v s':=
 h.imp λG'=>dX λa=>fE λx=>⟨aE S.size x.ge,by exact aa (x.fr ..)<|aa (S.fr ..) rfl,by exact aa (.symm (S.fr ..))<|S.trans x.S,x.st,x.cr,by exact aa (.symm (S.fr ..))<|x.nf,by exact aa (.symm (S.fr ..))<|x.no⟩
theorem rg.zm{G s σ c a b d}(x:rg W G s σ c a b d):b.fr a:=by exact aa (x.fr ..)<| .inr rfl
theorem rg.old{G s σ c a d s'}(x:rg W G s σ c a d s'):∀b,G.fr b->d.fr b:=λb y=>by exact aa (x.fr ..)<| .inl y
theorem cg.lT{G h a c G' h'}(x:cg W G h a none c)(S:cH W G h G' h')(d:∀o,h.get? a=some o->h'.get? a=some o):cg W G' h' a none c:=x.keep S d λb b e=>aY e
theorem cg.rep{G h a c d}(r:cg W G h a none c)(f:bJ W G a)(e:uA c=some d):Rep W G h (.ref a) d:=by
 induction c with
 | list xs=>obtain rfl:=aM e;refine aA r λz b=>?_;refine jU b λo p m e k l n r4=>?_;exact .list z f e k l.1 n r4
 | dict j=>obtain rfl:=aM e;refine bP r λz ns g=>?_;refine aw g λi e r=>?_;exact .dict z f ns e r
 | _=>exact aY e
theorem dy.bq{G s r d v s'}(h:dy W G s r v s')(e:uA r.1=some d):Out W G s r.2 d v s':=by
 refine fc h λG' a c x=>?_;obtain rfl:=c
 have y:=kV (fr:=G.fr) x.st x.old x.no
 exact⟨_,x.S,y.1,(x.cr.lT y.2 (λb e=>e)).rep ⟨λz=>(x.st.inv.cn a z).2.2.1 x.zm,x.nf,(x.st.inv.b0 a x.zm).2.2⟩ e⟩
noncomputable def Gh.add (G:Gh) (b:aq->Prop) (i:Nat) (a:aq):Gh:={G with fr:=b,g:=upd G.g i (some a)}
theorem St.alloc{G:Gh}{s:ai}{σ:MH}{fr:aq->Prop}{a:aq}{c:Cell}(st:St W G s σ)(h:∀b,fr b->G.fr b)(r:G.fr a)(M:¬fr a)(t:∀b,G.ou b->fr b)(C:cg W G s.heap a none c):
 St W (G.add fr σ.next a) s (σ.new c)/\cH W G s.heap (G.add fr σ.next a) s.heap:=by
 refine bP (st.cells.free σ.next (bb _)) λE F H=>?_
 have v:¬G.own a:=λx=>(st.inv.cn a x).2.2.1 r
 have own:∀b,(G.add fr σ.next a).own b->G.own b∨b=a:=λb w=>aw w λi l x=>
  x.elim (λx=>ec x (λk e=>.inr (aM e).symm) λk e=>.inl ⟨i,l,.inl e⟩) λx=>.inl ⟨i,l,.inr x⟩
 have A:∀{i b},G.g i=some b->(G.add fr σ.next a).g i=some b:=λ{i b} e=>(k_ (λq=>aY (E.symm.trans (q▸e)))).trans e
 have K:cH W G s.heap (G.add fr σ.next a) s.heap:=⟨λi b e=>A e,λb o e f=>⟨⟨λx=>(own b x).elim f.1 λy=>f.2.1 (y▸r),λx=>f.2.1 (h b x),f.2.2⟩,e⟩⟩
 refine⟨⟨⟨st.inv.keep,st.inv.size,st.inv.gens,st.inv.os,λb x=>?_,λb x=>st.inv.b0 b (h b x),λi j b n p e m=>?_,st.inv.g7,λi j b n p e m=>?_,st.inv.tab.keep K.bq λk e=>e,st.inv.eO,st.inv.hJ,t⟩,⟨λi B e=>?_,λi n=>?_⟩⟩,K⟩
 .exact(own b x).elim (λy=>(st.inv.cn b y).imp id (nJ id (nJ (λu z=>u (h b z)) id))) λq=>by subst q;exact(st.inv.b0 _ r).imp id (nJ id λu=>⟨M,u⟩)
 .exact ec e (λq e=>ec m (λN k=>q.trans N.symm) λk m=>absurd ⟨j,p,.inl (m.trans e.symm)⟩ v) λk e=>ec m (λk m=>absurd ⟨i,n,.inl (e.trans m.symm)⟩ v) λk m=>st.inv.gR i j b n p e m
 .exact ec e (λk e=>v ⟨j,p,.inr (m.trans e.symm)⟩) λk e=>st.inv.gd i j b n p e m
 .refine ec e (λq D=>?_) λk e=>have x:=st.cells.at_ i B e;⟨x.1,x.2.imp λb y=>⟨A y.1,y.2.keep K (λk e=>e) (λk k k e=>e)⟩⟩
  subst q
  obtain rfl:=aM D
  exact⟨λk=>H,a,qK,by exact aa (show(G.add fr σ.next a).d σ.next=none from F)<|C.lT K (λk e=>e)⟩
 .have n:σ.next+1<=i:=n
  refine bP (st.cells.free i (lC n)) λI J L=>?_
  exact⟨(k_ (dc n)).trans I,J,L⟩
theorem dy.new{G s r v s'}(h:dy W G s r v s'):Out W G s (r.2.new r.1) (.ref r.2.next) v s':=by
 refine fc h λG' a f x=>?_;obtain rfl:=f
 have y:=x.st.alloc (fr:=G.fr) x.old x.zm x.nf x.no x.cr
 exact⟨G'.add G.fr r.2.next a,⟨λi b e=>y.2.g _ _ (x.S.g _ _ e),x.S.d,rfl,x.S.c0,λb j=>aw j λi l z=>z.elim (λz=>ec z (λc e=>.inr (aM e▸x.ge)) λc e=>x.S.new b ⟨i,l,.inl e⟩) λz=>x.S.new b ⟨i,l,.inr z⟩,x.S.keep,x.S.size,x.S.ou,x.S.ig⟩,y.1,.ref qK⟩
theorem Ev.d9{e m}(c:bG W n si e m):Ev W n si e (.d9 m):=λd st F h=>ob h λp b h=>sj h (bD (c d st F b) λa a x=>x.new)
theorem Ev.aI{e m}(f:bG W n si e m):Ev W n si e (.aI m):=λg st F h=>ob h λp b h=>ob h λd c h=>sj h (bD (f g st F b) λa a x=>x.bq c)
theorem dy.push{G:Gh}{s:ai}{σ:MH}{c:Cell}{o:bu}{tk}(st:St W G s σ)(a:o.isFreed=false)
 (f:∀G',cH W G s.heap G' (s.heap.push o)->(s.heap.push o).get? s.heap.objs.size=some o->cg W G' (s.heap.push o) s.heap.objs.size none c):
 dy W G s (c,σ) (.ref s.heap.objs.size) {s with heap:=s.heap.push o,toks:=tk}:=
 have d:(s.heap.push o).objs.size=s.heap.objs.size+1:=c9 ..
 have x:=jE (b3:={s with heap:=s.heap.push o,toks:=tk}) (M:=λb=>b=s.heap.objs.size) st (λb e=>⟨bN e.symm,by exact aa (e ..)<|Nat.lt_of_lt_of_eq (cw _) d.symm⟩)
  (λb ob e=>bH _ e) (aE (dD _) (bN d.symm)) rfl rfl
 ⟨{G with fr:=λb=>G.fr b∨b=s.heap.objs.size},_,rfl,bb _,rfl,Step.push o,x.1,f _ x.2 (c5 _ a),st.bq.2.1,st.inv.b8⟩
theorem SO{A G s σ b a}(st:St W G s σ)(r:aQ W G s.heap b a)(c:a.length<=aP):ar W.M A (Ap b) (dy W G s (.list a,σ)) aF s:=by
 refine iS (?_:dy W G s _ _ _) (by show b.toArray.size<=gF;exact aa (rH ..)<|aa (r.length ..)<|Nat.le_trans c f9)
 exact dy.push (tk:=s.toks) st rfl λG' K e=>⟨c,_,_,_,e,rfl,⟨rfl,rfl⟩,rfl,r.keep K⟩
theorem BA{A:aO}{G s b ak r}{t:bY af}(S:Step W bf G s.heap b ak.heap)(h:ar W.M A t (dy W b ak r) aF ak):ar W.M A t (dy W G s r) aF ak:=bD h λa a x=>x.trans S
theorem bG.list{d f b}(h:dN W n si d f):bG W n si (.List d b) (.list f):=λj st F e=>
 ob e λp g e=>og e λi e=>sj e (List_ (h j st F g λS c a k=>BA S (SO c k i)))
end
end
section
section
variable {W:Wd} {n:Nat} {si:SI}
inductive gv (W:Wd) (n:Nat) (si:SI):List ay->List MB->Prop
 | nil:gv W n si [] []
 | cons {e es b bs}:Eb W n si e b->gv W n si es bs->gv W n si (e::es) (b::bs)
noncomputable def nA (a:bg) (b:List ay) (r:Bool):bY Bool:=forIn b r λc r=>if r=true then do let d ← qf c a (aU c a);pure (q_ d) else pure (q_ r)
theorem VO{a:bg}{c:ay}{b:List ay}:nA a (c::b) true=(PySem.isTrue c a (aU c a)>>=λd=>nA a b d):=by
 unfold nA;simp only [rD,if_true,bind_assoc,pure_bind]
theorem VN{a:bg}{c:ay}{b:List ay}:nA a (c::b) false=nA a b false:=by
 unfold nA;simp only [rD,qV,if_false,pure_bind]
theorem VP{b:bg}{A:aO}{E:af->ai->Prop}{s:ai}{Q:Bool->ai->Prop}(h:Q false s)(a:List ay):ar W.M A (nA b a false) Q E s:=by
 induction a with
 | nil=>exact aD h
 | cons c a d=>exact aa (VN ..)<|d
theorem VQ{d:List ay}{bs:List MB}(h:gv W n si d bs):∀{A b M G s ρ σ r},br n A->St W G s σ->aT W A G s.heap si b M ρ->oU bs ρ σ=some r->
 ar W.M A (nA b d true) (iY W G s r.2 r.1) aF s:=by
 induction h with
 | nil=>exact λa st a e=>sj e (aD (.now st))
 | cons hb _ j=>
  intro A b M G s ρ σ r f st F e
  exact aa (VO ..)<|ob e λp i e=>ah (jD hb f st F i λS c g=>oc e (λq e=>by exact aa (q ..)<|Bz S (j f c g e)) λq e=>sj e (by exact aa (q ..)<|VP ⟨rfl,_,S,c⟩ _))
def Lk(W:Wd)(A:aO)(si:SI)(d:bg)(M:aq->Prop)(a:aq)(G:Gh)(s:ai)(r:aC×MH×Cell)(b:ai):Prop:=
 ∃G',Step W (λc=>M c∨c=a) G s.heap G' b.heap/\St W G' b r.2.1/\aT W A G' b.heap si d M r.1/\cg W G' b.heap a none r.2.2
def BodyOk(W:Wd)(n:Nat)(si:SI)(t:af->bg->bY Unit)(b:MX):Prop:=
 ∀{A e M G s ρ σ a x r},br n A->St W G s σ->aT W A G s.heap si e M ρ->G.fr a->¬G.ou a->¬M a->(∀k c,e.cells.lookup k=some c->c≠a)->cg W G s.heap a none x->b ρ σ x=some r->
   ar W.M A (t (.ref a) e) (λd f=>Lk W A si e M a G s r f) aF s
def fw(e:ay)(f:Nat)(g:hN)(t:af->bg->bY Unit):Prop:=
 ∀it a d,compTurn e f it (.ref a) d=(ip g.iter.pos>>=λb=>f7 it>>=λr=>match r with
  | none=>pure (.done .next)
  | some v=>zV g.target it v>>=λb=>assign g.target d v>>=λb=>
   (forIn g.ifs true λc r=>if r=true then do let h ← qf c d (aU c d);pure (q_ h) else pure (q_ r))>>=λh=>
     if h=true then t (.ref a) d>>=λb=>mB (.compLoop e f it (.ref a) d) else mB (.compLoop e f it (.ref a) d))
structure f_(W:Wd)(e:ay)(dp:Nat):Prop where
 quiet:∀it a env,(Code.compLoop e dp it a env).quiet=true
 den:∀it a env,W.M.den (.compLoop e dp it a env)=(compTurn e dp it a env).onRaise (λx=>do sT x env;theTreesLotGoes x)
 under:∀(A:aO) it a env,A.under (.compLoop e dp it a env)=A
 Oe:∀it a env,W.M.den (.compStart e dp it a env)=(compStart e dp it a env).onRaise (λx=>do sT x env;ip theWindowsPlace)
 We:∀(A:aO) it a env,A.under (.compStart e dp it a env)=A
theorem f_.list{d c b e f}:f_ W (.ListComp d c b e) f:=⟨λa a a=>rfl,λa a a=>rfl,λa a a a=>rfl,λa a a=>rfl,λa a a a=>rfl⟩
theorem f_.set{d c b e f}:f_ W (.SetComp d c b e) f:=⟨λa a a=>rfl,λa a a=>rfl,λa a a a=>rfl,λa a a=>rfl,λa a a a=>rfl⟩
theorem f_.dict{k v c b d e}:f_ W (.DictComp k v c b d) e:=⟨λa a a=>rfl,λa a a=>rfl,λa a a a=>rfl,λa a a=>rfl,λa a a a=>rfl⟩
noncomputable def zZ (c:ay):af->bg->bY Unit:=λb d=>(aU c d>>=λx=>bM (.builtin "list.append") [b,x]>>=λa=>pure ())
noncomputable def HS (b:ay):af->bg->bY Unit:=λc d=>(aU b d>>=λx=>ip b.pos>>=λa=>bM (.builtin "set.add") [c,x]>>=λa=>pure ())
noncomputable def Ef (k v:ay):af->bg->bY Unit:=λc b=>match c with
 | .ref d=>(aU k b>>=λe=>kf [e] (aU v b)>>=λf=>ip {k.pos with endLine:=v.pos.endLine,endCol:=v.pos.endCol}>>=λa=>kf [e,f] (dictSet d e f))
 | _=>pure ()
noncomputable def zH (e:ay) (d:Nat) (g:hN):af->bg->bY Unit:=λc b=>(aU g.iter b>>=λx=>ip g.iter.pos>>=λa=>ib g.iter b x>>=λx=>
 kf [x] (ik x)>>=λit=>runOwn (.compStart e d it c b) b>>=λa=>pure ())
theorem fw.list1{e b c f d g}:fw (.ListComp e [⟨b,c,f,0⟩] d g) 0 ⟨b,c,f,0⟩ (zZ e):=λa a a=>rfl
theorem fw.mN{k v b c e d f}:fw (.DictComp k v [⟨b,c,e,0⟩] d f) 0 ⟨b,c,e,0⟩ (Ef k v):=λa a a=>rfl
theorem fw.U1{e b c f d g}:fw (.SetComp e [⟨b,c,f,0⟩] d g) 0 ⟨b,c,f,0⟩ (HS e):=λa a a=>rfl
theorem fw.F7{m e h l f g j i n}:fw (.ListComp m [⟨e,h,l,0⟩,⟨f,g,j,0⟩] i n) 0 ⟨e,h,l,0⟩
 (zH (.ListComp m [⟨e,h,l,0⟩,⟨f,g,j,0⟩] i n) 1 ⟨f,g,j,0⟩):=λit a k=>by
 refine Eq.trans (b:=ip h.pos>>=λd=>f7 it>>=λr=>match r with
  | none=>pure (.done .next)
  | some v=>zV e it v>>=λd=>assign e k v>>=λd=>
   (forIn l true λc r=>if r=true then do let p ← qf c k (aU c k);pure (q_ p) else pure (q_ r))>>=λp=>
     if p=true then (aU g k>>=λx=>ip g.pos>>=λd=>ib g k x>>=λx=>kf [x] (ik x)>>=λo=>
      runOwn (.compStart (.ListComp m [⟨e,h,l,0⟩,⟨f,g,j,0⟩] i n) 1 o (.ref a) k) k>>=λd=>mB (.compLoop (.ListComp m [⟨e,h,l,0⟩,⟨f,g,j,0⟩] i n) 0 it (.ref a) k))
     else mB (.compLoop (.ListComp m [⟨e,h,l,0⟩,⟨f,g,j,0⟩] i n) 0 it (.ref a) k)) rfl ?_
 simp only [zH,bind_assoc,pure_bind]
theorem fw.F8{g d h i b c e f j}:fw (.ListComp g [⟨d,h,i,0⟩,⟨b,c,e,0⟩] f j) 1 ⟨b,c,e,0⟩ (zZ g):=λa a a=>rfl
structure Jp(W:Wd)(A:aO)(si:SI)(env:bg)(M own:aq->Prop)(I:Gh->aN->Nat->Prop)(a:aq)(lx:Gh)(b3:ai)(j:Nat)(ρ:aC)(σ:MH)(x:Cell)(G:Gh)(s:ai):Prop where
 st:St W G s σ
 F:aT W A G s.heap si env M ρ
 S:Step W (λb=>M b∨own b∨b=a) lx b3.heap G s.heap
 I:I G s.heap j
 C:cg W G s.heap a none x
theorem cg.go{G h a x M G' h'}(C:cg W G h a none x)(S:Step W M G h G' h')(f:∀b,M b->G.fr b)(d:¬G.own a/\a≠W.tab)(g:¬M a)(i:¬G.ou a):cg W G' h' a none x:=
 C.lT (S.ea f) λo e=>S.keep a o e d.1 g d.2 λc=>i
structure tV(W:Wd)(n:Nat)(A:aO)(env:bg)(M own:aq->Prop)(a:aq)(G:Gh):Prop where
 rm:br n A
 of:∀c,own c->G.fr c/\¬G.ou c
 Mo:∀c,M c->¬own c
 co:∀k c,env.cells.lookup k=some c->¬own c
 fr:G.fr a
 nM:¬M a
 ca:∀k c,env.cells.lookup k=some c->c≠a
 no:¬own a
 nu:¬G.ou a
theorem tV.step{A b M own a G h G' h' M'}(X:tV W n A b M own a G)(S:Step W M' G h G' h'):tV W n A b M own a G':=⟨X.rm,λc y=>by exact aa (S.fr ..)<|aa (S.ou ..)<|X.of c y,X.Mo,X.co,by exact aa (S.fr ..)<|X.fr,X.nM,X.ca,X.no,by exact aa (S.ou ..)<|X.nu⟩
def Li(W:Wd)(A:aO)(si:SI)(d:bg)(M own:aq->Prop)(a:aq)(G:Gh)(s:ai)(r:aC×MH×Cell)(x:hZ)(b:ai):Prop:=
 x=.ok .next/\∃G',Step W (λc=>M c∨own c∨c=a) G s.heap G' b.heap/\St W G' b r.2.1/\aT W A G' b.heap si d M r.1/\cg W G' b.heap a none r.2.2
theorem D9{e:ay}{dp:Nat}{g:hN}{t:af->bg->bY Unit}{mt:MT}{bs:List MB}{b:MX}(hC:f_ W e dp)(hT:fw e dp g t)(ht:Et W n si g.target mt)(zC:gv W n si g.ifs bs)(hb:BodyOk W n si t b)
 {it:af} {own:aq->Prop} {I:Gh->aN->Nat->Prop} {at_:dR} (ok:hV W g.target it I own at_)
 {A:aO} {env:bg} {M:aq->Prop} {G:Gh} {s:ai} {ρ:aC} {σ:MH} {a:aq} {x:Cell} {f:Nat} {r:aC×MH×Cell} (X:tV W n A env M own a G) (st:St W G s σ) (F:aT W A G s.heap si env M ρ)
 (hx:cg W G s.heap a none x) (hI:I G s.heap 0) (i:j8 at_ mt bs b f 0 ρ σ x=some r):
 eU W.M A (.compLoop e dp it (.ref a) env) (Li W A si env M own a G s r) s:=by
 refine codeAny_loop (hC.quiet ..) (λk s'=>∃j B aW J G',j8 at_ mt bs b k j B aW J=some r/\Jp W A si env M own I a G s j B aW J G' s') ?_ f ⟨0,ρ,σ,x,G,i,st,F,.refl,hI,hx⟩
 rintro k s' ⟨j,B,aW,J,G',i,L⟩
 refine aa (hC.under ..)<|aa (hC.den ..)<|aa (hT ..) ?_
 refine wpAny_noted ?_
 have K:=X.step L.S
 induction k with
 | zero=>exact aY i
 | succ k=>
  refine ob i λy zv i=>ah (cQ (ah (aF.any (bD (ok.next (X.rm.le (fW _)) L.st (λc y=>(K.of c y).1) L.I zv) λv eZ km=>bP km λP o nr=>?_))))
  have U:=L.F.own P K.of L.st.inv.dJ X.Mo X.co
  have uh:=L.S.trans (P.weaken λh y=>.inr (.inl y))
  have R:=L.C.go P (λc y=>(K.of c y).1) (L.st.inv.dJ _ K.fr) X.no K.nu
  induction y with
  | none=>
   induction v with
   | none=>obtain rfl:=aM i;exact aD ⟨rfl,G',uh,o,U,R⟩
   | some v=>exact nr.elim
  | some d=>
   induction v with
   | none=>exact nr.elim
   | some v=>
    refine ob i λp et i=>ob i λc Ox i=>ah (aF.any (bD nr λh kr ko=>eP ko λQ u t4 AZ=>?_))
    have N:=U.own Q K.of o.inv.dJ X.Mo X.co
    have Jq:=R.go Q (λc y=>(K.of c y).1) (o.inv.dJ _ K.fr) X.no K.nu
    refine ah (aF.any (kA (ht X.rm u N AZ et) λks pI D l V=>?_))
    have LR:=(uh.trans (Q.weaken λh y=>.inr (.inl y))).trans (D.weaken λh y=>.inl y)
    have Kf:=ok.keep u t4 D N.dg X.Mo K.of
    have E:=K.step D
    have xc:=Jq.go D N.dg (u.inv.dJ _ K.fr) X.nM K.nu
    refine ah (aF.any (qQ (VQ zC X.rm l V Ox) λtw nS m w=>?_))
    have Fq:∀c,bf c->pI.fr c:=λh y=>y.elim
    have O:=V.go l.inv m
    have CZ:=LR.trans (m.weaken (M':=λb=>M b∨own b∨b=a) λh y=>y.elim)
    have Y:=ok.keep l Kf m Fq (λh y=>y.elim) E.of
    have T:=xc.go m Fq (l.inv.dJ _ E.fr) (λy=>y) E.nu
    have H:=E.step m
    refine oc i (λq i=>?_) λq i=>?_
    .exact aa (if_pos q ..)<|ob i λz eb i=>ah (aF.any (bD (hb X.rm w O H.fr H.nu X.nM X.ca T eb) λh Yk jj=>dG jj λrh Z VA xk Jr=>
      aD ⟨rfl,k,cw _,j+1,z.1,z.2.1,z.2.2,rh,i,VA,xk,CZ.trans (Z.weaken λh y=>y.imp id .inr),ok.keep w Y Z (λc y=>y.elim (O.dg c) λe=>e▸H.fr) (λc y=>y.elim (X.Mo c) λe=>e▸X.no) H.of,Jr⟩))
    .exact aa (if_neg (by rw [q];decide))<|wpAny_pure ⟨rfl,k,cw _,j+1,p.1,c.2,J,nS,i,w,O,CZ,Y,T⟩
end
end
noncomputable def mL (si:SI) (a:cR):cR:=
 {a with names:=a.names.map λ(n,k)=>if (k==.free && si.sc.kind==.function && si.sc.names.lookup n==some .cell) then (n,.cell) else (n,k)}
noncomputable def cC (si:SI) (a:cR):SI:={sc:=mL si a,ro:=(a.names.filter (·.2==.free)).map (·.1)}
noncomputable def gk (b:bg):List (aj×gY)->List (aj×aq)->List (aj×aq)
 | [],a=>a
 | (n,k)::r,a=>if k==.free then gk b r ((n,(b.cells.lookup n).getD 0)::a) else gk b r a
theorem yW{a:cR}{b:bg}(h:∀n,(n,iw)∈a.names->∃c,b.cells.lookup n=some c):yV a b=pure (gk b a.names []):=by
 unfold yV
 generalize a.names=l at h
 simp only [bind_pure]
 generalize ([]:List (aj×aq))=d
 induction l generalizing d with
 | nil=>rfl
 | cons p r g=>
  obtain⟨n,k⟩:=p
  refine aa (rD ..) ?_
  have h':=λm j=>h m (bT _ j)
  induction f:k==iw with
  | true=>
   refine aL (h n (by exact aa (.symm (beq_iff_eq.mp f ..))<|List.mem_cons_self)) λc i=>?_
   have e:=g h' ((n,(b.cells.lookup n).getD 0)::d)
   simp only [f,if_true,cellOf,i,gk,pure_bind,ue] at e ⊢
   exact e
  | false=>
   have e:=g h' d
   simp only [f,qV,if_false,gk,pure_bind] at e ⊢
   exact e
theorem yU{b:bg}:∀{l:List (aj×gY)} {a:List (aj×aq)} {n c},(n,c)∈gk b l a->(n,c)∈a∨((n,iw)∈l/\c=(b.cells.lookup n).getD 0)
 | [],_,_,_,h=>.inl h
 | (m,k)::r,a,n,c,h=>by
  unfold gk at h
  split at h
  .rename_i d
   rcases yU h with h| ⟨h,e⟩
   .rcases List.mem_cons.mp h with e| h
    .cases e;exact .inr ⟨by exact aa (beq_iff_eq.mp d ..)<|List.mem_cons_self,rfl⟩
    .exact .inl h
   .exact .inr ⟨bT _ h,e⟩
  .rcases yU h with h| ⟨h,e⟩
   .exact .inl h
   .exact .inr ⟨bT _ h,e⟩
theorem yT{b:bg}{x:aj}:∀{l:List (aj×gY)} {a:List (aj×aq)},(a.lookup x=some ((b.cells.lookup x).getD 0)∨(x,iw)∈l)->(gk b l a).lookup x=some ((b.cells.lookup x).getD 0)
 | [],_,h=>h.elim id λh=>by cases h
 | (m,k)::r,a,h=>by
  unfold gk
  split
  .rename_i d
   refine yT ?_
   by_cases c:x=m
   .subst c;exact .inl (by simp)
   .have hb:(x==m)=false:=by simpa using c
    rcases h with h| h
    .exact .inl (by exact aa (dI ..)<|aa (hb ..)<|h)
    .rcases List.mem_cons.mp h with e| h
     .cases e;exact absurd rfl c
     .exact .inr h
  .rename_i d
   refine yT ?_
   rcases h with h| h
   .exact .inl h
   .rcases List.mem_cons.mp h with e| h
    .cases e;exact absurd rfl d
    .exact .inr h
theorem yL:∀{names:List (aj×gY)} {h:aN} {acc:List (aj×aq)} {n c},(n,c)∈iH h.objs.size names acc->(n,c)∈acc∨(h.objs.size<=c/\(s7 h names).IsCell c none)
 | [],_,_,_,_,a=>.inl a
 | (m,k)::r,h,acc,n,c,a=>by
  unfold iH at a;unfold s7
  split at a
  .rename_i b
   refine aa (if_pos b ..) ?_
   have:=yL (names:=r) (h:=h.push {cls:=.type "cell",data:=.cell none}) (acc:=(m,h.objs.size)::acc) (n:=n) (c:=c) (by exact aa (c9 ..)<|a)
   rcases this with a| ⟨h1,h2⟩
   .rcases List.mem_cons.mp a with e| a
    .cases e;exact .inr ⟨bb _,_,Hr _ _ _ _ (c5 (h:=h) (o:={cls:=.type "cell",data:=.cell none}) rfl),rfl⟩
    .exact .inl a
   .rw [c9] at h1
    exact .inr ⟨lC h1,h2⟩
  .rename_i b
   exact aa (if_neg b ..)<|yL a
theorem yK:∀{b:List (aj×gY)} {k:Nat} {a:List (aj×aq)},(a.Pairwise λx y=>x.2≠y.2)->(∀p∈a,(p.2:Nat)<k)->(iH k b a).Pairwise λx y=>x.2≠y.2
 | [],_,_,h,_=>h
 | (m,d)::r,k,a,h,hl=>by
  unfold iH
  split
  .refine yK (List.pairwise_cons.mpr ⟨λp c e=>?_,h⟩) λp c=>?_
   .have e:k=p.2:=e
    have:=hl p c;exact fV _ (e▸this)
   .rcases List.mem_cons.mp c with rfl| c
    .exact cw _
    .exact fG (hl p c)
  .exact yK h hl
theorem yN{x:aj}:∀{a:List (aj×gY)} {k:Nat} {b:List (aj×aq)},(x,pR)∉a->(iH k a b).lookup x=b.lookup x
 | [],_,_,_=>rfl
 | (m,d)::r,k,b,h=>by
  have h':(x,pR)∉r:=λy=>h (bT _ y)
  unfold iH
  split
  .rename_i c
   refine aa (yN h' ..) ?_
   have:x≠m:=by rintro rfl;exact h (by exact aa (.symm (beq_iff_eq.mp c ..))<|List.mem_cons_self)
   exact aa (dI ..)<|aa (show(x==m)=false by simpa using this) rfl
  .exact yN h'
theorem yM{x:aj}:∀{b:List (aj×gY)} {k sA:Nat} {d:List (aj×aq)},sA<=k->((x,pR)∈b∨∃c:Nat,d.lookup x=some c/\sA<=c)->∃c:Nat,(iH k b d).lookup x=some c/\sA<=c
 | [],_,_,_,_,h=>h.elim (λh=>by cases h) id
 | (m,i)::r,k,sA,d,a,h=>by
  unfold iH
  split
  .rename_i g
   refine yM (gN a) ?_
   by_cases f:x=m
   .subst f;exact .inr ⟨k,by simp,a⟩
   .rcases h with h| ⟨c,h,hc⟩
    .rcases List.mem_cons.mp h with e| h
     .cases e;exact absurd rfl f
     .exact .inl h
    .exact .inr ⟨c,by exact aa (dI ..)<|aa (show(x==m)=false by simpa using f)<|h,hc⟩
  .rename_i g
   refine yM a ?_
   rcases h with h| h
   .rcases List.mem_cons.mp h with e| h
    .cases e;exact absurd rfl g
    .exact .inl h
   .exact .inr h
theorem yS{a:bg}(ap:a.cells.Pairwise λx y=>x.2≠y.2):∀{l:List (aj×gY)} {b:List (aj×aq)},(∀n,(n,iw)∈l->∃c,a.cells.lookup n=some c)->(l.map (·.1)).Nodup->
 (∀p∈b,a.cells.lookup p.1=some p.2/\p.1∉l.map (·.1))->(b.Pairwise λx y=>x.2≠y.2)->(gk a l b).Pairwise λx y=>x.2≠y.2
 | [],_,_,_,_,h=>h
 | (m,k)::r,b,o,f,i,h=>by
  simp only [eK,KV] at f
  unfold gk
  split
  .rename_i s
   refine aL (o m (by exact aa (.symm (beq_iff_eq.mp s ..))<|List.mem_cons_self)) λc j=>?_
   refine yS ap (λn q=>o n (bT _ q)) f.2 (λp d=>?_) (List.pairwise_cons.mpr ⟨λp d e=>?_,h⟩)
   .rcases List.mem_cons.mp d with rfl| d
    .exact⟨by exact aa (j ..) rfl,f.1⟩
    .have:=i p d
     simp only [eK,n5,not_or] at this
     exact⟨this.1,this.2.2⟩
   .have e:(a.cells.lookup m).getD 0=p.2:=e
    rw [j] at e
    have e:c=p.2:=e
    have g:=i p d
    simp only [eK,n5,not_or] at g
    exact g.2.1 (SH ap (mem_of_lookup g.1) (e▸mem_of_lookup j))
  .refine yS ap (λn q=>o n (bT _ q)) f.2 (λp d=>?_) h
   have:=i p d
   simp only [eK,n5,not_or] at this
   exact⟨this.1,this.2.2⟩
theorem Ge{f:aj->gY->gY}:∀{l:List (aj×gY)} {x:aj},(l.map λ(n,k)=>(n,f n k)).lookup x=(l.lookup x).map (f x)
 | [],_=>rfl
 | (n,k)::r,x=>by
  show KQ x ((n,f n k)::_)=_
  refine aa (dI ..)<|aa (dI ..) ?_
  induction a:x==n with
  | true=>exact aa (beq_iff_eq.mp a ..) rfl
  | false=>exact Ge
theorem N6(si:SI)(a:cR):(mL si a).names=a.names.map λ(n,k)=>(n,if (k==.free && si.sc.kind==.function && si.sc.names.lookup n==some .cell) then .cell else k):=by
 show List.map _ _=_
 congr 1
 funext ⟨n,k⟩
 dsimp only
 split<;>rfl
theorem D7(si:SI)(a:cR)(x:aj):(mL si a).names.lookup x=(a.names.lookup x).map λk=>if (k==.free && si.sc.kind==.function && si.sc.names.lookup x==some .cell) then .cell else k:=by
 exact aa (N6 ..)<|Ge (f:=λn k=>if (k==.free && si.sc.kind==.function && si.sc.names.lookup n==some .cell) then .cell else k)
structure jq(si:SI)(scope:cR)(own:List String):Prop where
 fn:scope.kind=.function
 nodup:(scope.names.map (·.1)).Nodup
 free:∀x,(x,iw)∈scope.names->si.sc.names.lookup x=some .cell∨si.sc.names.lookup x=some .free
 own:∀x k,(x,k)∈scope.names->k=.local∨k=.cell->∃y∈own,au y=x
noncomputable def y2 (si:SI) (a:cR) (own:List String):Bool:=
 (match a.kind with| .function=>true| _=>false) && decide ((a.names.map (·.1)).Nodup) && a.names.all (λp=> !(p.2==.free)|| (si.sc.names.lookup p.1==some .cell|| si.sc.names.lookup p.1==some .free)) &&
   a.names.all λp=> !(p.2==.local|| p.2==.cell)|| own.any λy=>au y==p.1
theorem jq.of{si a own}(h:y2 si a own=true):jq si a own:=by
 unfold y2 at h
 simp only [jo,Cb,decide_eq_true_eq] at h
 refine aA h λc j=>?_;refine aA c λd i=>?_;refine aA d λf g=>?_
 refine⟨?_,g,λx b=>?_,λx k b l=>?_⟩
 .split at f
  .rename_i e;exact e
  .cases f
 .have:=i _ b
  simpa using this
 .have:=j _ b
  have hb:(k==NameKind.local|| k==pR)=true:=by rcases l with rfl| rfl<;>rfl
  dsimp only at this
  rw [hb] at this
  simpa using this
theorem vx:∀{l:List (aj×gY)} {x:aj} {k:gY},(l.map (·.1)).Nodup->(x,k)∈l->l.lookup x=some k
 | (n,b)::r,x,k,a,h=>by
  simp only [eK,KV] at a
  refine aa (dI ..) ?_
  rcases List.mem_cons.mp h with e| h2
  .cases e;simp
  .have:x≠n:=λq=>a.1 (List.mem_map.mpr ⟨(x,k),h2,q⟩)
   exact aa (show(x==n)=false by simpa using this)<|vx a.2 h2
section
section
variable {W:Wd} {n:Nat} {si:SI}
theorem aC.Ei{ρ:aC}{own x d}(h:(ρ.drop own) x=some d):x∉own/\ρ x=some d:=by
 delta aC.drop at h
 by_cases e:x∈own
 .rw [if_pos e] at h;exact aY h
 .rw [if_neg e] at h;exact⟨e,h⟩
structure Jo(W:Wd)(A:aO)(si:SI)(scope:cR)(own:List String)(env:bg)(ρ:aC)(lx:Gh)(b3 eZ:ai)(lK:bg)(kr:ai):Prop where
 lo:lK.locals=eZ.heap.objs.size
 same:kr= {eZ with heap:=kr.heap}
 keep:∀b o,eZ.heap.get? b=some o->kr.heap.get? b=some o
 lt:eZ.heap.objs.size<kr.heap.objs.size
 FA:∀b,(b=lK.locals∨(eZ.heap.objs.size<=b/\∃x,lK.cells.lookup x=some b))->eZ.heap.objs.size<=b/\b<kr.heap.objs.size
 near:∀k c,lK.cells.lookup k=some c->(∃k',env.cells.lookup k'=some c)∨eZ.heap.objs.size+1<=c
 F:∀(G':Gh),(∀b,(b=lK.locals∨(eZ.heap.objs.size<=b/\∃x,lK.cells.lookup x=some b))->G'.fr b)->(∀b,G'.own b->lx.own b)->(∀b,lx.fr b->lx.ou b->G'.fr b/\G'.ou b)->cH W lx b3.heap G' kr.heap->
      aT W A G' kr.heap (cC si scope) {lK with scope:=AW scope env} (λb=>b=lK.locals∨(eZ.heap.objs.size<=b/\∃x,lK.cells.lookup x=some b)) (ρ.drop own)
theorem y3{a:cR}{x:aj}(b:(mL si a).names.lookup x=some .cell∨(mL si a).names.lookup x=some .free):(x,pR)∈a.names∨(x,iw)∈a.names:=by
 rw [D7] at b
 induction hl:a.names.lookup x with
 | none=>rw [hl] at b;exact b.elim (λh=>aY h) λh=>aY h
 | some k=>
  have c:=mem_of_lookup hl
  rw [hl] at b
  induction k with
  | cell=>exact .inl c
  | free=>exact .inr c
  | _=>exact b.elim (λh=>nomatch h) λh=>nomatch h
theorem N5{a:cR}{x:aj}(b:(mL si a).names.lookup x=some .local):(x,NameKind.local)∈a.names:=by
 rw [D7] at b
 refine aw (Option.map_eq_some_iff.mp b) λk hl h=>?_
 split at h
 .exact nomatch h
 .exact h▸mem_of_lookup hl
theorem N7{A:aO}{G:Gh}{b3 j:ai}{g:cR}{own:List String}{r:bg}{M:aq->Prop}{ρ:aC}{E:af->ai->Prop}{Q:bg->ai->Prop}(S:jq si g own)(H:Inv W G b3)(F:aT W A G b3.heap si r M ρ)(u:∀b o,b3.heap.get? b=some o->j.heap.get? b=some o)(B:b3.heap.objs.size<=j.heap.objs.size)
 (hQ:∀J P,Jo W A si g own r ρ G b3 j J P->Q J P):
 ar W.M A (newFunctionEnv g r.globals (gk r g.names []) [] r.qual none .none (some r)) Q E j:=by
 show ar W.M A (do let L ← _;_) Q E j
 refine ah (wpAny_alloc (ah (wpAny_layCells _ (λname kind R=>by induction PX:kind==pR<;>simp [PX]) _ _ _ _ (ah (aD (aD ?_))))))
 have z:(j.heap.push {cls:=.type "dict",data:=.dict #[]}).objs.size=j.heap.objs.size+1:=c9 ..
 have t:∀b o,j.heap.get? b=some o->(s7 (j.heap.push {cls:=.type "dict",data:=.dict #[]}) g.names).get? b=some o:=λb o e=>Hr _ _ b o (bH _ e)
 have hL:(s7 (j.heap.push {cls:=.type "dict",data:=.dict #[]}) g.names).Ns j.heap.objs.size λf=>none:=(Heap.Ns.new j.heap (.type "dict")).keeps (Hr _ _)
 have Qa:AW g r=mL si g:=by
  delta AW mL
  exact aa (show r.kindOf=λx=>si.sc.names.lookup x from funext λx=>by delta tW;rw [F.sc])<|aa (F.sc ..) rfl
 have C:∀x,(x,iw)∈g.names->∃c,r.cells.lookup x=some c:=λx s=>F.has x (S.free x s)
 have Y:∀{k:aj} {c:aq},r.cells.lookup k=some c->c<j.heap.objs.size:=λD=>bP (F.cells _ _ D) λf f AO=>aL AO λv i=>a9 i.lt B
 have X:∀p∈gk r g.names [],r.cells.lookup p.1=some p.2:=λp Z=>(yU (n:=p.1) (c:=p.2) Z).elim (λh=>nomatch h) λkm=>aA km λh e=>aL (C _ h) λc D=>by exact aa (e ..)<|aa (D ..) rfl
 have T:∀{x c},(iH (j.heap.push {cls:=.type "dict",data:=.dict #[]}).objs.size g.names (gk r g.names [])).lookup x=some c->r.cells.lookup x=some c∨(j.heap.objs.size+1<=c/\(s7 (j.heap.push {cls:=.type "dict",data:=.dict #[]}) g.names).IsCell c none):=λ{x c} s=>
  (yL (mem_of_lookup s)).imp (X (x,c)) λh=>z▸h
 have lk:∀x,(x,iw)∈g.names->(iH (j.heap.push {cls:=.type "dict",data:=.dict #[]}).objs.size g.names (gk r g.names [])).lookup x=r.cells.lookup x:=λx s=>by
  refine aL (C x s) λc D=>?_
  exact(yN λD=>nomatch (vx S.nodup s).symm.trans (vx S.nodup D)).trans ((yT (.inr s)).trans (by exact aa (D ..) rfl))
 have O:∀x,(x,pR)∈g.names->∃c:Nat,(iH (j.heap.push {cls:=.type "dict",data:=.dict #[]}).objs.size g.names (gk r g.names [])).lookup x=some c/\j.heap.objs.size<=c:=λx s=>
  yM (sA:=j.heap.objs.size) (by exact aa (z ..)<|Nat.le_succ _) (.inl s)
 have K:∀{x k d},(ρ.drop own) x=some d->(au x,k)∈g.names->k=.local∨k=.cell->False:=λ{x k d} s w U=>aw (S.own _ _ w U) λy hy e=>(aC.Ei s).1 (vX e▸hy)
 exact hQ _ {j with heap:=s7 (j.heap.push {cls:=.type "dict",data:=.dict #[]}) g.names} {
  lo:=rfl
  same:=rfl
  keep:=t
  lt:=hL.lt
  FA:=λb hb=>hb.elim (λe=>by exact aa (e ..)<|⟨bb _,hL.lt⟩) λko=>aA ko λI AP=>aL AP λx s=>⟨I,(T s).elim (λh=>absurd (Y h) (Nat.not_lt.mpr I)) λh=>h.2.lt⟩
  near:=λk c D=>(T D).imp (λh=>⟨_,h⟩) And.left
  F:=λG' zy N hu Qc=>{
   sc:=Qa
   fn:=S.fn
   gl:=F.gl
   bl:=F.bl
   dg:=zy
   jf:=.inl rfl
   ns:=⟨_,hL,λx d s U=>(K s (N5 U) (.inl rfl)).elim⟩
   cells:=λx c D=>(T D).elim (λh=>bP (F.cells _ _ h) λa b AQ=>aL AQ λv i=>⟨λy=>a (N _ y),b,v,i.keeps λb o e=>t b o (u b o e)⟩) λjj=>aA jj λI V=>
    have lt:∀{m:Nat},m<b3.heap.objs.size->m=c->False:=λl q=>absurd (a9 l B) (Nat.not_lt.mpr (q▸lC I))
    ⟨λy=>lt (H.cn c (N _ y)).2.1 rfl,λq=>lt (a9 H.eO H.size) q.symm,none,V⟩
   apart:=yK (yS F.apart C S.nodup (λp Z=>nomatch Z) List.Pairwise.nil) λp Z=>uc (fG (Y (X p Z))) z.symm
   cell:=λx d s U=>(y3 U).elim (λw=>(K s w (.inr rfl)).elim) λw=>eQ (F.cell x d (aC.Ei s).2 (S.free _ w)) λc v I V h3=>⟨c,v,(lk _ w).trans I,V.keeps λb o e=>t b o (u b o e),h3.keep Qc⟩
   kN:=λx U zE=>(y3 (.inl U)).elim (λw=>aw (O _ w) λc I V=>⟨c,I,.inr ⟨V,_,I⟩⟩) λw=>(zE (List.mem_map.mpr ⟨(au x,.free),List.mem_filter.mpr ⟨w,rfl⟩,rfl⟩)).elim
   has:=λx s=>(y3 s).elim (λw=>aw (O _ w) λc I f=>⟨c,I⟩) λw=>aL (C x w) λc D=>⟨c,(lk _ w).trans D⟩
   fz:=λf h=>nomatch h
   here:=λf h=>nomatch h
   fo:=aw F.ku λfs e k=>
    ⟨fs,e,λx s=>aA (k x s) λk1 Uu=>dG Uu λL k2 k3 k4 Uv=>aw Uv λo k5 k6=>
      ⟨k1,L,k2,(hu L k3 k4).1,(hu L k3 k4).2,.inr ⟨λy=>absurd (b9 k5) (Nat.not_lt.mpr (aE B (y.elim (λe=>bN e.symm) And.left))),o,t _ _ (u _ _ k5),k6⟩⟩⟩}}
theorem Ea{e:ay}{h:Nat}{g:hN}{it:af}{a:aq}{f:bg}{A:aO}{R:hZ->ai->Prop}{s:ai}(d:f_ W e h)(j:(D2 e)[h]?=some g)(c:g.is_async=0)
 (i:eU W.M A (.compLoop e h it (.ref a) f) R s) (b:∀{Q:af->ai->Prop},Q it s->ar W.M A (ik it) Q aF s):eU W.M A (.compStart e h it (.ref a) f) R s:=by
 refine uE ?_
 refine aa (d.Oe ..)<|aa (d.We ..) ?_
 refine wpAny_notedAt ?_
 delta compStart
 simp only [j,Option.elim_some,c,bne_self_eq_false,qV,if_false]
 show ar _ _ (ask>>=_) _ _ s
 refine ah (l7 (wpAny_ite ?_))
 split
 .first
   | exact ah (aD (aD (And.intro (d.quiet ..) i)))
   | exact aD (And.intro (d.quiet ..) i)
 .first
   | exact ah (nH (ah (cQ (ah (aF.any (b (aD (And.intro (d.quiet ..) i))))))))
   | (refine ah (nH ?_);show ar _ _ (ip g.iter.pos>>=_) _ _ s;exact ah (cQ (ah (aF.any (b (aD (And.intro (d.quiet ..) i)))))))
structure CompEnd(W:Wd)(G:Gh)(s:ai)(r:Cell×MH)(a C:aq)(ks:ai)(pI:Gh)(Mx:aq->Prop):Prop where
 az:s.heap.objs.size<=a
 Ma:¬Mx a
 MC:Mx C
 ge:∀b,Mx b->s.heap.objs.size<=b
 fr:∀b,pI.fr b↔((G.fr b∨Mx b)∨b=a)
 S:Step W bf G s.heap {pI with fr:=G.fr} ks.heap
 st:St W pI ks r.2
 Cr:cg W pI ks.heap a none r.1
 ns:∃m,ks.heap.Ns C m
structure xb(W:Wd)(n:Nat)(si:SI)(e:ay)(scope:cR)(g:hN)(SK:bY af)(mi:MI)(mt:MT)(bs:List MB)(b:MX)(own:List String)(init:Cell):Prop where
 ok:W.Ok
 cl:∃gs,D2 e=g::gs
 async:g.is_async=0
 hs:∀env x,ib g.iter env x=pure x
 cs:jq si scope own
 new:∃AG:bu,(∀{A:aO} {E:af->ai->Prop} {s:ai} {Q:af->ai->Prop},Q (.ref s.heap.objs.size) {s with heap:=s.heap.push AG}->ar W.M A SK Q E s)/\AG.isFreed=false/\∀G h a,a≠iR->h.get? a=some AG->cg W G h a none init
 hC:f_ W e 0
 hi:du W n si g.target g.iter mi
 ht:Et W n (cC si scope) g.target mt
 zC:gv W n (cC si scope) g.ifs bs
 hb:∃t,fw e 0 g t/\BodyOk W n (cC si scope) t b
theorem D8{e:ay}{K:cR}{g:hN}{Y:bY af}{mi:MI}{mt:MT}{bs:List MB}{b:MX}{own:List String}{init:Cell}(D:xb W n si e K g Y mi mt bs b own init)
 {A:aO} {P:bg} {M:aq->Prop} {G:Gh} {s:ai} {ρ:aC} {σ:MH} {r:Cell×MH} {p:bc} {use:Option (af->bY Unit)} {Q:af->ai->Prop} (rm:br n A) (st:St W G s σ) (F:aT W A G s.heap si P M ρ) (h:MF.comp mi mt bs b own init ρ σ=some r)
 (PF:∀a C R O Mx,CompEnd W G s r a C R O Mx->compPost W.M A aF use Q (.ref a) C (.ok .next) R):ar W.M A (Ec e K P p Y false (aU g.iter P) use) Q aF s:=by
 refine ob h λq e1 h=>ob h λy e2 h=>?_
 obtain rfl:=aM h
 refine aL D.cl λgs uY=>?_
 refine bI D.new λZ P4 PL PS=>?_
 refine aw D.hb λt hT hb=>?_
 refine wpAny_comprehension_free uY (D.hs P) (yW λx hx=>F.has x (D.cs.free x hx)) D.cs.fn (λx hx hl=>(vx D.cs.nodup hx).trans (by exact aa (hl ..) rfl)) ?_
 refine bD (D.hi rm st F e1) λv d fy=>bD fy λit f kp=>eQ kp λj ak E L hr=>?_
 have xj:=F.go st.inv E
 have Ye:=hr
 refine BC hr λu I zL hn T hsz hg ho hI=>?_
 refine aA (jE L hn T hsz hg ho) λN B9=>?_
 have B0:aT W A {j with fr:=λa=>j.fr a∨u a} f.heap si P M ρ:=xj.to B9 (λd x=>x) (λa x=>.inl (xj.dg a x)) (λd x y=>⟨.inl x,y⟩) T (λc hc y=>y.elim id λy=>absurd hc (Nat.not_lt.mpr (hn c y).1)) L.inv.dJ
 have m7:∀{c},ak.heap.objs.size<=c->¬j.ou c:=λl y=>absurd (L.inv.b0 _ (L.inv.b8 _ y)).2.1 (Nat.not_lt.mpr l)
 have J:(f.heap.push Z).objs.size=f.heap.objs.size+1:=c9 ..
 refine P4 (N7 (b3:=f) D.cs N.inv B0 (λb o e=>bH _ e) (aE (dD _) (bN J.symm)) λw B X=>?_)
 have H:∀b o,f.heap.get? b=some o->B.heap.get? b=some o:=λb o e=>X.keep b o (bH _ e)
 have jG:f.heap.objs.size+1<B.heap.objs.size:=J▸X.lt
 have hM:∀b,(b=w.locals∨((f.heap.push Z).objs.size<=b/\∃x,w.cells.lookup x=some b))->f.heap.objs.size+1<=b/\b<B.heap.objs.size:=λb hb=>J▸X.FA b hb
 generalize uW:(λb=>b=w.locals∨((f.heap.push Z).objs.size<=b/\∃x,w.cells.lookup x=some b))=M' at*
 have hM:∀b,M' b->f.heap.objs.size+1<=b/\b<B.heap.objs.size:=λb hb=>hM b (by rw [← uW] at hb;exact hb)
 have Fg:∀b,(M' b∨b=f.heap.objs.size)->f.heap.objs.size<=b/\b<B.heap.objs.size:=λb hb=>hb.elim (λhb=>⟨lC (hM b hb).1,(hM b hb).2⟩) λe=>⟨bN e.symm,by exact aa (e ..)<|Nat.lt_of_succ_lt jG⟩
 have Fw:f.heap.objs.size<=B.heap.objs.size:=jy (lD jG)
 refine aA (jE N Fg H Fw (by exact aa (X.same ..) rfl) (by exact aa (X.same ..) rfl)) λVz B_=>?_
 have B3:=X.F {j with fr:=λb=>(j.fr b∨u b)∨(M' b∨b=f.heap.objs.size)} (λb hb=>.inr (.inl (by exact aa (.symm (uW ..))<|hb))) (λd x=>x) (λd x y=>⟨.inl x,y⟩) B_
 rw [show(λb=>b=w.locals∨((f.heap.push Z).objs.size<=b/\∃x,w.cells.lookup x=some b))=M' from uW] at B3
 have t4:=zL.shift (hI B9) B_ λb o d e=>H b o e
 have V:∀b,u b->¬f.heap.objs.size<=b:=λb x=>Nat.not_le.mpr (hn b x).2
 have Pq:∀b,M' b->¬u b:=λb x y=>V b y (lC (hM b x).1)
 have Ff:¬M' f.heap.objs.size:=λx=>fV _ (hM _ x).1
 have U:∀k c,w.cells.lookup k=some c->(∃k',P.cells.lookup k'=some c)∨f.heap.objs.size+2<=c:=λk c hc=>(X.near k c hc).imp id λh=>aE (bN (congrArg (· +1) J.symm)) h
 have Po:∀G,cg W G B.heap f.heap.objs.size none init:=λG=>PS _ _ _ (λq=>absurd (a9 D.ok.g.lt (q▸N.inv.size)) (by decide)) (X.keep _ _ (c5 _ PL))
 have loop:=D9 (G:={j with fr:=λb=>(j.fr b∨u b)∨(M' b∨b=f.heap.objs.size)}) (M:=M') (a:=f.heap.objs.size) (env:={w with scope:=AW K P}) D.hC hT D.ht D.zC hb zL ⟨rm,λc y=>⟨.inl (.inr y),m7 (hn c y).1⟩,Pq,λk c hc y=>(U k c hc).elim (λjk=>aL jk λk' zD=>bP (xj.cells _ _ zD) λd d Uw=>aL Uw λv i=>absurd i.lt (Nat.not_lt.mpr (hn c y).1)) λh=>V c y (lC (lC h)),
  .inr (.inr rfl),Ff,λk c hc q=>(U k c hc).elim (λAR=>aL AR λk' zD=>bP (B0.cells _ _ zD) λd d Ux=>aL Ux λv i=>fV _ (q▸i.lt)) λh=>absurd (q▸h:f.heap.objs.size+2<=f.heap.objs.size) (by lia),λy=>V _ y (bb _),m7 hsz⟩ Vz B3 (Po _) t4 e2
 refine g6 (Ea D.hC (by exact aa (uY ..) rfl) D.async loop λq=>zL.self t4 q) λr R s_=>aA s_ λer Uy=>dG Uy λO x9 Ip JX xc=>?_
 subst er
 refine aw JX.ns λm hm d=>?_
 have LQ:=ve (G:={j with fr:=λb=>j.fr b∨u b}) (ak:=f) (b3:=B) (eZ:=R) (jx:=u) (M:=λb=>M' b∨b=f.heap.objs.size) N.inv.b8 (λb hb=>(Fg b hb).1) H Fw (x9.weaken λc y=>y.elim (λy=>Or.inr (Or.inl y)) λy=>y.imp id Or.inr) Ip
 have uh:=qy (G:=j) (fy:=ak.heap) (iL:=f.heap) (jx:=bf) (M:=u) (λb hb=>(hn b hb).1) T hsz (λa l=>⟨λx=>⟨x.1.resolve_right λz=>absurd l (Nat.not_lt.mpr (hn a z).1),x.2⟩,eH .inl⟩) (show O.ou=j.ou from x9.ou) (LQ.1.weaken λc y=>.inr y)
 have hg:j.fr=G.fr:=E.fr
 have CY:=E.trans uh
 rw [hg] at CY
 exact PF f.heap.objs.size w.locals R O (λb=>M' b∨u b) {
  az:=aE E.size hsz
  Ma:=λy=>y.elim Ff λy=>V _ y (bb _)
  MC:=.inl (by exact aa (.symm (uW ..))<| .inl rfl)
  ge:=λb y=>y.elim (λy=>aE (aE E.size hsz) (lC (hM b y).1)) λy=>aE E.size (hn b y).1
  fr:=λb=>by
   exact aa (show O.fr=λb=>(j.fr b∨u b)∨(M' b∨b=f.heap.objs.size) from x9.fr)<|aa (hg ..)<|⟨λh=>h.elim (λh=>h.elim (λy=>.inl (.inl y)) λy=>.inl (.inr (.inr y))) λh=>h.elim (λy=>.inl (.inr (.inl y))) .inr,
    λh=>h.elim (λh=>h.elim (λy=>.inl (.inl y)) λh=>h.elim (λy=>.inr (.inl y)) λy=>.inl (.inr y)) λy=>.inr (.inr y)⟩
  S:=CY
  st:=Ip
  Cr:=xc
  ns:=⟨m,hm⟩}
theorem aT.Wl{A:aO}{G d G':Gh}{h h':aN}{f M ρ}(F:aT W A G h si f M ρ)(S:Step W bf G h d h')(K:cH W G h G' h')(g:∀a,G'.own a->d.own a)(j:∀a,M a->G'.fr a)(k:∀a,G.fr a->G.ou a->G'.fr a/\G'.ou a)(l:∀a,G.fr a->¬G.own a/\a≠W.tab)(i:∀c,c<h.objs.size->G'.fr c->G.fr c):aT W A G' h' si f M ρ:=
 F.move j k (λb b r=>r.keep K) (λa o e n t b=>⟨S.dat e n (λx=>x) t,λy=>(S.new a (g a y)).elim n λz=>absurd (b9 e) (Nat.not_lt.mpr z),λn y=>n (i a (b9 e) y)⟩) l
theorem Step.behind{G nS rh:Gh}{h f j:aN}{M l:aq->Prop}(S:Step W bf G h {nS with fr:=G.fr} f)(T:Step W (λb=>M b∨l b) nS f rh j)(m:∀b,l b->h.objs.size<=b)(k:∀b,G.ou b->G.fr b)(p:∀b,G.fr b->nS.fr b):Step W M G h {rh with fr:=G.fr} j where
 g i a e:=T.g i a (S.g i a e)
 d i a e:=T.d i a (S.d i a e)
 fr:=rfl
 c0 i x:=S.c0 i (T.c0 i x)
 new a x:=(T.new a x).elim (S.new a) λy=>.inr (aE S.size y)
 keep a o e ho hm ht hf:=T.keep a o (S.keep a o e ho (λx=>x) ht hf) (λy=>(S.new a y).elim ho λz=>absurd (b9 e) (Nat.not_lt.mpr z)) (λy=>y.elim hm λy=>absurd (b9 e) (Nat.not_lt.mpr (m a y))) ht
  λc y=>have y:G.ou a:=S.ou▸y;hf (k a y) y
 size:=aE S.size T.size
 ou:=T.ou.trans S.ou
 ig a o e x y hm:=aL (S.ig a o e x y (λq=>q)) λc n=>
  aL (T.ig a _ n (p a x) (by exact aa (show nS.ou=G.ou from S.ou)<|y) λz=>z.elim hm λz=>absurd (b9 e) (Nat.not_lt.mpr (m a z))) λr q=>
  ⟨r,q⟩
theorem CompEnd.fin{G s r a C f d k}(X:CompEnd W G s r a C f d k)(i:∀b,G.ou b->G.fr b)(l:∀b,G.fr b->b<s.heap.objs.size):∃m,f.heap.Ns C m/\∀h',hO C f.heap h'->dy W G s r (.ref a) {f with heap:=h'}:=
 X.ns.imp λm t=>⟨t,λj g=>
  have h:∀b,k b->d.fr b:=λb y=>(X.fr b).mpr (.inl (.inr y))
  have x:=X.st.gp (s':={f with heap:=j}) (M:=k) h (λb o nm e=>g.extBut b o (λq=>nm (by exact aa (q ..)<|X.MC)) e) (bN g.1.symm) rfl rfl
  have n:∀b,d.ou b->G.fr b:=λb y=>i b (by exact aa (.symm (show d.ou=G.ou from X.S.ou))<|y)
  have y:=kV (fr:=λb=>G.fr b∨b=a) x.1 (λb y=>y.elim (λy=>(X.fr b).mpr (.inl (.inl y))) λy=>(X.fr b).mpr (.inr y)) λb y=>.inl (n b y)
  have p:¬G.fr a:=λy=>absurd (l a y) (Nat.not_lt.mpr X.az)
  ⟨{d with fr:=λb=>G.fr b∨b=a},a,rfl,X.az,rfl,X.S.behind (rh:=d) (M:=bf) (x.2.weaken (M':=λb=>bf b∨k b) λb y=>.inr y) X.ge i (λb y=>(X.fr b).mpr (.inl (.inl y))),y.1,(X.Cr.go x.2 h (X.st.inv.dJ _ ((X.fr a).mpr (.inr rfl))) X.Ma λy=>p (n a y)).lT y.2 λc e=>e,p,n⟩⟩
theorem bG.uG{e:ay}{f:cR}{g:hN}{c:bY af}{l:MI}{mt:MT}{bs:List MB}{b:MX}{own:List String}{i:Cell}(D:xb W n si e f g c l mt bs b own i)
 (j:∀d,∃p,aU e d=Ec e f d p c false (aU g.iter d)):bG W n si e (.comp l mt bs b own i):=λ{A d M G s ρ σ r} t st F h=>by
 refine aL (j d) λp q=>?_
 exact aa (q ..)<|D8 D t st F h λa C m k u o=>o.fin st.inv.b8 λb y=>(st.inv.b0 b y).2.1
theorem Ex.ym{e:ay}{tg:ay}{pos:bc}{O:cR}{g:hN}{K:bY af}{mi:MI}{mt sN:MT}{bs:List MB}{b:MX}{own:List String}{V:Cell}(D:xb W n si e O g K mi mt bs b own V)
 (Z:∀t use,∃p,evalThenUse e t use=(Ec e O t p K false (aU g.iter t) (some use)>>=λj=>pure ()))
 (Qj:Et W n si tg sN) (Qh:∀t:bg,t.scope=si.sc->kq [tg] e pos.line t=pure true) (hx:∀t,gy [tg] t= [(false,iy tg t)]):
 Ex W n si (.Assign [tg] e pos) (.assign sN (.aI (.comp mi mt bs b own V))):=λ{A t M G s ρ σ r} rm st F h=>by
 refine ob h λq e1 h=>ob h λy e2 h1=>ob e1 λz e3 e1=>ob e1 λd hd e1=>?_
 obtain rfl:=aM e1
 obtain rfl:=aM h1
 refine aa (zi ..)<|aa (Qh _ F.sc ..) ?_
 refine ah (cQ (ah (aD ?_)))
 refine aa (if_pos rfl ..) ?_
 refine aL (Z t (λv=>assignAll v ((gy [tg] t).map (·.2)))) λp hp=>?_
 refine aa (hp ..) ?_
 refine ah (ah (D8 D rm st F e3 λa C Y w T X=>?_))
 have jG:∀b,G.fr b->b<s.heap.objs.size:=λb y=>(st.inv.b0 b y).2.1
 have H:∀{b},b<s.heap.objs.size->¬T b:=λl y=>absurd l (Nat.not_lt.mpr (X.ge _ y))
 have R:w.ou=G.ou:=X.S.ou
 have m7:∀{b},s.heap.objs.size<=b->¬w.ou b:=λ{b} l y=>absurd (jG b (st.inv.b8 b (by exact aa (.symm (R ..))<|y))) (Nat.not_lt.mpr l)
 refine aA (kV (fr:=λb=>G.fr b∨T b) X.st (λb y=>(X.fr b).mpr (.inl y)) λb y=>.inl (st.inv.b8 b (by exact aa (.symm (R ..))<|y))) λB Kj=>?_
 have L:=(X.fr a).mpr (.inr rfl)
 have HJ:=(X.Cr.lT Kj (λj e=>e)).rep ⟨λx=>(X.st.inv.cn a x).2.2.1 L,λy=>y.elim (λy=>absurd (jG a y) (Nat.not_lt.mpr X.az)) X.Ma,(X.st.inv.b0 a L).2.2⟩ hd
 have Ki:cH W G s.heap {w with fr:=λb=>G.fr b∨T b} Y.heap:=⟨X.S.g,λb o e f=>⟨⟨λx=>(X.S.new b x).elim f.1 λy=>absurd (b9 e) (Nat.not_lt.mpr y),λy=>y.elim f.2.1 (H (b9 e)),f.2.2⟩,X.S.keep b o e f.1 (λx=>x) f.2.2 λx=>absurd x f.2.1⟩⟩
 have JY:aT W A {w with fr:=λb=>G.fr b∨T b} Y.heap si t M ρ:=F.Wl X.S Ki (λj x=>x) (λb y=>.inl (F.dg b y)) (λa x y=>⟨.inl x,by exact aa (R ..)<|y⟩) st.inv.dJ λc hc y=>y.elim id λy=>(H hc y).elim
 show ar _ _ (assignAll _ _) _ _ _
 refine aa (hx ..) ?_
 show ar _ _ (iy tg t (.ref a)) _ _ _
 refine kA (Qj rm B JY HJ e2) λtw E u P xk=>?_
 have I:∀b,T b->E.fr b/\¬E.ou b:=λb y=>by exact aa (u.fr ..)<|aa (u.ou ..)<|⟨.inr y,m7 (X.ge b y)⟩
 have Fe:∀b,M b->¬T b:=λb x=>H (jG b (F.dg b x))
 refine qT X.ns λm o es ep e r=>?_
 refine⟨m,⟨o,es,ep,u.keep _ _ e (B.inv.dJ C (.inr X.MC)).1 (λx=>Fe C x X.MC) (B.inv.dJ C (.inr X.MC)).2 (λj=>m7 (X.ge C X.MC)),r⟩,λQq N=>aD (aD ?_)⟩
 refine aA (P.gp (s':={tw with heap:=Qq}) (M:=T) (λb y=>(I b y).1) (λb o nm e=>N.extBut b o (λq=>nm (by exact aa (q ..)<|X.MC)) e) (bN N.1.symm) rfl rfl) λQ U=>?_
 have JZ:=xk.own U I P.inv.dJ Fe λk c hc=>bP (F.cells _ _ hc) λj j Uz=>aL Uz λv i=>H i.lt
 have J:∀b,E.ou b->G.fr b:=λb y=>st.inv.b8 b (by exact aa (.symm (R ..))<|aa (.symm (show E.ou=w.ou from u.ou))<|y)
 refine aA (kV (fr:=G.fr) Q (λb y=>by exact aa (u.fr ..)<| .inl y) J) λVB Kk=>?_
 exact .next (X.S.behind (nS:={w with fr:=λb=>G.fr b∨T b}) ((u.weaken λb y=>.inl y).trans (U.weaken λb y=>.inr y)) X.ge st.inv.b8 λb y=>.inl y) VB (JZ.to Kk (λj x=>x) F.dg (λa j y=>⟨J a y,y⟩) (λj j e=>e) (λc j y=>by exact aa (u.fr ..)<| .inl y) Q.inv.dJ)
end
end
section
theorem Cell.FX{c xs}(h:Cell.zQ c=some xs):c=.dict xs:=by induction c<;>first| exact aY h| exact congrArg _ (aM h)
section
variable {W:Wd} {n:Nat} {si:SI}
theorem Eh(o:bu)(f):(o.mapSeq f).dict=o.dict:=by
 obtain⟨c,d,a,b⟩:=o;induction a<;>rfl
theorem H6(o:bu)(f):(o.mapSeq f).slots=o.slots:=by
 obtain⟨c,d,a,b⟩:=o;induction a<;>rfl
theorem Dh{A:aO}{E:af->ai->Prop}{s:ai}{l:aq}{o:bu}{b:Array af}{k:Nat}{x:af}{Q:af->ai->Prop}(f:s.heap.get? l=some o)(g:o.cls=.type "list")(c:o.data=.seq b k)(h:b.size<=gF)
 (i:∀h' e j,h'.get? l=some e->e.cls=.type "list" ->e.dict=o.dict->e.slots=o.slots->e.data=.seq (b.push x) j->hO l s.heap h'->Q .none {s with heap:=h'}):
 ar W.M A (bM (.builtin "list.append") [.ref l,x]) Q E s:=by
 have hl:s.heap.IsList l b:=⟨o,f,g,k,c⟩
 refine aL (Ld c (·.push x)) λm d=>?_
 refine kz slot_list_append hl.typeIs entry_list_append ?_ (args_list_append _ _)
 show ar _ _ (l6 l (·.push x)>>=λa=>CS .none) _ _ s
 refine ah ?_
 refine jn f c (aD ⟨.none,rfl,i _ _ _ (eI _ f (Le d)) ((Lc ..).trans g) (Eh ..) (H6 ..) d (ft ..)⟩) h (by exact aa (BK ..)<|Nat.succ_le_succ h)
theorem kZ{G:Gh}{s:ai}{σ:MH}{a:aq}{h':aN}{tk}(st:St W G s σ)(d:G.fr a)(c:hO a s.heap h'):St W G {s with heap:=h',toks:=tk} σ/\Step W (λb=>b=a) G s.heap G h':=
 st.gp (s':={s with heap:=h',toks:=tk}) (M:=λb=>b=a) (λb e=>e▸d) (λb o nm e=>c.extBut b o nm e) (bN c.1.symm) rfl rfl
theorem aT.one{G:Gh}{s:ai}{σ:MH}{a:aq}{h':aN}{d M ρ}(F:aT W A G s.heap si d M ρ)(st:St W G s σ)(S:Step W (λb=>b=a) G s.heap G h')(g:G.fr a)(i:¬G.ou a)(f:¬M a)(h:∀k c,d.cells.lookup k=some c->c≠a):aT W A G h' si d M ρ:=
 F.own S (λb e=>e▸⟨g,i⟩) st.inv.dJ (λb x e=>f (e▸x)) h
theorem BodyOk.elt{e m}(R:Ev W n si e m):BodyOk W n si (zZ e) (.elt m):=λ{A N M G s ρ σ a x r'} rm st F w B O P U h=>
 ob h λp L h=>ob h λds Q h=>og h λq h=>sj h (ah (bR R rm st F L λ{f ak v} S j E r=>by
  obtain rfl:=Cell.qj Q
  refine aA (U.go S (λc y=>y.elim) (st.inv.dJ _ w) (λy=>y) B) λz t=>?_;refine jU t λo vs k e Y D Z r4=>?_
  have g:f.fr a:=by exact aa (S.fr ..)<|w
  refine ah (Dh e Y Z (size_le r4 z) λC X V J H I u l T=>?_)
  refine aA (kZ (tk:=ak.toks) j g T) λi d=>?_
  have K:=d.ea (λb e=>e▸g)
  exact aD ⟨f,(S.weaken λc y=>y.elim).trans (d.weaken λc y=>.inr y),i,E.one j d g (by exact aa (S.ou ..)<|B) O P,by exact aa (bF ..)<|q,X,_,V,J,H,⟨I.trans D.1,u.trans D.2⟩,l,by exact aa (BM ..)<|(r4.keep K).snoc (r.keep K)⟩))
theorem Ul{G h b c}(r:bC W G h b c)(k:aj):(b.any λe=>e.1=k)=(c.any λp=>p.1=k):=r.ind rfl λa a a a d=>by exact aa (pL ..)<|aa (pL ..)<|aa (d ..) rfl
theorem bC.Sa{G h v d}{k:aj}(r:Rep W G h v d){e:List (aj×af)}{f}(n:bC W G h e f):bC W G h (e.map λi=>if i.1=k then (i.1,v) else i) (f.map λp=>if p.1=k then (p.1,d) else p):=
 n.ind .nil λ{l _ _ _ _} a b m c j=>by
  refine aa (eK ..)<|aa (eK ..) ?_
  by_cases g:l=k
  .exact aa (if_pos g ..)<|aa (if_pos g ..)<| .cons a b r j
  .exact aa (if_neg g ..)<|aa (if_neg g ..)<| .cons a b m j
theorem bC.snoc{G h v d}{k:aj}(i:fJ k=true)(j:k.length<=aP)(r:Rep W G h v d){e:List (aj×af)}{f}(m:bC W G h e f):bC W G h (e++ [(k,v)]) (f++ [(k,d)]):=
 m.ind (.cons i j r .nil) λa b l c g=>.cons a b l g
theorem bC.put{G h a b v d}{k:aj}(c:bC W G h a b)(e:fJ k=true)(f:k.length<=aP)(r:Rep W G h v d):bC W G h (qz a k v) (eF b k d):=by
 delta qz eF
 refine aa (Ul c k ..) ?_
 split
 .exact c.Sa r
 .exact c.snoc e f r
theorem Ht{a:List (aj×D)}{k d}(h:a.length<aP):(eF a k d).length<=aP:=by
 delta eF
 split
 .exact aa (aZ ..)<|Nat.le_of_lt h
 .exact aa (bF ..)<|h
theorem BodyOk.kv{ek ev mk mv}(hk:Ev W n si ek mk)(hv:Ev W n si ev mv):BodyOk W n si (Ef ek ev) (.kv mk mv):=λ{A X M G s ρ σ a x r'} O st F J L Y Z hx h=>
 ob h λp U h=>ob h λk D h=>ob h λq V h=>ob h λei hd h=>og h λE h=>sj h (ah (bR hk O st F U λ{I ak Q} r j m v=>ah (bz (bR hv O j m V λ{g B R} u f o w=>by
  obtain rfl:=Cell.FX hd
  have S:=r.trans u
  refine bP (hx.go S (λc y=>y.elim) (st.inv.dJ _ J) (λy=>y) L) λz ns H=>?_;refine aw H λT hD P=>?_
  have i:g.fr a:=by exact aa (S.fr ..)<|J
  refine v.c8 D λt k1 k2=>?_
  refine ah (cQ (bz (wpAny_dictSet_pairs (jI _ _) hD (λN C hs=>?_) (by exact aa (P.length ..)<|Nat.le_trans z f9))))
  refine aA (kZ (tk:=B.toks+1) f i hs) λl d=>?_
  have K:=d.ea (λb e=>e▸i)
  exact⟨g,(S.weaken λc y=>y.elim).trans (d.weaken λc y=>.inr y),l,o.one f d i (by exact aa (S.ou ..)<|L) Y Z,Ht E,ns,_,C,(P.keep K).put k1 k2 (w.keep K)⟩))))
theorem BodyOk.inner{e:ay}{P:Nat}{g:hN}{t:af->bg->bY Unit}{mi:MI}{mt:MT}{bs:List MB}{b:MX}(V:f_ W e P)(hT:fw e P g t)(Q:(D2 e)[P]?=some g)(o:g.is_async=0)
 (hi:du W n si g.target g.iter mi) (ht:Et W n si g.target mt) (R:gv W n si g.ifs bs) (hb:BodyOk W n si t b) (hs:∀u x,ib g.iter u x=pure x):BodyOk W n si (zH e P g) (.inner mi mt bs b):=λ{A u M G s ρ σ a x r'} rm st F Y Z hM hc hx h=>
 ob h λp e1 h=>ah (bD (hi rm st F e1) λv d J=>ah (cQ (ah (hK (hs u v) (ah (bz (bD J λit b3 S=>eQ S λj ak f i hr=>Gi hr i (F.go st.inv f) λown I N X L=>by
  have D:=F.go st.inv f
  have w:=hx.go f (λd y=>y.elim) (st.inv.dJ _ Y) (λy=>y) Z
  have l:j.fr a:=by exact aa (f.fr ..)<|Y
  have alt:a<ak.heap.objs.size:=(i.inv.b0 a l).2.1
  have B:=w.lT L.K (L.keep _)
  have O:=D9 (G:={j with fr:=λa=>j.fr a∨own a}) V hT ht R hb N ⟨rm,λc y=>⟨.inr y,L.no c y⟩,L.Mo,L.co,.inl l,hM,hc,λy=>absurd alt (Nat.not_lt.mpr (L.ge a y)),by exact aa (show j.ou=G.ou from f.ou)<|Z⟩ L.st L.F B X h
  refine ah (wpAny_runOwn (g6 (Ea V Q o O λq=>N.self X q) λr eZ T=>aA T λe U=>dG U λH k m E C=>?_))
  subst e
  have y:=ve (jx:=λc=>M c∨c=a) (M:=own) i.inv.b8 L.ge L.keep L.size (k.weaken λc y=>y.elim (λy=>Or.inl (Or.inl y)) λy=>y.elim Or.inr λy=>Or.inl (Or.inr y)) m
  exact aD ⟨_,(f.weaken λd y=>y.elim).trans y.1,y.2.1,E.to y.2.2 (λd x=>x) (λa x=>D.dg a x) (λa d z=>⟨i.inv.b8 a (by exact aa (.symm (show H.ou=j.ou from k.ou))<|z),z⟩) (λd d e=>e) (λc d y=>by exact aa (k.fr ..)<| .inl y) m.inv.dJ,C.lT y.2.2 λd e=>e⟩)))))))
noncomputable def Aq:bu:={cls:=.type "list",dict:=none,data:=.seq ([]:List af).toArray}
theorem vR{A:aO}{E:af->ai->Prop}{s:ai}{Q:af->ai->Prop}(h:Q (.ref s.heap.objs.size) {s with heap:=s.heap.push Aq}):ar W.M A (Ap []) Q E s:=
 iS h (fW _)
theorem vQ(G:Gh)(h:aN)(a:aq)(_:a≠iR)(e:h.get? a=some Aq):cg W G h a none (.list []):=⟨by decide,Aq,_,_,e,rfl,⟨rfl,rfl⟩,rfl,.nil⟩
theorem bG.Ro{f b d:ay}{e:List ay}{c:cR}{j:bc}{k mt bs m own}(r:W.Ok)(l:jq si c own)(p:∀h x,ib d h x=pure x)
 (o:du W n si b d k) (q:Et W n (cC si c) b mt) (i:gv W n (cC si c) e bs) (hb:Ev W n (cC si c) f m):
 bG W n si (.ListComp f [⟨b,d,e,0⟩] c j) (.comp k mt bs (.elt m) own (.list [])):=
 bG.uG (g:=⟨b,d,e,0⟩) ⟨r,⟨_,rfl⟩,rfl,p,l,⟨_,vR,rfl,vQ⟩,f_.list,o,q,i,⟨_,fw.list1,BodyOk.elt hb⟩⟩ (λa=>⟨_,rfl⟩)
theorem bG.Rp{l c f d e:ay}{j h:List ay}{b:cR}{v:bc}{w mt bs p q k m own}(C:W.Ok)(y:jq si b own)(A:∀i x,ib f i x=pure x)(t:∀i x,ib e i x=pure x)
 (z:du W n si c f w) (B:Et W n (cC si b) c mt) (s:gv W n (cC si b) j bs)
 (r:du W n (cC si b) d e p) (u:Et W n (cC si b) d q) (o:gv W n (cC si b) h k) (hb:Ev W n (cC si b) l m):
 bG W n si (.ListComp l [⟨c,f,j,0⟩,⟨d,e,h,0⟩] b v) (.comp w mt bs (.inner p q k (.elt m)) own (.list [])):=
 bG.uG (g:=⟨c,f,j,0⟩) ⟨C,⟨_,rfl⟩,rfl,A,y,⟨_,vR,rfl,vQ⟩,f_.list,z,B,s,⟨_,fw.F7,BodyOk.inner f_.list fw.F8 rfl rfl r u o (BodyOk.elt hb) t⟩⟩ (λa=>⟨_,rfl⟩)
theorem Ex.Mv{tg i b d:ay}{f:List ay}{c:cR}{k h:bc}{q mt bs m own j}(w:W.Ok)(r:jq si c own)(t:∀e x,ib d e x=pure x)
 (s:du W n si b d q) (u:Et W n (cC si c) b mt) (l:gv W n (cC si c) f bs) (hb:Ev W n (cC si c) i m)
 (p:Et W n si tg j) (o:∀e:bg,e.scope=si.sc->kq [tg] (.ListComp i [⟨b,d,f,0⟩] c k) h.line e=pure true) (v:∀e,gy [tg] e= [(false,iy tg e)]):
 Ex W n si (.Assign [tg] (.ListComp i [⟨b,d,f,0⟩] c k) h) (.assign j (.aI (.comp q mt bs (.elt m) own (.list [])))):=
 Ex.ym (g:=⟨b,d,f,0⟩) ⟨w,⟨_,rfl⟩,rfl,t,r,⟨_,vR,rfl,vQ⟩,f_.list,s,u,l,⟨_,fw.list1,BodyOk.elt hb⟩⟩ (λa a=>⟨_,rfl⟩) p o v
theorem Ex.Mw{tg o c h d f:ay}{j i:List ay}{b:cR}{u l:bc}{B mt bs s t p m own k}(H:W.Ok)(C:jq si b own)(E:∀e x,ib h e x=pure x)(y:∀e x,ib f e x=pure x)
 (D:du W n si c h B) (F:Et W n (cC si b) c mt) (w:gv W n (cC si b) j bs)
 (v:du W n (cC si b) d f s) (A:Et W n (cC si b) d t) (q:gv W n (cC si b) i p) (hb:Ev W n (cC si b) o m)
 (r:Et W n si tg k) (z:∀e:bg,e.scope=si.sc->kq [tg] (.ListComp o [⟨c,h,j,0⟩,⟨d,f,i,0⟩] b u) l.line e=pure true) (G:∀e,gy [tg] e= [(false,iy tg e)]):
 Ex W n si (.Assign [tg] (.ListComp o [⟨c,h,j,0⟩,⟨d,f,i,0⟩] b u) l) (.assign k (.aI (.comp B mt bs (.inner s t p (.elt m)) own (.list [])))):=
 Ex.ym (g:=⟨c,h,j,0⟩) ⟨H,⟨_,rfl⟩,rfl,E,C,⟨_,vR,rfl,vQ⟩,f_.list,D,F,w,⟨_,fw.F7,BodyOk.inner f_.list fw.F8 rfl rfl v A q (BodyOk.elt hb) y⟩⟩ (λa a=>⟨_,rfl⟩) r z G
noncomputable def lV:bu:={cls:=.type "dict",dict:=none,data:=.dict #[]}
theorem Am{A:aO}{E:af->ai->Prop}{s:ai}{Q:af->ai->Prop}(h:Q (.ref s.heap.objs.size) {s with heap:=s.heap.push lV}):ar W.M A newDict Q E s:=
 iS h (fW _)
theorem vO(G:Gh)(h:aN)(a:aq)(ns:a≠iR)(e:h.get? a=some lV):cg W G h a none (.dict []):=
 ⟨by decide,ns,[],⟨lV,#[],0,e,⟨rfl,rfl,rfl⟩,rfl,by intro e b;simp at b,by first| exact .nil| trivial,by simp⟩,.nil⟩
theorem bG.Of{j k c d:ay}{e:List ay}{b:cR}{i:bc}{mi mt bs mk mv own}(s:W.Ok)(l:jq si b own)(p:∀f x,ib d f x=pure x)
 (m:du W n si c d mi) (q:Et W n (cC si b) c mt) (h:gv W n (cC si b) e bs) (o:Ev W n (cC si b) j mk) (r:Ev W n (cC si b) k mv):
 bG W n si (.DictComp j k [⟨c,d,e,0⟩] b i) (.comp mi mt bs (.kv mk mv) own (.dict [])):=
 bG.uG (g:=⟨c,d,e,0⟩) ⟨s,⟨_,rfl⟩,rfl,p,l,⟨_,Am,rfl,vO⟩,f_.dict,m,q,h,⟨_,fw.mN,BodyOk.kv o r⟩⟩ (λa=>⟨_,rfl⟩)
theorem Ex.Mu{tg j k c d:ay}{f:List ay}{b:cR}{i h:bc}{mi mt bs mk mv own sN}(w:W.Ok)(p:jq si b own)(s:∀e x,ib d e x=pure x)
 (q:du W n si c d mi) (t:Et W n (cC si b) c mt) (l:gv W n (cC si b) f bs) (r:Ev W n (cC si b) j mk) (u:Ev W n (cC si b) k mv)
 (o:Et W n si tg sN) (m:∀e:bg,e.scope=si.sc->kq [tg] (.DictComp j k [⟨c,d,f,0⟩] b i) h.line e=pure true) (v:∀e,gy [tg] e= [(false,iy tg e)]):
 Ex W n si (.Assign [tg] (.DictComp j k [⟨c,d,f,0⟩] b i) h) (.assign sN (.aI (.comp mi mt bs (.kv mk mv) own (.dict [])))):=
 Ex.ym (g:=⟨c,d,f,0⟩) ⟨w,⟨_,rfl⟩,rfl,s,p,⟨_,Am,rfl,vO⟩,f_.dict,q,t,l,⟨_,fw.mN,BodyOk.kv r u⟩⟩ (λa a=>⟨_,rfl⟩) o m v
end
end
section
section
variable {W:Wd} {n:Nat} {si:SI}
theorem Out.grown{G:Gh}{s c:ai}{σ d v}(st:St W G s σ)(k:∀b o,s.heap.get? b=some o->c.heap.get? b=some o)(g:s.heap.objs.size<=c.heap.objs.size)(e:c.gens=s.gens)(f:c.os=s.os)
 (r:cH W G s.heap G c.heap->Rep W G c.heap v d):Out W G s σ d v c:=
 have x:=st.grow k g e f
 ⟨G,x.2,x.1,r (x.2.ea λa x=>x.elim)⟩
theorem dy.grown{G:Gh}{s f:ai}{σ:MH}{c:Cell}{a:aq}(st:St W G s σ)(k:∀b o,s.heap.get? b=some o->f.heap.get? b=some o)(h:s.heap.objs.size<=a)(g:a<f.heap.objs.size)(l:f.gens=s.gens)(m:f.os=s.os)
 (j:∀G',cH W G s.heap G' f.heap->cg W G' f.heap a none c):dy W G s (c,σ) (.ref a) f:=
 have i:s.heap.objs.size<=f.heap.objs.size:=jy (ee h g)
 have x:=jE (b3:=f) (M:=λb=>b=a) st (λb e=>⟨e▸h,e▸g⟩) k i l m
 ⟨{G with fr:=λb=>G.fr b∨b=a},a,rfl,h,rfl,.all (λd d e=>e) (λd d e=>e) rfl (λd x=>x) (λd x=>.inl x) (λb o e d=>k b o e) i,x.1,j _ x.2,λx=>absurd (st.inv.b0 a x).2.1 (Nat.not_lt.mpr h),st.inv.b8⟩
def CI(W:Wd)(n:Nat)(t:af->bY af)(f:D->MH->Option (Cell×MH)):Prop:=
 ∀{A G s σ v d r},br n A->St W G s σ->Rep W G s.heap v d->f d σ=some r->ar W.M A (t v) (dy W G s r) aF s
def CJ(W:Wd)(n:Nat)(t:af->af->bY af)(f:D->D->MH->Option (Cell×MH)):Prop:=
 ∀{A G s σ v u d e r},br n A->St W G s σ->Rep W G s.heap v d->Rep W G s.heap u e->f d e σ=some r->ar W.M A (t v u) (dy W G s r) aF s
theorem DS{A c M G s ρ σ r}{x:String}{p g:bc}{e:ay}{m:ME}{f:af}{Q:af->ai->Prop}(o:W.Ok)(B:iv W si x f)(l:isVal f=true)(k:Ev W n si e m)(i:∀c,bB [e] c= [(false,aU e c)])
 (q:br n A) (st:St W G s σ) (F:aT W A G s.heap si c M ρ) (j:m ρ σ=some r) (K:∀{d ak v},Step W bf G s.heap d ak.heap->St W d ak r.2->Rep W d ak.heap v r.1->ar W.M A (bM f [v] []) Q aF ak):
 ar W.M A (aU (.Call (.Name (au x) p) [e] [] g) c) Q aF s:=
 rU o B l (fF.of (dN.cons k dN.nil (by intro c;exact aa (i ..) rfl))) (by intro c;exact aa (i ..) rfl) (r:=([r.1],r.2)) q st F (by unfold aG;exact aa (j ..) rfl) λS h t=>t.d6 λa b=>b.iN (K S h a)
theorem Ev.yB{x p e c m f F}(u:W.Ok)(o:si.kind x=some .globalImplicit)(hb:(au x==("__debug__" :aj))=false)(l:W.mg (au x)=none)(s:W.mb (au x)=some f)(k:isVal f=true)
 (b:fH W n (λv=>bM f [v]) F) (j:Ev W n si e m) (t:∀a,bB [e] a= [(false,aU e a)]):Ev W n si (.Call (.Name (au x) p) [e] [] c) (.ax F m):=λg st Fr h=>
 ob h λq i h=>DS u ⟨o,hb,l,s⟩ k j t g st Fr i λS d r=>gG S (b g d r h)
theorem bG.yB{x p e c m f F}(u:W.Ok)(o:si.kind x=some .globalImplicit)(hb:(au x==("__debug__" :aj))=false)(l:W.mg (au x)=none)(s:W.mb (au x)=some f)(k:isVal f=true)
 (b:CI W n (λv=>bM f [v]) F) (j:Ev W n si e m) (t:∀a,bB [e] a= [(false,aU e a)]):bG W n si (.Call (.Name (au x) p) [e] [] c) (.ax F m):=λg st Fr h=>
 ob h λq i h=>DS u ⟨o,hb,l,s⟩ k j t g st Fr i λS d r=>BA S (b g d r h)
theorem Rj{A G s σ v d k}(st:St W G s σ)(r:Rep W G s.heap v d)(h:vg d σ=some k):ar W.M A (bM (.builtin "len") [v]) (Out W G s σ k) aF s:=by
 unfold vg at h
 split at h
 .rename_i x f
  exact sj h (r.c8 f λt p l=>P.len_str (Int.not_le.mpr (nv l)) (.tok st (.int _ _)))
 .refine ob h λxs f h=>sj h ?_
  refine yl st r f λ{a o i m T} e c j g n z=>?_
  have b:i.size=xs.length:=eX n
  rcases j with rfl| rfl
  .exact Calls.call_len_list ⟨o,e,c,m,g⟩ (by exact aa (b ..)<|nv z) (by exact aa (b ..)<| .tok st (.int _ _))
  .exact len_tuple (items:=i) ⟨o,e,c,m,g⟩ (by exact aa (b ..)<|nv z) (by exact aa (b ..)<| .tok st (.int _ _))
theorem Op.len:fH W n (λv=>bM (.builtin "len") [v]) bW:=fH.pure (t:=λv=>bM (.builtin "len") [v]) (f:=vg) λa st r e=>Rj st r e
theorem Sg(l:aq)(b:Array af)(d:(b.size:Int)<2 ^ 63):kE (bE.«bool.__new__» ⟨[.type "bool",.ref l],[]⟩)
 (λa R s=>s.heap.IsList l b/\R (.ok (.ret (.bool (!b.isEmpty)))) {s with toks:=s.toks+1+1}):=
 Meets.of_wp λprog w A R s c=>by
  refine aA c λhl c=>?_
  have e:=F.conv_sub_bool
  repeat (any_goals (first| assumption| (refine WV hl d ?_)| wp_step))
  all_goals first| exact⟨_,rfl,c⟩| skip
theorem Op.bool:fH W n (λv=>bM (.type "bool") [v]) yt:=fH.pure (t:=λv=>bM (.type "bool") [v]) (f:=ux) λi st d e=>by
 unfold ux at e
 split at e
 .rename_i xs g
  exact sj e (fL st d g λ{a h} hl c z=>call_bool_1 (Sg a h (by exact aa (eX c ..)<|nv z)) ⟨hl,CT _ _,by exact aa (u6 c ..)<| .tok st (.bool _)⟩)
 .exact ob e λb hb e=>sj e (d.ot hb (call_bool_bool (.now st (.bool _))))
theorem Op.str:fH W n (λv=>bM (.type "str") [v]) jR:=fH.pure (t:=λv=>bM (.type "str") [v]) (f:=nk) λk st l e=>by
 unfold nk at e
 split at e
 .rename_i b hb
  refine sj e (l.ot hb (P.str_of_bool (.tok st ?_)))
  induction b
  .exact .str _ _ (qA "False") (by decide)
  .exact .str _ _ (qA "True") (by decide)
 .refine ob e λp s e=>og e λq e=>sj e ?_
  refine aA (band q) λm g=>?_
  refine aA (band g) λg h=>?_
  refine aA (band h) λh d=>?_
  refine aA (band d) λd c=>?_
  refine aA (band c) λc o=>?_
  have d:=of_decide_eq_true d
  have c:=of_decide_eq_true c
  refine aL ((pb st 6 l s).rd) λas j=>?_
  refine aL (isRef_of_reads j h) λa i=>?_;obtain rfl:=i
  refine iT (str_of_reads j m (PyData.noDict_hsm (pn _▸g)) k.2.2.1 (by have:=k.units;omega) (λ_ _ e=>e) (λh' u x r w=>?_) (aE c f9))
  exact .grown st r w rfl rfl λ_=>.str _ _ o c
theorem xQ.list:CI W n (λv=>bM (.type "list") [v]) qk:=λ{A G s σ v d r} t st p e=>
 ob e λxs l e=>sj e (yl st p l λ{a o q m T} i c j h f z=>
  call_list_seq a j i c h (λh' g k b=>dy.grown st k (bb _) (b9 b) rfl rfl λG' K=>⟨z,_,q,g,b,rfl,⟨rfl,rfl⟩,rfl,f.keep K⟩) (size_le f z))
theorem N3{prog:eA}{w:eC}{A:aO}{E:af->ai->Prop}{s:ai}{Q:List af->ai->Prop}(it:aq){T:String}{o:bu}{a:Array af}{n:Nat}(e:T= "list" ∨T= "tuple")
 (i:s.heap.get? it=some o) (f:o.cls=.type T) (g:o.data=.seq a n)
 (d:∀h',(∀b c,s.heap.get? b=some c->h'.get? b=some c)->s.heap.objs.size<=h'.objs.size->Q a.toList {s with heap:=h'}) (hsz:a.size<=gF):
 ar (bX prog w) A (yZ (.ref it)) Q E s:=iT (WI it e i f g (λh' h j=>d h' h j) hsz)
theorem Sj(l:aq)(o:bu)(c:Array af)(n:Nat)(i:o.cls=.type "list")(p:o.data=.seq c n)(hsz:c.size<=gF):
 kE (bE.«tuple.__new__» ⟨[.type "tuple",.ref l],[]⟩)
  (λa R s=>s.heap.get? l=some o/\∀h':aN,(∀b k,s.heap.get? b=some k->h'.get? b=some k)->s.heap.objs.size<=h'.objs.size->R (.ok (.ret (.ref h'.objs.size))) {s with heap:=h'.push {cls:=.type "tuple",data:=.seq c}}):=
 .of_wp λprog w A R s h=>by
  obtain⟨t,g,d,x,os⟩:=s;refine aA h λf h=>?_
  have j:=VJ
  have e:=QC
  have r:=R9
  have m:LK ⟨t,g,d,x,os⟩ (.ref l) "list" :=⟨o,f,i⟩
  wp_walk using dH f,wN m,N3 (hsz:=hsz) l (.inl rfl) f i p
  intro h' q u
  show ar _ _ (w8 c.toList.toArray>>=λv=>CS v) _ _ _
  unfold w8
  refine ah (iS ?_ (by show c.toList.toArray.size<=gF;exact aa (BL ..)<|hsz))
  refine aD ⟨_,rfl,?_⟩
  exact aa (BL ..)<|h h' q u
theorem Op.tuple:fH W n (λv=>bM (.type "tuple") [v]) wD:=fH.pure (t:=λv=>bM (.type "tuple") [v]) (f:=IG) λ{A G s σ v d r} B st w e=>
 ob e λxs u e=>sj e (oh st w u λ{a o y m} l c g k j z=>
  DU JA (by decide) (JR _) (JF _) (λi=>Jy i _) JE
   (Sj a o y m c k (size_le j z)) ⟨l,λh' p h=>⟨⟨_,c5 _ rfl,rfl⟩,
     .grown st (λb o e=>bH _ (p b o e)) (by show _<=(h'.push _).objs.size;exact aa (c9 ..)<|Nat.le_succ_of_le h) rfl rfl λK=>
      .tup z ⟨λx=>absurd (st.inv.cn _ x).2.1 (Nat.not_lt.mpr h),λx=>absurd (st.inv.b0 _ x).2.1 (Nat.not_lt.mpr h),λq=>absurd (a9 st.inv.eO st.inv.size) (Nat.not_lt.mpr (q▸h))⟩ (c5 _ rfl) rfl ⟨rfl,rfl⟩ rfl (j.keep K)⟩⟩)
end
end
section
section
variable {W:Wd} {n:Nat} {si:SI}
theorem Ev.typ{x p t}(d:W.Ok)(b:si.kind x=some .globalImplicit)(hb:(au x==("__debug__" :aj))=false)(a:W.mg (au x)=none)(c:W.mb (au x)=some (.type t)):
 Ev W n si (.Name (au x) p) (.typ t):=λe st Fr h=>sj h (g8 d st Fr b hb (.inr ⟨a,c⟩) (.now st (.typ _)))
theorem Ev.Pm{x p}{i:Int}{d:de}(c:W.Ok)(b:si.kind x=some .globalImplicit)(hb:(au x==("__debug__" :aj))=false)(a:W.mg (au x)=some (.int i d)):
 Ev W n si (.Name (au x) p) (.int i):=λe st Fr h=>sj h (g8 c st Fr b hb (.inl a) (.now st (.int _ _)))
theorem Ev.Nj{x p e b i m o f F}(E:W.Ok)(C:si.kind x=some .globalImplicit)(hb:(au x==("__debug__" :aj))=false)(B:W.mg (au x)=none)(D:W.mb (au x)=some f)(A:isVal f=true)
 (g:bL W n (λv u=>bM f [v,u]) F) (z:Ev W n si e m) (d:Ev W n si b o) (l:∀a,bB [e,b] a= [(false,aU e a),(false,aU b a)]) (c:∀a,bB [b] a= [(false,aU b a)]):Ev W n si (.Call (.Name (au x) p) [e,b] [] i) (.bh F m o):=λt st Fr h=>
 ob h λq w h=>ob h λs y h=>
  rU E ⟨C,hb,B,D⟩ A (fF.of (dN.cons z (dN.cons d dN.nil (by intro a;exact aa (c ..) rfl)) (by intro a;exact aa (l ..)<|aa (c ..) rfl))) (by intro a;exact aa (l ..) rfl) (r:=([q.1,s.1],s.2)) t st Fr (by unfold aG;refine aa (w ..)<|aa (CL ..) ?_;unfold aG;exact aa (y ..) rfl)
   λS k H=>H.d6 λr j=>j.d6 λG j=>j.iN (gG S (g t k r G h))
theorem Wb{G h d c}(r:aQ W G h d c):∀{b},qI c=some b->d=b.map .type:=
 λ{b}=>r.ind (motive:=λd c=>∀b,qI c=some b->d=b.map .type) (λa e=>sj e rfl) (λr a i a e=>ob e λt g e=>ob e λj f e=>sj e (r.Bl (motive:=λv a=>v::_=_) g (congrArg _ (i _ f)))) b
@[elab_as_elim] theorem IJ{G h v d xs j}{motive:af->Prop}(r:Rep W G h v d)(p:d.kx=some xs)(n:qI xs=some j)(k:∀{a},h.get? a=some {cls:=.type "tuple",data:=.seq (j.map kF).toArray}->motive (.ref a)):motive v:=
  r.jm (motive:=λv b=>motive v) p λ{a o u} z f e c dd l q=>k (by
   refine aa (e ..) ?_
   obtain⟨s,d,m,t⟩:=o
   refine aA dd λg i=>?_;obtain rfl:=g;obtain rfl:=i
   obtain rfl:=c
   obtain rfl:=l
   exact aa (.symm (Wb q n ..))<|aa (BL ..) rfl)
theorem Op.QM:bL W n (λv u=>bM (.builtin "isinstance") [v,u]) mY:=bL.pure (t:=λv u=>bM (.builtin "isinstance") [v,u]) (f:=zO) λ{A G s σ v u d e r} B st i g h=>by
 unfold zO at h
 split at h
 .rename_i t p
  exact ob h λx c h=>og h λe h=>sj h (g.Bl p (i.c8 c λ_ _ _=>by subst e;exact IsiPair.str_bytes (.tok st (.bool _))))
 .refine ob h λxs c h=>ob h λE b h=>ob h λH q h=>og h λe h=>sj h ?_
  subst e
  refine oh st i q λ{a o w m} k j _ y C z=>?_
  exact IJ g c b λl=>IsiPair.tupleOf (Tx:="list") (cs:=[.type "list",.type "tuple"]) (vs:=[true,false]) ⟨Answers.of_true (by rfl) wW,Answers.of_false_list (by decide) (by rfl) F.sub_list_tuple,trivial⟩ ⟨o,k,j⟩ l λD=>.tok st (.bool _)
theorem QO{prog:eA}{w:eC}{A:aO}{E:af->ai->Prop}{s:ai}{k:af}{b:Int}{d:de}{Q:Fin->ai->Prop}(c:k=.int b d)(f:Q (.done (.ret (.bool true))) s):
 ar (bX prog w) A (bE.«issubclass.nested» ⟨[.type "str",.type "str",k],[]⟩) Q E s:=by
 subst c
 have e:tD (.type "str")=pure (.type "type"):=rfl
 have a:jJ (.type "str") (.type "str")=pure true:=by refine aa (eE ..) ?_;kernel_rfl
 repeat (any_goals (first| assumption| (rw [a])| wp_step))
theorem QP{prog:eA}{w:eC}{A:aO}{E:af->ai->Prop}{s:ai}{tp:aq}{j:de}{Q:Fin->ai->Prop}(e:List af)(b:e= [kF "str",.type "bytes"])(c:s.heap.get? tp=some {cls:=.type "tuple",data:=.seq e.toArray})
 (l:Q (.done (.ret (.bool true))) s):ar (bX prog w) A (bE.«issubclass.nested» ⟨[.type "str",.ref tp,.int 0 j],[]⟩) Q E s:=by
 obtain⟨h,g,d,t,os⟩:=s
 have f:(⟨h,g,d,t,os⟩:ai).TypeIs (.ref tp) "tuple" :=⟨_,c,rfl⟩
 have k:=F.isi_sub_tuple
 repeat (any_goals (first| assumption| wp_step))
 refine wpAny_arrayLoop ?_
 simp only [ue,List.toList_toArray]
 refine aa (b ..) ?_
 simp only [rD]
 refine ah (ah (call_function_meets (S:=λa R s=>R (.ok (.ret (.bool true))) s) (show builtinKind "issubclass.nested" =none by decide+kernel) (show v8 "issubclass.nested" =true by decide+kernel) F.entry_issubclass_nested
  (by unfold gj;kernel_rfl) (.of_wp λprog w A R s i=>QO rfl ⟨_,rfl,i⟩) ?_))
 repeat (any_goals (first| assumption| wp_step))
theorem Op.QN:bL W n (λv u=>bM (.builtin "issubclass") [v,u]) FK:=bL.pure (t:=λv u=>bM (.builtin "issubclass") [v,u]) (f:=FJ) λ{A G s σ v u d e r} q st p o h=>
 ob h λt l h=>ob h λxs m h=>ob h λw c h=>og h λe h=>sj h (by
  refine aA e λg i=>?_;obtain rfl:=g;obtain rfl:=i
  refine p.Bl l (IJ o m c λ{a} k=>?_)
  exact call_issubclass (S:=λb R s=>s.heap.get? a=some {cls:=.type "tuple",data:=.seq [kF "str",.type "bytes"].toArray}/\R (.ok (.ret (.bool true))) s) (λb b b b b j=>issubclass_outer (QP _ rfl j.1 j.2)) ⟨k,.now st (.bool _)⟩)
theorem Op.type:fH W n (λv=>bM (.type "type") [v]) II:=fH.pure (t:=λv=>bM (.type "type") [v]) (f:=IH) λd st c h=>
 ob h λx b h=>sj h (c.c8 b λa a a=>call_type_of (pW _ _ _) (by decide) (.now st (.typ _)))
end
end
section
open PySem.SeqAt PySem.MeetsSeq PySem.MeetsSeq2 PySem.MeetsSeq3 PySem.SeqRoads2
def gJ(op:mj)(A:aO)(s:ai)(y x:af)(b:Bool):Prop:=
 ∀(prog:eA) (w:eC) (E:af->ai->Prop) (Q:af->ai->Prop),Q (.bool b) s->ar (bX prog w) A (richCompare op y x) Q E s
noncomputable def gS (e c:Nat->Bool) (a:Bool):Nat->Nat->Bool
 | 0,_=>a
 | k+1,i=>if e i then gS e c a k (i+1) else c i
theorem G6{o:bu}{c:af}{a:Array af}{n:Nat}(h:o.cls=c)(d:o.data=.seq a n):o= {cls:=c,dict:=o.dict,data:=.seq a n,slots:=o.slots}:=h▸d▸rfl
theorem sF{b:aN}{l:aq}{a:Array af}{P:Prop}(h:b.IsList l a)(k:∀dd n f,b.get? l=some {cls:=.type "list",dict:=dd,data:=.seq a n,slots:=f}->P):P:=
 bI h λo e c q=>q.elim λn d=>k o.dict n o.slots (e.trans (congrArg _ (G6 c d)))
theorem IE{b:aN}{l:aq}{a:Array af}{P:Prop}(h:b.IsTuple l a)(k:∀dd n f,b.get? l=some {cls:=.type "tuple",dict:=dd,data:=.seq a n,slots:=f}->P):P:=
 bI h λo e c q=>q.elim λn d=>k o.dict n o.slots (e.trans (congrArg _ (G6 c d)))
def Lx(t:String)(op:mj)(l b:aq)(xs a:Array af)(n i:Nat)(dd d:Option aq)(k f:Array (Option af))(e c:Nat->Bool)(A:aO)(s:ai):Prop:=
 s.heap.get? l=some {cls:=.type t,dict:=dd,data:=.seq xs n,slots:=k}/\s.heap.get? b=some {cls:=.type t,dict:=d,data:=.seq a i,slots:=f}/\
 (∀j (g:j<xs.size) (h:j<a.size),EqAt A.in1 s xs[j] a[j] (e j))/\(∀j (g:j<xs.size) (h:j<a.size),e j=false->gJ op A.in1 s xs[j] a[j] (c j))
theorem kG{xs:Array af}{i:Nat}(h:i<xs.size):xs[((i:Nat):Int).toNat]?=some xs[i]:=I5 h
theorem uj{xs:Array af}{i:Nat}(h:¬i<xs.size):xs[((i:Nat):Int).toNat]?=none:=tO (Nat.not_lt.mp h)
theorem kX{m i k:Nat}(h:m - i=k+1):i<m:=Nat.lt_of_sub_pos (h▸CG k)
theorem m5{m i k:Nat}(h:m - i=k+1):m - (i+1)=k:=congrArg Nat.pred h
theorem RN(l b:aq)(xs r:Array af)(n y:Nat)(dd o:Option aq)(z q:Array (Option af))(e c:Nat->Bool)(k:Nat):
 ∀i:Nat,min xs.size r.size - i=k->kE (bE.«list.__eq__.loop» ⟨[.ref l,.ref b,gE i,gE 0],[]⟩)
  (λA R s=>Lx "list" .Lt l b xs r n y dd o z q e c A s/\R (.ok (.ret (.bool (gS e c (decide (xs.size<r.size)) k i)))) s):=by
 induction k with
 | zero=>
  intro i m prog w A R s h
  obtain⟨v,g,d,B,os⟩:=s;refine aA h λp h=>eP p λhl hb u t=>?_
  wp_walk using dH hl,dH hb
  by_cases a:i<xs.size
  .refine aa (kG a)<|aa (uj λj=>Nat.not_lt.mpr (pS m) (Nat.lt_min.mpr ⟨a,j⟩)) ?_
   wp_walk using dH hl,dH hb
   exact h
  .refine aa (uj a) ?_
   wp_walk using dH hl,dH hb
   exact h
 | succ k x=>
  intro i m prog w A R s h
  obtain⟨v,g,d,B,os⟩:=s;refine aA h λp h=>eP p λhl hb u t=>?_
  wp_walk using dH hl,dH hb
  refine aA (Nat.lt_min.mp (kX m)) λa j=>?_
  refine aa (kG a)<|aa (kG j) ?_
  refine ah (u i a j prog w _ _ ?_)
  rw [gS] at h
  induction f:e i with
  | true=>
   rw [f] at h
   wp_walk
   exact⟨g_ plain_eq_loop _,fN entry_eq_loop (aa (gH plain_eq_loop _) (x (i+1) (m5 m) prog w A R _ ⟨p,h⟩))⟩
  | false=>
   rw [f] at h
   wp_walk using dH hl,dH hb
   refine aa (kG a)<|aa (kG j) ?_
   exact ah (t i a j f prog w _ _ (aD h))
theorem Rw(l b:aq)(xs i:Array af)(n j:Nat)(dd a:Option aq)(k f:Array (Option af))(e c:Nat->Bool):
 kE (bE.«list.__lt__» ⟨[.ref l,.ref b],[]⟩) (λA R s=>Lx "list" .Lt l b xs i n j dd a k f e c A s/\R (.ok (.ret (.bool (gS e c (decide (xs.size<i.size)) (min xs.size i.size) 0)))) s):=by
 intro prog w A R s h
 obtain⟨t,g,d,u,os⟩:=s;refine aA h λp q=>eP p λhl hb r o=>?_
 have m:=wW
 wp_walk using dH hl,dH hb
 exact⟨g_ plain_eq_loop _,fN entry_eq_loop (aa (gH plain_eq_loop _) (RN l b xs i n j dd a k f e c _ 0 rfl prog w A R _ h))⟩
theorem NS{A:aO}{s:ai}{l b:aq}{xs a:Array af}{e c:Nat->Bool}(hl:s.heap.IsList l xs)(hb:s.heap.IsList b a)(q:A.units<ox)
 (p:∀j (k:j<xs.size) (m:j<a.size),EqAt A.in1 s xs[j] a[j] (e j)) (o:∀j (k:j<xs.size) (m:j<a.size),e j=false->gJ .Lt A.in1 s xs[j] a[j] (c j)):
 gJ .Lt A s (.ref l) (.ref b) (gS e c (decide (xs.size<a.size)) (min xs.size a.size) 0):=λprog w E Q h=>
 sF hl λdd n t i=>sF hb λf r g d=>HE (op:=.Lt) ⟨_,i,rfl⟩ ⟨_,d,rfl⟩ F.slot_list_lt F.entry_list_lt (F.args_list_lt_2 _ _) (Rw l b xs a n r dd f t g e c)
  ⟨⟨i,d,p,o⟩,show n9 _≠C1/\Q (.bool _) s from⟨(λx=>nomatch x),h⟩⟩ q
theorem Pn(l b:aq)(xs r:Array af)(n y:Nat)(dd o:Option aq)(z q:Array (Option af))(e c:Nat->Bool)(k:Nat):
 ∀i:Nat,min xs.size r.size - i=k->kE (bE.«list.__eq__.loop» ⟨[.ref l,.ref b,gE i,gE 4],[]⟩)
  (λA R s=>Lx "list" .Gt l b xs r n y dd o z q e c A s/\R (.ok (.ret (.bool (gS e c (decide (xs.size>r.size)) k i)))) s):=by
 induction k with
 | zero=>
  intro i m prog w A R s h
  obtain⟨v,g,d,B,os⟩:=s;refine aA h λp h=>eP p λhl hb u t=>?_
  wp_walk using dH hl,dH hb
  by_cases a:i<xs.size
  .refine aa (kG a)<|aa (uj λj=>Nat.not_lt.mpr (pS m) (Nat.lt_min.mpr ⟨a,j⟩)) ?_
   wp_walk using dH hl,dH hb
   exact h
  .refine aa (uj a) ?_
   wp_walk using dH hl,dH hb
   exact h
 | succ k x=>
  intro i m prog w A R s h
  obtain⟨v,g,d,B,os⟩:=s;refine aA h λp h=>eP p λhl hb u t=>?_
  wp_walk using dH hl,dH hb
  refine aA (Nat.lt_min.mp (kX m)) λa j=>?_
  refine aa (kG a)<|aa (kG j) ?_
  refine ah (u i a j prog w _ _ ?_)
  rw [gS] at h
  induction f:e i with
  | true=>
   rw [f] at h
   wp_walk
   exact⟨g_ plain_eq_loop _,fN entry_eq_loop (aa (gH plain_eq_loop _) (x (i+1) (m5 m) prog w A R _ ⟨p,h⟩))⟩
  | false=>
   rw [f] at h
   wp_walk using dH hl,dH hb
   refine aa (kG a)<|aa (kG j) ?_
   exact ah (t i a j f prog w _ _ (aD h))
theorem Rv(l b:aq)(xs i:Array af)(n j:Nat)(dd a:Option aq)(k f:Array (Option af))(e c:Nat->Bool):
 kE (bE.«list.__gt__» ⟨[.ref l,.ref b],[]⟩) (λA R s=>Lx "list" .Gt l b xs i n j dd a k f e c A s/\R (.ok (.ret (.bool (gS e c (decide (xs.size>i.size)) (min xs.size i.size) 0)))) s):=by
 intro prog w A R s h
 obtain⟨t,g,d,u,os⟩:=s;refine aA h λp q=>eP p λhl hb r o=>?_
 have m:=wW
 wp_walk using dH hl,dH hb
 exact⟨g_ plain_eq_loop _,fN entry_eq_loop (aa (gH plain_eq_loop _) (Pn l b xs i n j dd a k f e c _ 0 rfl prog w A R _ h))⟩
theorem NR{A:aO}{s:ai}{l b:aq}{xs a:Array af}{e c:Nat->Bool}(hl:s.heap.IsList l xs)(hb:s.heap.IsList b a)(q:A.units<ox)
 (p:∀j (k:j<xs.size) (m:j<a.size),EqAt A.in1 s xs[j] a[j] (e j)) (o:∀j (k:j<xs.size) (m:j<a.size),e j=false->gJ .Gt A.in1 s xs[j] a[j] (c j)):
 gJ .Gt A s (.ref l) (.ref b) (gS e c (decide (xs.size>a.size)) (min xs.size a.size) 0):=λprog w E Q h=>
 sF hl λdd n t i=>sF hb λf r g d=>HE (op:=.Gt) ⟨_,i,rfl⟩ ⟨_,d,rfl⟩ F.slot_list_gt F.entry_list_gt (F.args_list_gt_2 _ _) (Rv l b xs a n r dd f t g e c)
  ⟨⟨i,d,p,o⟩,show n9 _≠C1/\Q (.bool _) s from⟨(λx=>nomatch x),h⟩⟩ q
theorem IZ{xs a:Array af}:(xs.toList.zip a.toList).length=min xs.size a.size:=KP
theorem Xb{xs a:Array af}{i:Nat}(h: []=(xs.toList.zip a.toList).drop i):min xs.size a.size - i=0:=IZ▸List.length_drop.symm.trans (congrArg pN h).symm
theorem Xa{xs b:Array af}{i:Nat}{y x:af}{r:List (af×af)}{P:Prop}(h:(y,x)::r=(xs.toList.zip b.toList).drop i)(k:∀(j:i<xs.size) (l:i<b.size),y=xs[i]->x=b[i]->r=(xs.toList.zip b.toList).drop (i+1)->P):P:=by
 have a:i<(xs.toList.zip b.toList).length:=K8 λh'=>by rw [List.drop_of_length_le h'] at h;cases h
 have c:=Nat.lt_min.mp (IZ▸a)
 rw [Ce a,KG] at h
 exact aA (rz h) λe d=>aA (lF e) λg f=>k c.1 c.2 g f d
theorem V7(l b:aq)(xs a:Array af)(n F:Nat)(dd f:Option aq)(G r:Array (Option af))(e c:Nat->Bool):
 kE (bE.«tuple.__gt__» ⟨[.ref l,.ref b],[]⟩) (λA R s=>Lx "tuple" .Gt l b xs a n F dd f G r e c A s/\R (.ok (.ret (.bool (gS e c (decide (xs.size>a.size)) (min xs.size a.size) 0)))) s):=
 .of_wp λprog w A R s h=>by
  obtain⟨t,g,d,u,os⟩:=s;refine aA h λp h=>eP p λhl hb D C=>?_
  have J:=I9
  wp_walk using dH hl,dH hb,wpAny_forIn_list _ (λrest b q=>b.1=none/\q=⟨t,g,d,u,os⟩/\∃i k,min xs.size a.size - i=k/\rest=(xs.toList.zip a.toList).drop i/\
   R (.ok (.ret (.bool (gS e c (decide (xs.size>a.size)) k i)))) ⟨t,g,d,u,os⟩) _
  case turn=>
   rintro ⟨y,x⟩ rest b q ⟨lR,rfl,i,k,hk,hz,hR⟩
   refine Xa hz λj m B z v=>?_
   subst B z
   have E:=Nat.lt_min.mpr ⟨j,m⟩
   induction k with
   | zero=>exact absurd E (Nat.not_lt.mpr (pS hk))
   | succ k _=>
    rw [gS] at hR
    refine ah (D i j m prog w _ _ ?_)
    induction o:e i with
    | true=>
     rw [o] at hR
     wp_walk
     exact⟨rfl,rfl,i+1,k,m5 hk,v,hR⟩
    | false=>
     rw [o] at hR
     simp only [Bool.not_false,if_true]
     refine ah (nH ?_)
     refine ah (C i j m o prog w _ _ ?_)
     wp_walk
     exact⟨_,rfl,hR⟩
  case fin=>
   rintro ⟨H,I⟩ q ⟨lR,rfl,i,k,hk,hz,hR⟩
   simp only at lR
   subst lR
   rw [Xb hz] at hk
   subst hk
   wp_walk
   exact⟨_,rfl,hR⟩
  case h=>exact⟨rfl,rfl,0,_,rfl,rfl,h⟩
theorem NU{A:aO}{s:ai}{l b:aq}{xs a:Array af}{e c:Nat->Bool}(hl:s.heap.IsTuple l xs)(hb:s.heap.IsTuple b a)(q:A.units<ox)
 (p:∀j (k:j<xs.size) (m:j<a.size),EqAt A.in1 s xs[j] a[j] (e j)) (o:∀j (k:j<xs.size) (m:j<a.size),e j=false->gJ .Gt A.in1 s xs[j] a[j] (c j)):
 gJ .Gt A s (.ref l) (.ref b) (gS e c (decide (xs.size>a.size)) (min xs.size a.size) 0):=λprog w E Q h=>
 IE hl λdd n t i=>IE hb λf r g d=>HE (op:=.Gt) ⟨_,i,rfl⟩ ⟨_,d,rfl⟩ F.slot_tuple_gt F.entry_tuple_gt (F.args_tuple_gt_2 _ _) (V7 l b xs a n r dd f t g e c)
  ⟨⟨i,d,p,o⟩,show n9 _≠C1/\Q (.bool _) s from⟨(λx=>nomatch x),h⟩⟩ q
theorem NQ{A:aO}{s:ai}(gt:Bool)(a b:Int)(t u:de):gJ (if gt then .Gt else .Lt) A s (.int a t) (.int b u) (if gt then decide (a>b) else decide (a<b)):=λprog w E Q h=>by
 induction gt
 .exact wg (op:=.Lt) (xZ s _ t) (xZ s _ u) F.slot_int_lt F.entry_int_lt (F.args_int_lt_2 _ _) (gives_int_lt _ _ t u) (λx=>nomatch x) h
 .exact wg (op:=.Gt) (xZ s _ t) (xZ s _ u) F.slot_int_gt JC (Jw _ _) (gives_int_gt _ _ t u) (λx=>nomatch x) h
theorem NT{A:aO}{s:ai}(gt:Bool)(a b:aj)(t u:de):gJ (if gt then .Gt else .Lt) A s (.str a t) (.str b u) (if gt then decide (b.cps.toList<a.cps.toList) else decide (a.cps.toList<b.cps.toList)):=λprog w E Q h=>by
 induction gt
 .exact wg (op:=.Lt) (pW s _ t) (pW s _ u) F.slot_str_lt F.entry_str_lt (F.args_str_lt_2 _ _) (gives_str_lt _ _ t u) (λx=>nomatch x) h
 .exact wg (op:=.Gt) (pW s _ t) (pW s _ u) F.slot_str_gt F.entry_str_gt (F.args_str_gt_2 _ _) (gives_str_gt _ _ t u) (λx=>nomatch x) h
theorem NO{A:aO}{s:ai}(a b:Bool):gJ .Gt A s (.bool a) (.bool b) (a && !b):=λprog w E Q h=>by
 refine wg (op:=.Gt) (CT s _) (CT s _) F.slot_bool_gt JC (Jw _ _) (m:=.val (.bool (a && !b))) (by induction a<;>induction b<;>exact .of_eq rfl) (λx=>nomatch x) h
end
section
open PySem.SeqAt PySem.MeetsSeq PySem.MeetsSeq2 PySem.MeetsSeq3 PySem.SeqRoads2
noncomputable def Sz:String->mj->bE:=(⟨_,rfl⟩: {f:String->mj->bE // bE.«max.loop»=f "max" .Gt}).1
noncomputable def SA:String->bE:=(⟨_,rfl⟩: {f:String->bE // bE.«max»=f "max"}).1
structure MM(n m:String)(op:mj):Prop where
 hn:toString n++toString ".loop" =m
 el:i_ jl m=some (Sz n op)
 pl:v8 m=true
 k:builtinKind n=none
 p:v8 n=true
 e:i_ jl n=some (SA n)
 a:∀a,gj n {pos:=[a]}
theorem SE:MM "max" "max.loop" .Gt:=⟨by decide,F.entry_max_loop,F.plain_max_loop,F.kind_max,F.plain_max,F.entry_max,F.args_max1⟩
theorem SD:MM "min" "min.loop" .Lt:=⟨by decide,F.entry_min_loop,F.plain_min_loop,F.kind_min,F.plain_min,F.entry_min,F.args_min1⟩
section
variable {nm m:String} {op:mj} {prog:eA} {w:eC} {A:aO} {R:hZ->ai->Prop} {I:aq} {fp wr:List aq} {n:Nat} {P:Nat->af->Prop} {St:Nat->aN->Prop}
theorem NY(M:MM nm m op)(W:Walks prog w A.in1 I fp wr n P St)(E:Nat->Nat->Bool)(S:aq)(q:aN)
 (J:∀i j vi vj (Z:ai),(∀b o,b∉wr->b≠S->q.get? b=some o->Z.heap.get? b=some o)->P i vi->P j vj->gJ op A.in1 Z vi vj (E i j)) (G:S∉fp):
 ∀(k j:Nat) (s:ai) (u:af) (c:Nat),n - (j+1)=k->j+1<=n->St (j+1) s.heap->P (eR E j) u->(∀b o,b∉wr->b≠S->q.get? b=some o->s.heap.get? b=some o)->
 s.heap.get? S=some {cls:=.type "list",dict:=none,data:=.seq #[u,u] c,slots:= #[]}->
 (∀v h' Q,P (eR E (n - 1)) v->(∀b o,b∉wr->b≠S->s.heap.get? b=some o->h'.get? b=some o)->R (.ok (.ret v)) {s with heap:=h',toks:=Q})->
 eU (bX prog w) A (.builtin m ⟨[.ref I,.none,.ref S],[]⟩) R s:=by
 have H:S∉wr:=λh=>G (W.sub _ h)
 intro k
 induction k with
 | zero=>
  intro j s u c L X D t N F O
  have K:j+1=n:=CD X (pS L)
  refine fN M.el ?_
  refine aa (gH M.pl _ ..) ?_
  show ar _ A.in1 (qw (.ref S)>>=_) _ _ s
  refine ah (lb F rfl ?_)
  show ar _ A.in1 (tryCatch (f7 (.ref I)) _>>=_) _ _ s
  refine ah (wM (W.done s _ _ (K▸D) λh' Q g=>?_))
  have l:=g S _ H F
  show ar _ A.in1 (l6 S (λa=> #[])>>=_) _ _ _
  refine ah ?_
  refine jn l rfl (ah (qN (aD ?_)))
  refine O u _ Q (by exact aa (.symm (K ..))<|t) λb o f d e=>(gf _ _ (Ne.symm d)).trans (g b o f e)
 | succ k Y=>
  intro j s u c L X D t N F O
  have C:j+1<n:=kX L
  refine fN M.el ?_
  refine aa (gH M.pl _ ..) ?_
  show ar _ A.in1 (qw (.ref S)>>=_) _ _ s
  refine ah (lb F rfl ?_)
  show ar _ A.in1 (tryCatch (f7 (.ref I)) _>>=_) _ _ s
  refine ah (wM (W.item (j+1) s _ _ C D λv h' Q V x g=>?_))
  have l:=g S _ H F
  have B:∀b o,b∉wr->b≠S->q.get? b=some o->h'.get? b=some o:=λb o hb hs e=>g b o hb (N b o hb hs e)
  show ar _ A.in1 (tryCatch (kf [v,v] (richCompare op v u>>=_)) _>>=_) _ _ _
  refine ah (wM (bz (ah (J (j+1) (eR E j) v u _ B V t prog w _ _ ?_))))
  refine ah (bz (IU ?_))
  refine ah (qN (aD ?_))
  induction hb:E (j+1) (eR E j) with
  | true=>
   refine ah ?_
   refine jn l rfl (ah (qN ?_))
   refine aa M.hn ?_
   refine aD ⟨g_ M.pl _,Y (j+1) _ v _ (m5 L) C (W.frame _ _ _ x λb T o e=>?_) (by unfold eR;exact aa (if_pos hb) V) (λb o f d e=>?_) (eI _ l rfl)
    λU y r z p=>?_⟩
   .exact(gf _ _ (λh:S=b=>G (by exact aa (h ..)<|T))).trans e
   .exact(gf _ _ (Ne.symm d)).trans (B b o f d e)
   .exact O U y r z λb o f d e=>p b o f d ((gf _ _ (Ne.symm d)).trans (g b o f e))
  | false=>
   refine ah (qN ?_)
   refine aa M.hn ?_
   refine aD ⟨g_ M.pl _,Y (j+1) _ u c (m5 L) C x (by unfold eR;exact aa (if_neg (by rw [hb];nofun)) t) B l λU y r z p=>?_⟩
   exact O U y r z λb o f d e=>p b o f d (g b o f e)
theorem NZ(M:MM nm m op)(W:Walks prog w A.in1 I fp wr n P St)(u:Nat->Nat->Bool)(S:aq){s:ai}
 (p:∀i j H J (F:ai),(∀b o,b∉wr->b≠S->s.heap.get? b=some o->F.heap.get? b=some o)->P i H->P j J->gJ op A.in1 F H J (u i j)) (g:S∉fp) (E:0<n) {c:Nat} (C:St 0 s.heap)
 (D:s.heap.get? S=some {cls:=.type "list",dict:=none,data:=.seq #[] c,slots:= #[]})
 (L:∀v h' G,P (eR u (n - 1)) v->(∀b o,b∉wr->b≠S->s.heap.get? b=some o->h'.get? b=some o)->R (.ok (.ret v)) {s with heap:=h',toks:=G}):
 eU (bX prog w) A (.builtin m ⟨[.ref I,.none,.ref S],[]⟩) R s:=by
 have z:S∉wr:=λh=>g (W.sub _ h)
 refine fN M.el ?_
 refine aa (gH M.pl _ ..) ?_
 show ar _ A.in1 (qw (.ref S)>>=_) _ _ s
 refine ah (lb D rfl ?_)
 show ar _ A.in1 (tryCatch (f7 (.ref I)) _>>=_) _ _ s
 refine ah (wM (W.item 0 s _ _ E C λv h' G K r k=>?_))
 have l:=k S _ z D
 show ar _ A.in1 (l6 S (λa=> #[v,v])>>=_) _ _ _
 refine ah ?_
 refine jn l rfl ?_
 refine aa M.hn ?_
 refine aD ⟨g_ M.pl _,NY M W u S s.heap p g _ 0 _ v _ rfl E (W.frame _ _ _ r λb B o e=>?_) K (λb o f d e=>?_) (eI _ l rfl) λN x t y q=>?_⟩
 .exact(gf _ _ (λh:S=b=>g (by exact aa (h ..)<|B))).trans e
 .exact(gf _ _ (Ne.symm d)).trans (k b o f e)
 .exact L N x t y λb o f d e=>q b o f d ((gf _ _ (Ne.symm d)).trans (k b o f e))
end
section
variable {n m:String} {op:mj} {prog:eA} {w:eC} {A:aO} {E:af->ai->Prop} {s:ai}
theorem DV(M:MM n m op){l:aq}{c:Array af}{Q:af->ai->Prop}(I:A.handled=none)(z:Nat->Nat->Bool)(hl:s.heap.IsList l c)(L:0<c.size)
 (g:∀(i j:Nat) x y (u:ai),(∀b o,s.heap.get? b=some o->u.heap.get? b=some o)->c[i]?=some x->c[j]?=some y->gJ op A.in1 u x y (z i j))
 (H:∀v h' D,c[eR z (c.size - 1)]?=some v->(∀b o,s.heap.get? b=some o->h'.get? b=some o)->Q v {s with heap:=h',toks:=D}):
 ar (bX prog w) A (bM (.builtin n) [.ref l]) Q E s:=by
 refine call_function_tree M.k M.p M.e (M.a _) ?_
 show ar _ A.in1 (Jf n ["key","default"] 0 ⟨[],[]⟩>>=_) _ _ s
 refine ah (hK (show Jf n ["key","default"] 0 ⟨[],[]⟩=pure [none,none] from rfl) ?_)
 refine ah (aD ?_)
 refine ah (tH hl ?_)
 refine ah (iS ?_)
 refine aa M.hn ?_
 refine bI (id hl) λo F N q=>?_
 have h:l<s.heap.objs.size:=b9 F
 have t:(s.heap.push {cls:=.type "list_iterator",data:=.fields #[.ref l,.int 0 0]}).objs.size=s.heap.objs.size+1:=c9 ..
 have r:l≠s.heap.objs.size:=bj h
 have d:∀b o,s.heap.get? b=some o->b≠s.heap.objs.size/\b≠(s.heap.push {cls:=.type "list_iterator",data:=.fields #[.ref l,.int 0 0]}).objs.size:=λb o e=>by
  have f:=b9 e
  refine⟨bj f,?_⟩
  exact aa (t ..)<|Nat.ne_of_lt (fG f)
 refine aD ⟨g_ M.pl _,NZ M (Walks.list (A:=A.in1) I s.heap.objs.size l r c) z (s.heap.push {cls:=.type "list_iterator",data:=.fields #[.ref l,.int 0 0]}).objs.size ?_ ?_ L
  ⟨⟨_,bH _ (c5 _ rfl),rfl,rfl⟩,(hl.push _).push _⟩ (c5 _ rfl) ?_⟩
 .intro i j x y u C J K
  refine g i j x y u (λb o e=>?_) J K
  refine aA (d b o e) λf B=>?_
  exact C b o (by simpa using f) B (bH _ (bH _ e))
 .refine aa (t ..) ?_
  simp only [n5,bQ,or_false,not_or]
  exact⟨dc (cw _),dc (fG h)⟩
 .intro v h' D G C
  refine H v h' D G λb o e=>?_
  refine aA (d b o e) λf B=>?_
  exact C b o (by simpa using f) B (bH _ (bH _ e))
end
end
section
open PySem.SeqAt
noncomputable def eJ (xs a:List D) (j:Nat):Bool:=match xs[j]?,a[j]? with| some x,some y=>oH x y| _,_=>false
noncomputable def cJ (gt:Bool) (xs a:List D) (j:Nat):Bool:=match xs[j]?,a[j]? with| some x,some y=>oB gt x y| _,_=>false
theorem F5{e c b a:Nat->Bool}{f:Bool}(g:∀j,b j=e (j+1))(d:∀j,a j=c (j+1)):∀k i,gS e c f k (i+1)=gS b a f k i
 | 0,_=>rfl
 | k+1,i=>by unfold gS;exact aa (F5 g d k (i+1))<|aa (g i)<|aa (d i) rfl
theorem zY(gt:Bool):∀xs b:List D,gS (eJ xs b) (cJ gt xs b) (if gt then decide (xs.length>b.length) else decide (xs.length<b.length)) (min xs.length b.length) 0=o4 gt xs b
 | [],[]=>gt.rec rfl rfl
 | [],_::_=>gt.rec rfl rfl
 | _::_,[]=>gt.rec rfl rfl
 | x::xs,y::b=>by
  have e:(if gt then decide ((x::xs).length>(y::b).length) else decide ((x::xs).length<(y::b).length))=(if gt then decide (xs.length>b.length) else decide (xs.length<b.length)):=gt.rec (decide_eq_decide.mpr K_) (decide_eq_decide.mpr K_)
  refine aa e<|aa (Nat.succ_min_succ ..) ?_
  unfold o4
  exact aa (.symm (zY gt xs b))<|congrArg (λz=>if oH x y then z else oB gt x y) (F5 (λa=>rfl) (λa=>rfl) _ 0)
section
variable {W:Wd} {n:Nat} {si:SI}
theorem OH{G h v u d e b}(i:Rep W G h v d)(g:Rep W G h u e)(a:r5 d e=some b)(A:aO)(s:ai):EqAt A s v u b:=by
 unfold r5 at a
 split at a
 .rename_i c;exact ob a λy f a=>sj a (i.gB c λ_=>g.gB f λ_=>EqAt.int_int _ _ _ _)
 .split at a
  .rename_i c;exact ob a λy f a=>sj a (i.c8 c λ_ _ _=>g.c8 f λ_ _ _=>EqAt.str_str _ _ _ _)
  .exact ob a λx c a=>ob a λy f a=>sj a (i.ot c (g.ot f (EqAt.bool_bool _ _)))
theorem NL{G h v u d e gt b}(i:Rep W G h v d)(g:Rep W G h u e)(a:rX gt d e=some b)(A:aO)(s:ai):gJ (if gt then .Gt else .Lt) A s v u b:=by
 unfold rX at a
 split at a
 .rename_i c;exact ob a λy f a=>sj a (i.gB c λ_=>g.gB f λ_=>NQ gt _ _ _ _)
 .split at a
  .rename_i c;exact ob a λy f a=>sj a (i.c8 c λ_ _ _=>g.c8 f λ_ _ _=>NT gt _ _ _ _)
  .exact ob a λx c a=>ob a λy f a=>og a λj a=>sj a (i.ot c (g.ot f (by subst j;exact NO _ _)))
theorem mX{α:Type}{x:Option α}(h:x.isSome=true):∃a,x=some a:=Option.isSome_iff_exists.mp h
structure Jt(gt:Bool)(xs ys:List D)(vs us:Array af)(A:aO)(s:ai):Prop where
 eq:∀j (h1:j<vs.size) (h2:j<us.size),EqAt A s vs[j] us[j] (eJ xs ys j)
 lt:∀j (h1:j<vs.size) (h2:j<us.size),gJ (if gt then .Gt else .Lt) A s vs[j] us[j] (cJ gt xs ys j)
theorem Ey{G h}{gt:Bool}{xs i:List D}{f w:Array af}(g:aQ W G h f.toList xs)(u:aQ W G h w.toList i)(k:(xs.zip i).all (λp=>vb gt p.1 p.2)=true)(A:aO)(s:ai):Jt gt xs i f w A s:=by
 have a:∀{f:Array af} {xs:List D} (g:aQ W G h f.toList xs) {j} (c:j<f.size),∃l:j<xs.length,Rep W G h f[j] xs[j]:=λ{f xs} g {j} c=>by
  have l:j<xs.length:=eX g▸c
  refine aw (g.get (gL l)) λv t r=>?_
  rw [jV,I5 c] at t
  exact⟨l,aM t▸r⟩
 have m:∀{j} (d:j<xs.length) (e:j<i.length),vb gt xs[j] i[j]=true:=λ{j} d e=>by
  have x:j<(xs.zip i).length:=by exact aa (KP ..)<|Nat.lt_min.mpr ⟨d,e⟩
  have:=List.all_eq_true.mp k _ (KD x)
  rw [KG] at this
  exact this
 refine⟨λj c n=>aL (a g c) λd o=>aL (a u n) λe q=>?_,λj c n=>aL (a g c) λd o=>aL (a u n) λe q=>?_⟩
 all_goals
  first| unfold eJ| unfold cJ
  refine aa (gL d ..)<|aa (gL e ..) ?_
 .refine aL (mX (band (m d e)).1) λb hb=>?_
  exact OH o q (show r5 _ _=some (oH _ _) by unfold oH;exact aa (hb ..) rfl) A s
 .refine aL (mX (band (m d e)).2) λb hb=>?_
  exact NL o q (show rX gt _ _=some (oB gt _ _) by unfold oB;exact aa (hb ..) rfl) A s
theorem NN{G:Gh}{s:ai}{σ:MH}{v u d e gt b}(st:St W G s σ)(F:Rep W G s.heap v d)(D:Rep W G s.heap u e)(h:i8 σ gt d e=some b)(A:aO)(l:ai)(w:A.units<ox)(p:∀b o,s.heap.get? b=some o->l.heap.get? b=some o):
 gJ (if gt then .Gt else .Lt) A l v u b:=by
 unfold i8 at h
 split at h
 .rename_i xs x
  refine ob h λB y h=>og h λN h=>og h λg h=>sj h ?_
  subst N
  refine F.jm x λ{a o I} z f e c dd L m=>?_
  refine D.jm y λ{C O H} P Q M J K q n=>?_
  have E:=Ey m n g A.in1 l
  have:=NU (A:=A) (s:=l) ⟨o,p _ _ e,c,0,L⟩ ⟨O,p _ _ M,J,0,q⟩ w E.eq λj a b _=>E.lt j a b
  rw [eX m,eX n] at this
  exact aa (.symm (zY true xs B))<|this
 .refine ob h λxs x h=>ob h λB y h=>og h λg h=>sj h ?_
  refine fL st F x λ{a I} hl m z=>?_
  refine fL st D y λ{C H} t n P=>?_
  have i:l.heap.IsList a I:=aw hl λo e r=>⟨o,p _ _ e,r⟩
  have k:l.heap.IsList C H:=aw t λo e r=>⟨o,p _ _ e,r⟩
  have E:=Ey m n g A.in1 l
  refine aa (.symm (zY gt xs B))<|aa (.symm (eX m))<|aa (.symm (eX n)) ?_
  induction gt with
  | false=>exact NS (A:=A) i k w E.eq λj a b _=>E.lt j a b
  | true=>exact NR (A:=A) i k w E.eq λj a b _=>E.lt j a b
theorem aQ.at{G h}{vs:Array af}{xs:List D}(d:aQ W G h vs.toList xs){i:Nat}{e:af}(b:vs[i]?=some e):∃x,xs[i]?=some x/\Rep W G h e x:=by
 have a:i<xs.length:=by exact aa (.symm (eX d ..))<|(Array.getElem?_eq_some_iff.mp b).1
 refine aw (d.get (gL a)) λv c r=>?_
 rw [jV,b] at c
 exact⟨_,gL a,aM c▸r⟩
theorem Dx{G:Gh}{s:ai}{σ:MH}{xs:List D}{d:Array af}{gt:Bool}(st:St W G s σ)(h:aQ W G s.heap d.toList xs)(a:(xs.all λx=>xs.all λy=>(i8 σ gt x y).isSome)=true)(A:aO)(q:A.units<ox)
 (i j:Nat) (k l) (c:ai) (p:∀b o,s.heap.get? b=some o->c.heap.get? b=some o) (m:d[i]?=some k) (n:d[j]?=some l):gJ (if gt then .Gt else .Lt) A c k l (ov σ gt xs i j):=by
 refine aw (h.at m) λx f r=>?_
 refine aw (h.at n) λy g t=>?_
 refine aL (mX (List.all_eq_true.mp (List.all_eq_true.mp a x (lA f)) y (lA g))) λb hb=>?_
 have e:ov σ gt xs i j=b:=by unfold ov;refine aa (f ..)<|aa (g ..) ?_;show(i8 σ gt x y).getD false=b;exact aa (hb ..) rfl
 exact aa (e ..)<|NN st r t hb A c q p
theorem Dy{A G s σ v d gt r}(j:br n A)(st:St W G s σ)(y:Rep W G s.heap v d)(h:oq gt d σ=some r):ar W.M A (bM (.builtin (if gt then "max" else "min")) [v]) (Out W G s σ r) aF s:=by
 refine ob h λxs t h=>og h λf i=>?_
 refine fL st y t λ{a p} hl g z=>?_
 have hsz:=eX g
 have k:A.in1.units<ox:=by have:=j.units;show A.units+1<_;omega
 have c:∀v h' m,p[eR (ov σ gt xs) (p.size - 1)]?=some v->(∀b o,s.heap.get? b=some o->h'.get? b=some o)->s.heap.objs.size<=h'.objs.size->Out W G s σ r v {s with heap:=h',toks:=m}:=λv h' m l q u=>by
  rw [hsz] at l
  refine aw (g.at l) λx e w=>?_
  rw [i] at e
  obtain rfl:=aM e
  exact .grown st q u rfl rfl λK=>w.keep K
 induction gt with
 | true=>exact iT (DV SE j.2.2.2 _ hl (by exact aa (hsz ..)<|f.1) (Dx st g f.2 A.in1 k) c)
 | false=>exact iT (DV SD j.2.2.2 _ hl (by exact aa (hsz ..)<|f.1) (Dx st g f.2 A.in1 k) c)
theorem Op.max:fH W n (λv=>bM (.builtin "max") [v]) (mE true):=fH.pure (t:=λv=>bM (.builtin "max") [v]) (f:=oq true) λa st b h=>Dy (gt:=true) a st b h
theorem Op.min:fH W n (λv=>bM (.builtin "min") [v]) (mE false):=fH.pure (t:=λv=>bM (.builtin "min") [v]) (f:=oq false) λa st b h=>Dy (gt:=false) a st b h
theorem QJ{G h b xs}(r:aQ W G h b xs):∀is,intsOf xs=some is->∃ps:List (Int×de),b=ps.map (λp=>C0 p.1 p.2)/\is=ps.map (·.1):=
 r.ind (motive:=λb xs=>∀is,intsOf xs=some is->∃ps:List (Int×de),b=ps.map (λp=>C0 p.1 p.2)/\is=ps.map (·.1)) (λa e=>sj e ⟨[],rfl,rfl⟩)
  λ{v d b l} r a k a e=>ob e λi j e=>ob e λis c e=>sj e (aw (k _ c) λps f g=>r.gB (motive:=λv a=>∃ps:List (Int×de),v::b=ps.map (λp=>C0 p.1 p.2)/\i::is=ps.map (·.1)) j λt=>⟨(i,t)::ps,congrArg _ f,congrArg _ g⟩)
theorem Op.sum:fH W n (λv=>bM (.builtin "sum") [v]) sumF:=fH.pure (t:=λv=>bM (.builtin "sum") [v]) (f:=Ir) λ{A G s σ v d r} o st q h=>
 ob h λxs l h=>ob h λis g h=>sj h (fL st q l λ{a u} hl p z=>by
  refine aw (QJ p _ g) λps j c=>?_;obtain rfl:=c
  have k:u=intItems ps.toArray:=Array.toList_inj.mp (j.trans (by simp [intItems]))
  subst k
  refine iT (sum_intListG o.2.2.2 hl λh' x w i m=>?_)
  have e:preSum (numAt ps.toArray) ps.toArray.size=(ps.map (·.1)).sum:=by
   exact aa (preSum_eq ..)<|aa (xE (by simp)) rfl
  exact aa (e ..)<| .grown st i m rfl rfl λb=>.int _ _)
end
end
section
section
variable {W:Wd} {n:Nat} {si:SI}
def tN(W:Wd)(A:aO)(G:Gh)(s:ai)(t:bY af)(e:D)(ao:MH):Prop:=∀{Q:af->ai->Prop},
 (∀{a ak u},Step W bf G s.heap a ak.heap->St W a ak ao->Rep W a ak.heap u e->Q u ak)->ar W.M A t Q aF s
abbrev Wd.jw(W:Wd)(A:aO)(name:aj)(v:af)(a:bc)(args:List (Bool×bY af))(Q:af->ai->Prop)(s:ai):Prop:=ua W.prog W.w A aF name v a args Q s
def n7(W:Wd)(n:Nat)(name:aj)(f:D->D->MH->Option (D×MH)):Prop:=
 ∀{A G s σ v d t e ao r} {a:bc},br n A->St W G s σ->Rep W G s.heap v d->tN W A G s t e ao->f d e ao=some r->W.jw A name v a [(false,t)] (Out W G s r.2 r.1) s
def rI(W:Wd)(n:Nat)(name:aj)(f:D->MH->Option (D×MH)):Prop:=
 ∀{A G s σ v d r} {a:bc},br n A->St W G s σ->Rep W G s.heap v d->f d σ=some r->W.jw A name v a [] (Out W G s r.2 r.1) s
def CC(W:Wd)(n:Nat)(name:aj)(f:D->D->MH->Option (Cell×MH)):Prop:=
 ∀{A G s σ v d t e ao r} {a:bc},br n A->St W G s σ->Rep W G s.heap v d->tN W A G s t e ao->f d e ao=some r->W.jw A name v a [(false,t)] (dy W G s r) s
theorem MethodOnS.mono{prog:eA}{w:eC}{A:aO}{E:af->ai->Prop}{name:aj}{v:af}{b:bc}{args:List (Bool×bY af)}{Q c:af->ai->Prop}{s:ai}
 (h:ua prog w A E name v b args Q s) (k:∀v s,Q v s->c v s):ua prog w A E name v b args c s:=
 h.imp λa=>dX λa=>fE (fE (fE (fE (fE λx=>bD x k))))
theorem Ev.method0{o name c g m f}(q:Ev W n si o m)(l:rI W n name f)(d:∀b,iE o name b (aU o b)=aU o b)(e:(c.endLine==g.line)=true):Ev W n si (.Call (.Attribute o name c) [] [] g) (.ax f m):=λ{A b M G s ρ σ r} j st F h=>
 ob h λp k h=>BS (d b) e (bR q j st F k λS i t r=>MethodOnS.mono (l j i r h) λa a x=>x.trans S)
theorem Ag{A b M G s ρ σ p q}{o e:ay}{name:aj}{d h:bc}{m w:ME}{Q:af->ai->Prop}(D:Ev W n si o m)(C:Ev W n si e w)(f:∀b,iE o name b (aU o b)=aU o b)(E:∀b,bB [e] b= [(false,aU e b)])(g:(d.endLine==h.line)=true)
 (x:br n A) (st:St W G s σ) (F:aT W A G s.heap si b M ρ) (z:m ρ σ=some p) (B:w ρ p.2=some q)
 (K:∀{c ak v t},Step W bf G s.heap c ak.heap->St W c ak p.2->Rep W c ak.heap v p.1->tN W A c ak t q.1 q.2->W.jw A name v h [(false,t)] Q ak):ar W.M A (aU (.Call (.Attribute o name d) [e] [] h) b) Q aF s:=
 Call_method1 (f b) (E b) g (bR D x st F z λS u y r=>K S u r λ{Q} k=>bR C x u y B λj i a l=>k j i l)
theorem Ev.method1{o e name c i m k f}(y:Ev W n si o m)(v:Ev W n si e k)(w:n7 W n name f)(d:∀b,iE o name b (aU o b)=aU o b)(z:∀b,bB [e] b= [(false,aU e b)])(g:(c.endLine==i.line)=true):
 Ev W n si (.Call (.Attribute o name c) [e] [] i) (.bh f m k):=λl st F h=>
 ob h λp s h=>ob h λq t h=>Ag y v d z g l st F s t λS j r u=>MethodOnS.mono (w l j r u h) λa a x=>x.trans S
theorem bG.method1{o e name c i m k f}(y:Ev W n si o m)(v:Ev W n si e k)(w:CC W n name f)(d:∀b,iE o name b (aU o b)=aU o b)(z:∀b,bB [e] b= [(false,aU e b)])(g:(c.endLine==i.line)=true):
 bG W n si (.Call (.Attribute o name c) [e] [] i) (.bh f m k):=λl st F h=>
 ob h λp s h=>ob h λq t h=>Ag y v d z g l st F s t λS j r u=>MethodOnS.mono (w l j r u h) λa a x=>x.trans S
theorem kY{s:aj}(h:fB s=true):fJ s=true/\s.length<=aP:=(band h).imp id of_decide_eq_true
theorem M.starts:n7 W n "startswith" tu:=λo st j f h=>
 ob h λd e h=>sj h (ob e λx g e=>ob e λy i e=>sj e (j.c8 g λp l m=>SB.startswith (f λ{c ak u} S b r=>r.c8 i λk a a=>⟨_,k,rfl,c,S,b,.bool _⟩)))
theorem M.ends:n7 W n "endswith" endsF:=λo st j f h=>
 ob h λd e h=>sj h (ob e λx g e=>ob e λy i e=>sj e (j.c8 g λp l m=>SB.endswith (f λ{c ak u} S b r=>r.c8 i λk a a=>⟨_,k,rfl,c,S,b,.bool _⟩)))
theorem M.rfind:n7 W n "rfind" HD:=λo st j f h=>
 ob h λd e h=>sj h (ob e λx g e=>ob e λy i e=>sj e (j.c8 g λp l m=>SB.rfind (f λ{c ak u} S b r=>r.c8 i λk a a=>⟨_,k,rfl,c,S,b.tok,.int _ _⟩)))
theorem M.rstrip:n7 W n "rstrip" HG:=λq st m g h=>
 ob h λd b h=>sj h (ob b λx i b=>ob b λy j b=>og b λf b=>sj b (m.c8 i λt p l=>SB.rstripChars (g λ{e ak u} S c r=>r.c8 j λo a a=>⟨_,o,rfl,λs k=>⟨e,S,c.tok,.str _ _ (kY f).1 (kY f).2⟩⟩) (aE l f9)))
theorem M.lower:rI W n "lower" sE:=λi st f h=>
 ob h λd a h=>sj h (ob a λx c a=>og a λb a=>sj a (f.c8 c λj g e=>SB.lower (fit_lower (aE e (by decide))) (.tok st (.str _ _ (kY b).1 (kY b).2))))
theorem UL{G h}{l:List (aj×de)}(a:∀p∈l,fB p.1=true):aQ W G h (iP l) ((l.map (·.1)).map .str):=by
 induction l with
 | nil=>exact .nil
 | cons p r c=>exact .cons (.str _ _ (kY (a p a0)).1 (kY (a p a0)).2) (c λq b=>a q (bT _ b))
theorem M.split:CC W n "split" pf:=λ{A G s σ v d t e ao r} H O st I z h=>
 ob h λx C h=>ob h λy D h=>ob h λc b h=>sj h (og b λi b=>sj b (I.c8 C λk J E=>
  ⟨"str",_,F.plainAttrs_str,JP,F.type_str_split,pW _ _ _,(λa e=>nomatch e),Ss JP F.entry_str_split (z λ{w ak u} S g r=>r.c8 D λq L N=>by
    refine⟨pW _ _ _,F.args_str_split_2 _ _,?_⟩
    have f:∀(l:List (aj×de)) (o:Nat),l.map (·.1)=Txt.split x y->dy W G s (.list ((Txt.split x y).map .str),ao) (.ref ak.heap.objs.size) {ak with toks:=o,heap:=ak.heap.push {cls:=.type "list",data:=.seq (iP l).toArray}}:=λl o hl=>
     dy.trans S (dy.push (tk:=o) g rfl λG' K e=>⟨by exact aa (aZ ..)<|i.2.2,_,_,_,e,rfl,⟨rfl,rfl⟩,rfl,by
      exact aa (.symm (hl ..))<|UL λp B=>List.all_eq_true.mp i.2.1 p.1 (hl▸List.mem_map.mpr ⟨p,B,rfl⟩)⟩)
    induction b:(decide (x.length<y.length)|| decide (Jn x<Jn y))
    .induction m:(mf x y 0 x.length (x.length+1)).isEmpty
     .have j:Txt.split x y=Jm x (mf x y 0 x.length (x.length+1)) y.length:=(if_neg (ne_true_of_eq_false b)).trans (if_neg (ne_true_of_eq_false m))
      refine⟨_,meets_str_split_sep x y k q b i.1 m (aE E f9) (by exact aa (.symm (j ..))<|Nat.le_trans i.2.2 f9),?_⟩
      show wants _ _ _ {ak with toks:=_,heap:=ak.heap.push {cls:=.type "list",data:=.seq (strsFrom ak.toks (Jm x (mf x y 0 x.length (x.length+1)) y.length)).toArray}}
      exact aa (strsFrom_eq ..)<|f (numbered ak.toks _) _ ((numbered_texts _ _).trans j.symm)
     .exact⟨_,meets_str_split_not_found x y k q b i.1 m,f [(x,k)] _ ((if_neg (ne_true_of_eq_false b)).trans (if_pos m)).symm⟩
    .exact⟨_,meets_str_split_cannot_occur x y k q b,f [(x,k)] _ (if_pos b).symm⟩)⟩))
theorem Bd{G h b xs}(r:aQ W G h b xs):∀c,strsOf xs=some c->∃ps:List (aj×de),b=iP ps/\c=ps.map (·.1):=
 r.ind (motive:=λb xs=>∀c,strsOf xs=some c->∃ps:List (aj×de),b=iP ps/\c=ps.map (·.1)) (λa e=>sj e ⟨[],rfl,rfl⟩)
  λ{v d b m} r a l a e=>ob e λi k e=>ob e λis f e=>sj e (aw (l _ f) λps g j=>r.c8 (motive:=λv a=>∃ps:List (aj×de),v::b=iP ps/\i::is=ps.map (·.1)) k λt a a=>⟨(i,t)::ps,congrArg _ g,congrArg _ j⟩)
theorem M.join:n7 W n "join" jd:=λ{A G s σ v d t e ao r} y H st C m h=>
 ob h λd b h=>sj h (ob b λx w b=>ob b λxs g b=>ob b λK i b=>og b λo b=>og b λl b=>sj b (C.c8 w λJ E F=>SB.join (m λ{f ak u} S c r=>fL c r g λ{a D} hl B z=>by
  refine aw (Bd B _ i) λps p j=>?_;obtain rfl:=j
  have q:D=(iP ps).toArray:=by exact aa (.symm (p ..)) rfl
  exact⟨a,ps,rfl,q▸hl,_,rfl,o,λI k=>⟨f,S,c.tok,.str _ _ (kY l).1 (kY l).2⟩⟩)))
end
end
section
section
variable {W:Wd} {n:Nat} {si:SI}
theorem St.m_{G:Gh}{s:ai}{σ:MH}{i:Nat}{a b:aq}{c c':Cell}{h':aN}{tk:Nat}(st:St W G s σ)(z:σ.cell i=some c)(t:c.qd=false)(A:G.g i=some a)(hb:G.g i=some b∨G.d i=some b)(n:ly b s.heap h')(p:s.heap.objs.size<=h'.objs.size)
 (C:cH W G s.heap G h'->cg W G h' a (G.d i) c'):St W G {s with heap:=h',toks:=tk} (σ.put i c')/\Step W bf G s.heap G h':=
 have l:=(st.cells.at_ i c z).1 t
 have u:=st.inv.cn b ⟨i,l,hb⟩
 have S:Step W bf G s.heap G h':=⟨λf f e=>e,λf f e=>e,rfl,λf x=>x,λf x=>.inl x,λx o e B f f f=>n x o (λq=>B (q▸⟨i,l,hb⟩)) e,p,rfl,λx o e t f f=>⟨o.slots,n x o (λq=>u.2.2.1 (q▸t)) e⟩⟩
 have K:=S.ea λf x=>x.elim
 ⟨⟨⟨λx o e=>n x o (λq=>absurd (b9 e) (Nat.not_lt.mpr (q▸u.1))) (st.inv.keep x o e),aE st.inv.size p,st.inv.gens,st.inv.os,λx y=>(st.inv.cn x y).imp id (eH λh=>a9 h p),λx y=>(st.inv.b0 x y).imp id (eH λh=>a9 h p),st.inv.gR,st.inv.g7,st.inv.gd,
     st.inv.tab.keep K.bq λf e=>n _ _ (λq=>u.2.2.2 q.symm) e,st.inv.eO,st.inv.hJ,st.inv.b8⟩,⟨λj r e=>ec e (λm w=>by subst m;exact aM w▸⟨λf=>l,a,A,C K⟩) λm e=>
      have x:=st.cells.at_ j r e
      ⟨x.1,x.2.imp λD y=>⟨y.1,y.2.oZ K (λk o e=>n _ o (λq=>hb.elim (λhb=>m (st.inv.gR j i b (x.1 k) l (q▸y.1) hb)) λhb=>st.inv.gd j i b (x.1 k) l (q▸y.1) hb) e)
        λk d o v e=>n _ o (λq=>hb.elim (λhb=>st.inv.gd i j b l (x.1 k) hb (q▸v)) λhb=>m (st.inv.g7 j i b (x.1 k) l (q▸v) hb)) e⟩⟩,λj m=>st.cells.free j m⟩⟩,S⟩
@[elab_as_elim] theorem kO{G:Gh}{s:ai}{σ:MH}{d:D}{i:Nat}{c:Cell}{v:af}{motive:af->Prop}(st:St W G s σ)(r:Rep W G s.heap v d)(f:d.fP=some i)(e:σ.cell i=some c)(k:∀{a},G.g i=some a->cg W G s.heap a (G.d i) c->motive (.ref a)):motive v:=
  st.yE (motive:=λv b=>motive v) r f e λa h b x=>k h x
def xF(W:Wd)(G:Gh)(h:aN)(a:aq)(xs:List D)(b:Array af)(m:Nat):Prop:=h.get? a=some {cls:=.type "list",dict:=none,data:=.seq b m,slots:= #[]}/\aQ W G h b.toList xs/\xs.length<=aP
theorem F9{G:Gh}{h:aN}{a:aq}{d:Option aq}{xs:List D}(c:cg W G h a d (.list xs)):∃b m,xF W G h a xs b m:=by
 obtain⟨z,⟨j,k,f,i⟩,b,m,e,rfl,⟨rfl,rfl⟩,rfl,g⟩:=c
 exact⟨b,m,e,g,z⟩
@[elab_as_elim] theorem oy{G:Gh}{s:ai}{σ:MH}{d:D}{p:Nat×List D}{v:af}{motive:af->Prop}(st:St W G s σ)(r:Rep W G s.heap v d)(h:mH σ d=some p)
   (k:∀{a e m},σ.cell p.1=some (.list p.2)->G.g p.1=some a->xF W G s.heap a p.2 e m->motive (.ref a)):motive v:=
  ob h λi l h=>ob h λc b h=>ob h λxs n h=>by
   obtain rfl:=aM h
   obtain rfl:=Cell.qj n
   exact kO st r l b λj f=>ew (F9 f) λe m x=>k b j x
theorem St.v_{G:Gh}{s:ai}{σ:MH}{i:Nat}{a:aq}{xs tM:List D}{b:Array af}{e:Nat}{h':aN}{tk:Nat}(st:St W G s σ)(f:σ.cell i=some (.list xs))(c:G.g i=some a)(d:hO a s.heap h')
 (h:h'.get? a=some {cls:=.type "list",dict:=none,data:=.seq b e,slots:= #[]}) (k:tM.length<=aP) (j:cH W G s.heap G h'->aQ W G h' b.toList tM):Out W G s (σ.put i (.list tM)) .none .none {s with heap:=h',toks:=tk}:=
 have x:=st.m_ (tk:=tk) (c':=.list tM) f rfl c (.inl c) d.extBut (bN d.1.symm) λK=>⟨k,_,b,e,h,rfl,⟨rfl,rfl⟩,rfl,j K⟩
 ⟨G,x.2,x.1,.none⟩
theorem vt{A:aO}{s:ai}{name:aj}{id:String}{a:aq}{o:bu}{f:bc}{args:List (Bool×bY af)}{Q:af->ai->Prop}(g:iz "list" name id)(i:tD (.builtin id)=pure (.type "method_descriptor"))
 (e:s.heap.get? a=some o) (c:o.cls=.type "list") (d:o.dict=none) (h:ar W.M A (i5 f (.builtin id) [.ref a] args []) Q aF s):ua W.prog W.w A aF name (.ref a) f args Q s:=
 ⟨"list",id,F.plainAttrs_list,g,i,⟨o,e,c⟩,λb q=>by cases q;exact⟨o,e,d⟩,h⟩
def pQ(W:Wd)(n:Nat)(name:aj)(b:D->MH->Bool)(f:D->D->MH->Option (D×MH)):Prop:=
 ∀{A G s σ v d t e ao r} {a:bc},br n A->St W G s σ->Rep W G s.heap v d->b d σ=true->tN W A G s t e ao->f d e ao=some r->W.jw A name v a [(false,t)] (Out W G s r.2 r.1) s
theorem Ev.Su{o e name c i m l f j}(z:Ev W n si o m)(w:Ev W n si e l)(y:pQ W n name j f)(d:∀b,iE o name b (aU o b)=aU o b)(B:∀b,bB [e] b= [(false,aU e b)])(g:(c.endLine==i.line)=true):
 Ev W n si (.Call (.Attribute o name c) [e] [] i) (.dB j f m l):=λs st F h=>
 ob h λp t h=>og h λA h=>ob h λq u h=>Ag z w d B g s st F t u λS k r v=>MethodOnS.mono (y s k r A v h) λa a x=>x.trans S
theorem M.append:pQ W n "append" eh fK:=λ{A G s σ v d t e ao r} l Z st g k H h=>by
 refine aL (mX k) λp k=>?_
 have R:=g
 refine oy (motive:=λv=>Rep W G s.heap v d->W.jw A "append" v l [(false,t)] (Out W G s r.2 r.1) s) st g k (λ{a U m} J N V g=>?_) g
 refine vt F.slot_list_append F.type_list_append V.1 rfl rfl ?_
 refine j7 rfl rfl (BU (BV (H λ{y ak u} S b Q=>w9 ?_)))
 refine ob h λq O h=>og h λj h=>sj h ?_
 have c:=g.go S
 revert c
 generalize eB a=w
 intro c
 refine oy b c O λ{a U m} I L x=>?_
 refine Dh x.1 rfl rfl (size_le x.2.1 x.2.2) λz f B E c2 C o i P=>?_
 obtain⟨X,Y,D,T⟩:=f
 obtain rfl:=c2
 obtain rfl:=C
 obtain rfl:=o
 obtain rfl:=i
 exact(b.v_ (tk:=ak.toks) I L P E (by exact aa (bF ..)<|j) λK=>by exact aa (BM ..)<|(x.2.1.keep K).snoc (Q.keep K)).trans S
theorem M.clear:rI W n "clear" oA:=λ{A G s σ v d r} c k st i h=>
 ob h λq g h=>sj h (oy (motive:=λv=>W.jw A "clear" v c [] (Out W G s _ _) s) st i g λ{a j m} e f x=>vt JL F.type_list_clear x.1 rfl rfl
  (Sr JL F.entry_list_clear ⟨_,x.1,rfl⟩ (F.args_list_clear_1 _) (Xf a j m (size_le x.2.1 x.2.2)) ⟨x.1,
    st.v_ (tk:=s.toks) e f (ft ..) (eI (dE λb=>(#[]:Array af)) x.1 rfl) (fW _) λK=>.nil⟩))
end
end
section
theorem OK(l:aq)(e:Array af)(n:Nat)(b:aq)(c:Array af)(p:Nat)(f:Option aq)(m:Array (Option af))(o:¬(!e.isEmpty && BP (e.size+c.size))=true)(i:e.size<=gF)(j:e.size+c.size<=gF+1):
 kE (bE.«list.extend» ⟨[.ref l,.ref b],[]⟩) (λa R s=>s.heap.get? l=some {cls:=.type "list",dict:=none,data:=.seq e n,slots:= #[]}/\s.heap.get? b=some {cls:=.type "list",dict:=f,data:=.seq c p,slots:=m}/\R (.ok (.ret Value.none)) {s with heap:=s.heap.update l (dE λx=>x++c),toks:=s.toks}):=
 .of_wp λprog w A R s h=>by
  obtain⟨y,g,d,z,os⟩:=s;refine bP h λhl hb h=>?_;have q:=Xe;have r:=I9;have t:=wW;have u:=Xh;have v:=Xg;
  have k:(e++c).size<=gF+1:=by exact aa (I8 ..)<|j
  wp_walk using (jn hl rfl (hz:=i) (_hz':=k)),dH hl,dH hb;exact⟨_,rfl,h⟩
theorem Ud(l:aq)(b:Array af)(n:Nat)(x:af)(o:b[b.size - 1]?=some x)(f:b.isEmpty=false)(c:b.size<=gF):
 kE (bE.«list.pop» ⟨[.ref l],[]⟩) (λa R s=>s.heap.get? l=some {cls:=.type "list",dict:=none,data:=.seq b n,slots:= #[]}/\R (.ok (.ret x)) {s with heap:=s.heap.update l (dE λxs=>xs.eraseIdxIfInBounds (b.size - 1)),toks:=s.toks}):=
 .of_wp λprog w A R s h=>by
  obtain⟨m,g,d,p,os⟩:=s;refine aA h λhl h=>?_
  have e:(b.eraseIdxIfInBounds (b.size - 1)).size<=gF+1:=by
   have:(b.eraseIdxIfInBounds (b.size - 1)).size<=b.size:=by
    unfold I2;split
    .refine aa (Array.size_eraseIdx ..) ?_;lia
    .exact bb _
   lia
  have j:(wk (-1) b.size).bind (λk=>b[k]?.map λx=>(k,x))=some (b.size - 1,x):=by
   have m:0<b.size:=size_pos_of_not_empty f
   have:wk (-1) b.size=some (b.size - 1):=by
    unfold wk
    simp only [show((-1:Int)<0)=True by simp,if_true]
    have i:(0<= -1+(b.size:Int) && -1+(b.size:Int)<(b.size:Int))=true:=by simp;lia
    refine aa (if_pos i ..) ?_
    congr 1
    lia
   exact aa (this ..)<|aa (CL ..)<|aa (o ..) rfl
  wp_walk using (jn hl rfl (hz:=c) (_hz':=e)),dH hl
  refine aa (j ..) ?_
  dsimp only
  unfold BQ
  wp_walk using (jn hl rfl (hz:=c) (_hz':=e)),dH hl
  exact⟨_,rfl,h⟩
section
variable {W:Wd} {n:Nat} {si:SI}
theorem Ue{a:Array af}{k:Nat}(c:a.size=k)(b:0<k):(a.eraseIdxIfInBounds (a.size - 1)).toList=a.toList.take (k - 1):=by
 subst c
 unfold I2
 exact aa (dif_pos (CE b Nat.one_pos) ..)<|aa (Array.toList_eraseIdx ..)<|aa (List.eraseIdx_eq_take_drop_succ ..)<|aa (xK b ..)<|aa (Km (bN I6) ..)<|aa (hW ..) rfl
theorem Hp{A G s σ v d r}{f:bc}(st:St W G s σ)(B:Rep W G s.heap v d)(h:pa d σ=some r):W.jw A "pop" v f [] (Out W G s r.2 r.1) s:=
 ob h λq w h=>ob h λy i h=>sj h (oy (motive:=λv=>W.jw A "pop" v f [] (Out W G s _ _) s) st B w λ{a k m} p t x=>by
  have hsz:=eX x.2.1
  have c:0<q.2.length:=List.length_pos_iff.mpr λe=>by rw [e] at i;exact aY i
  refine aw (x.2.1.get ((List.getLast?_eq_getElem? (l:=q.2)).symm.trans i)) λu n z=>?_
  rw [jV,← hsz] at n
  have g:k.isEmpty=false:=by exact aa (u6 x.2.1 ..)<|List.isEmpty_eq_false_iff.mpr (List.length_pos_iff.mp c)
  refine vt JN F.type_list_pop x.1 rfl rfl (Sr JN F.entry_list_pop ⟨_,x.1,rfl⟩ (F.args_list_pop_1 _) (Ud a k m u n g (size_le x.2.1 x.2.2)) ⟨x.1,?_⟩)
  have o:=st.v_ (tk:=s.toks) (tM:=q.2.dropLast) p t (ft ..) (eI (dE λ(xs:Array af)=>xs.eraseIdxIfInBounds (k.size - 1)) x.1 rfl) (aE (lz▸rL _ _) x.2.2) λK=>by
   exact aa (Ue hsz c ..)<|aa (xr ..)<|(x.2.1.keep K).take _
  exact o.elim λG' S j b=>⟨G',S,j,z.go S⟩)
theorem M.pop:rI W n "pop" pa:=λb st a h=>Hp st a h
theorem M.extend:pQ W n "extend" eh p8:=λ{A G s σ v d t e ao r} C rm st j z P h=>by
 refine aL (mX z) λp z=>?_
 refine oy (motive:=λv=>Rep W G s.heap v d->W.jw A "extend" v C [(false,t)] (Out W G s r.2 r.1) s) st j z (λ{a L m} Q R Y j=>?_) j
 refine vt JM F.type_list_extend Y.1 rfl rfl (Ss JM F.entry_list_extend (P λ{f ak u} S c X=>?_))
 refine ob h λq T h=>ob h λys U h=>og h λy h=>sj h ?_
 have D:=j.go S
 have B:∀w,Rep W f ak.heap w d->eB a=w->∃L m,ao.cell q.1=some (.list q.2)/\f.g q.1=some a/\xF W f ak.heap a q.2 L m:=λw rw=>oy (motive:=λw=>eB a=w->_) c rw T λl o x e=>by
  obtain rfl:=jA e
  exact⟨_,_,l,o,x⟩
 refine eQ (B _ D rfl) λi V l o x=>?_
 refine fL c X U λ{b H} hl J z'=>?_
 obtain⟨⟨Z,k,N,E⟩,O,rfl,mb,rfl⟩:=hl
 have hsz:=eX x.2.1
 have I:=eX J
 exact⟨⟨_,x.1,rfl⟩,F.args_list_extend_2 _ _,_,OK a i V b H mb k E (by
  have:BP (i.size+H.size)=false:=by
   unfold BP
   have:=f9
   simp;lia
  refine aa (this ..)<|aa (tR ..) ?_;decide) (size_le x.2.1 x.2.2) (by have:=f9;lia),x.1,O,
   (c.v_ (tk:=ak.toks) l o (ft ..) (eI (dE λ(x:Array af)=>x++H) x.1 rfl) (by exact aa (bF ..)<|y) λK=>by exact aa (wV ..)<|(x.2.1.keep K).append (J.keep K)).trans S⟩
end
end
section
section
variable {W:Wd} {n:Nat} {si:SI}
theorem Eg{A:aO}{s:ai}{name:aj}{id:String}{a:aq}{d:List (aj×af)}{b:bc}{args:List (Bool×bY af)}{Q:af->ai->Prop}(c:iz "dict" name id)(e:tD (.builtin id)=pure (.type "method_descriptor"))
 (hD:s.heap.DictOf (strKind W.prog W.w) a d) (h:ar W.M A (i5 b (.builtin id) [.ref a] args []) Q aF s):ua W.prog W.w A aF name (.ref a) b args Q s:=
 ⟨"dict",id,F.plainAttrs_dict,c,e,hD.typeIs,hD.mapOf.noDict,h⟩
theorem kB.getD{G h a b}(x:kB W G h a b):Rep W G h (a.getD .none) (b.getD .none):=by
 induction x with
 | none=>exact .none
 | some r=>exact r
theorem Pe{G h a b}(r:bC W G h a b)(k:aj):Rep W G h ((mz a k).getD .none) ((b.lookup k).getD .none):=(r.valueAt k).getD
theorem Mq{G s σ a d c}(st:St W G s σ)(r:Rep W G s.heap (.ref a) d)(h:j1 σ d=some c):∃b,a≠iR/\s.heap.DictOf (strKind W.prog W.w) a b/\bC W G s.heap b c/\c.length<=aP:=by
 have f:∀w,Rep W G s.heap w d->eB a=w->∃b,a≠iR/\s.heap.DictOf (strKind W.prog W.w) a b/\bC W G s.heap b c/\c.length<=aP:=
  λw r=>um (motive:=λw=>eB a=w->_) st r h λns hD g z e=>by obtain rfl:=jA e;exact⟨_,ns,hD,g,z⟩
 exact f _ r rfl
theorem M.get:pQ W n "get" mV p_:=λ{A G s σ v d t e ao r} p K st l E C h=>by
 refine aL (mX E) λj f=>?_
 refine ob h λx i h=>sj h (ob i λH D i=>ob i λk o i=>sj i ?_)
 refine um (motive:=λv=>Rep W G s.heap v d->W.jw A "get" v p [(false,t)] (Out W G s ao _) s) st l f (λ{a B} ns hD L z l=>?_) l
 refine Eg F.slot_dict_get F.type_dict_get hD (wpAny_dict_get1 (knd:=strKind W.prog W.w) (o6 ns) (C λ{g ak u} S c J=>?_))
 refine dG (Mq c (l.go S) D) λy I m q N=>?_
 exact J.c8 o λt b b=>⟨k,_,jI _ _,m.mapOf,g,S,c.tok,Pe q k⟩
@[elab_as_elim] theorem yF{G:Gh}{s:ai}{σ:MH}{d:D}{p:Nat×List (aj×D)}{v:af}{motive:af->Prop}(st:St W G s σ)(r:Rep W G s.heap v d)(h:cellK σ d=some p)
   (k:∀{a b},σ.cell p.1=some (.dict p.2)->G.g p.1=some a->p.2.length<=aP->a≠iR->s.heap.DictOf (strKind W.prog W.w) a b->bC W G s.heap b p.2->motive (.ref a)):motive v:=
  ob h λi m h=>ob h λc j h=>ob h λxs n h=>by
   obtain rfl:=aM h
   obtain rfl:=Cell.FX n
   exact kO st r m j λl e=>bP e λz ns f=>aw f λb hD o=>k j l z ns hD o
theorem Et.sub{o i H mo mi}(Z:Ev W n si o mo)(X:Ev W n si i mi):Et W n si (.Subscript o i H) (.sub mo mi):=λ{A U M G s ρ σ v d r'} N st F r h=>
 ob h λp S h=>ob h λq T h=>ob h λk Y h=>ob h λc V h=>og h λE h=>sj h (by
  refine aa (assign_Subscript ..) ?_
  refine ah (bz (bR Z N st F S λ{I ak P} f j l w=>ah (bz (bR X N j l T λ{u B Q} e b m y=>?_))))
  have g:=w.go e
  refine y.c8 Y λt k1 k2=>?_
  refine yF b g V λ{a R} D J z ns hD O=>?_
  refine ah (cQ (ah (bz (wpAny_setItem_pairs (jI _ _) hD (λh' C L=>?_) (by exact aa (O.length ..)<|Nat.le_trans z f9)))))
  have x:=b.m_ (tk:=B.toks+1) (c':=.dict (eF c.2 k d)) D rfl J (.inl J) L.extBut (bN L.1.symm) λK=>⟨Ht E,ns,_,C,(O.keep K).put k1 k2 (((r.go f).go e).keep K)⟩
  exact qO ⟨u,((f.trans e).trans x.2).any,x.1,m.go b.inv x.2⟩)
theorem St.freeze{G:Gh}{s:ai}{σ:MH}{i:Nat}{a:aq}{h:List (aj×D)}(st:St W G s σ)(H:σ.cell i=some (.dict h))(m:G.g i=some a):
 ∃G',St W G' s (σ.put i (.h_ h))/\Step W bf G s.heap G' s.heap/\Rep W G' s.heap (.ref a) (.dict h):=by
 refine aA (st.cells.at_ i _ H) λp t=>?_;refine dG t λJ v z ns u=>?_;refine aw u λE hD I=>?_
 obtain rfl:=aM (m.symm.trans v)
 have p:=p rfl
 have own:∀b,Gh.own {G with c0:=λj=>G.c0 j/\j≠i} b->G.own b:=λb A=>aw A λj l x=>⟨j,l.1,x⟩
 have S:Step W bf G s.heap {G with c0:=λj=>G.c0 j/\j≠i} s.heap:=.all (λd d e=>e) (λd d e=>e) rfl (λd x=>x.1) (λb x=>.inl (own b x)) (λd d e d=>e) (bb _)
 have K:=S.ea λd x=>x.elim
 have C:=st.inv.cn a ⟨i,p,.inl m⟩
 have r:Rep W {G with c0:=λj=>G.c0 j/\j≠i} s.heap (.ref a) (.dict h):=.dict z ⟨λB=>aw B λk l x=>x.elim (λx=>l.2 (st.inv.gR k i a l.1 p x m)) λx=>st.inv.gd i k a p l.1 m x,C.2.2.1,C.2.2.2⟩ ns hD (I.keep K)
 exact⟨{G with c0:=λj=>G.c0 j/\j≠i},⟨⟨st.inv.keep,st.inv.size,st.inv.gens,st.inv.os,λb x=>st.inv.cn b (own b x),st.inv.b0,λj k b n o=>st.inv.gR j k b n.1 o.1,λj k b n o=>st.inv.g7 j k b n.1 o.1,λj k b n o=>st.inv.gd j k b n.1 o.1,st.inv.tab.keep K.bq λd e=>e,st.inv.eO,st.inv.hJ,st.inv.b8⟩,
  ⟨λj c e=>ec e (λq F=>by subst q;obtain rfl:=aM F;exact⟨(λq=>nomatch q),a,m,r⟩) λw e=>have x:=st.cells.at_ j c e;⟨λq=>⟨x.1 q,w⟩,x.2.imp λb y=>⟨y.1,y.2.keep K (λd e=>e) (λd d d e=>e)⟩⟩,
    λj w=>have f:=st.cells.free j w;⟨f.1,f.2.1,f.2.2,λq=>aY (f.1.symm.trans (q▸m))⟩⟩⟩,S,r⟩
theorem UE{A G s a b}{tg:ay}(r:Rep W G s.heap (.ref a) (.dict b)):ar W.M A (ik (.ref a)) (nV W tg G s (keysAt b)) aF s:=by
 refine tJ r.inv λj c e z f ns g i=>?_
 obtain rfl:=jA e
 refine aL g.dictAt λh hD=>?_
 exact qr (W:=W) rfl (λq=>IQ (o6 ns) hD q) (FO _ a b c h) (λK d=>⟨⟨_,d,rfl,rfl⟩,(gA K.bq f hD).2,i.keep K,(gA K.bq f hD).1⟩)
theorem Cell.OP{c xs}(h:Cell.ER c=some xs):c=.h_ xs:=by induction c<;>first| exact aY h| exact congrArg _ (aM h)
theorem du.p9{tg e m}(j:Ev W n si e m):du W n si tg e (.p9 m):=λq st F h=>
 ob h λp f h=>ob h λi k h=>ob h λc g h=>ob h λo l h=>sj h (bR j q st F f λ{d ak v} S b a r=>itR S b (by
  obtain rfl:=Cell.OP l
  exact kO b r k g λa s=>UE s))
theorem Q0{tg:ay}(I l:aq)(g:List (aj×D))(f:List (aj×af))(C:Nat):
 hV W tg (.ref I) (λG h j=>h.IsValIter I l j f.length C/\ri (strKind W.prog W.w) h l f C/\bC W G h f g/\bJ W G l) (λa=>a=I) (ie (g.map (·.2))):=
 .turn (λ{A G s σ j x Q} R st M z v d c=>eP z λn hD t i=>by
  obtain rfl:=aM v
  rw [gg] at d c
  have y:=t.get j
  generalize E:f[j]?=p at y
  generalize L:g[j]?=q at y
  rw [L] at d c
  induction y with
  | none=>exact iT (wpAny_pyNext_values_end R.2.2.2 n hD E λh' N P=>d rfl h' _ N P)
  | some T U r=>
   have F:∀a,(λa=>a=I) a->G.fr a:=λa e=>e▸M
   exact wpAny_pyNext_values_item n hD E λh' m H=>c _ _ h' _ rfl H.extBut (bN H.1.symm) (bI m λo u J b=>⟨o,_,u,J,by decide⟩) (λS=>have K:=S.ea F;⟨m,(gA K.bq i hD).2,t.keep K,(gA K.bq i hD).1⟩) λS=>r.step S F)
  (λh q=>wpAny_pyIter_valiter h.1 q) λB k O=>eP B λn hD t i=>⟨aw n λo u r=>⟨o,O _ u,r⟩,(gA k.bq i hD).2,t.keep k,(gA k.bq i hD).1⟩
theorem du.values{tg o g x m}(R:Ev W n si o m)(j:∀b,iE o "values" b (aU o b)=aU o b)(k:(g.endLine==x.line)=true):du W n si tg (.Call (.Attribute o "values" g) [] [] x) (.values m):=λ{A b M G s ρ σ r} U st Fr h=>
 ob h λp N h=>ob h λc P h=>sj h (BS (j b) k (bR R U st Fr N λ{I ak v} S B V r=>by
  refine yF B r P λ{a C} E Q z ns hD Y=>?_
  refine Eg JK F.type_dict_values hD (method_meetsIn JK F.entry_dict_values rfl (LB ⟨rfl,hD.typeIs,F.args_dict_values_1 _,_,meets_dict_values (strKind W.prog W.w) a (o6 ns),⟨C,hD⟩,?_⟩))
  refine bI (B.freeze E Q) λd l t y=>?_
  have f:Step W bf d ak.heap d (ak.heap.push {cls:=.type "dict_values",data:=.fields #[.ref a]}):=Step.push _
  refine itR ((S.trans t).trans f) (l.push _) ?_
  refine tJ ((y.go f).inv) λX u e Z J T L H=>?_
  obtain rfl:=jA e
  refine aL L.dictAt λO i=>?_
  exact qr (W:=W) rfl (λq=>wpAny_pyIter_values ⟨_,c5 _ rfl,rfl,rfl⟩ i q) (Q0 _ a c.2 u O) (λK D=>⟨⟨_,D,rfl,rfl⟩,(gA K.bq J i).2,H.keep K,(gA K.bq J i).1⟩)))
end
end
section
section
variable {W:Wd} {n:Nat} {si:SI}
theorem Op.iadd:bL W n (oW .Add) kT:=bL.pure (t:=oW .Add) (f:=zG) λj st d g e=>by
 unfold zG at e
 split at e
 .rename_i a
  exact ob e λy b e=>sj e (d.gB a λ_=>g.gB b λ_=>iadd_int (.int st))
 .exact ob e λx a e=>ob e λy b e=>og e λc e=>sj e (d.c8 a λ_ h _=>g.c8 b λ_ i _=>
   SB.iadd (λk l=>.tok st (.str _ _ (Ij h i) (by exact aa (LO ..)<|c))) (aE c f9))
theorem Op.QQ:bL W n (oW .Sub) u7:=bL.ints (t:=oW .Sub) λst e=>sj e (PySem.P.isub_int (.int st))
theorem Ny{x:String}(a:i7 si x=true):(si.kind x==some .local|| si.kind x==some .cell|| si.kind x==some .free)=true:=
 (nK _ _).mpr (.inl ((nK _ _).mpr (((nK _ _).mp a).imp id λh=>(band h).1)))
theorem Ex.aug{x np op c K m f}(I:bL W n (oW op) f)(Y:Ev W n si c m)(P:i7 si x=true)(X:(au x==("__classdict__" :aj))=false):
 Ex W n si (.AugAssign (.Name (au x) np) op c K) (.assign (.name x) (.bh f (.var x) m)):=λ{A H M G s ρ σ r} Q st F h=>
 ob h λp w h=>ob h λq U h=>sj h (sj (motive:=λq=>ar _ _ _ (hY W A si H M G s (Fl.next,q.1,q.2)) _ _) U (ob w λy E w=>ob w λz V w=>ob E λd J E=>by
  obtain rfl:=aM E
  refine wpAny_AugAssign_Name (iu (F2 st F J (Ny P) X) λv ak N e j B=>bR Y Q j (F.go st.inv e) V λg b o C=>iu (I Q b (B.go g) C w) λT R O i k D=>
   bD (Bb k (o.go b.inv i) D P) λa S L=>bP L λu l t=>.next (((e.trans g).trans i).any.trans u) l t)))
theorem Wz{P:Gh->ai->Prop}{g:bg}{A:aO}{M:aq->Prop}{f:Nat}{D:ay}{xs T:List bZ}{b:MB}{L N:MS}{r:Fl×aC×MH}{Q:gw->ai->Prop}{ρ σ G s}(rm:br n A)(X:Eb W n si D b)
 (S:∀{G s σ G' d},P G s->St W G s σ->Step W bf G s.heap G' d.heap->P G' d)
 (Y:∀{G s ρ σ r},St W G s σ->aT W A G s.heap si g M ρ->P G s->L ρ σ=some r->ar W.M A (ja xs g) (λf d=>∃G',P G' d/\St W G' d r.2.2/\aT W A G' d.heap si g M r.2.1/\gK W G' d.heap f r.1) aF s)
 (Z:∀{G s ρ σ},St W G s σ->aT W A G s.heap si g M ρ->P G s->N ρ σ=some r->ar W.M A (ja T g) (λf d=>Q f d) aF s)
 (K:∀{G' d} t,P G' d->St W G' d r.2.2->aT W A G' d.heap si g M r.2.1->gK W G' d.heap t r.1->Q t d)
 (h:qL b L N f ρ σ=some r) (st:St W G s σ) (F:aT W A G s.heap si g M ρ) (p:P G s):eU W.M A (.whileLoop D xs T g) (λr d=>∃t,r=.ok t/\Q t d) s:=by
 refine codeAny_whileLoop (λk d=>∃j aW G',qL b L N k j aW=some r/\P G' d/\St W G' d aW/\aT W A G' d.heap si g M j) ?_ f ⟨ρ,σ,G,h,p,st,F⟩
 rintro k d ⟨j,aW,G',a,y,i,JW⟩
 induction k with
 | zero=>exact aY a
 | succ k=>
  refine ob a λc U a=>aF.any (jD X rm i JW U λ{R ak} w l u=>oc a (λq a=>?_) λq a=>?_)
  .exact aa (if_pos q ..)<|ob a λz V a=>aF.any (bD (Y l u (S y i w) V) λI C O=>dG O λE B m v J=>Gg (λt=>∃H,(Jv t:hZ)=.ok H/\Q H C) J a
    (λa=>⟨k,cw _,z.2.1,z.2.2,E,a,B,m,v⟩) λt e x=>⟨t,rfl,K t B (by exact aa (e ..)<|m) (by exact aa (e ..)<|v) x⟩)
  .exact aa (if_neg (by rw [q];decide))<|aF.any (bD (Z l u (S y i w) a) λI C o=>⟨_,rfl,o⟩)
theorem Ex.nF{f g xs w l b u v}(y:Eb W n si g b)(z:dY W n si xs u)(B:dY W n si w v):Ex W n si (.While g xs w l) (.nF f b u v):=λ{A k M G s ρ σ r} q st F h=>
 wpAny_While (g6 (Wz (P:=λG' t=>Step W M G s.heap G' t.heap) (Q:=hY W A si k M G s r) q y (λS a T=>S.trans T.any) (λc d S e=>wpS (z q c d e) λf t G' T i j p=>⟨G',S.trans T,i,j,p⟩)
  (λc d S e=>qR S (B q c d e)) (λx S i j p=>⟨_,S,i,j,p⟩) h st F .refl) λr t m=>aw m λx e o=>by subst e;exact o)
theorem Ex.V1{a b d c mb}(hb:dY W n si a mb):Ex W n si (.Try a (b::d) [] [] c) mb:=λe st F h=>
 WD (aF.any (bD (hb e st F h) λf ak o=>by
  induction f with
  | next=>exact wK o
  | _=>exact o))
end
end
section
section
variable {W:Wd} {n:Nat} {si:SI}
theorem Ex.pg{x np e wp k Q tp K m xs V R S}(Y:Ev W n si e m)(Z:i7 si x=true)(I:dY W n si xs R)(J:dY W n si V S):
 Ex W n si (.If (.Compare (.NamedExpr (.Name (au x) np) e wp) [.Is] [.Constant .none k Q] tp) xs V K) (.pg x m R S):=λ{A H M G s ρ σ r} E st F h=>
 ob h λp X h=>by
  refine wpAny_If (WK ?_ (by rfl))
  refine aa (arm_eval_NamedExpr ..) ?_
  refine ah (bR Y E st F X λ{N ak v} B y i w=>ah (bz (assign_Name (bD (Bb y i w Z) λa D L=>bP L λl d z=>aD ?_))))
  refine(aD ?_:ar W.M A (aU (.Constant .none k Q) H) _ aF D)
  refine iu (Op.is (n:=n) E d (w.step l i.dg) .none (r:=(.bool (jb p.1),p.2)) rfl) λc T O o f C=>qQ (qF f C (b:=jb p.1) rfl) λU P t g=>?_
  have j:=(z.go d.inv o).go f.inv t
  have u:=(((B.any (M:=M)).trans l).trans (o.any (M:=M))).trans (t.any (M:=M))
  exact oc h (λq h=>by exact aa (if_pos q ..)<|qR u (I E g j h)) λq h=>by exact aa (if_neg (by rw [q];decide))<|qR u (J E g j h)
theorem Ex.pZ{t u c x m mt D}(L:Ev W n si c m)(O:Et W n si t mt)(P:Et W n si u D)(N:∀b:bg,b.scope=si.sc->kq [t,u] c x.line b=pure false)(Q:∀b:bg,b.scope=si.sc->l0 [t,u] c b=pure none)
 (R:∀b,gy [t,u] b= [(false,iy t b),(false,iy u b)]):Ex W n si (.Assign [t,u] c x) (.pZ mt D m):=λ{A b M G s ρ σ r} y st F h=>
 ob h λp I h=>ob h λq J h=>ob h λS K h=>sj h (by
  refine aa (arm_exec_Assign ..)<|aa (N _ F.sc ..) ?_
  refine ah (cQ (ah (aD ?_)))
  refine aa (if_neg (by decide)) ?_
  refine ah (bR L y st F I λ{z ak v} o g d f=>?_)
  refine aa (Q _ F.sc ..) ?_
  refine ah (aD ?_)
  refine aa (R ..) ?_
  show ar _ _ ((kf [_] (iy t b _)>>=λa=>iy u b _)>>=λa=>pure Flow.next) _ _ _
  exact ah (ah (bz (kA (O y g d f J) λE B e i k=>kA (P y i k (f.step e d.dg) K) λH C w j l=>aD (.next (((o.any (M:=M)).trans e).trans w) j l)))))
theorem bC.without{G h}{k:aj}{e:List (aj×af)}{f}(r:bC W G h e f):bC W G h (LC e k) (f.filter λp=>decide (p.1≠k)):=
 r.ind .nil λ{j v d m l} a b r c i=>by
  unfold LC at i ⊢
  by_cases g:j=k
  .exact aa (Kq (by simpa using g))<|aa (Kq (by simpa using g))<|i
  .exact aa (Kr (by simpa using g))<|aa (Kr (by simpa using g))<| .cons a b r i
end
end
section
theorem Cell.U2{c xs}(h:Cell.HP c=some xs):c=.set xs:=by induction c<;>first| exact aY h| exact congrArg _ (aM h)
section
variable {W:Wd} {n:Nat} {si:SI}
@[elab_as_elim] theorem yI{G:Gh}{s:ai}{σ:MH}{d:D}{p:Nat×List aj}{v:af}{motive:af->Prop}(st:St W G s σ)(r:Rep W G s.heap v d)(h:rW σ d=some p)
   (k:∀{a},σ.cell p.1=some (.set p.2)->G.g p.1=some a->s.heap.SetOf (strKind W.prog W.w) a (λk=>decide (k∈p.2)) p.2.length->motive (.ref a)):motive v:=
  ob h λi j h=>ob h λc b h=>ob h λxs l h=>by
   obtain rfl:=aM h
   obtain rfl:=Cell.U2 l
   exact kO st r j b λf e=>k b f e
theorem bG.te{p c}(j:W.Ok)(g:si.kind "set" =some .globalImplicit)(f:W.mg (au "set")=none)(i:W.mb (au "set")=some (.type "set")):bG W n si (.Call (.Name (au "set") p) [] [] c) .te:=λ{A d M G s ρ σ r} k st Fr h=>sj h (by
 refine aa (jB ..) ?_
 refine ah (g8 j st Fr g (by decide) (.inr ⟨f,i⟩) (j7 rfl rfl (LB (call_set_0 λb=>dy.push (tk:=s.toks) st rfl λG' K e=>?_))))
 exact xX ((Lr (knd:=strKind W.prog W.w) b).setOf e (by unfold qu;decide)) (λa=>by simp) rfl)
theorem U5(xs:List aj)(k a:aj):decide (a∈qx xs k)=(decide (a=k)|| decide (a∈xs)):=by
 unfold qx
 split
 .rename_i c
  by_cases b:a=k
  .refine aa (b ..)<|aa (decide_eq_true c ..) ?_;simp
  .exact aa (decide_eq_false b ..)<|aa (tU ..) rfl
 .exact aa (.symm (Jc ..))<|decide_eq_decide.mpr (by rw [n4,pO];exact or_comm)
theorem M.US:pQ W n "add" sz wh:=λ{A G s σ v d t e ao r} m R st g l C h=>by
 refine aL (mX l) λp l=>?_
 refine yI (motive:=λv=>Rep W G s.heap v d->W.jw A "add" v m [(false,t)] (Out W G s r.2 r.1) s) st g l (λ{a} E H o g=>?_) g
 refine⟨"set","set.add",F.plainAttrs_set,F.slot_set_add,F.type_set_add,o.typeIs,o.noDict,j7 rfl rfl (BU (BV (C λ{f ak u} S b O=>w9 ?_)))⟩
 refine ob h λk j h=>ob h λq L h=>og h λI h=>sj h ?_
 have c:=g.go S
 show ar _ _ (bM (.builtin "set.add") [.ref a,u]) _ _ _
 revert c
 generalize eB a=w
 intro c
 refine yI b c L λ{a} D y i=>O.c8 j λt P Q=>?_
 refine call_set_add (jI k t) (by rfl) i (by unfold qu;lia) λh' z B=>?_
 have x:=b.m_ (tk:=ak.toks+1) (c':=.set (qx q.2 k)) D rfl y (.inl y) z.extBut (bN z.1.symm) λK=>
  xX B (λN=>by refine aa (U5 ..) ?_;by_cases j:N=k<;>simp [j]) (by by_cases J:k∈q.2<;>simp [qx,J])
 exact⟨f,S.trans x.2,x.1,.none⟩
theorem Op.inSet:bL W n (iJ .In) oV:=bL.pure (t:=iJ .In) (f:=FD) λ{A G s σ v u d e r} w st i j h=>
 ob h λk c h=>ob h λq g h=>sj h (yI st j g λ{a} l m b=>i.c8 c λt o p=>wpAny_inSet_of (jI _ t) (by rfl) b (.tok st (.bool _)))
end
end
section
theorem Cell.zJ{c x}(h:Cell.zI c=some x):c=.inst x.1 x.2:=by induction c<;>first| exact aY h| (obtain rfl:=aM h;rfl)
noncomputable def oO (K:kC) (C:aq) (name:aj):Bool:=AH K C name && Fh K C && (match lN K (.ref C) name with| some a=>noGet K a| none=>false)
theorem Pj{K C name}{P:Prop}(h:oO K C name=true)(k:AH K C name=true->Fh K C=true->∀a,lN K (.ref C) name=some a->noGet K a=true->P):P:=by
 unfold oO at h
 have g:=band h
 generalize b:lN K (.ref C) name=f at g
 induction f with
 | none=>exact nomatch g.2
 | some a=>exact k (band g.1).1 (band g.1).2 a b g.2
structure Wd.hU(W:Wd)(k:Nat):Prop where
 cls:∀o,W.kind k o->o.cls=.ref k
 no:∀o,W.kind k o->notCls o=true
section
variable {W:Wd} {n:Nat} {si:SI}
theorem uX{G h v d}(r:Rep W G h v d):handedIn v=true:=by cases r<;>rfl
theorem vv{h:aN}{a:aq}{m:aj->Option af}(x:h.Ns a m):∃o,h.get? a=some o/\∀name,lookIn name o=some (m name):=by
 refine tK x λo f n e i j l=>?_
 refine⟨o,e,λname=>?_⟩
 unfold lookIn
 refine aa (i ..) ?_
 dsimp only
 have b:=l name
 unfold vT findBy at b
 rw [← Array.find?_toList] at b
 induction g:f.toList.find? (·.key.isStr name) with
 | some en=>rw [g] at b;exact aa (.symm (b ..)) rfl
 | none=>
  rw [g] at b
  have:f.toList.any (·.refKey)=false:=by
   rw [List.any_eq_false]
   intro en c
   refine ew (j en (by simpa using c)) λk t d=>?_
   unfold Js
   refine aa (d ..) ?_;simp
  dsimp only
  exact aa (this ..)<|aa (.symm (b ..)) rfl
theorem bC.lookup{G h b c}(r:bC W G h b c){k:aj}{d}:c.lookup k=some d->∃v,b.lookup k=some v/\Rep W G h v d:=
 r.ind (motive:=λb c=>c.lookup k=some d->∃v,b.lookup k=some v/\Rep W G h v d) (λe=>aY e) λ{g v d j i} a a r a f e=>by
  rw [dI] at e ⊢
  induction hb:k==g with
  | true=>rw [hb] at e;exact⟨_,rfl,aM e▸r⟩
  | false=>rw [hb] at e;exact f e
@[elab_as_elim] theorem u4{G:Gh}{s:ai}{σ:MH}{v d x}{motive:af->Prop}(st:St W G s σ)(r:Rep W G s.heap v d)(h:sx σ d=some x)
   (k:∀{a o e b},s.heap.get? a=some o->W.kind x.1 o->o.dict=some e->s.heap.Ns e (λx=>b.lookup x)->bC W G s.heap b x.2->motive (.ref a)):motive v:=by
  refine ob h λi q h=>ob h λc p h=>?_
  obtain rfl:=Cell.zJ h
  exact kO st r q p λu f=>tL f λo e b t g j l m n=>k g j l m.ns n
theorem E8{A G s σ v d r}{k:Nat}{name:aj}{expr:Bool}(D:W.Ok)(I:W.hU k)(z:oO W.K k name=true)(st:St W G s σ)(E:Rep W G s.heap v d)(h:rR k name d σ=some r):
 ar W.M A (kS v name expr) (Out W G s σ r) aF s:=
 ob h λx B h=>og h λC y=>(by
  subst C
  refine u4 st E B λ{a o F g} i e j l m=>Pj z λq t c w u=>?_
  refine aw (vv l) λH n p=>?_
  refine aw (m.lookup y) λJ b f=>?_
  exact get_value (D.gn.keeps st.inv.keep) ⟨i,I.cls o e,I.no o e,by exact aa (j ..)<|n⟩ (v7 q).1 (findObj_own t w u ((p name).trans (congrArg some b))) (uX f) (.tok st f))
theorem Ev.attr{a name e m k}(u:W.Ok)(I:W.hU k)(q:oO W.K k name=true)(t:Ev W n si a m)(c:∀b,iE a name b (aU a b)=aU a b):Ev W n si (.Attribute a name e) (.ax (aV k name) m):=λ{A b M G s ρ σ r} w st F h=>
 ob h λp l h=>ob h λd o h=>sj h (by
  exact aa (uk ..)<|aa (c ..)<|wpAny_bind (bR t w st F l λ{g ak v} S f y r=>ah (cQ (ah (bz (bD (E8 u I q f r o) λj i x=>ah (tG (aD (x.trans S)))))))))
end
end
section
noncomputable def setOk (K:kC) (C:aq) (name:aj):Bool:=(lN K (.ref C) "__setattr__" ==some (some (.builtin "object.__setattr__"))) && plainOver K C && (takerIn K C name==some none) && Fh K C
section
variable {α β:Type} [BEq α] [LawfulBEq α] [DecidableEq α]
theorem Dg(a:List (α×β))(name:α):(a.any λc=>c.1=name)=(a.lookup name).isSome:=by
 induction a with
 | nil=>rfl
 | cons p r b=>
  refine aa (pL ..)<|aa (dI ..)<|aa (b ..) ?_
  induction hb:name==p.1 with
  | true=>exact aa (decide_eq_true (eq_of_beq hb).symm ..) rfl
  | false=>exact aa (decide_eq_false (λe=>by rw [e,beq_self_eq_true] at hb;exact nomatch hb))<|aa (tU ..) rfl
theorem Se(name:α)(v:β)(y:α)(l:List (α×β)):(l.map λc=>if c.1=name then (c.1,v) else c).lookup y=if y=name then (l.lookup y).map (λa=>v) else l.lookup y:=by
 induction l with
 | nil=>refine aa (rE ..)<|aa (List.lookup_nil ..) ?_;split<;>rfl
 | cons p r d=>
  have e:(if p.1=name then (p.1,v) else p)=(p.1,if p.1=name then v else p.2):=by split<;>rfl
  refine aa (eK ..)<|aa (e ..)<|aa (dI ..)<|aa (dI ..) ?_
  induction hb:y==p.1 with
  | true=>
   refine aa (.symm (eq_of_beq hb ..)) ?_
   by_cases b:y=name
   .exact aa (if_pos b ..)<|aa (if_pos b ..) rfl
   .exact aa (if_neg b ..)<|aa (if_neg b ..) rfl
  | false=>exact d
theorem Hu(a:List (α×β))(name:α)(v:β)(y:α):(if (a.any λb=>b.1=name)=true then a.map (λb=>if b.1=name then (b.1,v) else b) else a++ [(name,v)]).lookup y=if y=name then some v else a.lookup y:=by
 refine aa (Dg ..) ?_
 induction h:a.lookup name with
 | some u=>
  refine aa (if_pos (show(some u).isSome=true from rfl))<|aa (Se ..) ?_
  split
  .rename_i e;exact aa (e ..)<|aa (h ..) rfl
  .rfl
 | none=>
  refine aa (if_neg (show ¬(none:Option β).isSome=true from(λh=>nomatch h)))<|aa (Cn ..) ?_
  by_cases c:y=name
  .exact aa (if_pos c ..)<|aa (c ..)<|aa (h ..)<|aa (Cp ..) rfl
  .exact aa (if_neg c ..)<|aa (dI ..)<|aa (beq_eq_false_iff_ne.mpr c ..)<|Option.or_none
end
theorem Ig(a:List (aj×af))(name:aj)(v:af):(λy=>(qz a name v).lookup y)=λy=>if y=name then some v else a.lookup y:=funext λy=>Hu a name v y
theorem Ie(a:List (aj×af))(name:aj)(v:af):(qz a name v).length=if (a.lookup name).isSome then a.length else a.length+1:=by
 unfold qz
 refine aa (Dg ..) ?_
 split
 .exact aa (aZ ..) rfl
 .exact aa (bF ..) rfl
theorem G4{M:lB}{A:aO}{E:af->ai->Prop}{s:ai}{a:aq}{m:aj->Option af}{n:Nat}{name:aj}{v:af}{Q:Unit->ai->Prop}(D:ix s.heap a m n)
 (z:∀h',ix h' a (λx=>if x=name then some v else m x) (if (m name).isSome then n else n+1)->hO a s.heap h'->Q () {s with heap:=h',toks:=s.toks+1}):ar M A (nsSet a name v) Q E s:=λG p F=>by
 refine jU D λo b u j w l q I=>?_
 simp only [nsSet,strHash,Sem.wp_bind',Sem.wp_cmd_ask,Sem.wp_pure',Sem.wp_cmd_mkText]
 refine aa (Sem.wp_loadPart_of M G _ _ {s with toks:=s.toks+1} (o:=o) _ j ..) ?_
 have g:b.any (·.refKey)=false:=by
  rw [Array.any_eq_false'];intro e B;refine ew (l e B) λn t h=>?_;simp [Js,h]
 simp only [w,aRefKeyMayBeTheName_eq,aRefKeyMayBeTheNameByArray,g,tR,qV,if_false,Sem.wp_cmd_updatePart]
 refine⟨by exact aa (j ..) rfl,z _ ?_ (ft ..)⟩
 obtain⟨c,d,H,J⟩:=o
 subst w
 have C:=findBy_of_findIdx? (λn v=>v.isStr n) b name
 have r:findBy (λn v=>v.isStr n) b name=m name:=q name
 induction f:b.findIdx? (·.key.isStr name) with
 | some i=>
  refine⟨_,_,u,eI _ j (by simp only [xP,xO,f];rfl),by simp only [xP,xO,f];rfl,l.modify _ _,λx=>?_,?_⟩
  .show _=if x=name then some v else m x
   exact aa (.symm (q ..))<|findBy_modify (λn v=>v.isStr n) Value.isStr_inj b name x v i f
  .refine aa (Array.size_modify ..) ?_
   split<;>omega
 | none=>
  refine⟨_,_,u+1,eI _ j (by simp only [xP,xO,f];rfl),by simp only [xP,xO,f];rfl,l.push _ _ _ _,λx=>?_,?_⟩
  .show _=if x=name then some v else m x
   exact aa (.symm (q ..))<|findBy_push (λn v=>v.isStr n) b name x _ _ v (λy=>by
    show(name==y)=decide (y=name)
    by_cases h:y=name
    .subst h;simp
    .have:¬name=y:=λe=>h e.symm
     simp [h,this]) f
  .have:m name=none:=by
    refine aa (.symm (r ..))<|aa (C ..) ?_
    have k:b.findIdx? (λe=>(λn v=>Value.isStr v n) name e.key)=none:=f
    exact aa (k ..) rfl
   refine aa (this ..) ?_
   simp only [Option.isSome_none,qV,if_false,BK]
   omega
section
variable {W:Wd} {n:Nat} {si:SI}
theorem Vb{A:aO}{s:ai}{K:kC}{x C k:aq}{w T:bu}{m:aj->Option af}{name:aj}{v:af}{Q:Unit->ai->Prop}{E:af->ai->Prop}(X:K.In s.heap)(I:InstAt s.heap x w C (some T)){d:Nat}(F:w.dict=some k)(P:ix s.heap k m d)(H:d<=1000)(q:setOk K C name=true)
 (N:∀h' tk,ix h' k (λy=>if y=name then some v else m y) (if (m name).isSome then d else d+1)->hO k s.heap h'->Q () {s with heap:=h',toks:=tk}):ar W.M A (wm (.ref x) name v) Q E s:=by
 unfold setOk at q
 simp only [jo] at q
 refine aA q λz s4=>?_;refine aA z λB s3=>?_;refine aA B λZ s2=>?_
 obtain⟨G,g,D,t,os⟩:=s
 refine set_plain X I (beq_iff_eq.mp Z) ?_
 refine osa_open (r:=none) (s:=⟨G,g,D,t+1,os⟩) X I s2 (beq_iff_eq.mp s3) λb=>?_
 refine aw (any_some s4) λcd O p=>?_
 obtain⟨J,l,R,-⟩:=I
 dsimp only at J
 obtain⟨oc,V,U,Y⟩:=w
 dsimp only at l F
 subst l F
 refine ah (aD (ah (ah (Bw J (ah ((looks_clsIn X O).at ?_))))))
 refine aa (p ..) ?_
 refine aD (a:=some k) (ah (aD (ah (G4 (s:=⟨G,g,D,t+1,os⟩) P λh' n u=>?_))))
 have h:=n
 refine jU h λL e o i f c c j=>?_
 have S:e.size<=gF+1:=by
  refine aa (HV ..) ?_
  split at j<;>omega
 exact ah (WL i (by exact aa (f ..)<|pastItsLine_dict S) (aD (N h' _ n u)))
theorem HR{A:aO}{G:Gh}{s:ai}{σ ab:MH}{k:Nat}{name:String}{v u:af}{o d:D}(R:W.Ok)(I:W.hU k)(j:setOk W.K k (au name)=true)(g:name.length<=100)(st:St W G s σ)(S:Rep W G s.heap u o)(r:Rep W G s.heap v d)
 (h:s8 k (au name) o d σ=some ab):ar W.M A (wm u (au name) v) (λb J=>Step W bf G s.heap G J.heap/\St W G J ab) aF s:=
 ob h λc e h=>og h λt h=>ob e λi P e=>ob e λT f e=>ob e λx Q e=>by
  obtain rfl:=aM e
  obtain rfl:=aM h
  obtain rfl:=Cell.zJ Q
  obtain⟨rfl,t⟩:=t
  refine kO st S P f λ{a} F ⟨ob,N,l,m,B,n,p,C,E⟩=>?_
  obtain⟨V,O,U⟩:=vv C.ns
  refine Vb (R.gn.keeps st.inv.keep) ⟨B,I.cls ob n,I.no ob n,by exact aa (p ..)<|O⟩ p C (by exact aa (E.length ..)<|t) j λh' L w z=>?_
  have H:=(st.cells.at_ i _ f).1 rfl
  have y:=st.m_ (tk:=L) (c':=.inst x.1 (eF x.2 (au name) d)) f rfl F (.inr m) z.extBut (bN z.1.symm) λK=>
   ⟨ob,N,qz l (au name) v,m,z.extBut _ _ (λq=>st.inv.gd i i a H H F (q▸m)) B,n,p,by exact aa (Ig ..)<|aa (Ie ..)<|w,(E.keep K).put (qA _) (by exact aa (zU ..)<|Nat.le_trans g (by decide)) (r.keep K)⟩
  exact⟨y.2,y.1⟩
theorem Et.attr{o name q mo k}(C:W.Ok)(I:W.hU k)(l:setOk W.K k (au name)=true)(j:name.length<=100)(z:Ev W n si o mo):Et W n si (.Attribute o (au name) q) (.attr k (au name) mo):=λ{A y M G s ρ σ v d E} D st F r h=>
 ob h λp x h=>ob h λab B h=>sj h (by
  exact aa (Dp ..)<|wpAny_bind (bz (bR z D st F x λ{i ak w} c b g m=>ah (cQ (ah (bz (bD (HR C I l j b m (r.go c) B) λa u t=>aA t λe f=>qO ⟨i,(c.trans e).any,f,g.go b.inv e⟩)))))))
theorem Ex.oj{o name N op j P X m f k}(Y:W.Ok)(I:W.hU k)(C:oO W.K k (au name)=true)(E:setOk W.K k (au name)=true)(D:name.length<=100)(ho:Ev W n si o X)(he:Ev W n si j m)(O:bL W n (oW op) f):
 Ex W n si (.AugAssign (.Attribute o (au name) N) op j P) (.oj k (au name) f X m):=λ{A env M G s ρ σ r} R st F h=>
 ob h λp e1 h=>ob h λx e2 h=>ob h λq e3 h=>ob h λz e4 h=>ob h λab hs h=>sj h (by
  refine aa (Mp ..) ?_
  refine ah (cQ (ah (bR ho R st F e1 λ{S ak Bq} B e w t=>ah (bz (ah (cQ (ah (iu (E8 Y I C e t e2) λBr Z T b u H=>?_))))))))
  refine ah (bz (bR he R u (w.go e.inv b) e3 λ{U eZ IL} c g y J=>ah (cQ (WM (iu (O R g (H.go c) J e4) λWn kr V d i L=>?_)))))
  exact ah (cQ (ah (bz (bD (HR Y I E D i (((t.go b).go c).go d) L hs) λa ks Q=>aA Q λl v=>ah (qO (aD (.next ((((B.trans b).trans c).trans d).trans l).any v ((y.go g.inv d).go i.inv l)))))))))
end
end
section
noncomputable def Gh.n_ (G:Gh) (i:Nat) (a b:aq):Gh:={G with g:=upd G.g i (some a),d:=upd G.d i (some b)}
section
variable {W:Wd} {n:Nat} {si:SI}
theorem St.Dc{G:Gh}{s s':ai}{σ:MH}{a da:aq}{c:Cell}(st:St W G s σ)(t:da=s.heap.objs.size)(A:a=s.heap.objs.size+1)(hsz:s'.heap.objs.size=s.heap.objs.size+2)
 (k:∀b o,s.heap.get? b=some o->s'.heap.get? b=some o) (M:s'.gens=s.gens) (N:s'.os=s.os) (C:∀G',cH W G s.heap G' s'.heap->cg W G' s'.heap a (some da) c):
 St W (G.n_ σ.next a da) s' (σ.new c)/\Step W bf G s.heap (G.n_ σ.next a da) s'.heap/\(G.n_ σ.next a da).g σ.next=some a:=by
 refine bP (st.cells.free σ.next (bb _)) λE F H=>?_
 have lo:∀b,b=a∨b=da->s.heap.objs.size<=b/\b<s'.heap.objs.size:=λb hb=>by
  exact aa (hsz ..)<|hb.elim (λe=>by exact aa (e ..)<|aa (A ..)<|⟨dD _,cw _⟩) λe=>by exact aa (e ..)<|aa (t ..)<|⟨bb _,fG (cw _)⟩
 have own:∀b,(G.n_ σ.next a da).own b->G.own b∨b=a∨b=da:=λb w=>aw w λi l x=>
  x.elim (λx=>ec x (λf e=>.inr (.inl (aM e).symm)) λf h=>.inl ⟨i,l,.inl h⟩) λx=>ec x (λf e=>.inr (.inr (aM e).symm)) λf h=>.inl ⟨i,l,.inr h⟩
 have n:∀{b c i},some c=some b->(c=a∨c=da)->G.c0 i->¬(G.g i=some b∨G.d i=some b):=λ{b c i} e hb l x=>absurd (st.inv.cn b ⟨i,l,x⟩).2.1 (Nat.not_lt.mpr (lo b (aM e▸hb)).1)
 have u:s.heap.objs.size<=s'.heap.objs.size:=by exact aa (hsz ..)<|Nat.le_add_right _ _
 have S:Step W bf G s.heap (G.n_ σ.next a da) s'.heap:=.all (λi b e=>(k_ (λq=>aY (E.symm.trans (q▸e)))).trans e) (λi b e=>(k_ (λq=>aY (F.symm.trans (q▸e)))).trans e) rfl (λf x=>x) (λb x=>(own b x).imp id λy=>(lo b y).1) (λb o e f=>k b o e) u
 have K:=S.ea λf x=>x.elim
 refine⟨⟨⟨λb o e=>k b o (st.inv.keep b o e),aE st.inv.size u,M.trans st.inv.gens,N.trans st.inv.os,λb x=>?_,λb x=>(st.inv.b0 b x).imp id (eH λh=>a9 h u),λi j b p r e m=>?_,λi j b p r e m=>?_,λi j b p r e m=>?_,st.inv.tab.keep K.bq λf e=>k _ _ e,st.inv.eO,st.inv.hJ,st.inv.b8⟩,⟨λi B e=>?_,λi p=>?_⟩⟩,S,qK⟩
 .exact(own b x).elim (λy=>(st.inv.cn b y).imp id (eH λh=>a9 h u)) λy=>have:=lo b y;⟨aE st.inv.size this.1,this.2,λz=>absurd (st.inv.b0 b z).2.1 (Nat.not_lt.mpr this.1),λq=>absurd (a9 st.inv.eO st.inv.size) (Nat.not_lt.mpr (q▸this.1))⟩
 .exact ec e (λq e=>ec m (λv f=>q.trans v.symm) λf m=>(n e (.inl rfl) r (.inl m)).elim) λf e=>ec m (λf m=>(n m (.inl rfl) p (.inl e)).elim) λf m=>st.inv.gR i j b p r e m
 .exact ec e (λq e=>ec m (λv f=>q.trans v.symm) λf m=>(n e (.inr rfl) r (.inr m)).elim) λf e=>ec m (λf m=>(n m (.inr rfl) p (.inr e)).elim) λf m=>st.inv.g7 i j b p r e m
 .exact ec e (λq e=>ec m (λf m=>absurd ((aM e).trans (aM m).symm) (by exact aa (A ..)<|aa (t ..)<|Nat.ne_of_gt (cw _))) λf m=>n e (.inl rfl) r (.inr m)) λf e=>ec m (λf m=>n m (.inr rfl) p (.inl e)) λf m=>st.inv.gd i j b p r e m
 .exact ec e (λq D=>by subst q;obtain rfl:=aM D;exact⟨λf=>H,a,qK,by exact aa (show(G.n_ σ.next a da).d σ.next=some da from qK)<|C _ K⟩)
   λp e=>have x:=st.cells.at_ i B e;⟨x.1,x.2.imp λb y=>⟨K.g _ _ y.1,by exact aa (show(G.n_ σ.next a da).d i=G.d i from k_ p)<|y.2.keep K (λo e=>k _ o e) (λf o f e=>k _ o e)⟩⟩
 .have p:σ.next+1<=i:=p
  refine bP (st.cells.free i (lC p)) λI J L=>?_
  exact⟨(k_ (dc p)).trans I,(k_ (dc p)).trans J,L⟩
theorem br.Wf{A:aO}{C:aq}{b:List af}{a:List (aj×af)}(r:br (n+1) A):br n (A.under (.builtin "type.__call__" ⟨.ref C::b,a⟩)):=
 ⟨by have:=r.1;show A.depth+1+_<=_;lia,by have:=r.2.1;show A.units+1+_<=_;lia,r.2.2.1,r.2.2.2⟩
theorem D4{C q:aq}{F:FM}{c:Cell}(U:W.Ok)(Q:GI W.K C=true)(P:lN W.K (.ref C) "__init__" =some (some (.ref q)))(O:Bm W.K (.ref q)=some (.type "function")){A G s σ E z p}(V:br (n+1) A)(st:St W G s σ)(Y:aQ W G s.heap E z)(fo:Fo A G s.heap)
 (N:∀(f:aq) (h':aN),h'.get? (f+1)=some (mU C f)->h'.get? f=some r0->∀G',cH W G s.heap G' h'->cg W G' h' (f+1) (some f) c) (L:ba W n q F) (I:F (.ref σ.next::z) (σ.new c)=some p) (R:jb p.1=true):
 eU W.M A (.call (.ref C) ⟨E,[]⟩) (xR W G s (.ref σ.next,p.2)) s:=by
 obtain⟨f,g,H,t,os⟩:=s
 have X:W.K.In f:=U.gn.keeps st.inv.keep
 refine make_core (makes_of X Q) (looks_findIn X P) (λm=>bind_fn X m O) (.inl rfl) ?_
 have k:(f.push r0).objs.size=f.objs.size+1:=c9 ..
 have J:((f.push r0).push (mU C f.objs.size)).get? (f.objs.size+1)=some (mU C f.objs.size):=by exact aa (.symm (k ..))<|Heap.get?_push_size _ rfl
 obtain⟨y,S,B⟩:=st.Dc (s':=⟨(f.push r0).push (mU C f.objs.size),g,H,t,os⟩) (a:=f.objs.size+1) (da:=f.objs.size) (c:=c) rfl rfl ((c9 ..).trans (congrArg (· +1) k)) (λb o e=>bH _ (bH _ e)) rfl rfl λG' K=>
  N _ _ J (bH _ (c5 _ rfl)) G' K
 exact g6 (L (V.Wf) y (.cons (.ref B) (Y.go S)) (fo.step S λd d d x=>x) I) λr D u=>aw u λv T w=>bI w λj h i l=>by
  subst T
  exact⟨AY l R,_,rfl,j,S.trans h,i,.ref (h.g _ _ B)⟩
theorem ba.cls{C fI:aq}{F:FM}(t:W.Ok)(o:GI W.K C=true)(m:lN W.K (.ref C) "__init__" =some (some (.ref fI)))(l:Bm W.K (.ref fI)=some (.type "function"))(b:∀f,W.kind C (mU C f))(j:ba W n fI F):ba W (n+1) C (yR C F):=λ{A G s σ x w r} u st v fo e=>
 ob e λp g e=>og e λq e=>sj e (D4 (c:=.inst C []) t o m l u st v fo (λd h' h i G' K=>⟨mU C d,d,[],rfl,h,b _,rfl,⟨r0,#[],0,i,rfl,(λa k=>by simp at k),λa=>rfl,bb _⟩,.nil⟩) j g q)
theorem Ev.Nl{x p e rest i g a F}(f:W.Ok)(v:si.kind x=some .globalImplicit)(hb:(au x==("__debug__" :aj))=false)(u:W.mg (au x)=some (.ref a))(t:u9 W.K (.ref a)=true)(m:ba W n a F)
 (h:fF W n si (e::rest) g) (o:∀b,bB (e::rest) b=(false,aU e b)::bB rest b) (d:∀b,(bB rest b).any (·.1)=false):Ev W n si (.Call (.Name (au x) p) (e::rest) [] i) (.a8 F g):=λ{A b M G s ρ σ r} j st Fr h'=>
 ob h' λq l h'=>by
  exact aa (jB ..)<|wpAny_bind (g8 f st Fr v hb (.inl u) (callWith_K (f.gn.keeps st.inv.keep) t (h j st Fr l λS c k w=>⟨f.gn.keeps c.inv.keep,gG S (p5 m j c w k.ku h')⟩) (o b) (kH (d b))))
theorem Ev.Nm{x p b a F}(c:W.Ok)(h:si.kind x=some .globalImplicit)(hb:(au x==("__debug__" :aj))=false)(g:W.mg (au x)=some (.ref a))(f:u9 W.K (.ref a)=true)(e:ba W n a F):
 Ev W n si (.Call (.Name (au x) p) [] [] b) (.call F []):=λ{A d M G s ρ σ r} i st Fr h'=>by
 exact aa (jB ..)<|wpAny_bind (g8 c st Fr h hb (.inl g) (callWith_K0 (c.gn.keeps st.inv.keep) f (p5 e i st .nil Fr.ku h')))
noncomputable def vM (K:kC) (C:aq) (name:aj) (f:aq):Bool:=(lN K (.ref C) name==some (some (.ref f))) && isFn K (.ref f) && u9 K (.ref f) && AH K C name
theorem UJ{C name σ d}{P:Prop}(h:qt C name σ d=true)(k:∀a,sx σ d=some (C,a)->a.lookup name=none->P):P:=by
 unfold qt at h
 split at h
 .rename_i x e
  refine aA (of_decide_eq_true h) λb c=>?_
  exact k x.2 (by exact aa (e ..)<|aa (.symm (b ..)) rfl) c
 .exact nomatch h
theorem bC.RG{G h b c}(r:bC W G h b c){k:aj}:c.lookup k=none->b.lookup k=none:=
 r.ind (motive:=λb c=>c.lookup k=none->b.lookup k=none) (λa=>rfl) λ{g v d j i} a a r a f e=>by
  rw [dI] at e ⊢
  induction hb:k==g with
  | true=>rw [hb] at e;exact aY e.symm
  | false=>rw [hb] at e;exact f e
theorem GO{A:aO}{c:bg}{G:Gh}{s:ai}{σ:MH}{o:ay}{name:aj}{d b:bc}{args:List ay}{v:af}{x:D}{C f:aq}{Q:af->ai->Prop}(N:W.Ok)(I:W.hU C)(F:vM W.K C name f=true)
 (e:sI (args.length+([]:List pK).length) (fZ b (bB args c)) (p0 b (qh [] c))=true) (g:(d.endLine==b.line)=true) (st:St W G s σ) (r:Rep W G s.heap v x) (H:qt C name σ x=true)
 (h:W.K.In s.heap->u9 W.K (.ref f)=true->ar W.M A (i5 b (.ref f) [v] (fZ b (bB args c)) []) Q aF s):
 ar W.M A (Ah o name d b c v (args.length+([]:List pK).length) (fZ b (bB args c)) (p0 b (qh [] c))) Q aF s:=by
 refine UJ H λk E hl=>?_
 revert h
 refine u4 (motive:=λv=>(_->_->ar W.M A (i5 b (.ref f) [v] (fZ b (bB args c)) []) Q aF s)->ar W.M A (Ah o name d b c v (args.length+([]:List pK).length) (fZ b (bB args c)) (p0 b (qh [] c))) Q aF s) st r E λ{a ob O p} q l t u w h=>?_
 refine aw (vv u) λn y z=>?_
 refine aA (band F) λj m=>?_
 refine aA (band j) λj L=>?_
 refine aA (band j) λj J=>?_
 have X:W.K.In s.heap:=N.gn.keeps st.inv.keep
 have i:Ai true o c d b=pure b:=by unfold Ai;exact aa (Jd ..)<|aa (tU ..)<|aa (if_pos g ..) rfl
 have B:InstAt s.heap a ob C (some n):=⟨q,I.cls ob l,I.no ob l,by exact aa (t ..)<|y⟩
 unfold Ah
 exact aa (e ..)<|wpAny_bind (bz (method_fn X B (v7 m).1 (v7 m).2 (beq_iff_eq.mp j) (beq_iff_eq.mp J) (by show(lookIn name n).map _=_;exact aa (z ..)<|aa (w.RG hl ..) rfl) (ah (hK i (h X L)))))
theorem Ev.Sv{o e rest name j d D g C f F}(E:W.Ok)(I:W.hU C)(P:vM W.K C name f=true)(L:ba W n f F)(Q:Ev W n si o D)(h:fF W n si (e::rest) g)
 (l:∀a,iE o name a (aU o a)=aU o a) (N:∀a,bB (e::rest) a=(false,aU e a)::bB rest a) (y:∀a,(bB rest a).any (·.1)=false)
 (m:∀a,sI ((e::rest).length+([]:List pK).length) (fZ d (bB (e::rest) a)) (p0 d (qh [] a))=true) (t:(j.endLine==d.line)=true):
 Ev W n si (.Call (.Attribute o name j) (e::rest) [] d) (.dC C name F D g):=λ{A a M G s ρ σ r} z st Fr h'=>
 ob h' λp H h'=>og h' λR h'=>ob h' λq J h'=>by
  exact aa (Dq ..)<|aa (l ..)<|wpAny_bind (bR Q z st Fr H λ{B ak v} x b u k=>ah (cQ (GO E I P (m a) t b k R λX O=>callWith_K X O
   (h z b u J λi c w S=>⟨E.gn.keeps c.inv.keep,gG (x.trans i) (p5 L z c (.cons (k.go i) S) w.ku h')⟩) (N a) (kH (y a)))))
theorem Ev.Sw{o name d c m C f F}(B:W.Ok)(I:W.hU C)(x:vM W.K C name f=true)(u:ba W n f F)(y:Ev W n si o m)
 (g:∀a,iE o name a (aU o a)=aU o a)
 (h:∀a,sI (([]:List ay).length+([]:List pK).length) (fZ c (bB [] a)) (p0 c (qh [] a))=true) (i:(d.endLine==c.line)=true):
 Ev W n si (.Call (.Attribute o name d) [] [] c) (.dC C name F m (aG [])):=λ{A a M G s ρ σ r} q st Fr h'=>
 ob h' λp t h'=>og h' λz h'=>by
  exact aa (Dq ..)<|aa (g ..)<|wpAny_bind (bR y q st Fr t λ{l ak v} k b j e=>ah (cQ (GO B I x (h a) i b e z λX w=>callWith_K0 X w (gG k (p5 u q b (.cons e .nil) j.ku h')))))
end
end
section
noncomputable def th (K:kC) (C:aq) (name:aj) (p:aq) (i:Nat):Bool:=AH K C name && isClsIn K C && (lN K (.ref C) name==some (some (.ref p))) && (specialIn K (.ref p) "__get__" ==some (some (.builtin "member_descriptor.__get__"))) &&
 (takesIn K (.ref p)==some true) && (slotIn K p C==some i)
noncomputable def ti (K:kC) (C:aq) (name:aj) (p:aq) (i:Nat):Bool:=(lN K (.ref C) "__setattr__" ==some (some (.builtin "object.__setattr__"))) && plainOver K C && (takerIn K C name==some (some (.ref p))) && (Bm K (.ref p)==some (.type "member_descriptor")) && (slotIn K p C==some i) && decide (i<1000)
theorem Um(l:List (Nat×D))(i j:Nat)(d:D):(putN l i d).lookup j=if j=i then some d else l.lookup j:=Hu l i d j
theorem Cell.Vj{c x}(h:Cell.H5 c=some x):c=.slots x.1 x.2:=by induction c<;>first| exact aY h| (obtain rfl:=aM h;rfl)
section
variable {W:Wd} {n:Nat} {si:SI}
structure LM(W:Wd)(G:Gh)(s:ai)(σ:MH)(C i:Nat)(attrs:List (Nat×D))(a:aq)(o:bu)(da:aq)(od:bu):Prop where
 hc:σ.cell i=some (.slots C attrs)
 hg:G.g i=some a
 e1:G.d i=some da
 e2:s.heap.get? a=some o
 e3:W.kind C o
 e4:o.dict=some da
 e5:s.heap.get? da=some od
 e6:o.isFreed=false
 e7:∀(i:Nat) (d:D),attrs.lookup i=some d->∃v,(o.slots[i]?).join=some v/\Rep W G s.heap v d
@[elab_as_elim] theorem DX{G:Gh}{s:ai}{σ:MH}{d:D}{C:Nat}{p:Nat×List (Nat×D)}{v:af}{motive:af->Prop}(st:St W G s σ)(r:Rep W G s.heap v d)(h:uB C σ d=some p)
   (k:∀{a o f j},LM W G s σ C p.1 p.2 a o f j->motive (.ref a)):motive v:=
  ob h λi y h=>ob h λc g h=>ob h λxs A h=>og h λz h=>by
   obtain rfl:=aM h
   obtain rfl:=Cell.Vj A
   subst z
   exact kO st r y g λx e=>BC e λo f l m n q b u w=>aL b λj t=>k ⟨g,x,l,m,n,q,t,u,w⟩
theorem HZ{A G s σ v d r C p i}{name:aj}{expr:Bool}(w:W.Ok)(I:W.hU C)(t:th W.K C name p i=true)(st:St W G s σ)(x:Rep W G s.heap v d)(h:A7 C i d σ=some r):
 ar W.M A (kS v name expr) (Out W G s σ r) aF s:=
 ob h λc n q=>(DX st x n λ{a o z u} T=>by
  refine aw (T.e7 i _ q) λB b l=>?_
  have k:InstAt s.heap a o C (some u):=⟨T.e2,I.cls o T.e3,I.no o T.e3,by exact aa (T.e4 ..)<|T.e5⟩
  refine aA (band t) λj y=>?_
  refine aA (band j) λg j=>?_
  refine aA (band g) λf g=>?_
  refine aA (band f) λe f=>?_
  refine aA (band e) λm e=>?_
  have X:W.K.In s.heap:=w.gn.keeps st.inv.keep
  exact get_bind X k (v7 m).1 (findObj_data e (eq_of_beq f) (eq_of_beq g) (eq_of_beq j)) (v7 m).2 (jT (slot_get (s:={s with toks:=s.toks+1}) X k (eq_of_beq y) b (handed_on (uX l) (.tok st l)))))
set_option maxRecDepth 100000 in
set_option maxHeartbeats 4000000 in
open PySem.Builtin PySem.Builtin.ObjectAttr PySem.Builtin.Getset_descriptor in
theorem H2{A:aO}{G:Gh}{s:ai}{σ ab:MH}{C p i:Nat}{name:aj}{v u:af}{x d:D}(ok:W.Ok)(I:W.hU C)(m:∀o P,W.kind C o->W.kind C {o with slots:=P})(hs:ti W.K C name p i=true)(st:St W G s σ)(ru:Rep W G s.heap u x)(r:Rep W G s.heap v d)(h:AL C i x d σ=some ab)
 :ar W.M A (wm u name v) (λb s'=>Step W bf G s.heap G s'.heap/\St W G s' ab) aF s:=by
 refine ob h λc hc h=>sj h ?_
 refine DX st ru hc λ{a o da od} T=>?_
 have e7:=T.e7
 have Q:InstAt s.heap a o C (some od):=⟨T.e2,I.cls o T.e3,I.no o T.e3,by exact aa (T.e4 ..)<|T.e5⟩
 refine aA (band hs) λO s6=>?_
 refine aA (band O) λN O=>?_
 refine aA (band N) λL N=>?_
 refine aA (band L) λs2 L=>?_
 refine aA (band s2) λZ s2=>?_
 have Z:=eq_of_beq Z
 have L:=eq_of_beq L
 have N:=eq_of_beq N
 have O:=eq_of_beq O
 have s6:=of_decide_eq_true s6
 have X:W.K.In s.heap:=ok.gn.keeps st.inv.keep
 obtain⟨H,g,dr,t,os⟩:=s
 refine set_plain X Q Z (osa_descr (s:=⟨H,g,dr,t+1,os⟩) KF.slot_mset X Q s2 L N ?_)
 obtain⟨n,tn,E,j,tb,dd,P,cd,z,R,hm,hb,rfl⟩:=slot_of X O
 have L0:=Q.type (M:=bX W.prog W.w)
 have L1:=looks_mroIn (M:=bX W.prog W.w) X hm
 have L2:Looks (bX W.prog W.w) H (Slots.slotNamesOf (.ref C)) cd.slotNames:=(looks_clsIn X R).andThen .now
 have V:=Q.at_
 dsimp only at z V L0 L1
 have f0:=z0 (M:=bX W.prog W.w) z 0 (v:=.str n tn) rfl
 have f1:=z0 (M:=bX W.prog W.w) z 1 (v:=E) rfl
 have f3:=z0 (M:=bX W.prog W.w) z 3 (v:=.builtin "proto.slot#set") rfl
 have f4:=z0 (M:=bX W.prog W.w) z 4 (v:=.int j tb) rfl
 refine mK KF.slot_mset.plain KF.entry_mset (KF.slot_mset.check _ _ _ _ _ _ _ _ ⟨_,z,rfl⟩ (KF.args_mset _ _ _) ?_)
 delta bE.«member_descriptor.__set__» descrSet descrStoreThrough descrCheckInstance descrNameAndClass isInstance
 have f5:Looks (bX W.prog W.w) H (descrItself (.ref p)) [.ref p]:=((CA (part:=none) z).andThen .now).andThen (Looks.of_pure (by kernel_rfl))
 repeat lk
 refine⟨xa _ (by decide+kernel),fN KF.entry_slotset ?_⟩
 delta bE.«proto.slot#set» Slots.target
 repeat lk
 refine aa (if_neg hb ..) ?_
 refine aD (ah ?_)
 delta setSlotAt
 dsimp only
 refine aa (if_neg (by rw [HV];omega)) ?_
 refine wpAny_updatePart V (aD ?_)
 let i:=cd.slotNames.length - 1 - j.toNat
 let f:bu->bu:=λo=>{o with slots:=(o.slots++I7 (i+1 - o.slots.size) none).setIfInBounds i (some v)}
 have F:(f o).isFreed=false:=by
  have Y:∀(o:bu) (P:Array (Option af)),o.isFreed=false->Obj.isFreed {o with slots:=P}=false:=by
   rintro ⟨c,d,dt,P⟩ Yj h
   induction dt<;>first| rfl| exact h
  exact Y o _ T.e6
 have eu:(H.update a f).get? a=some (f o):=eI f V F
 have U:a≠da:=by
  have hv:=(st.cells.at_ c.1 _ T.hc).1 rfl
  exact λq=>st.inv.gd c.1 c.1 a hv hv T.hg (q▸T.e1)
 have y:=st.m_ (tk:=t+1) (c':=.slots C (putN c.2 i d)) (h':=H.update a f) T.hc rfl T.hg (.inl T.hg) (ft ..).extBut (bN (ft ..).1.symm) λK=>by
  refine⟨f o,da,T.e1,eu,m o _ T.e3,T.e4,⟨od,(gf _ _ U).trans T.e5⟩,F,λk d' J=>?_⟩
  rw [Um] at J
  show ∃v',(((o.slots++I7 (i+1 - o.slots.size) none).setIfInBounds i (some v))[k]?).join=some v'/\_
  by_cases l:k=i
  .rw [if_pos l] at J
   obtain rfl:=aM J
   exact aa (l ..)<|aa (Array.getElem?_setIfInBounds_self_of_lt (by rw [I8,Array.size_replicate];omega))<|⟨v,rfl,r.keep K⟩
  .rw [if_neg l] at J
   refine aw (e7 k d' J) λv' B rr=>?_
   have S:k<o.slots.size:=by
    rcases Nat.lt_or_ge k o.slots.size with q| q
    .exact q
    .rw [tO q] at B;exact aY B
   exact aa (Array.getElem?_setIfInBounds_ne (λe=>l e.symm) ..)<|aa (I4 S ..)<|⟨v',B,rr.keep K⟩
 exact⟨y.2,y.1⟩
theorem Ev.slot{a name e m C p i}(w:W.Ok)(I:W.hU C)(t:th W.K C name p i=true)(u:Ev W n si a m)(c:∀b,iE a name b (aU a b)=aU a b):Ev W n si (.Attribute a name e) (.ax (eY C i) m):=λ{A b M G s ρ σ r} y st F h=>
 ob h λq l h=>ob h λd o h=>sj h (by
  exact aa (uk ..)<|aa (c ..)<|wpAny_bind (bR u y st F l λ{g ak v} S f z r=>ah (cQ (ah (bz (bD (HZ w I t f r o) λk j x=>ah (tG (aD (x.trans S)))))))))
theorem Et.slot{o name m u C p i}(H:W.Ok)(I:W.hU C)(f:∀o L,W.kind C o->W.kind C {o with slots:=L})(E:ti W.K C name p i=true)(B:Ev W n si o u):Et W n si (.Attribute o name m) (.slot C i u):=λ{A z M G s ρ σ v d N} J st F r h=>
 ob h λq y h=>ob h λab D h=>sj h (by
  exact aa (Dp ..)<|wpAny_bind (bz (bR B J st F y λ{k ak x} c b j l=>ah (cQ (ah (bz (bD (H2 H I f E b l (r.go c) D) λa w t=>aA t λe g=>qO ⟨k,(c.trans e).any,g,j.go b.inv e⟩)))))))
theorem Ex.lH{o name L op k P mo m f C p i}(X:W.Ok)(I:W.hU C)(u:∀o sl,W.kind C o->W.kind C {o with slots:=sl})(hs:th W.K C name p i=true)(O:ti W.K C name p i=true)(ho:Ev W n si o mo)(he:Ev W n si k m)(N:bL W n (oW op) f):
 Ex W n si (.AugAssign (.Attribute o name L) op k P) (.lH C i f mo m):=λ{A env M G s ρ σ r} R st F h=>
 ob h λp e1 h=>ob h λx e2 h=>ob h λq e3 h=>ob h λz e4 h=>ob h λab hp h=>sj h (by
  refine aa (Mp ..) ?_
  refine ah (cQ (ah (bR ho R st F e1 λ{S ak Bq} D e y t=>ah (bz (ah (cQ (ah (iu (HZ X I hs e t e2) λBr Y T b v E=>?_))))))))
  refine ah (bz (bR he R v (y.go e.inv b) e3 λ{U Z IL} c g B H=>ah (cQ (WM (iu (N R g (E.go c) H e4) λWn kr V d j J=>?_)))))
  exact ah (cQ (ah (bz (bD (H2 X I u O j (((t.go b).go c).go d) J hp) λa ks Q=>aA Q λl w=>ah (qO (aD (.next ((((D.trans b).trans c).trans d).trans l).any w ((B.go g.inv d).go j.inv l)))))))))
theorem ba.NK{C fI:aq}{F:FM}(u:W.Ok)(q:GI W.K C=true)(o:lN W.K (.ref C) "__init__" =some (some (.ref fI)))(m:Bm W.K (.ref fI)=some (.type "function"))(a:∀f,W.kind C (mU C f))(l:ba W n fI F):ba W (n+1) C (D1 C F):=λ{A G s σ y x r} v st w fo e=>
 ob e λp g e=>og e λt e=>sj e (D4 (c:=.slots C []) u q o m v st w fo (λb h' j k G' K=>⟨mU C b,b,rfl,j,a _,rfl,⟨r0,k⟩,rfl,λi d h=>aY h⟩) l g t)
end
end
section
section
variable {W:Wd} {n:Nat} {si:SI}
theorem aQ.none{G h}{a:Array af}{xs:List D}(b:aQ W G h a.toList xs){j:Nat}(h:xs[j]?=none):a[j]?=none:=by
 exact aa (.symm (jV ..))<|List.getElem?_eq_none (by exact aa (b.length ..)<|List.getElem?_eq_none_iff.mp h)
theorem aQ.at_{G b}{vs:Array af}{xs:List D}(c:aQ W G b vs.toList xs){j:Nat}{d:D}(h:xs[j]?=some d):∃v,vs[j]?=some v/\Rep W G b v d:=
 (c.get h).imp λa=>eH λe=>by exact aa (.symm (jV ..))<|e
theorem QX{y:List ay}{kk:Nat}{tp:bc}(e it l:aq)(B:e≠it)(d:D):
 hV W (.Tuple y kk tp) (.ref e) (λG h j=>(∃k,IsEnum h e it j k)/\h.IsListIter it l j/\Rep W G h (.ref l) d) (λa=>a=e∨a=it) (uP d) where
 next:=λ{A G s σ j x} rm st f Q n=>bP Q λP Y C=>aL P λk u=>ob n λxs hx n=>by
  obtain rfl:=aM n
  have L:=C
  generalize E:eB l=v at C
  revert E
  refine fL st C hx λ{a vs} hl rs z=>λE=>?_
  obtain rfl:=jA E
  induction Z:xs[j]? with
  | none=>
   refine iT (wpAny_pyNext_enum_end rm.2.2.2 u Y hl (rs.none Z) λh' N O=>?_)
   refine aA (st.gp (s':={s with heap:=h'}) (M:=λa=>a=e∨a=it) f (λb o nm w=>N b o (λq=>nm (.inr q)) w) O rfl rfl) λm S=>?_
   exact⟨S,m,trivial⟩
  | some x=>
   refine aw (rs.at_ Z) λv E r=>?_
   refine wpAny_pyNext_enum_item u Y hl E B λh' H J ht O hk=>?_
   refine aA (st.gp (s':={s with heap:=h',toks:=s.toks+1}) (M:=λa=>a=e∨a=it) f (λb o nm w=>hk b o (λq=>nm (.inl q)) (λq=>nm (.inr q)) w) (by show _<=h'.objs.size;exact aa (O ..)<|Nat.le_succ _) rfl rfl) λm S=>?_
   have rt:Rep W G h' (.ref s.heap.objs.size) (.tup [.int j,x]):=.tup (show 2<=aP by decide) st.bq ht rfl ⟨rfl,rfl⟩ rfl (.cons (.int _ _) (.cons (r.step S f) .nil))
   refine⟨S,m,λ{A}=>wpAny_letOwnedTupleGo_enum H λF p g=>?_⟩
   refine aA (m.gp (s':={s with heap:=F,toks:=s.toks+1}) (M:=λa=>a=e∨a=it) f (λb o nm w=>g.extBut b o (λq=>nm (.inl q)) w) (bN g.1.symm) rfl rfl) λt i=>?_
   exact⟨i,t,⟨⟨_,p⟩,aw J λo I r'=>⟨o,g.extBut _ _ (Ne.symm B) I,r'⟩,(L.step S f).step i f⟩,rt.step i f⟩
 self:=λT q=>aA T λR c=>aL R λc u=>WN u q
 shift:=λX K H=>bP X λU V C=>aL U λk u=>aw V λo I r=>⟨⟨k,H _ _ (.inl rfl) u⟩,⟨o,H _ _ (.inr rfl) I,r⟩,C.keep K⟩
theorem du.enum{f:List ay}{C:Nat}{tp p k:bc}{e:ay}{m:ME}(D:W.Ok)(B:iv W si "enumerate" (.type "enumerate"))(y:Ev W n si e m)
 (o:∀c,bB [e] c= [(false,aU e c)]):du W n si (.Tuple f C tp) (.Call (.Name (au "enumerate") p) [e] [] k) (.enum m):=λ{A c M G s ρ σ r} H st F h=>
 ob h λq u h=>ob h λxs j h=>by
  obtain rfl:=aM h
  have x:dN W n si [e] [m]:=dN.cons y dN.nil (by intro c;exact aa (o ..) rfl)
  refine rU D B rfl (fF.of x) (by intro c;exact aa (o ..) rfl) (r:=([q.1],q.2)) H st F (by unfold aG;exact aa (u ..) rfl) λ{d ak O} S g J=>J.d6 λ{v _} r I=>I.iN ?_
  have E:=r
  revert E
  refine fL (motive:=λv=>Rep W d ak.heap v q.1->ar _ _ (bM _ [v] []) _ _ _) g r j λ{a N} hl L z=>λr=>?_
  refine call_enumerate_list hl λh' l w t i=>itR S g (WN l ?_)
  exact⟨λb=>b=ak.heap.objs.size+1∨b=ak.heap.objs.size,_,QX (ak.heap.objs.size+1) ak.heap.objs.size a (dc (cw _)) q.1,
   λb hb=>by
    show _/\b<h'.objs.size
    exact aa (t ..)<|hb.elim (λe=>by exact aa (e ..)<|⟨dD _,cw _⟩) λe=>by exact aa (e ..)<|⟨bb _,fG (cw _)⟩,
   i,by show _<=h'.objs.size;exact aa (t ..)<|Nat.le_add_right _ _,rfl,rfl,λK=>⟨⟨_,l⟩,w,r.keep K⟩⟩
theorem aQ.pick{G h}{c:Array af}{xs:List D}(b:aQ W G h c.toList xs):∀(is:List Nat),aQ W G h (is.filterMap (c[·]?)) (is.filterMap (xs[·]?))
 | []=>.nil
 | i::r=>by
  induction a:xs[i]? with
  | none=>exact aa (Ko (b.none a) ..)<|aa (Ko a ..)<|b.pick r
  | some x=>
   refine aw (b.at_ a) λv d e=>?_
   exact aa (Kp d ..)<|aa (Kp a ..)<| .cons e (b.pick r)
theorem Ev.nh{value lower upper k7 p pos mc ml mu mk}(P:Ev W n si value mc)(hl:nN W n si lower ml)(R:nN W n si upper mu)(Q:nN W n si k7 mk):Ev W n si (.Subscript value (.Slice lower upper k7 p) pos) (.nh mc ml mu mk):=λA st F h=>
 ob h λx L h=>ob h λl M h=>ob h λu N h=>ob h λk O h=>ob h λxs T h=>ob h λd B h=>sj h (og B λg B=>sj (motive:=λd=>ar _ _ _ (Out _ _ _ _ d) _ _) B (by
  refine Bf (bR P A st F L λy j r Y=>wpAny_Slice (sY hl A j r M λc m t V=>sY R A m t N λe o w X=>sY Q A o w O λ{b a E} f q I U=>?_))
  rename_i v _ _ G _ _ H
  have S:=((y.trans c).trans e).trans f
  have C:=J1 a.heap G H E
  have i:=q.push {cls:=.type "slice",data:=.fields #[G,H,E]}
  have J:Step W bf b a.heap b (a.heap.push {cls:=.type "slice",data:=.fields #[G,H,E]}):=.push _
  show ug _ _ _ _ _ _ _
  refine fL (v:=v) i ((((Y.go c).go e).go f).go J) T λK D z=>?_
  refine⟨"list",_,slot_list_getitem.lookup,K.typeIs,WJ K C (sy V) (sy X) (sy U) g.1 ?_ (size_le D z)⟩
  refine⟨b,(S.trans J).trans (.push (s:={a with heap:=a.heap.push _}) _),i.push _,.list (n:=0) g.2 i.bq (c5 _ rfl) rfl rfl rfl ?_⟩
  delta slicePick lZ
  exact aa (.symm (eX D ..))<|(D.pick _).go (.push (s:={a with heap:=a.heap.push _}) _)))
theorem Dw{G:Gh}{s:ai}{σ:MH}{a:aq}(b:W.Ok)(st:St W G s σ)(h:s.heap.objs.size<=a):a≠iR:=λq=>
 absurd (a9 b.g.lt (q▸aE st.inv.size h)) (by decide)
theorem bG.mM{a}(c:W.Ok):bG W n si (.Dict [] [] a) .mM:=λ{A b M G s ρ σ r} d st F h=>sj h (by
 exact aa (eval_Dict_empty ..)<|wpAny_bind (cQ (Am (dy.push (tk:=s.toks) st rfl λG' K e=>vO G' _ _ (Dw c st (bb _)) e))))
end
end
section
section
variable {W:Wd} {n:Nat} {si:SI}
theorem bG.mN{ek ev pos mk mv}(ok:W.Ok)(hk:Ev W n si ek mk)(hv:Ev W n si ev mv)(U:∀f,(evalEachOpt [some ek] f).zip ((evalEach [ev] f).map λv=>do let x ← v;ip pos;pure x)= [(some (aU ek f),do let x ← aU ev f;ip pos;pure x)]):
 bG W n si (.Dict [some ek] [ev] pos) (.mN mk mv):=λ{A f M G s ρ σ r} rm st F h=>
 ob h λp e1 h=>ob h λk T h=>ob h λq e2 h=>sj h (by
  refine wpAny_Dict_pairs (knd:=strKind W.prog W.w) (pairs:=[(aU ek f,do let x ← aU ev f;ip pos;pure x)]) (by exact aa (U ..) rfl) (by simp) (by show 1<=15;decide) ?_
  let a:aq:=s.heap.objs.size
  have V:(s.heap.push lV).objs.size=s.heap.objs.size+1:=c9 ..
  have X:∀b ob,s.heap.get? b=some ob->(s.heap.push lV).get? b=some ob:=λb ob e=>bH _ e
  refine aA (jE (b3:={s with heap:=s.heap.push lV}) (M:=λb=>b=a) st (λb e=>⟨bN e.symm,by exact aa (e ..)<|Nat.lt_of_lt_of_eq (cw _) V.symm⟩) X (aE (dD _) (bN V.symm)) rfl rfl) λN K=>?_
  have nf:¬G.fr a:=λx=>fV _ (st.inv.b0 a x).2.1
  have F':aT W A {G with fr:=λb=>G.fr b∨b=a} (s.heap.push lV) si f M ρ:=F.to K (λd x=>x) (λb x=>.inl (F.dg b x)) (λd x y=>⟨.inl x,y⟩) X (λc hc y=>y.elim id λy=>absurd hc (by exact aa (y ..)<|Nat.lt_irrefl _)) st.inv.dJ
  have R:cg W {G with fr:=λb=>G.fr b∨b=a} (s.heap.push lV) a none (.dict []):=vO _ _ _ (Dw ok st (bb _)) (c5 _ rfl)
  unfold evalPairs
  refine ah (bR hk rm N F' e1 λ{lx u Br} H B D J=>ah (bz (ah (bR hv rm B D e2 λ{i g O} I C Z L=>ah (cQ (aD ?_))))))
  unfold evalPairs
  refine ah (bz (aD (aD ?_)))
  have S:=H.trans I
  have j:({G with fr:=λb=>G.fr b∨b=a}:Gh).fr a:=.inr rfl
  have l:i.fr a:=by exact aa (S.fr ..)<|j
  refine bP (R.go S (λd y=>y.elim) (N.inv.dJ _ j) (λy=>y) λy=>nf (st.inv.b8 a y)) λz ns Y=>?_;refine aw Y λP hD rv=>?_
  obtain rfl:P= []:=rv.inv
  refine J.c8 T λt k1 k2=>⟨[(k,O)],⟨jI k t,rfl,trivial⟩,hD,λh' Q hs=>?_⟩
  refine aA (kZ (tk:=g.toks+1) C l hs) λm o=>?_
  have E:=o.ea (λb e=>e▸l)
  exact⟨i,a,rfl,bb _,S.fr,(ve (ak:=s) (b3:={s with heap:=s.heap.push lV}) (eZ:={g with heap:=h',toks:=g.toks+1}) (jx:=bf) (M:=λb=>b=a) st.inv.b8 (λb e=>bN e.symm) X (aE (dD _) (bN V.symm)) (((S.weaken (M':=λb=>b=a) λd y=>y.elim).trans o).weaken λb y=>.inr y) m).1,
   m,⟨(show 1<=aP by decide),ns,_,Q,.cons k1 k2 (L.keep E) .nil⟩,nf,λb y=>st.inv.b8 b (by exact aa (.symm (show i.ou=G.ou from S.ou))<|y)⟩)
end
end
theorem tm:iz "function" "__getattribute__" "object.__getattribute__" :=
 .of (owner:="object") (n:="__getattribute__") (by refine aa (e_ ..)<|aa (eS ..) ?_;kernel_rfl) (by decide+kernel) (by decide+kernel) (by decide+kernel)
  (by first| exact .inl (by decide+kernel)| exact .inr (by decide+kernel)) (by refine aa (eE ..) ?_;kernel_rfl)
theorem wq:iz "function" "__setattr__" "object.__setattr__" :=
 .of (owner:="object") (n:="__setattr__") (by refine aa (e_ ..)<|aa (eS ..) ?_;kernel_rfl) (by decide+kernel) (by decide+kernel) (by decide+kernel)
  (by first| exact .inl (by decide+kernel)| exact .inr (by decide+kernel)) (by refine aa (eE ..) ?_;kernel_rfl)
theorem O8{prog:eA}{w:eC}{A:aO}{E:af->ai->Prop}{s:ai}{a e:aq}{o:bu}{m:aj->Option af}{name:aj}{v:af}{x:de}{q:gc}{Q:Fin->ai->Prop}(t:s.heap.get? a=some o)(f:o.cls=.type "function")(i:o.dict=some e)
 (j:o.data=.func q) (r:s.heap.Ns e m) (u:m name=some v) (b:gr (.type "function") name=pure none) (h:Q (.done (.ret v)) s):
 ar (bX prog w) A (bE.«object.__getattribute__» ⟨[.ref a,.str name x],[]⟩) Q E s:=by
 obtain⟨c,l,k,D⟩:=o
 simp only at f i j
 subst f i j
 have z:s.TypeIs (.ref a) "function" :=⟨_,t,rfl⟩
 obtain⟨B,g,d,y,os⟩:=s
 delta bE.«object.__getattribute__»
 repeat (any_goals (first| assumption| wp_step))
 refine aw (vv r) λC n p=>?_
 refine Bw n ?_
 refine aa (nsLook_of (p name) ..)<|aa (u ..) ?_
 refine aD ?_
 repeat (any_goals (first| assumption| wp_step))
theorem E7{prog:eA}{w:eC}{A:aO}{E:af->ai->Prop}{s:ai}{a i:aq}{o:bu}{m:aj->Option af}{name:aj}{v:af}{fd:gc}{expr:Bool}{Q:af->ai->Prop}(p:s.heap.get? a=some o)(k:o.cls=.type "function")(l:o.dict=some i)
 (n:o.data=.func fd) (x:s.heap.Ns i m) (z:m name=some v) (e:gr (.type "function") name=pure none) (u:handedIn v=true) (h:Q v {s with toks:=s.toks+1}):
 ar (bX prog w) A (kS (.ref a) name expr) Q E s:=by
 obtain⟨c,r,q,G⟩:=o
 simp only at k l n
 subst k l n
 obtain⟨y,g,d,H,os⟩:=s
 have j:∀f,(⟨y,g,d,f,os⟩:ai).TypeIs (.ref a) "function" :=λb=>⟨_,p,rfl⟩
 have B:=tm.lookup
 have C:=tm.bind (.ref a)
 have D:=handedOut_of u
 have t:(expr && Hc (rO "object.__getattribute__"))=false:=tR _
 delta kS E6
 repeat (any_goals (first| assumption| exact j _| ((with_reducible show ar _ _ (rV _ _ _ _) _ _ _);delta rV;refine aa (t ..)<|aa (if_neg (by decide)) ?_;delta DF)|
  ((with_reducible show ar _ _ (bM (rO "object.__getattribute__") _ _) _ _ _);refine jT (mK tm.plain Lz (tm.check _ _ _ _ _ _ _ _ (j _) (Lw _ _) (O8 p rfl rfl rfl x z e ?_))))| wp_step))
theorem OT{prog:eA}{w:eC}{A:aO}{E:af->ai->Prop}{s:ai}{a b:aq}{f:Array (Option af)}{c:gc}{Q:Option aq->ai->Prop}(e:s.heap.get? a=some {cls:=.type "function",dict:=some b,data:=.func c,slots:=f})
 (h:Q (some b) s):ar (bX prog w) A (u5 a true) Q E s:=by
 obtain⟨j,g,d,i,os⟩:=s
 delta u5
 exact ah (Bw e (aD h))
theorem OU{prog:eA}{w:eC}{A:aO}{E:af->ai->Prop}{s:ai}{a:aq}{f:Array (Option af)}{c:gc}{Q:Option aq->ai->Prop}(e:s.heap.get? a=some {cls:=.type "function",dict:=none,data:=.func c,slots:=f})
 (h:Q (some s.heap.objs.size) {s with heap:=(s.heap.push {cls:=.type "dict",data:=.dict #[]}).update a λo=>{cls:=o.cls,dict:=some s.heap.objs.size,data:=o.data,slots:=o.slots}}):ar (bX prog w) A (u5 a true) Q E s:=by
 have i:typeHasDict (.type "function")=true:=by decide+kernel
 have j:finalisedInACycleAlone "function" =false:=by decide+kernel
 obtain⟨k,g,d,l,os⟩:=s
 delta u5
 refine ah (Bw e ?_)
 dsimp only
 refine aa (i ..)<|aa (if_neg (by decide)) ?_
 have b:(k.push {cls:=.type "dict",data:=.dict #[]}).get? a=some {cls:=.type "function",dict:=none,data:=.func c,slots:=f}:=bH _ e
 refine ah (wpAny_alloc' ?_)
 refine ah (wpAny_update' b ?_)
 delta dictMade
 dsimp only
 exact aa (j ..)<|aa (if_neg (by decide))<|wpAny_pure h
theorem Ic{prog:eA}{w:eC}{A:aO}{E:af->ai->Prop}{s:ai}{i:aq}{m:aj->Option af}{b:Nat}{name:aj}{v:af}{k:de}{Q:Fin->ai->Prop}(p:ix s.heap i m b)(l:b<=1000)
 (o:∀h' k,ix h' i (λy=>if y=name then some v else m y) (if (m name).isSome then b else b+1)->hO i s.heap h'->Q (.done (.ret .none)) {s with heap:=h',toks:=k}):
 ar (bX prog w) A (w0 i (.str name k) name v) Q E s:=by
 delta w0 Xl
 refine ah (aD (ah (G4 p λh' h q=>?_)))
 have e:=h
 refine jU e λn c j f d a a g=>?_
 have r:c.size<=gF+1:=by
  refine aa (HV ..) ?_
  split at g<;>lia
 exact ah (WL f (by exact aa (d ..)<|pastItsLine_dict r) (aD (o h' _ h q)))
set_option maxHeartbeats 1000000 in
theorem HN{prog:eA}{w:eC}{A:aO}{E:af->ai->Prop}{s:ai}{a:aq}{o:bu}{name:aj}{v:af}{f:de}{Q:Fin->ai->Prop}(k:s.heap.get? a=some o)(e:o.cls=.type "function")
 (b:gr (.type "function") name=pure none)
 (h:ar (bX prog w) A (w7 (.ref a) (.type "function") (.str name f) name v false) Q E s):
 ar (bX prog w) A (bE.«object.__setattr__» ⟨[.ref a,.str name f,v],[]⟩) Q E s:=by
 obtain⟨c,j,i,p⟩:=o
 simp only at e
 subst e
 have m:s.TypeIs (.ref a) "function" :=⟨_,k,rfl⟩
 obtain⟨n,g,d,l,os⟩:=s
 delta bE.«object.__setattr__»
 repeat (any_goals (first| ((with_reducible show ar _ _ (w7 _ _ _ _ _ _) _ _ _);exact h)| wp_step))
theorem H8{prog:eA}{w:eC}{A:aO}{E:af->ai->Prop}{s:ai}{a:aq}{name:aj}{v:af}{g:de}{Q:Fin->ai->Prop}
 (h:ar (bX prog w) A (u5 a true) (λr f=>∃d,r=some d/\ar (bX prog w) A (w0 d (.str name g) name v) Q E f) E s):
 ar (bX prog w) A (w7 (.ref a) (.type "function") (.str name g) name v false) Q E s:=by
 delta w7 ownStreamTells
 dsimp only
 refine aa (if_neg (by decide+kernel))<|aa (if_neg (by decide+kernel)) ?_
 refine ah (aD ?_)
 refine aa (if_neg (by decide+kernel)) ?_
 refine ah (gW h (λr f c=>aw c λd e i=>?_) λb b x=>x)
 subst e
 exact i
theorem UU{prog:eA}{w:eC}{A:aO}{E:af->ai->Prop}{s:ai}{a f:aq}{o:bu}{m:aj->Option af}{b:Nat}{name:aj}{v:af}{tk:de}{n:gc}{Q:Fin->ai->Prop}(j:s.heap.get? a=some o)(g:o.cls=.type "function")(h:o.dict=some f)
 (i:o.data=.func n) (q:ix s.heap f m b) (e:b<=1000) (d:gr (.type "function") name=pure none)
 (p:∀h' tk,ix h' f (λy=>if y=name then some v else m y) (if (m name).isSome then b else b+1)->hO f s.heap h'->Q (.done (.ret .none)) {s with heap:=h',toks:=tk}):
 ar (bX prog w) A (bE.«object.__setattr__» ⟨[.ref a,.str name tk,v],[]⟩) Q E s:=by
 obtain⟨c,l,k,r⟩:=o
 simp only at g h i
 subst g h i
 exact HN j rfl d (H8 (OT j ⟨_,rfl,Ic q e p⟩))
theorem UW{prog:eA}{w:eC}{A:aO}{E:af->ai->Prop}{s:ai}{a:aq}{o:bu}{name:aj}{v:af}{tk:de}{q:gc}{Q:Fin->ai->Prop}(i:s.heap.get? a=some o)(r:o.cls=.type "function")(t:o.dict=none)
 (u:o.data=.func q) (f:gr (.type "function") name=pure none)
 (B:∀h' tk,ix h' s.heap.objs.size (λy=>if y=name then some v else none) 1->(∀b o,b≠a->s.heap.get? b=some o->h'.get? b=some o)->h'.get? a=some {o with dict:=some s.heap.objs.size}->h'.objs.size=s.heap.objs.size+1->Q (.done (.ret .none)) {s with heap:=h',toks:=tk}):
 ar (bX prog w) A (bE.«object.__setattr__» ⟨[.ref a,.str name tk,v],[]⟩) Q E s:=by
 obtain⟨c,z,x,D⟩:=o
 simp only at r t u
 subst r t u
 have F:s.TypeIs (.ref a) "function" :=⟨_,i,rfl⟩
 have g:(s.heap.push {cls:=.type "dict",data:=.dict #[]}).get? a=some {cls:=.type "function",dict:=none,data:=.func q,slots:=D}:=bH _ i
 have j:a≠s.heap.objs.size:=bj (b9 i)
 have l:((s.heap.push {cls:=.type "dict",data:=.dict #[]}).update a λo=>{cls:=o.cls,dict:=some s.heap.objs.size,data:=o.data,slots:=o.slots}).get? s.heap.objs.size
  =some {cls:=.type "dict",data:=.dict #[]}:=(J2 _ _ _ _ j.symm).trans (nT rfl rfl)
 have n:ix ((s.heap.push {cls:=.type "dict",data:=.dict #[]}).update a λo=>{cls:=o.cls,dict:=some s.heap.objs.size,data:=o.data,slots:=o.slots}) s.heap.objs.size (λd=>none) 0:=
  ⟨_,#[],_,l,rfl,λe C=>absurd C (by simp),λd=>rfl,bb _⟩
 have k:ar (bX prog w) A (w0 s.heap.objs.size (.str name tk) name v) Q E {s with heap:=(s.heap.push {cls:=.type "dict",data:=.dict #[]}).update a λo=>{cls:=o.cls,dict:=some s.heap.objs.size,data:=o.data,slots:=o.slots}}:=by
  refine Ic (s:={s with heap:=_}) n (by decide) λh' tk m p=>B h' tk m (λb ob hb h=>?_) ?_ ?_
  .exact(p.2 b (bj (b9 h))).trans ((J2 _ _ _ _ hb).trans (bH _ h))
  .exact(p.2 a j).trans (eI _ g rfl)
  .refine p.1.trans ?_;show((s.heap.push _).update a _).objs.size=_;exact aa (jt ..)<|aa (c9 ..) rfl
 exact HN i rfl f (H8 (OU i ⟨_,rfl,k⟩))
section
structure Wd.nQ(W:Wd)(k:Nat):Prop where
 cls:∀o,W.kind k o->o.cls=.type "function"
 fn:∀o,W.kind k o->∃fd,o.data=.func fd
 dict:∀o d,W.kind k o->W.kind k {o with dict:=d}
noncomputable def lO (name:aj):Bool:=match fastLookup "function" name with| some none=>true| _=>false
theorem sb{name:aj}(h:lO name=true):gr (.type "function") name=pure none:=Me h
theorem Cell.OS{c x}(h:Cell.zk c=some x):c=.ia x:=by induction c<;>first| exact aY h| exact congrArg _ (aM h)
section
variable {W:Wd} {n:Nat} {si:SI}
theorem Pa{A G s σ v d r}{k:Nat}{name:aj}{expr:Bool}(I:W.nQ k)(p:lO name=true)(st:St W G s σ)(t:Rep W G s.heap v d)(h:rR k name d σ=some r):
 ar W.M A (kS v name expr) (Out W G s σ r) aF s:=
 ob h λx m h=>og h λn hl=>by
  subst n
  refine u4 st t m λ{a o w f} g c i j l=>?_
  refine aw (l.lookup hl) λu q e=>?_
  refine aL (I.fn o c) λy b=>?_
  exact E7 g (I.cls o c) i b j q (sb p) (uX e) (.tok st e)
theorem Ev.attrL{a name pos m k}(I:W.nQ k)(o:lO name=true)(q:Ev W n si a m)(c:∀b,iE a name b (aU a b)=aU a b):Ev W n si (.Attribute a name pos) (.ax (aV k name) m):=λ{A b M G s ρ σ r} t st F h=>
 ob h λp j h=>ob h λd l h=>sj h (by
  exact aa (uk ..)<|aa (c ..)<|wpAny_bind (bR q t st F j λ{f ak v} S e u r=>ah (cQ (ah (bz (bD (Pa I o e r l) λi g x=>ah (tG (aD (x.trans S)))))))))
theorem HQ{A:aO}{E:af->ai->Prop}{s:ai}{a:aq}{o:bu}{name:aj}{v:af}{Q:Unit->ai->Prop}(g:s.heap.get? a=some o)(f:o.cls=.type "function")
 (h:ar W.M A.in1 (bE.«object.__setattr__» ⟨[.ref a,.str name s.toks,v],[]⟩) (λr i=>r=.done (.ret .none)/\Q () i) (λb b=>False) {s with toks:=s.toks+1}):
 ar W.M A (wm (.ref a) name v) Q E s:=by
 have j:Looks W.M s.heap (tD (.ref a)) (.type "function"):=f▸(CA g).andThen .now
 have c:(⟨s.heap,s.gens,s.drawn,s.toks+1,s.os⟩:ai).TypeIs (.ref a) "function" :=⟨o,g,f⟩
 refine ah (wpAny_mkText (ah (ah (ah (j _ _ _ _ (λb b e=>e) ?_)))))
 refine aa (wq.lookup ..) ?_
 refine aD (bz ?_)
 refine aa (wq.bind ..) ?_
 refine ah (aD (ah (jT (mK wq.plain PySem.F.entry_object_setattr (wq.check _ _ _ _ _ _ _ _ c (PySem.F.args_object_setattr_3 _ _ _) (gW h (λr i d=>aA d λe q=>?_) λb b x=>x.elim))))))
 subst e
 exact aD (aD q)
theorem St.Uk{G:Gh}{s:ai}{σ:MH}{i:Nat}{a:aq}{k:Nat}{C:Cell}{h':aN}{tk:Nat}(st:St W G s σ)(N:σ.cell i=some (.ia k))(B:G.g i=some a)(u:∀b o,b≠a->s.heap.get? b=some o->h'.get? b=some o)(L:h'.objs.size=s.heap.objs.size+1)
 (R:∀G',cH W G s.heap G' h'->cg W G' h' a (some s.heap.objs.size) C):∃G',St W G' {s with heap:=h',toks:=tk} (σ.put i C)/\Step W bf G s.heap G' h':=by
 obtain⟨v,J,E,r,-⟩:=st.cells.at_ i _ N
 have v:=v rfl
 have D:¬G.own s.heap.objs.size:=λx=>absurd (st.inv.cn _ x).2.1 (fV _)
 have p:s.heap.objs.size<=h'.objs.size:=by exact aa (L ..)<|Nat.le_succ _
 have A:G.own a:=⟨i,v,.inl B⟩
 have F:=st.inv.cn a A
 have r:G.d i=none:=r
 have own:∀b,Gh.own {G with d:=upd G.d i (some s.heap.objs.size)} b->G.own b∨b=s.heap.objs.size:=λb H=>aw H λj l x=>
  x.elim (λx=>.inl ⟨j,l,.inl x⟩) λx=>ec x (λc e=>.inr (aM e).symm) λc e=>.inl ⟨j,l,.inr e⟩
 have S:Step W bf G s.heap {G with d:=upd G.d i (some s.heap.objs.size)} h':=
  ⟨λc c e=>e,λj b e=>(k_ λq=>aY (r.symm.trans (q▸e))).trans e,rfl,λc x=>x,λb x=>(own b x).imp id λy=>bN y.symm,λb o e Q c c c=>u b o (λq=>Q (q▸A)) e,p,rfl,
    λb o e P c c=>⟨o.slots,u b o (λq=>F.2.2.1 (q▸P)) e⟩⟩
 have K:=S.ea λc x=>x.elim
 refine⟨{G with d:=upd G.d i (some s.heap.objs.size)},⟨⟨λx o e=>u x o (λq=>absurd (b9 e) (Nat.not_lt.mpr (q▸F.1))) (st.inv.keep x o e),aE st.inv.size p,st.inv.gens,st.inv.os,λx y=>?_,λx y=>(st.inv.b0 x y).imp id (eH λh=>a9 h p),st.inv.gR,λj l b n hl e m=>?_,λj l b n hl e m=>?_,
  st.inv.tab.keep K.bq λc e=>u _ _ (λq=>F.2.2.2 q.symm) e,st.inv.eO,st.inv.hJ,st.inv.b8⟩,⟨λj w e=>?_,λj n=>?_⟩⟩,S⟩
 .exact(own x y).elim (λy=>(st.inv.cn x y).imp id (eH λh=>a9 h p)) λq=>by
   exact aa (q ..)<|⟨st.inv.size,by exact aa (L ..)<|Nat.lt_succ_self _,λz=>absurd (st.inv.b0 _ z).2.1 (fV _),λq=>absurd (a9 st.inv.eO st.inv.size) (by exact aa (.symm (q ..))<|Nat.lt_irrefl _)⟩
 .exact ec e (λq e=>ec m (λT c=>q.trans T.symm) λc m=>absurd ⟨l,hl,.inr (m.trans e.symm)⟩ D) λc e=>ec m (λc m=>absurd ⟨j,n,.inr (e.trans m.symm)⟩ D) λc m=>st.inv.g7 j l b n hl e m
 .exact ec m (λc m=>D ⟨j,n,.inl (e.trans m.symm)⟩) λc m=>st.inv.gd j l b n hl e m
 .refine ec e (λq M=>?_) λn e=>?_
  .subst q
   obtain rfl:=aM M
   exact⟨λc=>v,a,B,by show cg W _ h' a (upd G.d j (some s.heap.objs.size) j) C;exact aa (qK ..)<|R _ K⟩
  .have x:=st.cells.at_ j w e
   refine⟨x.1,x.2.imp λI y=>⟨y.1,?_⟩⟩
   show cg W _ h' I (upd G.d i (some s.heap.objs.size) j) w
   exact aa (k_ n ..)<|y.2.oZ K (λt o e=>u _ o (λq=>n (st.inv.gR j i I (x.1 t) v y.1 (q▸B))) e) (λt d o O e=>u _ o (λq=>st.inv.gd i j a v (x.1 t) B (q▸O)) e)
 .have f:=st.cells.free j n
  exact⟨f.1,(k_ λq=>aY (f.1.symm.trans (q▸B))).trans f.2.1,f.2.2⟩
theorem U7{A:aO}{G:Gh}{s:ai}{σ ab:MH}{k:Nat}{name:String}{v u:af}{o d:D}(I:W.nQ k)(V:lO (au name)=true)(w:name.length<=100)(st:St W G s σ)(Y:Rep W G s.heap u o)(r:Rep W G s.heap v d)
 (h:Hs k (au name) o d σ=some ab):ar W.M A (wm u (au name) v) (λb Z=>∃G',St W G' Z ab/\Step W bf G s.heap G' Z.heap) aF s:=by
 have hl:(au name).length<=aP:=by exact aa (zU ..)<|Nat.le_trans w (by decide)
 refine ob h λi L h=>ob h λc f h=>?_
 induction j:c.zk with
 | some k'=>
  rw [j] at h
  obtain rfl:=Cell.OS j
  refine og h λN h=>?_
  subst N
  obtain rfl:=aM h
  refine kO st Y L f λ{a} C R=>aA R λb T=>bI T λob t g B=>?_
  refine aL (I.fn ob g) λfd n=>?_
  exact HQ t (I.cls ob g) (UW (s:={s with toks:=s.toks+1}) t (I.cls ob g) B n (sb V) λh' z p e J Q=>⟨rfl,st.Uk (tk:=z) f C e Q λG' K=>
   ⟨_,_,[(au name,v)],rfl,J,I.dict _ _ g,rfl,by
     refine Eq.mp (congrArg (λm=>ix h' _ m 1) (funext λy=>?_)) p
     refine aa (dI ..) ?_
     by_cases E:y=au name
     .exact aa (if_pos E ..)<|aa (E ..)<|aa (beq_self_eq_true ..) rfl
     .exact aa (if_neg E ..)<|aa (beq_eq_false_iff_ne.mpr E ..) rfl,.cons (qA _) hl (r.keep K) .nil⟩⟩)
 | none=>
  rw [j] at h
  refine ob h λc f h=>og h λP h=>ob f λi L f=>ob f λcc l f=>ob f λx hx f=>?_
  obtain rfl:=aM f
  obtain rfl:=aM h
  obtain rfl:=Cell.zJ hx
  refine aA P λN O=>?_
  subst N
  refine kO st Y L l λ{a} C S=>tL S λob da F H t g B e5 U=>?_
  refine aL (I.fn ob g) λfd n=>?_
  have X:=(st.cells.at_ i _ l).1 rfl
  exact HQ t (I.cls ob g) (UU (s:={s with toks:=s.toks+1}) t (I.cls ob g) B n e5 (by exact aa (U.length ..)<|O) (sb V) λh' z p e=>⟨rfl,G,st.m_ (tk:=z) (c':=.inst x.1 (eF x.2 (au name) d)) l rfl C (.inr H) e.extBut (bN e.1.symm) λK=>
   ⟨ob,da,qz F (au name) v,H,e.extBut _ _ (λq=>st.inv.gd i i a X X C (q▸H)) t,g,B,by exact aa (Ig ..)<|aa (Ie ..)<|p,(U.keep K).put (qA _) hl (r.keep K)⟩⟩)
theorem Et.attrL{o name pos t k}(I:W.nQ k)(z:lO (au name)=true)(j:name.length<=100)(B:Ev W n si o t):Et W n si (.Attribute o (au name) pos) (.attrL k (au name) t):=λ{A y M G s ρ σ v d E} D st F r h=>
 ob h λp x h=>ob h λab C h=>sj h (by
  exact aa (Dp ..)<|wpAny_bind (bz (bR B D st F x λ{q ak w} c b g l=>ah (cQ (ah (bz (bD (U7 I z j b l (r.go c) C) λa u m=>aw m λi f e=>qO ⟨i,(c.trans e).any,f,g.go b.inv e⟩)))))))
end
end
section
theorem NW{e q:bc}{a b:Int}{c f:af}(l:List af)(h:CW l)(d:rY e (l++ [gE a,gE b,c])=some f):rY e l=some f∨f=c:=by
 fun_induction CW l with
 | case1=>
  simp only [xD,rY,gE] at d
  split at d
  .cases d;exact .inr rfl
  .cases d
 | case2 j t k u x rest i=>
  simp only [rA,rY] at d ⊢
  split at d
  .rename_i g;exact aa (if_pos g ..)<| .inl d
  .rename_i g;exact aa (if_neg g ..)<|i h d
 | case3 l m n=>exact h.elim
section
variable {W:Wd} {n:Nat} {si:SI}
theorem St.code{G:Gh}{s s':ai}{σ}(st:St W G s σ)(k:∀b o,b≠W.tab->s.heap.get? b=some o->s'.heap.get? b=some o)(f:s.heap.objs.size<=s'.heap.objs.size)
 (h:s'.gens=s.gens) (j:s'.os=s.os) (l:cH W G s.heap G s'.heap->TabAt W G s'.heap):St W G s' σ/\Step W bf G s.heap G s'.heap:=
 have S:Step W bf G s.heap G s'.heap:=⟨λd d e=>e,λd d e=>e,rfl,λd x=>x,λd x=>.inl x,λa o e d d t d=>k a o t e,f,rfl,λa o e x d d=>⟨o.slots,k a o (st.inv.b0 a x).2.2 e⟩⟩
 have K:=S.ea λd x=>x.elim
 ⟨⟨⟨λb o e=>k b o (λq=>aY (st.inv.hJ.symm.trans (q▸e))) (st.inv.keep b o e),aE st.inv.size f,h.trans st.inv.gens,j.trans st.inv.os,λa x=>(st.inv.cn a x).imp id (eH λy=>a9 y f),λa x=>(st.inv.b0 a x).imp id (eH λy=>a9 y f),st.inv.gR,st.inv.g7,st.inv.gd,l K,st.inv.eO,st.inv.hJ,st.inv.b8⟩,
   ⟨λi c e=>have x:=st.cells.at_ i c e;⟨x.1,x.2.imp λa y=>⟨y.1,y.2.oZ K (λg o e=>k _ o (st.inv.cn a ⟨i,x.1 g,.inl y.1⟩).2.2.2 e) (λg b o hb e=>k _ o (st.inv.cn b ⟨i,x.1 g,.inr hb⟩).2.2.2 e)⟩⟩,st.cells.free⟩⟩,S⟩
structure Wd.t6(W:Wd)(si:SI):Prop where
 here:∃c q,si.here=some (.ref c,q)/\codeHdIn W.K c W.tab=true/\q++ "<lambda>" =W.jK
 bi:W.base.BuiltinsAt W.mg W.tab
 glob:kW≠W.tab
theorem F0{A f M G s ρ σ}{args:BJ}{k:ay}{d:cR}{n:bc}{r:List (aj×aq)}(ok:W.Ok)(L:W.t6 si)(st:St W G s σ)(F:aT W A G s.heap si f M ρ)(E:yV d f=pure r)(Y:args.defaults= [])(H:args.kw_defaults= []):
 ar W.M A (aU (.Lambda args k d n) f) (λv U=>∃ak B l,Step W bf G s.heap G ak.heap/\St W G ak σ/\v=.ref ak.heap.objs.size/\
  (∃c,B=.ref c/\bJ W G c)/\ak.heap.CodeRec B W.jK/\U= {ak with heap:=ak.heap.push {cls:=.type "function",data:=.func (vc "<lambda>" W.jK args k d r ((W.mg "__name__").getD .none) B l)}}) aF s:=by
 refine eQ L.here λc q hh O hq=>?_
 refine bP (F.here _ hh) λm z a=>?_
 refine aw st.inv.tab λps X D=>?_
 have C:=codeHd_of_K (ok.gn.keeps st.inv.keep) O
 have u:f.globals=kW:=F.gl
 have Z:=ok.g.keeps st.inv.keep
 have hb:=L.bi.keeps st.inv.keep
 obtain⟨a1,a2,a3,a4,a5,a6,a7⟩:=args
 dsimp only at Y H
 subst Y H
 refine aa (arm_eval_Lambda ..) ?_
 show ar W.M A (do
  let V ← evalAll (evalEach [] f)
  let R ← kf V (evalAllOpt (evalEachOpt [] f))
  R_ "<lambda>" (f.qual++ "<lambda>") _ (.expr k) d f V R [] n n.line) _ _ _
 refine ah (aD (ah (bz (aD ?_))))
 refine aa (z ..) ?_
 show ar W.M A (R_ "<lambda>" (q++ "<lambda>") _ _ _ _ _ _ _ _ _) _ _ _
 refine aa (hq ..) ?_
 induction y:rY n ps.toList with
 | none=>
  refine kla_makeFunction E u Z m C X D.triples y L.glob hb λw l h' J I j P i Q=>?_
  have N:bJ W G w:=⟨λx=>absurd (st.inv.cn _ x).2.1 (Nat.not_lt.mpr j),λx=>absurd (st.inv.b0 _ x).2.1 (Nat.not_lt.mpr j),λq=>absurd (a9 st.inv.eO st.inv.size) (by exact aa (.symm (q ..))<|Nat.not_lt.mpr j)⟩
  obtain⟨h,S⟩:=st.code (s':={s with heap:=h',toks:=J}) (λb o t e=>I b o t e) (jy (ee j P)) rfl rfl λK=>⟨_,Q,by
   exact aa (wV ..)<|TriplesOk_snoc _ _ _ _ D.triples,λp B e=>by
    rw [wV] at e
    rcases NW (q:=n) _ D.triples e with e| rfl
    .exact(D.keep K.bq).code p B e
    .exact⟨w,rfl,N,i⟩⟩
  exact⟨{s with heap:=h',toks:=J},.ref w,l,S,h,rfl,⟨w,rfl,N⟩,i,rfl⟩
 | some B=>
  refine bI (D.code _ _ y) λw T N i=>?_;obtain rfl:=T
  refine kla_makeFunctionHit E u Z m C X D.triples y hb λl h' J I j=>?_
  refine aA (st.code (s':={s with heap:=h',toks:=J}) (λb o a e=>I b o e) j rfl rfl λK=>st.inv.tab.keep K.bq λa e=>I _ _ e) λh S=>?_
  exact⟨{s with heap:=h',toks:=J},.ref w,l,S,h,rfl,⟨w,rfl,N⟩,i.keeps I,rfl⟩
theorem bG.ia{args body scope pos k}(t:W.Ok)(L:W.t6 si)(m:args.defaults= [])(d:args.kw_defaults= [])(o:scope.names.all (·.2 !=.free)=true)(p:∀l,W.kind k {cls:=.type "function",data:=.func l}):bG W n si (.Lambda args body scope pos) (.ia k):=λ{A b M G s ρ σ r} z st F h=>sj h (by
 have c:yV scope b=pure (gk b scope.names []):=yW λx q=>absurd (List.all_eq_true.mp o _ q) tT
 refine bD (F0 t L st F c m d) λv B f=>tL f λak u g S a i w y j=>?_
 subst i j
 exact dy.trans S (dy.push (tk:=ak.toks) a rfl λG' K e=>⟨rfl,_,e,p _,rfl⟩))
theorem fu.of{A:aO}{G h b M ρ}(F:aT W A G h si b M ρ):∀{xs:List String} {i},yD ρ xs=some i->(∀x∈xs,si.kind x=some .cell/\au x∈si.fz)->fu W G h (xs.map λx=>(au x,(b.cells.lookup (au x)).getD 0)) i
 | [],_,e,_=>sj e .nil
 | x::xs,_,e,j=>ob e λd p e=>ob e λr q e=>sj e (by
  refine aA (j x a0) λt u=>?_
  refine eQ (F.cell x d p (.inl t)) λc v f g w=>?_;refine aw g λo m n=>?_
  refine bP (F.cells _ _ f) λk l a=>?_
  refine .cons ?_ ?_ n w (fu.of F q λy s=>j y (bT _ s))
  .exact aa (f ..)<|⟨k,F.fz _ u _ f,l⟩
  .exact aa (f ..)<|m)
def qX(xs:List String)(b:List (aj×aq)):Prop:=∃a:List (aj×aq),a.Pairwise (λx y=>x.2≠y.2)/\(∀x∈xs,∃c,a.lookup (au x)=some c)/\b=xs.map λx=>(au x,(a.lookup (au x)).getD 0)
theorem Ev.lam{args body scope pos k}{xs:List String}(J:W.Ok)(L:W.t6 si)(I:args.defaults= [])(q:args.kw_defaults= [])(i:∀b:bg,gk b scope.names []=xs.map λx=>(au x,(b.cells.lookup (au x)).getD 0))
 (g:∀x,(x,iw)∈scope.names->si.sc.names.lookup x=some .cell)
 (j:∀x∈xs,si.kind x=some .cell/\au x∈si.fz) (p:∀w K z B,qX xs w->W.je k (vc "<lambda>" W.jK args body scope w K z B)):Ev W n si (.Lambda args body scope pos) (.lam k xs):=λ{A b M G s ρ σ r} P st F h=>
 ob h λN o h=>sj h (by
  refine bD (F0 J L st F (yW λx j=>F.has x (.inl (g x j))) I q) λv Q u=>tL u λak O l S d C t E H=>aw t λc D m=>?_
  subst C H D
  have y:=fu.of (F.go st.inv S) o j
  rw [← i b] at y
  exact⟨G,S.trans (.push _),d.push _,.lam (fd:=vc "<lambda>" W.jK args body scope (gk b scope.names []) ((W.mg "__name__").getD .none) (.ref c) l) d.bq (c5 _ rfl) rfl rfl rfl (p _ _ _ _ ⟨b.cells,F.apart,λx h=>F.has _ (.inl (j x h).1),i b⟩) (y.keep ⟨λa a e=>e,λa a e f=>⟨f,bH _ e⟩⟩) ⟨c,rfl,m⟩ (E.push _)⟩)
end
end
section
section
variable {W:Wd} {n:Nat} {si:SI}
theorem b6.p1{f x}(h:∀v,kM f ⟨[v],[]⟩=pure [(au x,v)]):b6 W f (bind1 x):=λ{A G s σ i c bs} b st d e=>by
 induction c with
 | nil=>exact aY e
 | cons a c=>induction c with
  | nil=>exact sj e (d.d6 λg d=>d.iN (by exact aa (h ..)<|wpAny_pure ⟨.refl,st,.cons g .nil⟩))
  | cons=>exact aY e
theorem b6.p2{g x y}(h:∀v u,kM g ⟨[v,u],[]⟩=pure [(au x,v),(au y,u)]):b6 W g (j3 x y):=λ{A G s σ k d bs} c st f e=>by
 induction d with
 | nil=>exact aY e
 | cons a d=>induction d with
  | nil=>exact aY e
  | cons b d=>induction d with
   | nil=>exact sj e (f.d6 λi f=>f.d6 λj f=>f.iN (by exact aa (h ..)<|wpAny_pure ⟨.refl,st,.cons i (.cons j .nil)⟩))
   | cons=>exact aY e
theorem b6.p3{i x y z}(h:∀v u t,kM i ⟨[v,u,t],[]⟩=pure [(au x,v),(au y,u),(au z,t)]):b6 W i (yp x y z):=λ{A G s σ m f bs} d st g e=>by
 induction f with
 | nil=>exact aY e
 | cons a f=>induction f with
  | nil=>exact aY e
  | cons b f=>induction f with
   | nil=>exact aY e
   | cons c f=>induction f with
    | nil=>exact sj e (g.d6 λj g=>g.d6 λk g=>g.d6 λl g=>g.iN (by exact aa (h ..)<|wpAny_pure ⟨.refl,st,.cons j (.cons k (.cons l .nil))⟩))
    | cons=>exact aY e
theorem b6.d1{f x y}(g:W.Ok)(h:∀v,peek W.K ⟨W.M.prog,W.M.w.params⟩ (kM f ⟨[v],[]⟩)=some [(au x,v),(au y,.none)]):b6 W f (yq x y):=λ{A G s σ j c bs} b st d e=>by
 induction c with
 | nil=>exact aY e
 | cons a c=>induction c with
  | nil=>exact sj e (d.d6 λi d=>d.iN ((Looks.of_peek (g.gn.keeps st.inv.keep) (h _)).here ⟨.refl,st,.cons i (.cons .none .nil)⟩))
  | cons=>exact aY e
theorem SR{A:aO}{E:af->ai->Prop}{G:Gh}{s:ai}{σ:MH}{c a}(st:St W G s σ)(r:aQ W G s.heap c a)(d:a.length<=aP):ar W.M A (m6 c) (λv b=>Step W bf G s.heap G b.heap/\St W G b σ/\Rep W G b.heap v (.tup a)) E s:=
 iS ⟨.push _,st.push _,.tup d st.bq (c5 _ rfl) rfl ⟨rfl,rfl⟩ rfl (by simpa using r.go (Step.push (s:=s) _))⟩ (by show c.toArray.size<=gF;exact aa (rH ..)<|aa (r.length ..)<|Nat.le_trans d f9)
theorem uw{A:aO}{g:gc}{G:Gh}{s:ai}{σ:MH}{i j:List af}{c:List D}{pre:List (aj×af)}{pr:List (String×D)}{z:String}(h:kM g ⟨j,[]⟩=(do let t ← m6 i;pure (pre++ [(au z,t)])))(st:St W G s σ)(r:aQ W G s.heap i c)(l:c.length<=3)
 (k:∀{h':aN} {G'},cH W G s.heap G' h'->∀v,Rep W G' h' v (.tup c)->gx W G' h' (pre++ [(au z,v)]) (pr++ [(z,.tup c)])):ar W.M A (kM g ⟨j,[]⟩) (λb d=>Step W bf G s.heap G d.heap/\St W G d σ/\gx W G d.heap b (pr++ [(z,.tup c)])) aF s:=by
 exact aa (h ..)<|wpAny_bind (bD (SR (E:=aF) st r (aE l (by decide))) λv d e=>bP e λS f r=>aD ⟨S,f,k (S.ea λa x=>x.elim) v r⟩)
theorem b6.v1{l x y}(o:∀v u,kM l ⟨[v,u],[]⟩=(do let t ← m6 [u];pure [(au x,v),(au y,t)]))
 (p:∀v i j k,kM l ⟨[v,i,j,k],[]⟩=(do let t ← m6 [i,j,k];pure [(au x,v),(au y,t)])):b6 W l (p4 x y):=λ{A G s σ w h bs} f st g e=>by
 induction h with
 | nil=>exact aY e
 | cons a h=>induction h with
  | nil=>exact aY e
  | cons b h=>induction h with
   | nil=>exact sj e (g.d6 λ{v _} m g=>g.d6 λn g=>g.iN (uw (pre:=[(au x,v)]) (pr:=[(x,a)]) (o _ _) st (.cons n .nil) (dO rfl) λK f r=>.cons (m.keep K) (.cons r .nil)))
   | cons c h=>induction h with
    | nil=>exact aY e
    | cons d h=>induction h with
     | nil=>exact sj e (g.d6 λ{v _} m g=>g.d6 λn g=>g.d6 λq g=>g.d6 λr4 g=>g.iN (uw (pre:=[(au x,v)]) (pr:=[(x,a)]) (p _ _ _ _) st (.cons n (.cons q (.cons r4 .nil))) (bb 3) λK f r=>.cons (m.keep K) (.cons r .nil)))
     | cons=>exact aY e
theorem b6.v2{h x y z}(k:∀v u,kM h ⟨[v,u],[]⟩=(do let t ← m6 [];pure [(au x,v),(au y,u),(au z,t)]))
 (l:∀v u w,kM h ⟨[v,u,w],[]⟩=(do let t ← m6 [w];pure [(au x,v),(au y,u),(au z,t)])):b6 W h (yr x y z):=λ{A G s σ n g bs} d st f e=>by
 induction g with
 | nil=>exact aY e
 | cons a g=>induction g with
  | nil=>exact aY e
  | cons b g=>induction g with
   | nil=>exact sj e (f.d6 λ{v _} i f=>f.d6 λ{u _} j f=>f.iN (uw (pre:=[(au x,v),(au y,u)]) (pr:=[(x,a),(y,b)]) (k _ _) st .nil (fW 3) λK d r=>.cons (i.keep K) (.cons (j.keep K) (.cons r .nil))))
   | cons c g=>induction g with
    | nil=>exact sj e (f.d6 λ{v _} i f=>f.d6 λ{u _} j f=>f.d6 λm f=>f.iN (uw (pre:=[(au x,v),(au y,u)]) (pr:=[(x,a),(y,b)]) (l _ _ _) st (.cons m .nil) (dO rfl) λK d r=>.cons (i.keep K) (.cons (j.keep K) (.cons r .nil))))
    | cons=>exact aY e
end
end
section
section
variable {W:Wd} {n:Nat} {si:SI}
def jv(W:Wd)(n k:Nat)(F:FL):Prop:=
 ∀{A G s σ a b d c r},br n A->St W G s σ->Rep W G s.heap (.ref a) (.lam k b)->aQ W G s.heap d c->Fo A G s.heap->F b c σ=some r->eU W.M A (.call (.ref a) ⟨d,[]⟩) (xR W G s r) s
structure Ca(fd:gc)(bd:ay)(sc:cR):Prop where
 body:fd.body=.expr bd
 scope:fd.scope=sc
 glob:fd.globals=kW
 bl:fd.builtins=j4
 apart:fd.closure.Pairwise λx y=>x.2≠y.2
 free:∀x,(x,iw)∈sc.names->∃c,fd.closure.lookup x=some c
 only:∀x c,fd.closure.lookup x=some c->sc.names.lookup x=some .free
theorem fu.look{G h e b}(r:fu W G h e b)(x:aj):(e.lookup x=none/\b.lookup x=none)∨∃c v d,e.lookup x=some c/\b.lookup x=some d/\bJ W G c/\h.IsCell c (some v)/\Rep W G h v d:=
 r.ind (.inl ⟨rfl,rfl⟩) λ{y c o v d k b} f g i r a j=>by
  refine aa (dI ..)<|aa (dI ..) ?_
  induction hb:x==y with
  | true=>exact .inr ⟨c,v,d,rfl,rfl,f,⟨o,g,i⟩,r⟩
  | false=>exact j
theorem DB{kindOf:aj->Option gY}{x:aj}:∀(a:List (aj×af)) (m:aj->Option af),(∀b∈a,kindOf b.1=some .local)->uv kindOf a m x=(a.reverse.lookup x).or (m x)
 | [],m,_=>rfl
 | (k,v)::r,m,h=>by
  unfold uv
  refine aa (if_pos (h _ a0) ..)<|aa (DB r _ λb hb=>h b (bT _ hb) ..)<|aa (pP ..)<|aa (Cn ..) ?_
  induction r.reverse.lookup x with
  | some u=>rfl
  | none=>
   by_cases c:x=k
   .exact aa (c ..)<|aa (if_pos rfl ..)<|aa (Cp ..) rfl
   .exact aa (if_neg c ..)<|aa (dI ..)<|aa (beq_eq_false_iff_ne.mpr c ..) rfl
noncomputable def SI.lam (scope:cR):SI:={sc:=scope,ro:=(scope.names.filter (·.2==.free)).map (·.1)}
theorem jv.intro{k:Nat}{body:ay}{scope:cR}{bind:gu}{m:ME}(ok:W.Ok)(PJ:∀w,W.je k w->Ca w body scope)(zx:scope.isCoroutine=false)(zA:scope.isGenerator=false)(hk:scope.kind=.function)
 (Fp:∀x∈scope.names,x.2≠ .cell) (zw:∀w,W.je k w->b6 W w bind) (sh:∀ds bs,bind ds=some bs->∀b∈bs,scope.names.lookup (au b.1)=some .local) (hE:Ev W n (SI.lam scope) body m):
 jv W (n+1) k (FZ bind m):=λ{A G s σ a X vs ds r} rm st rl rv fo e=>ob e λbs O e=>by
 refine W8 rl.inv λa' o w ha fz ho Yb Yd PB hl rc Yc Qb=>?_
 obtain rfl:=jA ha
 have L:=PJ w hl
 refine kla_callFunE rm.depth ho PB (by exact aa (L.scope ..)<|zx) (by exact aa (L.scope ..)<|zA) L.body Qb ?_
 refine gW (zw w hl (rm.in1.le (fW _)) st rv O) (λF ak km=>bP km λE I rb=>?_) λi i x=>x.elim
 have uZ:∀x∈F,w.scope.names.lookup x.1=some .local:=λx J=>aw (rb.names x J) λb N e'=>by exact aa (e' ..)<|aa (L.scope ..)<|sh ds bs O b N
 refine wpAny_newFunctionEnv (by exact aa (L.scope ..)<|Fp) uZ (λp P6 Fu=>?_) (by exact aa (L.scope ..)<|hk)
 let j:bg:=newEnv w.scope ak.heap.objs.size w.globals w.closure (w.qualname++ ".<locals>.") (some a) w.code none w.builtins
 have H:p.objs.size=ak.heap.objs.size+1:=by exact aa (Fu.1 ..)<|Heap.size_push ..
 have hle:ak.heap.objs.size<=p.objs.size:=by exact aa (H ..)<|Nat.le_succ _
 have t:∀b o,ak.heap.get? b=some o->p.get? b=some o:=λb o e=>(Fu.2 b (bj (b9 e))).trans (bH _ e)
 refine⟨(ok.nolimit.keeps I.inv.keep).keeps t,kla_codeExpr ?_⟩
 have R:∀{b},b=ak.heap.objs.size->b<ak.heap.objs.size->False:=λq l=>fV _ (q▸l)
 refine aA (jE (b3:={ak with heap:=p,toks:=ak.toks+F.length}) I (M:=λb=>b=j.locals) (λb e=>by exact aa (e ..)<|⟨bb _,by exact aa (H ..)<|Nat.lt_succ_self _⟩) t hle rfl rfl) λD u=>?_
 have D:=(sC (ou:=λb=>G.ou b∨b=j.locals) D (λi x=>x) λb x=>x.imp (st.inv.b8 b) id).1
 have u:cH W G ak.heap (G.lP (λb=>b=j.locals) j.locals) p:=⟨u.g,u.bq⟩
 refine aw (fo.step E λi i i x=>x) λfs zz zP=>?_
 have P:(A.deeper j).frames=some (j::fs):=I0 zz
 have C:=((rc.keep (E.ea λi x=>x.elim)).keep u)
 have Qd:=DD (kindOf:=j.kindOf) (sc:=w.scope) (λx=>rfl) (rb.keep u) (λb hb=>by unfold lI;exact aa (L.scope ..)<|aa (sh ds bs O b hb ..) rfl) (λi=>none) (λi=>none) (λi=>none) (λx d e=>aY e)
 have S:∀{x:aj},scope.names.lookup x=some .cell->False:=λh=>Fp _ (mem_of_lookup h) rfl
 have U:aT W (A.deeper j) (G.lP (λb=>b=j.locals) j.locals) p (SI.lam scope) j (λb=>b=j.locals) (td X bs):={
  sc:=L.scope
  fn:=hk
  gl:=L.glob
  bl:=L.bl
  dg:=λb N=>.inr N
  jf:=rfl
  ns:=⟨_,P6,λx d J B=>by
   have B:scope.names.lookup (au x)=some .local:=B
   rcases C.look (au x) with ⟨_,Z⟩| ⟨c,v,d',Y,_⟩
   .unfold td at J
    rw [Z] at J
    exact(Qd x d J).elim (λh=>h.2.imp λv=>eH λe=>by rw [DB _ _ (λb hb=>uZ b hb),Lf] at e;exact e) λh=>absurd (h.1.symm.trans (L.scope▸B)) (by decide)
   .rw [L.only _ _ Y] at B;exact nomatch B⟩
  cells:=λx c hc=>(C.look x).elim (λh=>aY (h.1.symm.trans hc)) λko=>jU ko λc' v d' Y i f Z i=>by
   obtain rfl:=aM (Y.symm.trans hc)
   exact⟨f.1,f.2.2,_,Z⟩
  apart:=L.apart
  cell:=λx d J B=>B.elim (λh=>(S h).elim) λh=>by
   refine aL (L.free _ (mem_of_lookup h)) λc uY=>?_
   rcases C.look (au x) with h| ⟨c',v,d',Y,Z,_,h3,h4⟩
   .exact aY (h.1.symm.trans uY)
   .unfold td at J
    rw [Z] at J
    obtain rfl:=aM J
    exact⟨c',v,Y,h3,h4⟩
  kN:=λx h i=>(S h).elim
  has:=λx h=>h.elim (λh=>(S h).elim) λh=>L.free _ (mem_of_lookup h)
  fz:=λi h=>nomatch h
  here:=λi h=>nomatch h
  fo:=⟨_,P,λe Q=>(List.mem_cons.mp Q).elim (λq=>by exact aa (q ..)<|⟨by show w.scope.kind≠_;refine aa (L.scope ..)<|aa (hk ..) ?_;decide,_,rfl,.inr rfl,.inr rfl,.inl rfl⟩) λQ=>
      aA (zP e Q) λk1 AS=>dG AS λL k2 k3 k4 AU=>aw AU λo k5 k6=>
      ⟨k1,L,k2,.inl k3,.inl k4,.inr ⟨λy=>R y (b9 k5),o,t _ _ k5,k6⟩⟩⟩}
 refine gW (hE rm.deeper D U e) (λv eZ jj=>bI jj λV K T UR=>?_) λi i x=>x.elim
 have L:=sC (fr:=G.fr) (ou:=G.ou) T (λb x=>by exact aa (K.fr ..)<| .inl x) st.inv.b8
 exact⟨v,rfl,{V with fr:=G.fr,ou:=G.ou},E.trans (qy (jx:=bf) (M:=λb=>b=j.locals) (λb e=>bN e.symm) t hle (λa l=>⟨λkp=>aA kp λx y=>⟨x.resolve_right λz=>R z l,y.resolve_right λz=>R z l⟩,λjk=>aA jk λx y=>⟨.inl x,.inl y⟩⟩) rfl (K.weaken λi x=>x.elim)),L.1,UR.keep L.2⟩
end
end
section
theorem D.Q4{d x}(h:D.FY d=some x):d=.lam x.1 x.2:=by cases d<;>first| exact aY h| (obtain rfl:=aM h;rfl)
theorem OV:gr (.type "function") "__getattr__" =pure none:=Me (by decide+kernel)
theorem EF(a:bg)(b:List bZ):∀xs:List bZ,ja (xs++b) a=(ja xs a>>=λf=>match f with| .next=>ja b a| f=>pure f)
 | []=>by refine aa (xD ..) ?_;show _=(pure Flow.next>>=_);exact aa (pure_bind ..) rfl
 | x::xs=>by
  refine aa (rA ..)<|aa (execs_cons ..)<|aa (execs_cons ..)<|aa (bind_assoc ..) ?_
  congr 1
  funext f
  induction f with
  | next=>exact EF a b xs
  | _=>exact aa (pure_bind ..) rfl
theorem Gb{x y:aj}{c:aq}:∀{l:List (aj×aq)},(l.Pairwise λp q=>p.2≠q.2)->l.lookup x=some c->l.lookup y=some c->x=y
 | [],_,e,_=>aY e
 | (k,d)::r,ap,e,a=>by
  rw [List.pairwise_cons] at ap
  rw [dI] at e a
  induction b:x==k<;>induction f:y==k<;>rw [b] at e<;>rw [f] at a
  .exact Gb ap.2 e a
  .exact(ap.1 (x,c) (mem_of_lookup e) (aM a)).elim
  .exact(ap.1 (y,c) (mem_of_lookup a) (aM e)).elim
  .exact aa (eq_of_beq b ..)<|aa (eq_of_beq f ..) rfl
section
variable {W:Wd} {n:Nat} {si:SI}
theorem Ph{A:aO}{s:ai}{E:af->ai->Prop}{a:aq}{o:bu}{name:aj}{pl:bY Bool}{Q:af×List af->ai->Prop}(g:s.heap.get? a=some o)(f:o.cls=.type "function")(c:gr (.type "function") name=pure none)
 (h:ar W.M A (kS (.ref a) name) (λv=>Q (v,[])) E s):ar W.M A (getMethod (.ref a) name pl) Q E s:=by
 have e:Looks W.M s.heap (tD (.ref a)) (.type "function"):=f▸(CA g).andThen .now
 have d:=PySem.F.canon_object_ga
 have u:ar W.M A (do return (← kS (.ref a) name,([]:List af))) Q E s:=ah (gW h (λb b z=>aD z) λb b z=>z)
 delta getMethod specialOf
 refine ah (ah (e.here ?_))
 refine aa (tm.lookup ..) ?_
 refine aD ?_
 dsimp only
 refine aa (d ..)<|aa (if_neg (by decide)) ?_
 refine ah (ah (e.here ?_))
 refine aa (OV ..) ?_
 refine aD (ah (ah (e.here ?_)))
 exact aa (c ..)<|wpAny_pure u
theorem Ev.Sx{o e rest name j d mo g k kl F}(I:W.nQ k)(hm:lO name=true)(hF:jv W n kl F)(R:Ev W n si o mo)(h:fF W n si (e::rest) g)
 (t:∀c,iE o name c (aU o c)=aU o c) (Q:∀c,(bB (e::rest) c).head?.any (·.1)=false)
 (w:∀c,sI ((e::rest).length+([]:List pK).length) (fZ d (bB (e::rest) c)) (p0 d (qh [] c))=true) (y:(j.endLine==d.line)=true):
 Ev W n si (.Call (.Attribute o name j) (e::rest) [] d) (.sH k kl name F mo g):=λ{A c M G s ρ σ r} X st Fr h'=>
 ob h' λp e1 h'=>ob h' λf L h'=>ob h' λl e3 h'=>og h' λhl h'=>ob h' λq e4 e5=>ob L λx hi L=>og L λhk P=>by
  subst hl hk
  obtain rfl:=D.Q4 e3
  refine aa (Dq ..)<|aa (t ..) ?_
  refine ah (bR R X st Fr e1 λ{Z ak v} E m B K=>ah (cQ ?_))
  refine u4 m K hi λ{a ob da mC} q1 U q3 q4 q5=>?_
  refine aw (q5.lookup P) λu hu Y=>?_
  refine aL (I.fn ob U) λfd N=>?_
  have H:Ai true o c j d=pure d:=by delta Ai;exact aa (Jd ..)<|aa (tU ..)<|aa (if_pos y ..) rfl
  delta Ah
  refine aa (w c ..) ?_
  refine ah (bz (Ph q1 (I.cls ob U) (sb hm) (E7 q1 (I.cls ob U) q3 N q4 hu (sb hm) (uX Y) (ah (hK H ?_)))))
  obtain⟨la,T,S,O,fz,lo,lc,ld,J,-⟩:=id Y.inv
  subst O
  refine Nq (o:=T) (fd:=S) (zh h Q X m.tok B e4 λ{lx b3 vs} i z C rs=>⟨⟨i.get (λb x=>x.elim) lo fz,J⟩,jT (g6 (hF X z (Y.go i) rs C.ku e5) λr s' V=>aw V λv hr R=>?_)⟩)
  subst hr
  exact(R.trans i).trans E
theorem OJ{A:aO}{b:bg}{Q:gw->ai->Prop}{E:af->ai->Prop}{xs g:List bZ}{s}(h:ar W.M A (ja xs b) (λf d=>f=.next/\ar W.M A (ja g b) Q E d) E s):ar W.M A (ja (xs++g) b) Q E s:=by
 refine aa (EF ..) ?_
 refine ah (gW h (λf d c=>aA c λe k=>?_) λa a x=>x)
 subst e;exact k
noncomputable def SI.mR (si:SI) (a:List aj):SI:={si with ro:=a,fz:=a}
theorem lh.fz{fd xs ys mx my}{zs:List aj}(N:dY W n (SI.fn fd) xs mx)(O:dY W n ((SI.fn fd).mR zs) ys my):lh W n fd (xs++ys) (.IB mx my):=λ{A K M G s ρ σ r} rm st F Pp P8 Px e=>
 ob e λp e1 e=>oc e (λhn e=>OJ (wpS (N rm st F e1) λf J t B R j I=>by
  rw [Fl.FG hn] at I
  obtain rfl:=I.inv
  refine⟨rfl,?_⟩
  have w:t.fr=λb=>G.fr b∨M b:=B.fr
  let C:aq->Prop:=λb=>∃z∈zs,K.cells.lookup z=some b
  let E:aq->Prop:=λb=>M b/\¬C b
  have hL:E K.locals:=⟨j.jf,λjj=>aw jj λz h hz=>bP (j.cells _ _ hz) λh h AS=>aL AS λv i=>aw j.ns λm n h=>vU n i rfl⟩
  have hu:∀b,t.ou b->G.fr b∨E b:=λb x=>by
   rw [B.ou] at x
   exact x.elim (λx=>.inl (P8 b x)) λq=>.inr (q▸hL)
  have up:∀b,(G.fr b∨E b)->t.fr b:=λb x=>by exact aa (w ..)<|x.imp id And.left
  refine aA (kV (fr:=λb=>G.fr b∨E b) R up hu) λS H=>?_
  have V:aT W A {t with fr:=λb=>G.fr b∨E b} J.heap ((SI.fn fd).mR zs) K E p.2.1:={
   sc:=j.sc
   fn:=j.fn
   gl:=j.gl
   bl:=j.bl
   dg:=λb hb=>.inr hb
   jf:=hL
   ns:=aw j.ns λm P k=>⟨m,P,λx d Q Y=>(k x d Q Y).imp λv=>fE λb=>b.keep H⟩
   cells:=j.cells
   apart:=j.apart
   cell:=λx d Q Y=>(j.cell x d Q Y).imp λc=>dX λv=>fE (fE λr=>r.keep H)
   kN:=λx Y zE=>(j.kN x Y (λq=>nomatch q)).imp λc ⟨X,P⟩=>⟨X,P,λjk=>aw jk λz hz hl=>zE (Gb j.apart X hl▸hz)⟩
   has:=j.has
   fz:=λx Q c X y=>y.elim (λy=>Pp c (Px _ _ X) y) λy=>y.2 ⟨x,Q,X⟩
   here:=j.here
   fo:=aw j.fo λfs e k=>⟨fs,e,λx Q=>aA (k x Q) λk1 AU=>dG AU λL k2 k3 k4 k5=>⟨k1,L,k2,hu L k4,k4,k5.imp id (eH λq y=>q y.1)⟩⟩}
  refine wpS (O rm S V e) λf' ks u l U h Z=>?_
  have D:u= {u with fr:=λb=>G.fr b∨E b}:=by exact aa (show(λb=>G.fr b∨E b)=u.fr from l.fr.symm) rfl
  refine⟨u,E,?_,D▸U,D▸Z⟩
  have T:Step W M t J.heap {u with fr:=t.fr} ks.heap:=⟨l.g,l.d,rfl,l.c0,l.new,λa o e ho P ht hf=>l.keep a o e ho (λx=>P x.1) ht λx=>hf (up a x),l.size,l.ou,λa o e x y P=>l.ig a o e (hu a y) y λx=>P x.1⟩
  rw [w] at T
  exact B.trans T)) λhn e=>aY e
end
end
section
section
variable {W:Wd} {n:Nat} {si:SI}
def Lh(W:Wd)(own:aq->Prop)(I:Gh->aN->List D->Prop)(G:Gh)(s:ai)(σ:MH)(x:D)(xs:List D)(r:Option af)(a:ai):Prop:=
 ∃v G',r=some v/\Step W own G s.heap G' a.heap/\St W G' a σ/\I G' a.heap xs/\Rep W G' a.heap v x
structure ju(W:Wd)(n:Nat)(σ:MH)(it:aq)(own:aq->Prop)(I:Gh->aN->List D->Prop):Prop where
 item:∀{A G s x xs},br n A->St W G s σ->Fo A G s.heap->(∀a,own a->G.fr a/\¬G.ou a)->I G s.heap (x::xs)->ar W.M A (f7 (.ref it)) (Lh W own I G s σ x xs) aF s
 done:∀{A G s},br n A->St W G s σ->Fo A G s.heap->(∀a,own a->G.fr a/\¬G.ou a)->I G s.heap []->ar W.M A (f7 (.ref it)) (λr s'=>r=none/\∃G',Step W own G s.heap G' s'.heap/\St W G' s' σ) aF s
 shift:∀{G h G' h' xs},I G h xs->cH W G h G' h'->(∀a o,own a->h.get? a=some o->h'.get? a=some o)->I G' h' xs
theorem JV{G:Gh}{s:ai}{σ:MH}{S:aq}{o:bu}{i:Array af}{k:Nat}{x:af}{d:D}{acc:List D}(st:St W G s σ)(g:G.fr S)(e:s.heap.get? S=some o)(m:o.cls=.type "list")(h:o.dict=none/\o.slots= #[])(n:o.data=.seq i k)(r4:aQ W G s.heap i.toList acc)(r:Rep W G s.heap x d)(j:acc.length<aP):
 St W G {s with heap:=s.heap.update S (dE (·.push x))} σ/\Step W (λb=>b=S) G s.heap G (s.heap.update S (dE (·.push x)))/\cg W G (s.heap.update S (dE (·.push x))) S none (.list (acc++ [d])):=by
 refine aL (Ld n (·.push x)) λl f=>?_
 refine aA (kZ (tk:=s.toks) st g (ft s.heap S (dE (·.push x)))) λc a=>?_
 have K:=a.ea (λb e=>e▸g)
 exact⟨c,a,by exact aa (bF ..)<|j,_,_,l,eI _ e (Le f),(Lc ..).trans m,⟨(Eh ..).trans h.1,(H6 ..).trans h.2⟩,f,by exact aa (BM ..)<|(r4.keep K).snoc (r.keep K)⟩
structure xd(W:Wd)(A:aO)(G:Gh)(s:ai)(σ:MH)(own:aq->Prop)(I:Gh->aN->List D->Prop)(S:aq)(xs:List D):Prop where
 st:St W G s σ
 fo:Fo A G s.heap
 of:∀a,own a->G.fr a/\¬G.ou a
 fr:G.fr S
 ou:¬G.ou S
 no:¬own S
 I:I G s.heap xs
def xS(W:Wd)(own:aq->Prop)(G:Gh)(s:ai)(σ:MH)(S:aq)(c:List D)(b:ai):Prop:=∃G',Step W (λa=>own a∨a=S) G s.heap G' b.heap/\St W G' b σ/\cg W G' b.heap S none (.list c)
theorem Fo.go{A G h G' h'}{M:aq->Prop}(F:Fo A G h)(S:Step W M G h G' h')(c:∀a,M a->¬G.ou a):Fo A G' h':=F.step S λa b y z=>c a z y
theorem EH{σ:MH}{it S:aq}{own:aq->Prop}{I:Gh->aN->List D->Prop}{w:af}(N:ju W n σ it own I):∀{xs acc:List D} {A G s},br (n+1) A->xd W A G s σ own I S xs->cg W G s.heap S none (.list acc)->acc.length+xs.length<=aP->
 eU W.M A (.builtin "list.extend.loop" ⟨[.ref S,.ref it,w],[]⟩) (λr E=>r=.ok (.ret w)/\xS W own G s σ S (acc++xs) E) s:=by
 intro xs
 induction xs with
 | nil=>
  intro acc A G s C X K T
  refine fN JB ?_
  refine aa (gH tX _ ..) ?_
  show ar _ A.in1 (f7 (.ref it)>>=_) _ _ s
  refine ah (aF.any (bD (N.done C.in1 X.st X.fo X.of X.I) λr E O=>aA O λe R=>aw R λG' f i=>?_))
  subst e
  exact aD ⟨rfl,G',f.weaken λc x=>.inl x,i,by exact aa (hW ..)<|K.go f (λa x=>(X.of a x).1) (X.st.inv.dJ S X.fr) X.no X.ou⟩
 | cons x xs Z=>
  intro acc A G s C X K T
  refine fN JB ?_
  refine aa (gH tX _ ..) ?_
  show ar _ A.in1 (f7 (.ref it)>>=_) _ _ s
  refine ah (aF.any (bD (N.item C.in1 X.st X.fo X.of X.I) λr E P=>tI P λv G' e f i V rv=>?_))
  subst e
  refine aA (K.go f (λa x=>(X.of a x).1) (X.st.inv.dJ S X.fr) X.no X.ou) λz t=>?_;refine jU t λo vs k e r1 r2 U r4=>?_
  have g:G'.fr S:=by exact aa (f.fr ..)<|X.fr
  have h:G'.ou=G.ou:=f.ou
  have p:acc.length+1+xs.length<=aP:=by exact aa (K5 ..)<|aa (Nat.add_comm 1 ..)<|T
  have L:acc.length<aP:=aE (cy _ _) p
  refine bP (JV i g e r1 r2 U r4 rv L) λj d m=>?_
  show ar _ A.in1 (l6 S (·.push v)>>=_) _ _ _
  refine ah (jn e U (aD ⟨g_ tX _,?_⟩) (size_le r4 z) (by exact aa (BK ..)<|Nat.succ_le_succ (size_le r4 z)))
  refine g6 (Z (acc:=acc++ [x]) C ⟨j,(X.fo.go f λa y=>(X.of a y).2).go d λa y=>by exact aa (y ..)<|aa (h ..)<|X.ou,λa y=>by exact aa (f.fr ..)<|aa (h ..)<|X.of a y,g,by exact aa (h ..)<|X.ou,X.no,
   N.shift V (d.ea λb e=>e▸g) λa o y e=>(ft E.heap S (dE (·.push v))).extBut a o (λq=>X.no (q▸y)) e⟩ m (by exact aa (bF ..)<|p)) λr Yi Q=>aA Q λY u=>bI u λH J B l=>⟨Y,H,((f.weaken λc x=>.inl x).trans (d.weaken λc x=>.inr x)).trans J,B,by rw [iW] at l;exact l⟩
structure xn(T:String):Prop where
 S9:gr (.type T) "__len__" =pure none
 S8:gr (.type T) "__length_hint__" =pure none
 iter:∃id,iz T "__iter__" id
 notList:(kF T==kF "list")=false
 notTuple:(kF T==kF "tuple")=false
structure B8(W:Wd)(T:String)(it:aq)(oi:bu):Prop where
 ty:xn T
 cls:oi.cls=.type T
 self:∀{s':ai} {A:aO} {E:af->ai->Prop} {Q:af->ai->Prop},s'.heap.get? it=some oi->Q (.ref it) s'->ar W.M A (ik (.ref it)) Q E s'
theorem EI{T:String}{it S:aq}{oi:bu}{own:aq->Prop}{I:Gh->aN->List D->Prop}{k:af}{xs:List D}{A G s σ}{u:Nat}{R:hZ->ai->Prop}(O:ju W n σ it own I)(ob:B8 W T it oi)(v:s.heap.get? it=some oi)(E:S≠it)(Q:br (n+2) A)(X:xd W A G s σ own I S xs)
 (hl:s.heap.get? S=some {cls:=.type "list",data:=.seq #[] u}) (N:xs.length<=aP) (h:∀i,xS W own G s σ S xs i->R (.ok (.ret k)) i):
 ar W.M A.in1 (nL (.ref S) (.ref it) k) (λC i=>match C with| .done f=>R (.ok f) i| .again z=>z.quiet=true/\eU W.M A z R i) (λe i=>R (.error e) i) s:=by
 have H:s.TypeIs (.ref it) T:=⟨oi,v,ob.cls⟩
 have B:=ob.ty
 unfold nL
 refine ah (wN H ?_)
 refine aa (if_neg (λh=>by rw [show Ji (.ref S) (.ref it)=false from decide_eq_false E,B.notList,B.notTuple] at h;exact absurd h (by decide))) ?_
 refine ah (ob.self v (ah (bz ?_)))
 unfold BO
 refine ah (qP H B.S9 ?_)
 show ar _ A.in1 (specialOf (eB it) (au "__length_hint__")>>=_) _ _ _
 refine ah (qP H B.S8 (aD ?_))
 show ar _ A.in1 (rule "list.extend.makes-room" >>=λc=>Jj (.ref S)>>=λc=>
  mB (.builtin "list.extend.loop" ⟨[.ref S,.ref it,k],[]⟩)) _ _ _
 refine ah (nH (ah ?_))
 show ar _ A.in1 (l6 S (·.push .none)>>=λc=>l6 S (·.pop)) _ _ _
 refine ah (jn hl rfl ?_)
 have g:=eI (dE (·.push Value.none)) hl rfl
 refine jn (hz:=by seq_fits) g rfl ?_
 have j:=eI (dE (·.pop)) g rfl
 refine aA (kZ (tk:=s.toks) X.st X.fr (ft s.heap S (dE (·.push Value.none)))) λl p=>?_
 refine aA (kZ (tk:=s.toks) l X.fr (ft (s.heap.update S (dE (·.push Value.none))) S (dE (·.pop)))) λm t=>?_
 have d:=p.trans t
 have J:∀b o,b≠S->s.heap.get? b=some o->((s.heap.update S (dE (·.push Value.none))).update S (dE (·.pop))).get? b=some o:=
  λb o hb e=>(gf _ _ (Ne.symm hb)).trans ((gf _ _ (Ne.symm hb)).trans e)
 refine aD ⟨g_ tX _,g6 (EH O (acc:=[]) (Q.le (dD _)) ⟨m,X.fo.go d λa y=>y▸X.ou,X.of,X.fr,X.ou,X.no,O.shift X.I (d.ea λb e=>e▸X.fr) λa o x e=>J a o (λq=>X.no (q▸x)) e⟩
  ⟨fW _,_,#[],_,j,rfl,⟨rfl,rfl⟩,rfl,.nil⟩ (by exact aa (Ck ..)<|aa (rM ..)<|N)) λr i K=>aA K λe w=>bI w λG' P L z=>?_⟩
 subst e
 exact h i ⟨G',(d.weaken λc x=>.inr x).trans P,L,z⟩
end
end
section
section
variable {W:Wd} {n:Nat} {si:SI}
noncomputable def f6:bu:={cls:=.type "list",data:=.seq #[]}
def xT(W:Wd)(own:aq->Prop)(G:Gh)(s:ai)(σ:MH)(xs:List D)(a:ai):Prop:=
 xS W own {G with fr:=λb=>G.fr b∨b=s.heap.objs.size} {s with heap:=s.heap.push f6} σ s.heap.objs.size xs a
structure nU(W:Wd)(n:Nat)(A:aO)(G:Gh)(s:ai)(σ:MH)(T:String)(it:aq)(oi:bu)(own:aq->Prop)(I:Gh->aN->List D->Prop)(xs:List D):Prop where
 ok:ju W n σ it own I
 ob:B8 W T it oi
 oi:s.heap.get? it=some oi
 st:St W G s σ
 fo:Fo A G s.heap
 of:∀a,own a->G.fr a/\¬G.ou a
 I:I G s.heap xs
 z:xs.length<=aP
section
variable {T:String} {it:aq} {oi:bu} {own:aq->Prop} {I:Gh->aN->List D->Prop} {xs:List D} {A:aO} {G:Gh} {s:ai} {σ:MH}
theorem nU.ne(X:nU W n A G s σ T it oi own I xs):s.heap.objs.size≠it:=λq=>fV _ (q▸b9 X.oi)
theorem nU.enter(X:nU W n A G s σ T it oi own I xs):xd W A {G with fr:=λb=>G.fr b∨b=s.heap.objs.size} {s with heap:=s.heap.push f6} σ own I s.heap.objs.size xs:=
 have f:(s.heap.push f6).objs.size=s.heap.objs.size+1:=c9 ..
 have x:=jE (b3:={s with heap:=s.heap.push f6}) (M:=λb=>b=s.heap.objs.size) X.st (λb e=>⟨bN e.symm,by exact aa (e ..)<|Nat.lt_of_lt_of_eq (cw _) f.symm⟩) (λb ob e=>bH _ e) (aE (dD _) (bN f.symm)) rfl rfl
 have lt:∀{b},G.fr b->b≠s.heap.objs.size:=λy=>bj (X.st.inv.b0 _ y).2.1
 ⟨x.1,aw X.fo λfs e k=>⟨fs,e,λy g=>aA (k y g) λh c=>dG c λL i j l d=>aw d λo m p=>⟨h,L,i,.inl j,l,o,bH _ m,p⟩⟩,λa y=>⟨.inl (X.of a y).1,(X.of a y).2⟩,.inr rfl,λy=>lt (X.st.inv.b8 _ y) rfl,λy=>lt (X.of _ y).1 rfl,X.ok.shift X.I x.2 λa o y e=>bH _ e⟩
theorem Ru(X:nU W n A G s σ T it oi own I xs)(C:br (n+3) A):ar W.M A (bM (.type "list") [.ref it]) (λv u=>v=.ref s.heap.objs.size/\xT W own G s σ xs u) aF s:=by
 refine DT (Q₁:=λi ak=>i=.ref s.heap.objs.size/\ak= {s with heap:=s.heap.push f6}) Jz (JQ _) JD (N1 _ ⟨rfl,rfl⟩) λi ak h=>?_
 refine aA h λm p=>?_;obtain rfl:=m;obtain rfl:=p
 have k:(s.heap.push f6).get? s.heap.objs.size=some f6:=c5 _ rfl
 have Y:=X.enter
 refine⟨⟨_,k,rfl⟩,Jx _ _,?_⟩
 show ar _ A.in1.in1 (do let l ← wZ (.ref s.heap.objs.size);BQ (.ref s.heap.objs.size) (λc=> #[]);letGo l.toList.reverse;nL (.ref s.heap.objs.size) (.ref it) .none) _ _ _
 refine ah ?_
 unfold wZ
 refine ah (lb k rfl (aD ?_))
 show ar _ A.in1.in1 (l6 s.heap.objs.size (λc=> #[])>>=λc=>letGo (#[]:Array af).toList.reverse>>=λc=>nL (.ref s.heap.objs.size) (.ref it) .none) _ _ _
 refine ah (jn k rfl ?_)
 have f:=eI (dE (λc=>(#[]:Array af))) k rfl
 refine aA (kZ (tk:=s.toks) Y.st Y.fr (ft (s.heap.push f6) s.heap.objs.size (dE (λc=>(#[]:Array af))))) λg d=>?_
 have j:∀b o,b≠s.heap.objs.size->(s.heap.push f6).get? b=some o->((s.heap.push f6).update s.heap.objs.size (dE (λc=>(#[]:Array af)))).get? b=some o:=λb o hb e=>(gf _ _ (Ne.symm hb)).trans e
 refine ah (qN ?_)
 exact EI (A:=A.in1) X.ok X.ob (j it oi X.ne.symm (bH _ X.oi)) X.ne C.in1 ⟨g,Y.fo.go d λa y=>y▸Y.ou,Y.of,Y.fr,Y.ou,Y.no,X.ok.shift Y.I (d.ea λb e=>.inr e) λa o x e=>j a o (λq=>Y.no (q▸x)) e⟩ f X.z
  λu r=>bI r λG' w t B=>⟨rfl,rfl,G',(d.weaken λc x=>.inr x).trans w,t,B⟩
theorem N2(X:nU W n A G s σ T it oi own I xs)(x:br (n+3) A){Q:List af->ai->Prop}{E:af->ai->Prop}
 (h:∀t c G',Step W (λa=>own a∨a=s.heap.objs.size) {G with fr:=λb=>G.fr b∨b=s.heap.objs.size} (s.heap.push f6) G' c.heap->St W G' c σ->aQ W G' c.heap t xs->Q t c):ar W.M A (yZ (.ref it)) Q E s:=by
 unfold yZ
 refine ah (IT (fN F.entry_proto_collect ?_))
 refine aa (gH F.plain_proto_collect _ ..) ?_
 show ar _ A.in1 (Ap []>>=λl=>mB (.builtin "list.__iadd__" ⟨[l,.ref it],[]⟩)) _ _ s
 refine ah (iS ?_)
 refine aD ⟨g_ JG _,fN F.entry_list_iadd ?_⟩
 refine aa (gH JG _ ..) ?_
 show ar _ A.in1 (nL (.ref s.heap.objs.size) (.ref it) (.ref s.heap.objs.size)) _ _ {s with heap:=s.heap.push f6}
 have d:∀c,xT W own G s σ xs c->ar W.M A (do let o ← load s.heap.objs.size;match o.data with| .seq xs _=>pure xs.toList| _=>unsupported "internal:collect") Q E c:=λc m=>dG m λG' u q z i=>jU i λo t k e B C w r4=>by
  refine ah (nG e ?_)
  exact aa (w ..)<|wpAny_pure (h _ c G' u q r4)
 refine gW (EI (A:=A) (R:=λr c=>r=.ok (.ret (.ref s.heap.objs.size))/\xT W own G s σ xs c) X.ok X.ob (bH _ X.oi) X.ne (x.le (dD _)) X.enter (c5 _ rfl) X.z λc o=>⟨rfl,o⟩)
  (λf c g=>?_) λe c g=>nomatch g.1
 induction f with
 | done f=>refine aA g λe j=>?_;obtain rfl:=Xr e;exact d c j
 | again y=>exact⟨g.1,g6 g.2 λr p v=>by refine aA v λe j=>?_;subst e;exact d p j⟩
def xV(W:Wd)(own:aq->Prop)(G:Gh)(s:ai)(σ:MH)(xs:List D)(v:af)(c:ai):Prop:=
 ∃G',Step W (λa=>own a∨a=s.heap.objs.size) {G with fr:=λb=>G.fr b∨b=s.heap.objs.size} (s.heap.push f6) G' c.heap/\St W G' c σ/\Rep W G' c.heap v (.tup xs)
theorem V6(X:nU W n A G s σ T it oi own I xs)(m:br (n+5) A):ar W.M A (bM (.type "tuple") [.ref it]) (xV W own G s σ xs) aF s:=by
 have c:eU W.M A.in1 (.call (.builtin "tuple.__new__") ⟨[.type "tuple",.ref it],[]⟩) (wants (λv b=>b.TypeIs v "tuple" /\xV W own G s σ xs v b) aF) s:=by
  refine uE ?_
  show ar _ A.in1.in1 (do yP "tuple.__new__" ⟨[.type "tuple",.ref it],[]⟩;mB (.builtin "tuple.__new__" ⟨[.type "tuple",.ref it],[]⟩)) _ _ s
  refine ah (hK (JF _) (aD ⟨g_ JH _,fN JE ?_⟩))
  refine aa (gH JH _ ..) ?_
  have h:=VJ
  have f:=QC
  have l:=R9
  have e:s.TypeIs (.ref it) T:=⟨oi,X.oi,X.ob.cls⟩
  wp_walk using wN e
  refine aa (if_neg (by rw [X.ob.ty.notTuple];decide)) ?_
  refine ah (N2 (n:=n) (A:=A.in1.in1) ⟨X.ok,X.ob,X.oi,X.st,X.fo,X.of,X.I,X.z⟩ m.in1.in1 λj b G' k d i=>ah (aD ?_))
  show ar _ _ (w8 j.toArray>>=λv=>ret v) _ _ _
  unfold w8
  refine ah (iS ?_ (by show j.toArray.size<=gF;exact aa (rH ..)<|aa (i.length ..)<|Nat.le_trans X.z f9))
  exact aD ⟨⟨_,c5 _ rfl,rfl⟩,G',k.trans (Step.any (.push _)),d.push _,.tup X.z d.bq (c5 _ rfl) rfl ⟨rfl,rfl⟩ rfl (by simpa using i.go (Step.push (s:=b) _))⟩
 exact DT (Q₁:=λv b=>b.TypeIs v "tuple" /\xV W own G s σ xs v b) JA (JR _) F.entry_object_init c λg ak a=>⟨a.1,Jy g _,object_init_meets F.called_tuple.init.lookup F.called_tuple.made (by decide) W.prog W.w A.in1 _ ak ⟨a.1,rfl,a.2⟩⟩
end
end
end
section
theorem GU:mroOf (.type "map")=pure [.type "map",.type "object"]:=by refine aa (mroOf_type ..) ?_;kernel_rfl
theorem RI:gr (.type "map") "__new__" =pure (some (.builtin "map.__new__")):=by refine aa (e_ ..)<|aa (eS ..) ?_;kernel_rfl
theorem Vi:iz "map" "__init__" "object.__init__" :=
 .of (owner:="object") (n:="__init__") (by refine aa (e_ ..)<|aa (eS ..) ?_;kernel_rfl) (by decide+kernel) (by decide+kernel) (by decide+kernel)
  (by first| exact .inl (by decide+kernel)| exact .inr (by decide+kernel)) (by refine aa (eE ..) ?_;kernel_rfl)
theorem Nx:TypeCalled "map" "map.__new__" "object.__init__" :=
 ⟨by decide+kernel,by decide+kernel,⟨_,_,GU⟩,madeBy_type GU RI (by decide+kernel),by decide+kernel,by refine aa (eE ..) ?_;kernel_rfl,Vi⟩
theorem Wa(a b:af):NA "map" ⟨[a,b],[]⟩=pure ():=by kernel_rfl
theorem SN(a b:af):yP "map.__new__" ⟨[.type "map",a,b],[]⟩=pure ():=by kernel_rfl
theorem OD:i_ jl "map.__new__" =some bE.«map.__new__»:=oG (by kernel_rfl)
theorem Dl(a b c:af):gj "object.__init__" ⟨[a,b,c],[]⟩:=by
 unfold gj;kernel_rfl
theorem EA:i_ jl "map.__next__" =some bE.«map.__next__»:=oG (by kernel_rfl)
theorem tq:iz "map" "__next__" "map.__next__" :=
 .of (owner:="map") (n:="__next__") (by refine aa (e_ ..)<|aa (eS ..) ?_;kernel_rfl) (by decide+kernel) (by decide+kernel) (by decide+kernel)
  (by first| exact .inl (by decide+kernel)| exact .inr (by decide+kernel)) (by refine aa (eE ..) ?_;kernel_rfl)
theorem A_:iz "map" "__iter__" "map.__iter__" :=
 .of (owner:="map") (n:="__iter__") (by refine aa (e_ ..)<|aa (eS ..) ?_;kernel_rfl) (by decide+kernel) (by decide+kernel) (by decide+kernel)
  (by first| exact .inl (by decide+kernel)| exact .inr (by decide+kernel)) (by refine aa (eE ..) ?_;kernel_rfl)
theorem Dm(a:af):gj "map.__next__" ⟨[a],[]⟩:=by unfold gj;kernel_rfl
theorem Dk(a:af):gj "filter.__next__" ⟨[a],[]⟩:=by unfold gj;kernel_rfl
theorem GS:mroOf (.type "filter")=pure [.type "filter",.type "object"]:=by refine aa (mroOf_type ..) ?_;kernel_rfl
theorem RH:gr (.type "filter") "__new__" =pure (some (.builtin "filter.__new__")):=by refine aa (e_ ..)<|aa (eS ..) ?_;kernel_rfl
theorem Vh:iz "filter" "__init__" "object.__init__" :=
 .of (owner:="object") (n:="__init__") (by refine aa (e_ ..)<|aa (eS ..) ?_;kernel_rfl) (by decide+kernel) (by decide+kernel) (by decide+kernel)
  (by first| exact .inl (by decide+kernel)| exact .inr (by decide+kernel)) (by refine aa (eE ..) ?_;kernel_rfl)
theorem Nw:TypeCalled "filter" "filter.__new__" "object.__init__" :=
 ⟨by decide+kernel,by decide+kernel,⟨_,_,GS⟩,madeBy_type GS RH (by decide+kernel),by decide+kernel,by refine aa (eE ..) ?_;kernel_rfl,Vh⟩
theorem V_(a b:af):NA "filter" ⟨[a,b],[]⟩=pure ():=by kernel_rfl
theorem SM(a b:af):yP "filter.__new__" ⟨[.type "filter",a,b],[]⟩=pure ():=by kernel_rfl
theorem OA:i_ jl "filter.__new__" =some bE.«filter.__new__»:=oG (by kernel_rfl)
theorem Ez:i_ jl "filter.__next__" =some bE.«filter.__next__»:=oG (by kernel_rfl)
theorem sZ:v8 "filter.__next__" =true:=by decide+kernel
theorem tj:iz "filter" "__next__" "filter.__next__" :=
 .of (owner:="filter") (n:="__next__") (by refine aa (e_ ..)<|aa (eS ..) ?_;kernel_rfl) (by decide+kernel) (by decide+kernel) (by decide+kernel)
  (by first| exact .inl (by decide+kernel)| exact .inr (by decide+kernel)) (by refine aa (eE ..) ?_;kernel_rfl)
theorem A8:iz "filter" "__iter__" "filter.__iter__" :=
 .of (owner:="filter") (n:="__iter__") (by refine aa (e_ ..)<|aa (eS ..) ?_;kernel_rfl) (by decide+kernel) (by decide+kernel) (by decide+kernel)
  (by first| exact .inl (by decide+kernel)| exact .inr (by decide+kernel)) (by refine aa (eE ..) ?_;kernel_rfl)
theorem VC:jJ (.type "filter") (.type "filter")=pure true:=by refine aa (eE ..) ?_;kernel_rfl
theorem QS:xn "map" :=⟨by refine aa (e_ ..)<|aa (eS ..) ?_;kernel_rfl,by refine aa (e_ ..)<|aa (eS ..) ?_;kernel_rfl,⟨_,A_⟩,by decide,by decide⟩
theorem QR:xn "filter" :=⟨by refine aa (e_ ..)<|aa (eS ..) ?_;kernel_rfl,by refine aa (e_ ..)<|aa (eS ..) ?_;kernel_rfl,⟨_,A8⟩,by decide,by decide⟩
theorem OC:i_ jl "map.__iter__" =some bE.«dict_keyiterator.__iter__»:=
 zf (id':="dict_keyiterator.__iter__") (by kernel_rfl) (by first| rfl| decide+kernel) (by decide+kernel) (by kernel_rfl)
theorem Oz:i_ jl "filter.__iter__" =some bE.«dict_keyiterator.__iter__»:=
 zf (id':="dict_keyiterator.__iter__") (by kernel_rfl) (by first| rfl| decide+kernel) (by decide+kernel) (by kernel_rfl)
theorem Ml(a:af):gj "map.__iter__" ⟨[a],[]⟩:=by unfold gj;kernel_rfl
theorem Mj(a:af):gj "filter.__iter__" ⟨[a],[]⟩:=by unfold gj;kernel_rfl
theorem UY{prog:eA}{w:eC}{A:aO}{E:af->ai->Prop}{s:ai}{m:aq}{Q:af->ai->Prop}(a:s.TypeIs (.ref m) "map")(h:Q (.ref m) s):ar (bX prog w) A (ik (.ref m)) Q E s:=
 IS a A_ (kz A_ a OC (aD ⟨_,rfl,_,_,a,tq.lookup,h⟩) (Ml _))
theorem UX{prog:eA}{w:eC}{A:aO}{E:af->ai->Prop}{s:ai}{m:aq}{Q:af->ai->Prop}(a:s.TypeIs (.ref m) "filter")(h:Q (.ref m) s):ar (bX prog w) A (ik (.ref m)) Q E s:=
 IS a A8 (kz A8 a Oz (aD ⟨_,rfl,_,_,a,tj.lookup,h⟩) (Mj _))
theorem VE:jJ (.type "map") (.type "map")=pure true:=by refine aa (eE ..) ?_;kernel_rfl
theorem Si(f:af)(l:aq)(b:Array af)(n:Nat)(c:Option aq)(k:Array (Option af)):
 kE (bE.«map.__new__» ⟨[.type "map",f,.ref l],[]⟩) (λa R s=>s.heap.get? l=some {cls:=.type "list",dict:=c,data:=.seq b n,slots:=k}/\
  R (.ok (.ret (.ref (s.heap.objs.size+2))))
   {s with heap:=((s.heap.push {cls:=.type "list_iterator",data:=.fields #[.ref l,.int 0 0]}).push {cls:=.type "tuple",data:=.seq #[.ref s.heap.objs.size]}).push {cls:=.type "map",data:=.fields #[.ref (s.heap.objs.size+1),f]}}):=
 .of_wp λprog w A R s h=>by
  obtain⟨j,g,d,m,os⟩:=s;refine aA h λhl h=>?_
  have e:=VE
  have i:J0 (LL ⟨j,g,d,m,os⟩) l b:=⟨_,hl,rfl,n,rfl⟩
  wp_walk using dH hl,tH i
  exact⟨_,rfl,by simpa [c9] using h⟩
theorem Sh(f:af)(l:aq)(b:Array af)(n:Nat)(c:Option aq)(k:Array (Option af)):
 kE (bE.«filter.__new__» ⟨[.type "filter",f,.ref l],[]⟩) (λa R s=>s.heap.get? l=some {cls:=.type "list",dict:=c,data:=.seq b n,slots:=k}/\
  R (.ok (.ret (.ref (s.heap.objs.size+1))))
   {s with heap:=(s.heap.push {cls:=.type "list_iterator",data:=.fields #[.ref l,.int 0 0]}).push {cls:=.type "filter",data:=.fields #[f,.ref s.heap.objs.size]}}):=
 .of_wp λprog w A R s h=>by
  obtain⟨j,g,d,m,os⟩:=s;refine aA h λhl h=>?_
  have e:=VC
  have i:J0 (LL ⟨j,g,d,m,os⟩) l b:=⟨_,hl,rfl,n,rfl⟩
  wp_walk using dH hl,tH i
  exact⟨_,rfl,by simpa [c9] using h⟩
section
variable {prog:eA} {w:eC} {A:aO} {E:af->ai->Prop} {s:ai}
theorem Ga{it l:aq}{i:Nat}{b}{x:af}{Q:Option af->ai->Prop}(hit:s.heap.IsListIter it l i)
 (hl:s.heap.IsList l b) (k:b[i]?=some x)
 (h:∀h',h'.IsListIter it l (i+1)->hO it s.heap h'->Q (some x) {s with heap:=h'}):
 ar (bX prog w) A (Nn (.ref it) "__next__") Q E s:=by
 refine bI (id hit) λo d j c=>?_
 refine bI hl λn f a g=>?_;refine aL g λm e=>?_
 refine ph (name:=au "__next__") hit.typeIs A9 (kz A9 hit.typeIs zg ?_ (Mk _))
 show ar _ _ (oK (.ref it) 0>>=_) _ _ s
 refine ah (ir d c (x:=.ref l) rfl ?_)
 show ar _ _ (if (eB l==Value.none)=true then _ else _) _ _ s
 refine aa (if_neg (show ¬((eB l==Value.none)=true) from tT)) ?_
 show ar _ _ (oK (.ref it) 1>>=_) _ _ s
 refine ah (ir d c (x:=.int i 0) rfl ?_)
 show ar _ _ (qw (.ref l)>>=_) _ _ s
 refine ah (lb f e ?_)
 simp only [xm,k]
 refine ah (wL d c (by simp) (aD ⟨x,rfl,h _ ?_ (ft ..)⟩))
 exact⟨_,eI _ d (xN (rN c _)),(CH ..).trans j,by
  refine aa (rN c ..) ?_;simp [gE]⟩
theorem F_{it l:aq}{i:Nat}{c}{Q:Option af->ai->Prop}(n:A.handled=none)
 (hit:s.heap.IsListIter it l i) (hl:s.heap.IsList l c) (p:c[i]?=none)
 (k:∀h' e,ly it s.heap h'->s.heap.objs.size<=h'.objs.size->({s with heap:=h'}:ai).TypeIs (.ref e) "StopIteration" ->E (.ref e) {s with heap:=h'}):ar (bX prog w) A (Nn (.ref it) "__next__") Q E s:=by
 refine bI (id hit) λo g q d=>?_
 refine bI hl λt h b j=>?_;refine aL j λr f=>?_
 refine ph (name:=au "__next__") hit.typeIs A9 (kz A9 hit.typeIs zg ?_ (Mk _))
 show ar _ _ (oK (.ref it) 0>>=_) _ _ s
 refine ah (ir g d (x:=.ref l) rfl ?_)
 show ar _ _ (if (eB l==Value.none)=true then _ else _) _ _ s
 refine aa (if_neg (show ¬((eB l==Value.none)=true) from tT)) ?_
 show ar _ _ (oK (.ref it) 1>>=_) _ _ s
 refine ah (ir g d (x:=.int i 0) rfl ?_)
 show ar _ _ (qw (.ref l)>>=_) _ _ s
 refine ah (lb h f ?_)
 simp only [xm,p]
 refine ah (nH (ah (wL g d (by simp) ?_)))
 show ar _ _ (Ao (.type "StopIteration") []>>=_) _ _ _
 refine ah ?_
 simp only [Ao,m6]
 refine ah (iS ?_ (by size_fits))
 refine ah (m:=zj _ _) (hK (a:=Value.none) (by first| rfl| (simp only [zj];rfl)) ?_)
 refine iS ?_ (by size_fits)
 exact By (A:=A.in1) n<|k _ _ (((ft ..).extBut.push _).push _) (by simp only [c9,jt];lia) ⟨_,c5 _ rfl,rfl⟩
end
end
section
section
variable {W:Wd} {n:Nat} {si:SI}
noncomputable def vJ (tp f:aq):bu:={cls:=.type "map",data:=.fields #[.ref tp,.ref f]}
noncomputable def wC (a:aq):bu:={cls:=.type "tuple",data:=.seq #[.ref a]}
structure xG(W:Wd)(m tp li l f:aq)(g:D->D)(ys:List D)(G:Gh)(h:aN)(xs:List D)(j:Nat):Prop where
 m:h.get? m=some (vJ tp f)
 t:h.get? tp=some (wC li)
 i:h.IsListIter li l j
 r:Rep W G h (.ref l) (.list ys)
 e:xs=(ys.drop j).map g
theorem xG.ne{m tp d l f g e G h xs j}(X:xG W m tp d l f g e G h xs j):m≠d/\tp≠d:=by
 refine bI X.i λa b c a=>?_
 refine⟨λq=>?_,λq=>?_⟩
 .rw [← q,X.m] at b;rw [← aM b] at c;exact absurd c (by simp [vJ])
 .rw [← q,X.t] at b;rw [← aM b] at c;exact absurd c (by simp [wC])
theorem drop_cons{α:Type}{l:List α}{j:Nat}{y:α}{r:List α}(e:l.drop j=y::r):l[j]?=some y/\l.drop (j+1)=r:=by
 have h:j<l.length:=K8 λh=>by rw [Km h] at e;exact nomatch e
 rw [Ce h] at e
 refine aA (rz e) λa b=>?_
 exact⟨by exact aa (gL h ..)<|aa (a ..) rfl,b⟩
theorem ju.map{σ:MH}{m tp li l f:aq}{g:D->D}{ys:List D}{F:FM}(hF:ba W n f F)(hp:∀y∈ys,F [y] σ=some (g y,σ)):ju W (n+1) σ m (λa=>a=li∨a=tp∨a=m) (λG h xs=>∃j,xG W m tp li l f g ys G h xs j) where
 item:=λ{A G s x xs} rm st fo q jj=>aL jj λj X=>by
  have J:s.TypeIs (.ref m) "map" :=⟨_,X.m,rfl⟩
  refine BH X.r.inv λa o vs k V z fz Q R e4 S U=>?_
  obtain rfl:=jA V
  have P:=X.e
  induction hq:ys.drop j with
  | nil=>rw [hq] at P;exact nomatch P
  | cons y r=>
   rw [hq] at P
   refine aA (rz P) λkm ko=>?_;obtain rfl:=km;obtain rfl:=ko
   refine aA (drop_cons hq) λd1 d2=>?_
   refine aw (U.at_ d1) λv hv rv=>?_
   unfold f7
   refine ah (tE (ph (name:=au "__next__") J tq (kz tq J EA ?_ (Dm _))))
   unfold bE.«map.__next__»
   refine ah (hK (a:=(eB m,([]:List af))) rfl ?_)
   refine ah (ir X.m rfl rfl (ah (lb X.t rfl ?_)))
   dsimp only
   refine aa (.symm (I3 ..)) ?_
   simp only [rD,Kw]
   unfold Jl
   refine ah (ah (ah (bz (ah (Ga (x:=v) X.i ⟨o,Q,R,k,S⟩ hv λh' Z L=>?_)))))
   refine aA (kZ (tk:=s.toks) st (q li (.inl rfl)).1 L) λd p=>?_
   have C:=p.ea λb e=>e▸(q _ (.inl rfl)).1
   refine aD (aD (aD ?_))
   have I:=L.extBut _ _ X.ne.1 X.m
   have Y:=L.extBut _ _ X.ne.2 X.t
   refine ah (ir (s:={s with heap:=h'}) I rfl rfl ?_)
   refine ah (bz (aF.any (iu (p5 (vs:=[v]) (ds:=[y]) hF rm.in1 d (.cons (rv.keep C) .nil) (fo.go p λa e=>e▸(q _ (.inl rfl)).2) (hp y (lA d1))) λu O H w E N=>?_)))
   have B:∀b ob,(b=li∨b=tp∨b=m)->h'.get? b=some ob->O.heap.get? b=some ob:=λb ob hb e=>w.keep b ob e (d.inv.dJ b (q b hb).1).1 (λx=>x) (d.inv.dJ b (q b hb).1).2 λc=>(q b hb).2
   exact ah (qN (aD ⟨_,rfl,aD ⟨u,H,rfl,(p.weaken λc x=>.inl x).trans (w.weaken λc x=>x.elim),E,⟨j+1,B _ _ (.inr (.inr rfl)) I,B _ _ (.inr (.inl rfl)) Y,aw Z λol q1 q2=>⟨ol,B _ _ (.inl rfl) q1,q2⟩,(X.r.keep C).go w,by exact aa (d2 ..) rfl⟩,N⟩⟩))
 done:=λ{A G s} rm st fo q kp=>aL kp λj X=>by
  have J:s.TypeIs (.ref m) "map" :=⟨_,X.m,rfl⟩
  refine BH X.r.inv λa o vs k V z fz Q R e4 S U=>?_
  obtain rfl:=jA V
  have hd:ys.drop j= []:=List.map_eq_nil_iff.mp X.e.symm
  unfold f7
  refine ah (tE (ph (name:=au "__next__") J tq (kz tq J EA ?_ (Dm _))))
  unfold bE.«map.__next__»
  refine ah (hK (a:=(eB m,([]:List af))) rfl ?_)
  refine ah (ir X.m rfl rfl (ah (lb X.t rfl ?_)))
  dsimp only
  refine aa (.symm (I3 ..)) ?_
  simp only [rD,Kw]
  unfold Jl
  refine ah (ah (ah (bz (ah (F_ rm.2.2.2 X.i ⟨o,Q,R,k,S⟩ (U.none (mn (List.drop_eq_nil_iff.mp hd))) λh' e L hz hT=>?_)))))
  refine ah (Bv (T:="StopIteration") (b:=true) hT zN ?_)
  refine aA (st.gp (s':={s with heap:=h'}) (M:=λb=>b=li) (λb e=>e▸(q _ (.inl rfl)).1) (λb ob hb e=>L b ob hb e) hz rfl rfl) λd p=>?_
  exact aD ⟨rfl,G,p.weaken λc x=>.inl x,d⟩
 shift:=λ{G h G' h' xs} jk K q=>aL jk λj X=>⟨j,q _ _ (.inr (.inr rfl)) X.m,q _ _ (.inr (.inl rfl)) X.t,aw X.i λol q1 q2=>⟨ol,q _ _ (.inl rfl) q1,q2⟩,X.r.keep K,X.e⟩
end
end
section
section
variable {W:Wd} {n:Nat} {si:SI}
theorem GJ{F:FM}{σ:MH}:∀{b c},vI F σ b=some c->c=b.map (λy=>((F [y] σ).map (·.1)).getD .none)/\∀y∈b,∃p,F [y] σ=some p
 | [],_,e=>sj e ⟨rfl,λa h=>nomatch h⟩
 | y::b,_,e=>ob e λp d e=>ob e λc i e=>sj e (by
  refine aA (GJ i) λf g=>?_
  exact⟨by exact aa (eK ..)<|aa (d ..)<|aa (.symm (f ..)) rfl,λk j=>(List.mem_cons.mp j).elim (λq=>⟨p,q▸d⟩) (g k)⟩)
theorem Step.drop{fq G':Gh}{d e h':aN}{own:aq->Prop}{L:aq}(j:∀b o,d.get? b=some o->e.get? b=some o)(i:∀b,own b->d.objs.size<=b)(h:d.objs.size<=L)(k:d.objs.size<=e.objs.size)
 (S:Step W (λa=>own a∨a=L) {fq with fr:=λb=>(fq.fr b∨own b)∨b=L} e G' h'):Step W bf fq d {G' with fr:=fq.fr} h':=
 qy (G:=fq) (iL:=e) (M:=λa=>own a∨a=L) (λb y=>y.elim (i b) λq=>by exact aa (q ..)<|h) j k (λa l=>⟨λf=>aA f λx y=>⟨x.elim (λx=>x.elim id λz=>absurd l (Nat.not_lt.mpr (i a z))) λq=>absurd l (Nat.not_lt.mpr (by exact aa (q ..)<|h)),y⟩,λg=>aA g λx y=>⟨.inl (.inl x),y⟩⟩) S.ou (S.weaken λc y=>.inr y)
theorem vu{h:aN}{l:aq}{e:Array af}{k:Nat}{o:bu}(f:h.get? l=some o)(a:o.cls=.type "list")(b:o.data=.seq e k):h.get? l=some {cls:=.type "list",dict:=o.dict,data:=.seq e k,slots:=o.slots}:=by
 refine aa (f ..) ?_;obtain⟨c,d,g,i⟩:=o;dsimp only at a b;exact aa (a ..)<|aa (b ..) rfl
theorem Ev.qH{x e p p1 R pos z m F a}(ok:W.Ok)(B:iv W si "tuple" (.type "tuple"))(T:iv W si "map" (.type "map"))
 (Y:si.kind x=some .globalImplicit) (V:(au x==("__debug__" :aj))=false) (X:W.mg (au x)=some (.ref a)) (hF:ba W n a (fO F))
 (he:Ev W (n+6) si e m) (H:∀f,bB [.Name (au x) R,e] f= [(false,aU (.Name (au x) R) f),(false,aU e f)]) (Q:∀f,bB [e] f= [(false,aU e f)])
 (hx:∀f,bB [.Call (.Name (au "map") p1) [.Name (au x) R,e] [] z] f= [(false,aU (.Call (.Name (au "map") p1) [.Name (au x) R,e] [] z) f)]):
 Ev W (n+6) si (.Call (.Name (au "tuple") p) [.Call (.Name (au "map") p1) [.Name (au x) R,e] [] z] [] pos) (.qH (fO F) m):=λ{A f M G s ρ σ r} rm st Fr h=>
 ob h λq e1 h=>ob h λys Ql h=>ob h λzs Qo h=>sj h (by
  refine aA (GJ Qo) λez O=>?_
  refine aa (jB ..) ?_
  refine ah (g8 ok st Fr B.hk B.hb (.inr ⟨B.hg,B.hm⟩) (j7 rfl (kH (by exact aa (hx ..) rfl)) (oI (λf=>by exact aa (hx ..) rfl) (l8 ?_ (by exact aa (hx ..) rfl)))))
  refine aa (jB ..) ?_
  refine ah (g8 ok st Fr T.hk T.hb (.inr ⟨T.hg,T.hm⟩) (j7 rfl (kH (by exact aa (H ..) rfl)) (oI (λf=>by exact aa (H ..) rfl) (l8 (g8 ok st Fr Y V (.inl X) (l8 (bR he rm st Fr e1 λ{j ak v} S i K r=>qM ?_) (by exact aa (Q ..) rfl))) (by exact aa (H ..)<|aa (Q ..) rfl)))))
  refine r.listE Ql λ{l ol us k} e7 fz e2 e3 e4 e5 e6=>?_
  have I:∀(h:aN) (o:bu),(h.push o).objs.size=h.objs.size+1:=λh o=>c9 ..
  refine DU Nx (by decide) (Wa _ _) (SN _ _) (λobj=>Dl obj _ _) OD (Si (.ref a) l us k ol.dict ol.slots) ⟨vu e2 e3 e5,?_⟩
  let t:aN:=((ak.heap.push {cls:=.type "list_iterator",data:=.fields #[.ref l,.int 0 0]}).push (wC ak.heap.objs.size)).push (vJ (ak.heap.objs.size+1) a)
  have u:t.get? (ak.heap.objs.size+2)=some (vJ (ak.heap.objs.size+1) a):=nT (by exact aa (I ..)<|aa (I ..) rfl) rfl
  have P:t.get? (ak.heap.objs.size+1)=some (wC ak.heap.objs.size):=bH _ (nT (by exact aa (I ..) rfl) rfl)
  have Z:t.get? ak.heap.objs.size=some {cls:=.type "list_iterator",data:=.fields #[.ref l,.int 0 0]}:=bH _ (bH _ (nT rfl rfl))
  have hsz:t.objs.size=ak.heap.objs.size+3:=by exact aa (I ..)<|aa (I ..)<|aa (I ..) rfl
  have E:ak.heap.objs.size<=t.objs.size:=by exact aa (hsz ..)<|Nat.le_add_right _ _
  have D:∀b o,ak.heap.get? b=some o->t.get? b=some o:=λb o e=>bH _ (bH _ (bH _ e))
  refine⟨⟨_,u,rfl⟩,qM ?_⟩
  show ar W.M A (bM (.type "tuple") [.ref (ak.heap.objs.size+2)] []) _ _ _
  let own:aq->Prop:=λb=>b=ak.heap.objs.size∨b=ak.heap.objs.size+1∨b=ak.heap.objs.size+2
  have w:∀b,own b->ak.heap.objs.size<=b/\b<t.objs.size:=λb hb=>by
   exact aa (hsz ..)<|hb.elim (λq=>by exact aa (q ..)<|⟨bb _,ff (by decide)⟩) λhb=>hb.elim (λq=>by exact aa (q ..)<|⟨dD _,gZ (by decide) _⟩) λq=>by exact aa (q ..)<|⟨cy _ _,gZ (by decide) _⟩
  refine aA (jE (b3:={ak with heap:=t}) (M:=own) i w D E rfl rfl) λJ N=>?_
  have it:=ju.map (m:=ak.heap.objs.size+2) (tp:=ak.heap.objs.size+1) (li:=ak.heap.objs.size) (l:=l) (σ:=q.2) (g:=λy=>((fO F [y] q.2).map (·.1)).getD .none) (ys:=ys) hF λy hy=>by
   refine aL (O y hy) λp t=>?_
   exact aa (t ..)<|congrArg some (Prod.ext rfl (ob t λd c e=>sj e rfl))
  have C:Fo A {j with fr:=λb=>j.fr b∨own b} t:=aw K.ku λfs e k=>⟨fs,e,λy hy=>aA (k y hy) λk1 AR=>dG AR λL k2 k3 k4 s_=>aw s_ λo k5 k6=>⟨k1,L,k2,.inl k3,k4,o,D _ _ k5,k6⟩⟩
  refine bD (V6 (s:={ak with heap:=t}) (n:=n+1) (xs:=zs) ⟨it,⟨QS,rfl,λhh q=>UY ⟨_,hh,rfl⟩ q⟩,u,J,C,λb hb=>⟨.inr hb,λy=>absurd (i.inv.b0 b (i.inv.b8 b y)).2.1 (Nat.not_lt.mpr (w b hb).1)⟩,⟨0,u,P,⟨_,Z,rfl,rfl⟩,(Rep.list e7 fz e2 e3 e4 e5 e6).keep N,ez⟩,by exact aa (ez ..)<|aa (aZ ..)<|e7⟩ rm) λv s' jj=>bI jj λG' U Ba r'=>?_
  have L:=kV (fr:=j.fr) Ba (λb x=>by exact aa (U.fr ..)<| .inl (.inl x)) λb y=>i.inv.b8 b (by exact aa (.symm (show G'.ou=j.ou from U.ou))<|y)
  exact Out.trans S ⟨{G' with fr:=j.fr},Step.drop (own:=own) (λb o e=>bH _ (D b o e)) (λb y=>(w b y).1) E (by exact aa (I ..)<|Nat.le_succ_of_le E) U,L.1,r'.keep L.2⟩)
end
end
section
section
variable {W:Wd} {n:Nat} {si:SI}
theorem Op.Ak:bL W n (kL .Mult) (cm GW):=bL.pure λs st l m e=>ob e λx g e=>ob e λk f e=>og e λh e=>sj e (l.c8 g λt a a=>m.gB f λo=>by
 refine eP h λb p q d=>?_
 refine aA (kY d) λi j=>?_
 refine SB.mul ⟨?_,λc a=>?_,λc a=>?_⟩ λo r=>.tok st (.str _ _ i j)
 .simp only [Je,decide_eq_false_iff_not];omega
 .refine aa (b ..) ?_
  have:(1:Int)<=(2 ^ 63 - 1) / k:=Int.le_ediv_of_mul_le (by omega) (by omega)
  omega
 .refine aa (b ..) ?_;delta Xn gF;simp;omega)
theorem dY.never{xs}:dY W n si xs .never:=λa a a e=>aY e
theorem bG.binop{l op r b d g f}(m:CJ W n (kL op) f)(hl:Ev W n si l d)(o:Ev W n si r g):bG W n si (.BinOp l op r b) (.bh f d g):=λh st F e=>
 ob e λp i e=>ob e λq j k=>wpAny_BinOp (r8 hl o h st F i j λS c a s t=>BA S (m h c s t k))
theorem xQ.add:CJ W n (kL .Add) ui:=λ{A G s σ v u d e r} Q st O P h=>
 ob h λxs E h=>ob h λR H h=>og h λy h=>sj h (fL st O E λ{a p} J B c=>fL st P H λ{b t} L C c=>by
  refine bI J λz x w l=>?_;refine aL l λk D=>?_
  refine bI L λi g f m=>?_;refine aL m λI j=>?_
  have e:p++t=(p.toList++t.toList).toArray:=by simp
  have M:=vu x w D
  have N:=vu g f j
  refine N8 ⟨_,x,w⟩ ⟨_,g,f⟩ S7 U0 LA Ly (Lv _ _) (list_addW a b p t k I z.dict i.dict z.slots i.slots (by exact aa (eX B ..)<|aa (eX C ..)<|Nat.le_trans y f9)) ⟨M,N,?_⟩
  exact aa (e ..)<|dy.grown st (λb o q=>bH _ q) (bb _) (by exact aa (c9 ..)<|Nat.lt_succ_self _) rfl rfl λG' K=>⟨by exact aa (bF ..)<|y,_,_,0,c5 _ rfl,rfl,⟨rfl,rfl⟩,rfl,by simpa using (B.append C).keep K⟩)
end
end
section
section
variable {W:Wd} {A:aO} {E:af->ai->Prop}
theorem strs_size{ps:List (aj×de)}{a:Array af}(h:a.toList=iP ps):a.size=ps.length:=(congrArg pN h).trans (aZ _)
theorem Io{ps:List (aj×de)}{a:Array af}(h:a.toList=iP ps){i:Nat}(b:i<ps.length):a[i]?=some (.str ps[i].1 ps[i].2):=
 Array.getElem?_toList.symm.trans (aa h (List.getElem?_map.trans (aa (gL b) rfl)))
theorem QT{P:Prop} [Decidable P]{c i:Nat}(h:c<=i):(if P then c else c+1)<=i+1:=by split;exact gN h;exact jZ h
theorem Va{S I l:aq}{d:Array af}{ps:List (aj×de)}(V:d.toList=iP ps)(K:S≠l)(j:S≠I)(E:I≠l)(hz:d.size+1<qu){R:hZ->ai->Prop}(Z:A.handled=none):
 ∀(k i:Nat) (s:ai) (c:Nat),ps.length - i=k->s.heap.IsListIter I l i->s.heap.IsList l d->c<=i->s.heap.SetOf (strKind W.prog W.w) S (λq=>decide (q∈(ps.take i).map (·.1))) c->
   (∀h' Q y,h'.SetOf (strKind W.prog W.w) S (λq=>decide (q∈ps.map (·.1))) y->(∀b o,b≠S->b≠I->s.heap.get? b=some o->h'.get? b=some o)->R (.ok (.ret .none)) {s with heap:=h',toks:=Q})->
   eU W.M A (.builtin "set.update.loop" ⟨[.ref S,.ref I],[]⟩) R s:=by
 have h:=strs_size V
 intro k
 induction k with
 | zero=>
  intro i s c x C hl L v G
  have t:=pS x
  refine fN Lq ?_
  refine aa (gH CR _ ..) ?_
  show ar _ A.in1 (f7 (.ref I)>>=_) _ _ s
  refine ah (WS Z C hl (tO (aE (bN h) t)) λh' X=>?_)
  refine aD (G h' s.toks c ?_ λb o a hb e=>X b o hb e)
  rw [xE t] at v
  exact qT v λo B z P f rest=>⟨o,B,z,P,X _ _ j f,rest⟩
 | succ k ih=>
  intro i s c x C hl L v G
  have p:=kX x
  refine fN Lq ?_
  refine aa (gH CR _ ..) ?_
  show ar _ A.in1 (f7 (.ref I)>>=_) _ _ s
  refine ah (WT C hl (Io V p) λh' D O=>?_)
  have H:h'.SetOf (strKind W.prog W.w) S (λq=>decide (q∈(ps.take i).map (·.1))) c:=qT v λo B z P f rest=>⟨o,B,z,P,O.extBut _ _ j f,rest⟩
  have N:h'.IsList l d:=aw hl λo f rest=>⟨o,O.extBut _ _ E.symm f,rest⟩
  show ar _ A.in1 (kf [Value.str _ _] (setAdd S (.str _ _))>>=_) _ _ _
  refine ah (bz ?_)
  delta setAdd
  refine bz ?_
  have g:(strKind W.prog W.w).is ps[i].1 (.str ps[i].1 ps[i].2)=true:=jI _ _
  refine ah ((strKind W.prog W.w).pyHash g ?_)
  refine wpAny_setAddHashed_of (knd:=strKind W.prog W.w) g rfl H (ee (jZ L) (ee (jZ (jy (h▸p))) hz)) λY r J=>?_
  refine aD ⟨g_ CR _,ih (i+1) _ (if decide (ps[i].1∈(ps.take i).map (·.1)) then c else c+1) (m5 x) ?_ ?_ (QT L) ?_ λu Q y m n=>?_⟩
  .exact aw D λo f rest=>⟨o,r.extBut _ _ j.symm f,rest⟩
  .exact aw N λo f rest=>⟨o,r.extBut _ _ K.symm f,rest⟩
  .refine xX J (λq=>?_) rfl
   refine aa (List.take_add_one ..)<|aa (gL p) ?_
   simp only [Option.toList_some,ey,eK,rE,n4,pO,Jc]
  .exact G u Q y m λb o T U e=>n b o T U (r.extBut _ _ T (O.extBut _ _ U e))
theorem U9{s:ai}{l S:aq}{c:Array af}{ps:List (aj×de)}{d:Bool}(D:c.toList=iP ps)(hl:s.heap.IsList l c)(B:A.handled=none)(G:c.size+1<qu)(r:S≠l)
 (v:s.heap.get? S=some {cls:=.type "set",dict:=none,data:=.set #[] 0 (.fresh 0 0 d)}) {Q:xY->ai->Prop}
 (h:∀h' u j,h'.SetOf (strKind W.prog W.w) S (λq=>decide (q∈ps.map (·.1))) j->(∀b o,b≠S->s.heap.get? b=some o->h'.get? b=some o)->Q (.done (.ret .none)) {s with heap:=h',toks:=u}):
 ar W.M A (bE.«set.__init__» ⟨[.ref S,.ref l],[]⟩) Q E s:=by
 refine sF hl λa a a t=>?_
 have y:=F.sub_list_set
 have x:=F.sub_list_frozenset
 have f:=b9 v
 have i:=b9 t
 delta bE.«set.__init__» noKeywords Xi
 generalize m:ik=PI
 wp_walk
 subst m
 refine tH hl ?_
 refine ah (IT ?_)
 have p:S≠s.heap.objs.size:=bj f
 have k:s.heap.objs.size≠l:=dc i
 refine Va D r p k G (by simp [B]) _ 0 _ 0 rfl ⟨_,c5 _ rfl,rfl,rfl⟩ (hl.push _) (bb _) ?_ λh' u j n C=>?_
 .have g:(s.heap.push {cls:=.type "list_iterator",data:=.fields #[.ref l,.int 0 0]}).get? S=some {cls:=.type "set",dict:=none,data:=.set #[] 0 (.fresh 0 0 d)}:=bH _ v
  exact xX ((Lr (knd:=strKind W.prog W.w) d).setOf g (by delta qu;lia)) (λa=>by simp) rfl
 .refine aD ?_
  exact aD (h h' u j n λb o z e=>C b o z (bj (b9 e)) (bH _ e))
set_option maxHeartbeats 1600000 in
theorem Nv{s:ai}{l:aq}{f:Array af}{ps:List (aj×de)}{Q:af->ai->Prop}(H:f.toList=iP ps)(hl:s.heap.IsList l f)(D:A.handled=none)(I:f.size+1<qu)
 (h:∀h' z n,h'.SetOf (strKind W.prog W.w) s.heap.objs.size (λq=>decide (q∈ps.map (·.1))) n->(∀b o,s.heap.get? b=some o->h'.get? b=some o)->Q (.ref s.heap.objs.size) {s with heap:=h',toks:=z}):
 ar W.M A (bM (.type "set") [.ref l]) Q E s:=by
 have i:=F.called_set.mro
 refine ew i λc tl i=>?_
 have J:=F.called_set.made
 have K:=F.called_set.sub
 have L:=F.called_set.notType
 have N:=F.called_set.canCreate
 have O:=F.typeCall_set_1 (.ref l)
 have t:s.heap.objs.size≠l:=by refine aw hl λo e a=>?_;exact dc (b9 e)
 refine jT (uE ?_)
 show ar _ _ (uz (.type "set") _) _ _ _
 refine aD ⟨xa _ (by decide+kernel),fN F.entry_type_call ?_⟩
 refine aa (Around.under_plain (weight_type_call_type "set" [.ref l] []) rfl ..) ?_
 repeat (any_goals (first| assumption| wp_step))
 refine g6 (code_set_new_1 (.ref l) (E:=E) (Q₁:=λk ak=>∃g:Bool,k=.ref s.heap.objs.size/\ak= {s with heap:=s.heap.push {cls:=.type "set",dict:=none,data:=.set #[] 0 (.fresh 0 0 g)}}) λg=>⟨g,rfl,rfl⟩) λr ak u=>?_
 rcases r with e| (k| _| _| _)
 .exact u
 rotate_left
 all_goals try exact u.elim
 refine aw u λg v x=>?_;obtain rfl:=v;obtain rfl:=x
 have B:(s.heap.push {cls:=.type "set",dict:=none,data:=.set #[] 0 (.fresh 0 0 g)}).get? s.heap.objs.size=some {cls:=.type "set",dict:=none,data:=.set #[] 0 (.fresh 0 0 g)}:=c5 _ rfl
 have C:LK {s with heap:=s.heap.push {cls:=.type "set",dict:=none,data:=.set #[] 0 (.fresh 0 0 g)}} (.ref s.heap.objs.size) "set" :=⟨_,B,rfl⟩
 have P:=F.called_set.init.lookup
 have S:=F.called_set.init.bind (.ref s.heap.objs.size)
 repeat (any_goals (first| assumption| wp_step))
 refine g6 (mK (R:=wants (λr j=>r=.none/\Q (.ref s.heap.objs.size) j) E) F.called_set.init.plain F.entry_set_init (check_set_init_1 C (U9 (W:=W) H (hl.push _) (by simp [D]) I t B λh' z n p G=>?_))) λm j d=>?_
 .exact⟨rfl,h h' z n p λb o e=>G b o (bj (b9 e)) (bH _ e)⟩
 .rcases m with e| (k| _| _| _)
  .exact d
  rotate_left
  all_goals try exact d.elim
  refine aA d λy T=>?_;obtain rfl:=y
  repeat (any_goals (first| assumption| wp_step))
end
end
section
theorem entry_set_ga:i_ jl "set.__getattribute__" =some bE.«object.__getattribute__»:=
 zf (id':="object.__getattribute__") (by kernel_rfl) (by first| rfl| decide+kernel) (by decide+kernel) (by kernel_rfl)
theorem Rz:gr (.type "method_descriptor") "__get__" =pure (some (.builtin "method_descriptor.__get__")):=by refine aa (e_ ..)<|aa (eS ..) ?_;kernel_rfl
theorem RB:gr (.type "method_descriptor") "__set__" =pure none:=by refine aa (e_ ..)<|aa (eS ..) ?_;kernel_rfl
theorem Rx:gr (.type "method_descriptor") "__delete__" =pure none:=by refine aa (e_ ..)<|aa (eS ..) ?_;kernel_rfl
theorem H3:iz "method_descriptor" "__get__" "method_descriptor.__get__" :=
 .of (owner:="method_descriptor") (n:="__get__") (by refine aa (e_ ..)<|aa (eS ..) ?_;kernel_rfl) (by decide+kernel) (by decide+kernel) (by decide+kernel)
  (by first| exact .inl (by decide+kernel)| exact .inr (by decide+kernel)) (by refine aa (eE ..) ?_;kernel_rfl)
theorem OE:i_ jl "method_descriptor.__get__" =some bE.«method_descriptor.__get__»:=oG (by kernel_rfl)
theorem Mm(a b c:af):gj "method_descriptor.__get__" ⟨[a,b,c],[]⟩:=by delta gj;kernel_rfl
theorem H4:iz "wrapper_descriptor" "__get__" "wrapper_descriptor.__get__" :=
 .of (owner:="wrapper_descriptor") (n:="__get__") (by refine aa (e_ ..)<|aa (eS ..) ?_;kernel_rfl) (by decide+kernel) (by decide+kernel) (by decide+kernel)
  (by first| exact .inl (by decide+kernel)| exact .inr (by decide+kernel)) (by refine aa (eE ..) ?_;kernel_rfl)
theorem OG:i_ jl "wrapper_descriptor.__get__" =some bE.«wrapper_descriptor.__get__»:=oG (by kernel_rfl)
theorem Mn(a b c:af):gj "wrapper_descriptor.__get__" ⟨[a,b,c],[]⟩:=by delta gj;kernel_rfl
theorem TZ: ".".intercalate ("set.__contains__".cutAt '.').dropLast= "set" :=by decide+kernel
theorem VF:jJ (.type "set") (.type (".".intercalate ("set.__contains__".cutAt '.').dropLast))=pure true:=by refine aa (TZ ..)<|aa (eE ..) ?_;kernel_rfl
section
variable {prog:eA} {w:eC} {A:aO} {E:af->ai->Prop}
theorem Sf{s:ai}{a:aq}{o:bu}{R:hZ->ai->Prop}(e:s.heap.get? a=some o)(c:o.cls=.type "set")
 (h:R (.ok (.ret (.ref s.heap.objs.size))) {s with heap:=s.heap.push {cls:=.type "builtin_function_or_method",data:=.fields #[.builtin "set.__contains__",.ref a]}}):
 eU (bX prog w) A (.call (.builtin "method_descriptor.__get__") ⟨[.builtin "set.__contains__",.ref a,.type "set"],[]⟩) R s:=by
 have k:s.TypeIs (.ref a) "set" :=⟨_,e,c⟩
 have b:s.TypeIs (.builtin "set.__contains__") "method_descriptor" :=BY
 refine mK H3.plain OE (H3.check _ _ _ _ _ _ _ _ b (Mm _ _ _) ?_)
 have i:=BY
 have j:=VF
 obtain⟨l,g,d,f,os⟩:=s
 repeat (any_goals (first| assumption| wp_step))
theorem O_{s:ai}{a:aq}{o:bu}{p:de}{Q:xY->ai->Prop}(i:s.heap.get? a=some o)(e:o.cls=.type "set")(f:o.dict=none){m:Array (Int×af)}{l:Nat}{n:CU}(b:o.data=.set m l n)
 (h:Q (.done (.ret (.ref s.heap.objs.size))) {s with heap:=s.heap.push {cls:=.type "builtin_function_or_method",data:=.fields #[.builtin "set.__contains__",.ref a]}}):
 ar (bX prog w) A (bE.«object.__getattribute__» ⟨[.ref a,.str "__contains__" p],[]⟩) Q E s:=by
 obtain⟨c,k,j,B⟩:=o
 simp only at e f b
 subst e f b
 have y:s.TypeIs (.ref a) "set" :=⟨_,i,rfl⟩
 have r:=F.slot_set_contains.lookup
 have t:=BY
 have u:=Rz
 have v:=RB
 have x:=Rx
 obtain⟨z,g,d,q,os⟩:=s
 delta bE.«object.__getattribute__»
 repeat (any_goals (first| assumption| wp_step))
 exact Sf i rfl (aD h)
theorem Pb{s:ai}{a:aq}{o:bu}{expr:Bool}{Q:af->ai->Prop}(l:s.heap.get? a=some o)(j:o.cls=.type "set")(k:o.dict=none){r:Array (Int×af)}{q:Nat}{v:CU}(e:o.data=.set r q v)
 (h:∀m,Q (.ref s.heap.objs.size) {s with heap:=s.heap.push {cls:=.type "builtin_function_or_method",data:=.fields #[.builtin "set.__contains__",.ref a]},toks:=m}):
 ar (bX prog w) A (kS (.ref a) "__contains__" expr) Q E s:=by
 obtain⟨u,g,d,m,os⟩:=s
 obtain⟨c,p,n,z⟩:=o
 simp only at j k e
 subst j k e
 have i:∀f,(⟨u,g,d,f,os⟩:ai).TypeIs (.ref a) "set" :=λb=>⟨_,l,rfl⟩
 have x:=F.slot_set_getattribute.lookup
 have y:=F.slot_set_getattribute.bind (.ref a)
 have t:(expr && Hc (rO "set.__getattribute__"))=false:=tR _
 delta kS E6
 repeat (any_goals (first| assumption| exact i _| ((with_reducible show ar _ _ (rV _ _ _ _) _ _ _);delta rV;refine aa (t ..)<|aa (if_neg (by decide)) ?_;delta DF)|
  ((with_reducible show ar _ _ (bM (rO "set.__getattribute__") _ _) _ _ _);refine jT (mK F.slot_set_getattribute.plain entry_set_ga (F.slot_set_getattribute.check _ _ _ _ _ _ _ _ (i _) (F.args_set_getattribute_2 _ _) (O_ l rfl rfl rfl ?_))))| wp_step))
 exact h _
end
end
section
section
variable {W:Wd} {A:aO} {E:af->ai->Prop}
theorem QA{s:ai}{a:aq}{x:aj}{t:de}{S:aj->Bool}{n:Nat}{Q:xY->ai->Prop}(c:s.heap.SetOf (strKind W.prog W.w) a S n)(h:∀e,Q (.done (.ret (.bool (S x)))) {s with toks:=e}):
 ar W.M A (bE.«frozenset.__contains__» ⟨[.ref a,.str x t],[]⟩) Q E s:=by
 have b:(strKind W.prog W.w).is x (.str x t)=true:=jI x t
 delta bE.«frozenset.__contains__» Jh
 simp only [List.isEmpty_nil,bind_assoc]
 delta Jg Xj setContains
 refine ah (aD ?_)
 try dsimp only
 refine ah (aD ?_)
 try dsimp only
 refine ah (wM ?_)
 refine bz ?_
 refine ah ((strKind W.prog W.w).pyHash b ?_)
 refine ah (wpAny_setFind_of (s:={s with toks:=s.toks+1}) b rfl c λr d=>?_)
 refine aD ?_
 show ar _ _ (ret (n9 r.isSome)) _ _ _
 exact aa (d ..)<|wpAny_pure (h _)
theorem Nt{s:ai}{a b:aq}{x:aj}{t:de}{S:aj->Bool}{n:Nat}{Q:af->ai->Prop}(hb:s.heap.get? b=some {cls:=.type "builtin_function_or_method",data:=.fields #[.builtin "set.__contains__",.ref a]})
 (j:s.heap.SetOf (strKind W.prog W.w) a S n) (h:∀v,Q (.bool (S x)) {s with toks:=v}):ar W.M A (bM (.ref b) [.str x t]) Q E s:=by
 refine jT (uE ?_)
 show ar _ _ (uz (.ref b) _) _ _ _
 delta uz
 refine ah (nG hb ?_)
 dsimp only
 refine aa (if_pos (by decide+kernel)) ?_
 have G:=j.typeIs
 have u:ar W.M A.in1 (yO "set.__contains__" ⟨[.ref a,.str x t],[]⟩) (λf m=>m=s) (λf f=>False) s:=by
  delta yO
  obtain⟨o,B,z,K,H,k,l,-⟩:=id j
  have i:=k.1
  obtain⟨c,q,p,J⟩:=o
  dsimp only at i l
  subst i l
  obtain⟨I,g,d,y,os⟩:=s
  have C:jJ (.type "set") (.type "module")=pure false:=by refine aa (eE ..) ?_;kernel_rfl
  have D:jJ (.type "set") (.type "type")=pure false:=by refine aa (eE ..) ?_;kernel_rfl
  have r:(Manifest.varargsMethods.contains "set.__contains__" || false)=false:=by decide+kernel
  repeat (any_goals (first| assumption| (refine aa (r ..)<|aa (if_neg (by decide)) ?_)| ((with_reducible show ar _ _ (I_ _ _ _) _ _ _);refine hK (a:=()) (by kernel_rfl) rfl)| wp_step))
 refine ah (gW u (λf m e=>?_) λf f x=>x.elim)
 subst e
 exact aD ⟨xa _ (by decide+kernel),fN entry_set_contains (by
  exact aa (gH F.slot_set_contains.plain _ ..)<|QA j h)⟩
end
end
section
section
variable {W:Wd} {A:aO}
structure jW(W:Wd)(h:aN)(fo b a li l:aq)(items:Array af)(S:List aj)(j:Nat):Prop where
 fo:h.get? fo=some {cls:=.type "filter",data:=.fields #[.ref b,.ref li]}
 li:h.IsListIter li l j
 l:h.IsList l items
 b:h.get? b=some {cls:=.type "builtin_function_or_method",data:=.fields #[.builtin "set.__contains__",.ref a]}
 a:∃n,h.SetOf (strKind W.prog W.w) a (λq=>decide (q∈S)) n
theorem wF{a b:String}(h:a≠b):kF a≠kF b:=λe=>h (X8 e)
theorem vP{h:aN}{a b:aq}{o d:bu}{c:af}(f:h.get? a=some o)(hb:h.get? b=some d)(g:d.cls=c)(i:o.cls≠c):a≠b:=λe=>i ((congrArg Obj.cls (aM (f.symm.trans (e▸hb)))).trans g)
theorem jW.but{h h':aN}{fo b a i l:aq}{f:Array af}{S:List aj}{j q:Nat}(x:jW W h fo b a i l f S j)(g:ly i h h')(hl:h'.IsListIter i l q):jW W h' fo b a i l f S q:=
 bI x.li λd m p d=>⟨g _ _ (vP x.fo m p (wF (by decide))) x.fo,hl,aw x.l λo e r=>⟨o,g _ _ (vP e m p (r.1▸wF (by decide))) e,r⟩,g _ _ (vP x.b m p (wF (by decide))) x.b,
  aL x.a λn k=>wQ k λo t s u e c r=>⟨n,o,t,s,u,g _ _ (vP e m p (c.1▸wF (by decide))) e,c,r⟩⟩
theorem uR{ps:List (aj×de)}{j:Nat}{p:aj->Bool}(a:j<ps.length):((ps.drop j).map (·.1)).filter p=if p ps[j].1 then ps[j].1::((ps.drop (j+1)).map (·.1)).filter p else ((ps.drop (j+1)).map (·.1)).filter p:=
 aa (Ce a) nY
theorem OQ{ps:List (aj×de)}{j:Nat}{p:aj->Bool}(h:ps.length - j=0):((ps.drop j).map (·.1)).filter p= []:=aa (List.drop_eq_nil_iff.mpr (pS h)) rfl
theorem EP{fo b a g l:aq}{c:Array af}{S:List aj}{ps:List (aj×de)}(p:c.toList=iP ps){R:hZ->ai->Prop}{j:Nat}{s:ai}(o:j<ps.length)(f:jW W s.heap fo b a g l c S j)
 (q:decide (ps[j].1∈S)=true->∀h' e,jW W h' fo b a g l c S (j+1)->hO g s.heap h'->R (.ok (.ret (.str ps[j].1 ps[j].2))) {s with heap:=h',toks:=e})
 (r:decide (ps[j].1∈S)=false->∀h' e,jW W h' fo b a g l c S (j+1)->hO g s.heap h'->eU W.M A (.builtin "filter.__next__" ⟨[.ref fo],[]⟩) R {s with heap:=h',toks:=e}):
 eU W.M A (.builtin "filter.__next__" ⟨[.ref fo],[]⟩) R s:=by
 refine fN Ez ?_
 refine aa (gH sZ _ ..) ?_
 unfold bE.«filter.__next__»
 refine ah (hK (a:=(eB fo,([]:List af))) rfl ?_)
 refine ah (ir f.fo rfl rfl ?_)
 refine ah (ir f.fo rfl rfl ?_)
 refine ah (Ga f.li f.l (Io p o) λh' h i=>?_)
 dsimp only
 have d:=f.but i.extBut h
 refine aL d.a λn m=>?_
 refine ah (bz ?_)
 refine aa (if_neg (by nofun)) ?_
 refine ah (Nt (s:={s with heap:=h'}) d.b m λe=>?_)
 refine bz (IU ?_)
 induction k:decide (ps[j].1∈S) with
 | true=>exact aD (q k h' e d i)
 | false=>exact aD ⟨g_ sZ _,r k h' e d i⟩
theorem EO{fo b a w l:aq}{c:Array af}{S:List aj}{ps:List (aj×de)}(y:c.toList=iP ps){q:aj}{C:List aj}{R:hZ->ai->Prop}:
 ∀(k j:Nat) (s:ai),ps.length - j=k->jW W s.heap fo b a w l c S j->((ps.drop j).map (·.1)).filter (λx=>decide (x∈S))=q::C->
   (∀h' tk t B,jW W h' fo b a w l c S B->((ps.drop B).map (·.1)).filter (λx=>decide (x∈S))=C->hO w s.heap h'->R (.ok (.ret (.str q t))) {s with heap:=h',toks:=tk})->
   eU W.M A (.builtin "filter.__next__" ⟨[.ref fo],[]⟩) R s
 | 0,j,s,i,z,p,r=>nomatch (OQ i).symm.trans p
 | k+1,j,s,i,z,p,r=>EP y (kX i) z
  (λu h' tk f v=>aA (rz (((uR (kX i)).trans (if_pos u)).symm.trans p)) λD E=>D▸r h' tk _ (j+1) f E v)
  (λu h' tk f v=>EO y k (j+1) _ (m5 i) f (((uR (kX i)).trans (if_neg (by rw [u];nofun))).symm.trans p) λm h o n g d e=>r m h o n g d (v.trans e))
theorem EN{fo b a y l:aq}{c:Array af}{S:List aj}{ps:List (aj×de)}(u:c.toList=iP ps){R:hZ->ai->Prop}(w:A.handled=none):
 ∀(k j:Nat) (s:ai),ps.length - j=k->jW W s.heap fo b a y l c S j->((ps.drop j).map (·.1)).filter (λx=>decide (x∈S))= []->
   (∀h' o e,ly y s.heap h'->s.heap.objs.size<=h'.objs.size->({s with heap:=h',toks:=o}:ai).TypeIs (.ref e) "StopIteration" ->R (.error (.ref e)) {s with heap:=h',toks:=o})->
   eU W.M A (.builtin "filter.__next__" ⟨[.ref fo],[]⟩) R s
 | 0,j,s,g,h,t,p=>by
  refine fN Ez ?_
  refine aa (gH sZ _ ..) ?_
  unfold bE.«filter.__next__»
  refine ah (hK (a:=(eB fo,([]:List af))) rfl ?_)
  refine ah (ir h.fo rfl rfl ?_)
  refine ah (ir h.fo rfl rfl ?_)
  exact ah (F_ w h.li h.l (tO (aE (bN (strs_size u)) (pS g))) λh' e i v q=>p h' s.toks e i v q)
 | k+1,j,s,g,h,t,p=>EP u (kX g) h
  (λr h' o m i=>nomatch ((uR (kX g)).trans (if_pos r)).symm.trans t)
  (λr h' o m i=>EN u w k (j+1) _ (m5 g) m (((uR (kX g)).trans (if_neg (by rw [r];nofun))).symm.trans t) λn f e d v q=>p n f e (λb ob hb e=>d b ob hb (i.extBut b ob hb e)) (by exact aa (.symm (i.1 ..))<|v) q)
end
end
section
section
variable {W:Wd} {n:Nat} {si:SI}
def xi(W:Wd)(σ:MH)(fo b a c l:aq)(d:D)(e S:List aj):Gh->aN->List D->Prop:=λG h xs=>
 ∃j,h.get? fo=some {cls:=.type "filter",data:=.fields #[.ref b,.ref c]}/\h.IsListIter c l j/\h.get? b=some {cls:=.type "builtin_function_or_method",data:=.fields #[.builtin "set.__contains__",.ref a]}/\
  (∃n,h.SetOf (strKind W.prog W.w) a (λq=>decide (q∈S)) n)/\bJ W G b/\bJ W G a/\Rep W G h (.ref l) d/\bU σ d=some (e.map .str)/\xs=((e.drop j).filter (λx=>decide (x∈S))).map .str
theorem Il:∀a:List aj,strsOf (a.map .str)=some a
 | []=>rfl
 | y::a=>by show(strsOf (a.map .str)).bind _=_;exact aa (Il a ..) rfl
theorem xi.at{σ:MH}{fo b a m l:aq}{d:D}{e S:List aj}{G:Gh}{s:ai}{xs:List D}(st:St W G s σ)(h:xi W σ fo b a m l d e S G s.heap xs):
 ∃items ps j,jW W s.heap fo b a m l items S j/\bJ W G b/\bJ W G a/\Rep W G s.heap (.ref l) d/\bU σ d=some (e.map .str)/\items.toList=iP ps/\ps.map (·.1)=e/\xs=(((ps.drop j).map (·.1)).filter (λx=>decide (x∈S))).map .str:=by
 refine IV h λj o p q r t u f k w=>?_
 have g:=f
 generalize i:eB l=v at f
 revert i
 refine fL st f k λ{B A} hl z c=>λi=>?_
 obtain rfl:=jA i
 exact aw (Bd z _ (Il e)) λps y n=>⟨A,ps,j,⟨o,p,hl,q,r⟩,t,u,g,k,y,n.symm,by exact aa (w ..)<|aa (n ..)<|aa (.symm (xx ..)) rfl⟩
theorem ju.filter{σ:MH}{fo b a li l:aq}{d:D}{ys S:List aj}(U:∀y∈ys,fB y=true):ju W n σ fo (λx=>x=li∨x=fo) (xi W σ fo b a li l d ys S) where
 item:=λ{A G s x xs} rm st c u F=>by
  refine qS (F.at st) λi ps j o h2 J L N B C E=>?_
  have H:s.TypeIs (.ref fo) "filter" :=⟨_,o.fo,rfl⟩
  refine eQ (List.map_eq_cons_iff.mp E.symm) λq qs O e1 e2=>?_
  subst e1;subst e2
  have Y:fB q=true:=by
   refine U q ?_
   refine aa (.symm (C ..)) ?_
   exact aw (List.mem_map.mp (List.mem_filter.mp (O▸a0)).1) λp V X=>List.mem_map.mpr ⟨p,xC V,X⟩
  unfold f7
  refine ah (tE (ph (name:=au "__next__") H tj ?_))
  refine jT (NX (g_ sZ _) (tj.check _ _ _ _ _ _ _ _ H (Dk _) ?_))
  have run:=EO (W:=W) (A:=A) B (R:=λr s'=>∃h' m t w,r=.ok (.ret (.str q t))/\s'= {s with heap:=h',toks:=m}/\jW W h' fo b a li l i S w/\((ps.drop w).map (·.1)).filter (λx=>decide (x∈S))=qs/\hO li s.heap h') (ps.length - j) j s rfl o O
   λh' m t w v Q I=>⟨h',m,t,w,rfl,rfl,v,Q,I⟩
  refine g6 run λr s' Z=>BG Z λh' m t w er P v Q I=>?_
  subst er P
  refine aA (kZ (tk:=m) st (u li (.inl rfl)).1 I) λf g=>?_
  have z:=g.ea λb e=>by subst e;exact(u _ (.inl rfl)).1
  refine aA (kY Y) λc1 c2=>?_
  refine aw v.li λob q1 q2=>?_
  exact aD ⟨_,G,rfl,g.weaken λc x=>.inl x,f,⟨w,v.fo,v.li,v.b,v.a,h2,J,L.keep z,N,by exact aa (.symm (C ..))<|aa (.symm (xx ..))<|aa (Q ..) rfl⟩,.str _ _ c1 c2⟩
 done:=λ{A G s} rm st c u F=>by
  refine qS (F.at st) λi ps j o h2 J L N B C E=>?_
  have H:s.TypeIs (.ref fo) "filter" :=⟨_,o.fo,rfl⟩
  have O:((ps.drop j).map (·.1)).filter (λx=>decide (x∈S))= []:=List.map_eq_nil_iff.mp E.symm
  unfold f7
  refine ah (tE (ph (name:=au "__next__") H tj ?_))
  refine jT (NX (g_ sZ _) (tj.check _ _ _ _ _ _ _ _ H (Dk _) ?_))
  refine EN (W:=W) (A:=A) B rm.2.2.2 (ps.length - j) j s rfl o O λh' m e I hz hT=>?_
  refine ah (Bv (T:="StopIteration") (b:=true) hT zN ?_)
  refine aA (st.gp (s':={s with heap:=h',toks:=m}) (M:=λb=>b=li) (λb e=>by subst e;exact(u _ (.inl rfl)).1) (λb ob hb e=>I b ob hb e) hz rfl rfl) λf g=>?_
  exact aD ⟨rfl,G,g.weaken λc x=>.inl x,f⟩
 shift:=λ{G h G' h' xs} F K u=>IV F λj o hl J L N B C E h9=>aw hl λob q1 q2=>aL L λn k=>wQ k λos P ep tb x5 x6 x7=>
  have k4:=K.bq _ _ J N
  have k5:=K.bq _ _ x5 B
  ⟨j,u _ _ (.inr rfl) o,⟨ob,u _ _ (.inl rfl) q1,q2⟩,k4.2,⟨n,os,P,ep,tb,k5.2,x6,x7⟩,k4.1,k5.1,C.keep K,E,h9⟩
end
end
section
section
variable {W:Wd} {n:Nat} {si:SI}
theorem Im:∀{xs:List D} {a},strsOf xs=some a->xs=a.map .str
 | [],_,e=>sj e rfl
 | d::f,a,e=>ob e λi b e=>ob e λg c e=>sj e (by exact aa (D.Ih b ..)<|aa (Im c ..) rfl)
noncomputable def r_ (b a:aq):bu:={cls:=.type "filter",data:=.fields #[.ref b,.ref a]}
noncomputable def qi (l:aq):bu:={cls:=.type "list_iterator",data:=.fields #[.ref l,.int 0 0]}
theorem Rt{A G}{s:ai}{σ:MH}{b a l:aq}{d:D}{B S:List aj}(rm:br (n+4) A)(st:St W G s σ)(fo:Fo A G s.heap)
 (hb:s.heap.get? b=some {cls:=.type "builtin_function_or_method",data:=.fields #[.builtin "set.__contains__",.ref a]}) (ha:∃n,s.heap.SetOf (strKind W.prog W.w) a (λq=>decide (q∈S)) n) (fb:bJ W G b) (fa:bJ W G a)
 (r:Rep W G s.heap (.ref l) d) (hl:bU σ d=some (B.map .str)) (R:B.all fB=true) (hz:B.length<=aP):
 ar W.M A (bM (.type "list") [.ref (s.heap.objs.size+1)]) (dy W G s (.list ((B.filter λx=>decide (x∈S)).map .str),σ)) aF {s with heap:=(s.heap.push (qi l)).push (r_ b s.heap.objs.size)}:=by
 have g:∀(h:aN) (o:bu),(h.push o).objs.size=h.objs.size+1:=λh o=>c9 ..
 let f:aN:=(s.heap.push (qi l)).push (r_ b s.heap.objs.size)
 have E:f.get? (s.heap.objs.size+1)=some (r_ b s.heap.objs.size):=nT (by exact aa (g ..) rfl) rfl
 have K:f.get? s.heap.objs.size=some (qi l):=bH _ (nT rfl rfl)
 have hsz:f.objs.size=s.heap.objs.size+2:=by exact aa (g ..)<|aa (g ..) rfl
 have t:∀b o,s.heap.get? b=some o->f.get? b=some o:=λb o e=>bH _ (bH _ e)
 have j:s.heap.objs.size<=f.objs.size:=by exact aa (hsz ..)<|Nat.le_add_right _ _
 have N:s.heap.objs.size<=(f.push f6).objs.size:=by exact aa (g ..)<|Nat.le_succ_of_le j
 let own:aq->Prop:=λb=>b=s.heap.objs.size∨b=s.heap.objs.size+1
 have m:∀b,own b->s.heap.objs.size<=b/\b<f.objs.size:=λb hb=>by
  exact aa (hsz ..)<|hb.elim (λq=>by exact aa (q ..)<|⟨bb _,ff (by decide)⟩) λq=>by exact aa (q ..)<|⟨dD _,gZ (by decide) _⟩
 refine aA (jE (b3:={s with heap:=f}) (M:=own) st m t j rfl rfl) λu i=>?_
 have Z:=i.bq _ _ hb fb
 obtain⟨na,so,es,ep,tb,P,O⟩:=ha
 have Y:=i.bq _ _ P fa
 have p:Fo A {G with fr:=λb=>G.fr b∨own b} f:=aw fo λfs e k=>⟨fs,e,λy Q=>aA (k y Q) λk1 U=>dG U λL k2 k3 k4 V=>aw V λo k5 k6=>⟨k1,L,k2,.inl k3,k4,o,t _ _ k5,k6⟩⟩
 have it:=ju.filter (W:=W) (n:=n+1) (σ:=σ) (fo:=s.heap.objs.size+1) (b:=b) (a:=a) (li:=s.heap.objs.size) (l:=l) (d:=d) (ys:=B) (S:=S) λy Q=>List.all_eq_true.mp R y Q
 refine bD (Ru (s:={s with heap:=f}) (n:=n+1) (xs:=(B.filter λx=>decide (x∈S)).map .str) ⟨it,⟨QR,rfl,λhh q=>UX ⟨_,hh,rfl⟩ q⟩,E,u,p,λb hb=>⟨hb.elim (λq=>.inr (.inl q)) λq=>.inr (.inr q),λy=>absurd (st.inv.b0 b (st.inv.b8 b y)).2.1 (Nat.not_lt.mpr (m b hb).1)⟩,
  ⟨0,E,⟨_,K,rfl,rfl⟩,Z.2,⟨na,so,es,ep,tb,Y.2,O⟩,Z.1,Y.1,r.keep i,hl,rfl⟩,by exact aa (aZ ..)<|Nat.le_trans (iX _ _) hz⟩ rm) λv s' T=>aA T λev H=>bI H λG' I X c'=>?_
 subst ev
 have J:G'.fr=λb=>(G.fr b∨own b)∨b=f.objs.size:=I.fr
 have F:∀b,G'.ou b->G.fr b:=λb y=>st.inv.b8 b (by exact aa (.symm (show G'.ou=G.ou from I.ou))<|y)
 refine aA (kV (fr:=λb=>G.fr b∨b=f.objs.size) X (λb x=>by exact aa (J ..)<|x.elim (λy=>.inl (.inl y)) .inr) λb y=>.inl (F b y)) λz C=>?_
 exact⟨{G' with fr:=λb=>G.fr b∨b=f.objs.size},f.objs.size,rfl,j,rfl,Step.drop (fq:=G) (G':=G') (own:=own) (λb o e=>bH _ (t b o e)) (λb y=>(m b y).1) j N I,z,c'.lT C (λc e=>e),λx=>absurd (st.inv.b0 _ x).2.1 (Nat.not_lt.mpr j),F⟩
theorem bG.oL{i f:ay}{p p1 I ap pos m j F H}(ok:W.Ok)(B:iv W si "list" (.type "list"))(B1:iv W si "filter" (.type "filter"))(B2:iv W si "set" (.type "set"))
 (iL:Ev W (n+4) si f H) (fy:Ev W (n+4) si i F) (O:∀c,bB [f] c= [(false,aU f c)])
 (Pu:∀c,iE (.Call (.Name (au "set") I) [f] [] j) "__contains__" c (aU (.Call (.Name (au "set") I) [f] [] j) c)=aU (.Call (.Name (au "set") I) [f] [] j) c)
 (N:∀c,bB [.Attribute (.Call (.Name (au "set") I) [f] [] j) "__contains__" ap,i] c= [(false,aU (.Attribute (.Call (.Name (au "set") I) [f] [] j) "__contains__" ap) c),(false,aU i c)])
 (E:∀c,bB [i] c= [(false,aU i c)])
 (hx:∀c,bB [.Call (.Name (au "filter") p1) [.Attribute (.Call (.Name (au "set") I) [f] [] j) "__contains__" ap,i] [] m] c= [(false,aU (.Call (.Name (au "filter") p1) [.Attribute (.Call (.Name (au "set") I) [f] [] j) "__contains__" ap,i] [] m) c)]):
 bG W (n+4) si (.Call (.Name (au "list") p) [.Call (.Name (au "filter") p1) [.Attribute (.Call (.Name (au "set") I) [f] [] j) "__contains__" ap,i] [] m] [] pos) (.oL H F):=λ{A c M G s ρ σ r} rm st Fr h=>
 ob h λq2 e2 h=>ob h λYn P0 h=>ob h λS Qf h=>ob h λq1 e1 h=>ob h λYm Y h=>ob h λys Qe h=>og h λhc h=>sj h (by
  obtain rfl:=Im Qe
  refine aa (jB ..) ?_
  refine ah (g8 ok st Fr B.hk B.hb (.inr ⟨B.hg,B.hm⟩) (j7 rfl (kH (by exact aa (hx ..) rfl)) (oI (λc=>by exact aa (hx ..) rfl) (l8 ?_ (by exact aa (hx ..) rfl)))))
  refine aa (jB ..) ?_
  refine ah (g8 ok st Fr B1.hk B1.hb (.inr ⟨B1.hg,B1.hm⟩) (j7 rfl (kH (by exact aa (N ..) rfl)) (oI (λc=>by exact aa (N ..) rfl) (l8 ?_ (by exact aa (N ..)<|aa (E ..) rfl)))))
  refine aa (uk ..)<|aa (Pu ..)<|aa (jB ..) ?_
  refine ah (ah (g8 ok st Fr B2.hk B2.hb (.inr ⟨B2.hg,B2.hm⟩) (j7 rfl (kH (by exact aa (O ..) rfl)) (oI (λc=>by exact aa (O ..) rfl) (l8 (bR iL rm st Fr e2 λ{w ak Br} V g Q UQ=>qM ?_) (by exact aa (O ..) rfl))))))
  refine fL g UQ P0 λ{l2 IK} Qy UN z2=>?_
  refine aw (Bd UN _ Qf) λYh Hi Hj=>?_
  have Qi:IK.size+1<qu:=by
   have e:IK.size=S.length:=by rw [← I6,Hi,Hj,aZ];exact aZ ..
   exact aa (e ..)<|Nat.lt_of_lt_of_le (xM hc.1) (dO rfl)
  refine Nv (W:=W) Hi Qy rm.2.2.2 Qi λu VX c2 D X=>?_
  rw [← Hj] at D
  refine ah (cQ (ah (bz ?_)))
  refine BF (id D) λso es ep tb L K Fv Qg=>?_
  refine Pb (s:={ak with heap:=u,toks:=VX}) L K.1 K.2.1 Fv λVY=>ah (tG (aD ?_))
  let bo:bu:={cls:=.type "builtin_function_or_method",data:=.fields #[.builtin "set.__contains__",.ref ak.heap.objs.size]}
  let h3:aN:=u.push bo
  have Z:ak.heap.objs.size<u.objs.size:=b9 L
  have Qm:h3.objs.size=u.objs.size+1:=c9 ..
  refine aA (g.gp (s':={ak with heap:=h3,toks:=VY}) (M:=bf) (λa x=>x.elim) (λb o a e=>bH _ (X b o e)) (by exact aa (Qm ..)<|Nat.le_succ_of_le (jy Z)) rfl rfl) λP z=>?_
  have R:aT W A w h3 si c M ρ:=Q.go g.inv z
  have fz:∀b,ak.heap.objs.size<=b->bJ W w b:=λb hb=>⟨λx=>absurd (g.inv.cn _ x).2.1 (Nat.not_lt.mpr hb),λx=>absurd (g.inv.b0 _ x).2.1 (Nat.not_lt.mpr hb),λq=>absurd (a9 (q▸g.inv.eO) g.inv.size) (Nat.not_lt.mpr hb)⟩
  refine l8 (bR fy rm P R e1 λ{U k Bq} C t T J=>qM ?_) (by exact aa (E ..) rfl)
  have y:=C.ea λa x=>x.elim
  have gb:=y.bq _ bo (nT rfl rfl) (fz u.objs.size (jy Z))
  have ga:=y.bq _ so (bH _ L) (fz ak.heap.objs.size (bb _))
  have l:=J
  refine oh (motive:=λv=>Rep W U k.heap v q1.1->ar W.M A (bM (.type "filter") [.ref u.objs.size,v] []) _ _ _) t J Y (λ{l1 o1 Wm k1} g1 g2 a g4 a a l=>?_) l
  refine DU Nw (by decide) (V_ _ _) (SM _ _) (λobj=>Dl obj _ _) OA (Sh (.ref u.objs.size) l1 Wm k1 o1.dict o1.slots) ⟨vu g1 g2 g4,?_⟩
  have PK:((k.heap.push (qi l1)).push (r_ u.objs.size k.heap.objs.size)).get? (k.heap.objs.size+1)=some (r_ u.objs.size k.heap.objs.size):=nT (by exact aa (c9 ..) rfl) rfl
  refine⟨⟨_,PK,rfl⟩,qM (bD (Rt (d:=q1.1) (S:=S) rm t T.ku gb.2 ⟨c2,so,es,ep,tb,ga.2,K,Fv,Qg⟩ gb.1 ga.1 l Y hc.2.1 hc.2.2) λv s' o=>dy.trans ((V.trans z).trans C) o)⟩)
end
end
section
section
variable {prog:eA} {w:eC} {A:aO} {E:af->ai->Prop}
theorem Rf(a:Bool):layNew (.fresh 0 0 a) #[] 1 (.bool true)=(#[(1,.bool true)],jP a,false,false):=by
 induction a<;>decide+kernel
theorem O7(a:Bool):(jP a).tooFull=false:=by induction a<;>decide+kernel
theorem sa(a:Bool):((jP a).place.size !=(#[(1,n9 true)]:Array (Int×af)).size|| (jP a).fill>(jP a).mask)=false:=by induction a<;>decide+kernel
theorem L6{s:ai}{a:aq}{b:Bool}{Q:Bool->ai->Prop}(c:s.heap.get? a=some (i3 b false))(h:∀h',h'.get? a=some (i3 b true)->hO a s.heap h'->Q true {s with heap:=h'}):
 ar (bX prog w) A (A1 a (.bool true) 1) Q E s:=by
 obtain⟨e,g,d,f,os⟩:=s
 unfold i3 at c
 dsimp only at c
 unfold A1
 refine bz ?_
 unfold U4 HT
 refine ah (ah (nG c ?_))
 dsimp only
 rw [if_neg (by induction b<;>decide)]
 refine aD ?_
 dsimp only
 rw [if_pos (by decide+kernel)]
 unfold U3
 refine ah (ah (nH ?_))
 unfold setScan setScanFrom
 dsimp only
 refine ah (aD ?_)
 rw [Rf]
 dsimp only
 refine ah (aD ?_)
 rw [if_pos (show(jP b).plain=true from rfl)]
 refine ah (aD ?_)
 rw [if_pos rfl]
 unfold storeSet
 refine ah (ah (nG c ?_))
 dsimp only
 rw [if_neg (by decide+kernel)]
 refine wpAny_update c ?_
 rw [if_neg (by rw [O7];decide)]
 refine aD (aD (h _ ?_ (ft ..)))
 exact eI _ c rfl
theorem L5{s:ai}{a:aq}{i:Bool}{Q:Bool->ai->Prop}(f:s.heap.get? a=some (i3 i true))(h:Q false s):
 ar (bX prog w) A (A1 a (.bool true) 1) Q E s:=by
 obtain⟨k,g,d,m,os⟩:=s
 unfold i3 at f
 dsimp only at f
 unfold A1
 refine bz ?_
 unfold U4 HT
 refine ah (ah (nG f ?_))
 dsimp only
 rw [if_neg (by rw [sa];decide)]
 refine aD ?_
 dsimp only
 rw [if_pos (by decide+kernel)]
 unfold U3
 refine ah (ah (nH ?_))
 unfold setScan setScanFrom
 dsimp only
 rw [if_pos (by decide)]
 unfold setEpoch HT
 refine ah (ah (ah (ah (nG f ?_))))
 dsimp only
 rw [if_neg (by rw [sa];decide)]
 refine aD (aD ?_)
 have e:ar (bX prog w) A (eqBool (.bool true) (.bool true)) (λb l=>b=true/\l=⟨k,g,d,m,os⟩) (λc c=>False) ⟨k,g,d,m,os⟩:=by
  unfold eqBool
  repeat (any_goals (first| assumption| wp_step))
  exact⟨rfl,rfl⟩
 refine ah (gW e (λb l j=>aA j λn o=>?_) λc c x=>x.elim)
 subst n o
 rw [if_pos rfl]
 exact aD (aD (aD h))
theorem Pt{s:ai}{Q:Int->ai->Prop}(h:∀tk,Q 1 {s with toks:=tk}):ar (bX prog w) A (pyHash (.bool true)) Q E s:=by
 have c:∀e:ai,e.TypeIs (.bool true) "bool" :=λb=>rfl
 have f:=F.slot_bool_hash.lookup
 have i:=F.slot_bool_hash.bind (.bool true)
 obtain⟨j,g,d,tk,os⟩:=s
 unfold pyHash
 repeat (any_goals (first| assumption| exact c _| ((with_reducible show ar _ _ (callSpecialIfBoundUnlessNone? _ _ _) _ _ _);refine wpAny_callSpecialIfBoundUnlessNone?_slot (c _) JI (kz JI (c _) F.entry_int_hash ?_ (by unfold gj;kernel_rfl)))| wp_step))
 exact⟨_,rfl,hK (a:=(1:Int)) (by kernel_rfl) (h _)⟩
theorem Ta{s:ai}{a:aq}{o:bu}{Q:Bool->ai->Prop}(e:s.heap.get? a=some o)(d:o.cls=.type "set")(h:Q false s):ar (bX prog w) A (GZ (.ref a)) Q E s:=by
 have c:s.TypeIs (.ref a) "set" :=⟨o,e,d⟩
 have b:=F.slot_set_iter.lookup
 unfold GZ
 refine ah (qP c b ?_)
 exact aD h
theorem OF:i_ jl "set.__iter__" =some bE.«frozenset.__iter__»:=
 zf (id':="frozenset.__iter__") (by kernel_rfl) (by first| rfl| decide+kernel) (by decide+kernel) (by kernel_rfl)
theorem RD:gr (.type "set_iterator") "__next__" =pure (some (.builtin "set_iterator.__next__")):=by rw [e_,eS];kernel_rfl
theorem wu:iz "set_iterator" "__next__" "set_iterator.__next__" :=
 .of (owner:="set_iterator") (n:="__next__") (by rw [e_,eS];kernel_rfl) (by decide+kernel) (by decide+kernel) (by decide+kernel)
  (by first| exact .inl (by decide+kernel)| exact .inr (by decide+kernel)) (by rw [eE];kernel_rfl)
theorem EC:i_ jl "set_iterator.__next__" =some bE.«set_iterator.__next__»:=oG (by kernel_rfl)
theorem Dn(a:af):gj "set_iterator.__next__" ⟨[a],[]⟩:=by unfold gj;kernel_rfl
noncomputable def nc (a:aq) (i j:Int):bu:={cls:=.type "set_iterator",data:=.fields #[.int i 0,.int j 0,.ref a,.int 1 0,.int 1 0]}
theorem U_{s:ai}{a:aq}{b:Bool}{Q:af->ai->Prop}(i:s.heap.get? a=some (i3 b true))(h:Q (.ref s.heap.objs.size) {s with heap:=s.heap.push (nc a 0 0)}):
 ar (bX prog w) A (ik (.ref a)) Q E s:=by
 have c:s.TypeIs (.ref a) "set" :=⟨_,i,rfl⟩
 have j:s.heap.get? a=some {cls:=.type "set",dict:=none,data:=.set #[(1,.bool true)] 1 (jP b)}:=i
 have e:=sa b
 refine IS c JO (kz JO c OF ?_ (by unfold gj;kernel_rfl))
 obtain⟨k,g,d,l,os⟩:=s
 unfold bE.«frozenset.__iter__»
 repeat (any_goals (first| assumption| (rw [e,if_neg (by decide)])| wp_step))
 refine l7 (aD (aD ?_))
 dsimp only
 rw [if_neg (λf=>by rw [jo] at f;exact absurd f.2 (by induction b<;>decide))]
 repeat (any_goals (first| assumption| (rw [e,if_neg (by decide)])| wp_step))
 refine⟨_,rfl,"set_iterator",_,⟨_,c5 _ rfl,rfl⟩,RD,h⟩
theorem Hl{α:Type}(f:Nat->Nat)(x:α):pickOrder f #[x]= #[x]:=
 congrArg (λk=>match [x][k]? with| some y=>Yg f 0 1 ([x].eraseIdx k) (#[].push y)| none=> #[]) (Nat.mod_one (f 0))
set_option maxHeartbeats 1000000 in
theorem Vd{s:ai}{a it:aq}{Q:Option af->ai->Prop}(k:s.heap.get? it=some (nc a 0 0))(m:s.heap.get? a=some (i3 (!w.params.followText "set-order") true))
 (h:∀h',h'.get? it=some (nc a (if w.params.followText "set-order" =true then 0 else 2) 1)->hO it s.heap h'->Q (some (.bool true)) {s with heap:=h'}):ar (bX prog w) A (f7 (.ref it)) Q E s:=by
 have j:s.TypeIs (.ref it) "set_iterator" :=⟨_,k,rfl⟩
 have e:s.heap.get? it=some {cls:=.type "set_iterator",data:=.fields #[.int 0 0,.int 0 0,.ref a,.int 1 0,.int 1 0]}:=k
 have f:s.heap.get? a=some {cls:=.type "set",dict:=none,data:=.set #[(1,.bool true)] 1 (jP (!w.params.followText "set-order"))}:=m
 have c:=sa (!w.params.followText "set-order")
 unfold f7
 refine ah (tE (ph (name:=au "__next__") j wu (kz wu j EC ?_ (Dn _))))
 obtain⟨n,g,d,o,os⟩:=s
 unfold bE.«set_iterator.__next__»
 repeat (any_goals (first| assumption| (rw [c,if_neg (by decide)])| wp_step))
 refine l7 (aD ?_)
 split
 .rename_i b
  have b:w.params.followText "set-order" =true:=b
  rw [b] at h f c
  dsimp only
  rw [if_neg (by decide)]
  unfold setWalk
  repeat (any_goals (first| assumption| (rw [c,if_neg (by decide)])| wp_step))
  refine l7 (aD ?_)
  split
  rotate_left
  .rename_i l;exact absurd b l
  refine ah (l7 (aD ?_))
  rw [Hl]
  repeat (any_goals (first| assumption| (rw [c,if_neg (by decide)])| wp_step))
  have i:=eI (lE λx=>x.setIfInBounds 0 (gE ((Kb 0:Nat):Int))) e rfl
  refine⟨_,rfl,aD (h _ ?_ ((ft ..).trans (ft ..)))⟩
  rw [eI _ i rfl]
  rfl
 .rename_i b
  have b:w.params.followText "set-order" =false:=(wX _).mp b
  rw [b] at h f c ⊢
  dsimp only
  rw [if_neg (by decide)]
  repeat (any_goals (first| assumption| (rw [c,if_neg (by decide)])| wp_step))
  have i:=eI (lE λx=>x.setIfInBounds 0 (gE ((((jP !false).place[XW (jP !false).place (Kb 0)]:Nat)+1:Nat):Int))) e rfl
  refine⟨_,rfl,aD (h _ ?_ ((ft ..).trans (ft ..)))⟩
  rw [eI _ i rfl]
  rfl
set_option maxHeartbeats 1000000 in
theorem Vc{s:ai}{a it:aq}{Q:Option af->ai->Prop}(f:A.handled=none)(j:s.heap.get? it=some (nc a (if w.params.followText "set-order" =true then 0 else 2) 1))(o:s.heap.get? a=some (i3 (!w.params.followText "set-order") true))
 (h:∀h',ly it s.heap h'->s.heap.objs.size<=h'.objs.size->Q none {s with heap:=h'}):ar (bX prog w) A (f7 (.ref it)) Q E s:=by
 have m:s.TypeIs (.ref it) "set_iterator" :=⟨_,j,rfl⟩
 have i:s.heap.get? a=some {cls:=.type "set",dict:=none,data:=.set #[(1,.bool true)] 1 (jP (!w.params.followText "set-order"))}:=o
 have e:=sa (!w.params.followText "set-order")
 unfold f7
 refine ah (tE (ph (name:=au "__next__") m wu (kz wu m EC ?_ (Dn _))))
 obtain⟨n,g,d,p,os⟩:=s
 split at j
 .rename_i c
  have l:n.get? it=some {cls:=.type "set_iterator",data:=.fields #[.int 0 0,.int 1 0,.ref a,.int 1 0,.int 1 0]}:=j
  rw [c] at i e
  unfold bE.«set_iterator.__next__»
  repeat (any_goals (first| assumption| (rw [e,if_neg (by decide)])| wp_step))
  refine l7 (aD ?_)
  split
  rotate_left
  .rename_i f;exact absurd c f
  dsimp only
  rw [if_neg (by decide)]
  unfold setWalk
  repeat (any_goals (first| assumption| (rw [e,if_neg (by decide)])| wp_step))
  refine l7 (aD ?_)
  split
  rotate_left
  .rename_i f;exact absurd c f
  refine ah (l7 (aD ?_))
  rw [Hl]
  repeat (any_goals (first| assumption| (rw [e,if_neg (by decide)])| wp_step))
  refine By (A:=A.in1) f ?_
  refine ah (Bv (T:="StopIteration") (b:=true) ⟨_,c5 _ rfl,rfl⟩ zN ?_)
  exact aD (h _ (((ft ..).extBut.push _).push _) (by simp only [c9,jt];omega))
 .rename_i c
  have c:w.params.followText "set-order" =false:=(wX _).mp c
  have l:n.get? it=some {cls:=.type "set_iterator",data:=.fields #[.int 2 0,.int 1 0,.ref a,.int 1 0,.int 1 0]}:=j
  rw [c] at i e
  unfold bE.«set_iterator.__next__»
  repeat (any_goals (first| assumption| (rw [e,if_neg (by decide)])| wp_step))
  refine l7 (aD ?_)
  split
  .rename_i k;exact absurd (c.symm.trans k) (by decide)
  dsimp only
  rw [if_neg (by decide)]
  repeat (any_goals (first| assumption| (rw [e,if_neg (by decide)])| wp_step))
  refine By (A:=A.in1) f ?_
  refine ah (Bv (T:="StopIteration") (b:=true) ⟨_,c5 _ rfl,rfl⟩ zN ?_)
  exact aD (h _ (((ft ..).extBut.push _).push _) (by simp only [c9,jt];omega))
end
end
section
section
variable {W:Wd} {n:Nat} {si:SI}
theorem Cell.DH{d i}(h:Cell.yw d=some i):d=.i0 i:=by induction d<;>first| exact aY h| exact congrArg _ (aM h)
theorem BodyOk.nC{e m}(H:Ev W n si e m):BodyOk W n si (HS e) (.nC m):=λ{A z M G s ρ σ a x O} L st F t u B D K h=>
 ob h λp w h=>ob h λN hb h=>ob h λb E h=>og h λJ h=>sj h (ah (bR H L st F w λ{d ak v} S i q r=>by
  obtain rfl:=Cell.DH E
  subst J
  refine r.ot hb ?_
  have f:ak.heap.get? a=some (i3 W.led b):=K.go S (λc y=>y.elim) (st.inv.dJ _ t) (λy=>y) u
  have k:d.fr a:=by exact aa (S.fr ..)<|t
  have C:ak.TypeIs (.ref a) "set" :=⟨_,f,by induction b<;>rfl⟩
  refine ah (cQ (ah (kz PySem.F.slot_set_add C PySem.F.entry_set_add ?_ (PySem.F.args_set_add_2 _ _))))
  show ar W.M A.in1 (bE.«set.add» ⟨[.ref a,.bool true],[]⟩) _ _ ak
  delta bE.«set.add» Jh Jg
  refine ah (hK (a:=(a,n9 true)) rfl ?_)
  dsimp only
  delta setAdd
  refine ah (bz (ah (Pt λl=>?_)))
  induction b with
  | false=>
   refine L6 (s:={ak with toks:=l}) f λh' I o=>?_
   refine aA (kZ (tk:=l) i k o) λj g=>?_
   exact aD ⟨_,rfl,aD ⟨d,(S.weaken λc y=>y.elim).trans (g.weaken λc y=>.inr y),j,q.one i g k (by exact aa (S.ou ..)<|u) B D,I⟩⟩
  | true=>exact L5 (s:={ak with toks:=l}) f (aD ⟨_,rfl,aD ⟨d,S.weaken λc y=>y.elim,i.tok,q,f⟩⟩)))
theorem MP(G:Gh)(h:aN)(a:aq)(_:a≠iR)(e:h.get? a=some (i3 W.led false)):cg W G h a none (.i0 false):=e
theorem MQ{A:aO}{E:af->ai->Prop}{s:ai}{Q:af->ai->Prop}(h:Q (.ref s.heap.objs.size) {s with heap:=s.heap.push (i3 W.led false)}):ar W.M A (newSet (.type "set")) Q E s:=by
 delta newSet setsByText
 refine ah (ah (l7 (aD ?_)))
 dsimp only
 delta newObj
 exact ah (wpAny_alloc (aD h))
theorem bG.U6{f b d:ay}{e:List ay}{c:cR}{j:bc}{k mt bs m own}(r:W.Ok)(l:jq si c own)(p:∀h x,ib d h x=pure x)
 (o:du W n si b d k) (q:Et W n (cC si c) b mt) (i:gv W n (cC si c) e bs) (hb:Ev W n (cC si c) f m):
 bG W n si (.SetComp f [⟨b,d,e,0⟩] c j) (.comp k mt bs (.nC m) own (.i0 false)):=
 bG.uG (g:=⟨b,d,e,0⟩) ⟨r,⟨_,rfl⟩,rfl,p,l,⟨_,MQ,rfl,MP⟩,f_.set,o,q,i,⟨_,fw.U1,BodyOk.nC hb⟩⟩ (λa=>⟨_,rfl⟩)
theorem Ex.qJ{x np k tp e H m}(R:bG W n si e m)(U:i7 si x=true)(D:∀f:bg,f.scope=si.sc->kq [.Tuple [.Name (au x) np] k tp] e H.line f=pure false)
 (T:∀f:bg,f.scope=si.sc->l0 [.Tuple [.Name (au x) np] k tp] e f=pure none):Ex W n si (.Assign [.Tuple [.Name (au x) np] k tp] e H) (.qJ x m):=λ{A f M G s ρ σ r} L st F h=>
 ob h λp Q h=>ob h λb hb h=>og h λI h=>sj h (by
  refine aa (zi ..)<|aa (D _ F.sc ..) ?_
  refine ah (cQ (ah (aD ?_)))
  refine aa (if_neg (by decide)) ?_
  refine ah (bD (R L st F Q) λv ak K=>fc K λN a e X=>?_)
  subst e
  have O:=X.cr
  rw [Cell.DH hb,I] at O
  have c:ak.heap.get? a=some (i3 (!W.w.params.followText "set-order") true):=O
  have y:=F.go st.inv X.S
  have g:=(kV (fr:=G.fr) X.st X.old X.no).1
  refine aa (T _ F.sc ..) ?_
  refine ah (aD ?_)
  show ar W.M A ((do ip tp;Bp (.ref a) [(false,iy (.Name (au x) np) f)])>>=λd=>pure Flow.next) _ _ _
  refine ah (ah (cQ ?_))
  delta Bp unpackItems
  refine ah (bz (ah (Ta c rfl ?_)))
  refine aa (if_neg (by decide)) ?_
  refine ah (bz (U_ c ?_))
  have j:∀b o,ak.heap.get? b=some o->(ak.heap.push (nc a 0 0)).get? b=some o:=λb o e=>bH _ e
  have hit:(ak.heap.push (nc a 0 0)).get? ak.heap.objs.size=some (nc a 0 0):=c5 _ rfl
  refine ah (bz ?_)
  show ar W.M A (draw (.ref ak.heap.objs.size) 1) _ _ _
  unfold draw
  refine ah (Vd (s:={ak with heap:=ak.heap.push (nc a 0 0)}) hit (j _ _ c) λh' J D=>?_)
  unfold draw
  refine ah (bz (aD (aD ?_)))
  refine aa (if_neg (show ¬ [n9 true].length< [(false,iy (Expr.Name (au x) np) f)].length from fV 1)) ?_
  refine ah (bz (Vc (s:={ak with heap:=h'}) L.2.2.2 J (D.extBut _ _ (bj (b9 c)) (j _ _ c)) λE l q=>?_))
  refine aa (if_neg (by decide)) ?_
  refine aD ?_
  have hsz:ak.heap.objs.size<=h'.objs.size:=by refine aa (D.1 ..) ?_;show _<=(ak.heap.push _).objs.size;exact aa (c9 ..)<|Nat.le_succ _
  refine aA (g.gp (s':={ak with heap:=E}) (M:=bf) (λd x=>x.elim) (λb o d e=>l b o (bj (b9 e)) (D.extBut _ _ (bj (b9 e)) (j b o e))) (aE hsz q) rfl rfl) λt i=>?_
  show ar W.M A (Du [iy (.Name (au x) np) f] [n9 true]) _ _ _
  delta Du
  refine ah (bz (kA (Et.name U L t (y.go g.inv i) (.bool true) (rfl:MT.name x (.bool true) ρ p.2=_)) λP B C u z=>?_))
  exact aD (aD ⟨B,((X.S.trans i).any).trans C,u,z,trivial⟩))
end
end
section
theorem OB:i_ jl "iter" =some bE.«iter»:=oG (by kernel_rfl)
theorem Ua:v8 "iter" =true:=by decide+kernel
theorem NB(a:af):yP "iter" ⟨[a],[]⟩=pure ():=by kernel_rfl
theorem wt:iz "list_iterator" "__getattribute__" "object.__getattribute__" :=
 .of (owner:="object") (n:="__getattribute__") (by refine aa (e_ ..)<|aa (eS ..) ?_;kernel_rfl) (by decide+kernel) (by decide+kernel) (by decide+kernel)
  (by first| exact .inl (by decide+kernel)| exact .inr (by decide+kernel)) (by refine aa (eE ..) ?_;kernel_rfl)
theorem Bn:tD (.builtin "list_iterator.__next__")=pure (.type "wrapper_descriptor"):=by show builtinType _=_;refine aa (builtinType_eq_fast ..) ?_;kernel_rfl
theorem RA:gr (.type "wrapper_descriptor") "__get__" =pure (some (.builtin "wrapper_descriptor.__get__")):=by refine aa (e_ ..)<|aa (eS ..) ?_;kernel_rfl
theorem RC:gr (.type "wrapper_descriptor") "__set__" =pure none:=by refine aa (e_ ..)<|aa (eS ..) ?_;kernel_rfl
theorem Ry:gr (.type "wrapper_descriptor") "__delete__" =pure none:=by refine aa (e_ ..)<|aa (eS ..) ?_;kernel_rfl
theorem TY: ".".intercalate ("list_iterator.__next__".cutAt '.').dropLast= "list_iterator" :=by decide+kernel
theorem VD:jJ (.type "list_iterator") (.type (".".intercalate ("list_iterator.__next__".cutAt '.').dropLast))=pure true:=by refine aa (TY ..)<|aa (eE ..) ?_;kernel_rfl
section
variable {prog:eA} {w:eC} {A:aO} {E:af->ai->Prop}
theorem QV{s:ai}{l:aq}{b:Array af}{Q:af->ai->Prop}(hl:s.heap.IsList l b)
 (h:Q (.ref s.heap.objs.size) {s with heap:=s.heap.push {cls:=.type "list_iterator",data:=.fields #[.ref l,.int 0 0]}}):ar (bX prog w) A (bM (.builtin "iter") [.ref l] []) Q E s:=by
 refine jT (mK Ua OB (hK (a:=()) (NB _) ?_))
 delta bE.«iter»
 refine ah (hK (a:=[eB l]) rfl ?_)
 exact ah (tH hl (aD h))
theorem Wy{s:ai}{a:aq}{o:bu}{R:hZ->ai->Prop}(e:s.heap.get? a=some o)(c:o.cls=.type "list_iterator")
 (h:R (.ok (.ret (.ref s.heap.objs.size))) {s with heap:=s.heap.push (lW a)}):
 eU (bX prog w) A (.call (.builtin "wrapper_descriptor.__get__") ⟨[.builtin "list_iterator.__next__",.ref a,.type "list_iterator"],[]⟩) R s:=by
 have k:s.TypeIs (.ref a) "list_iterator" :=⟨_,e,c⟩
 have b:s.TypeIs (.builtin "list_iterator.__next__") "wrapper_descriptor" :=Bn
 refine mK H4.plain OG (H4.check _ _ _ _ _ _ _ _ b (Mn _ _ _) ?_)
 have i:=Bn
 have j:=VD
 delta lW at h
 obtain⟨l,g,d,f,os⟩:=s
 repeat (any_goals (first| assumption| wp_step))
theorem O9{s:ai}{a l:aq}{c:de}{Q:xY->ai->Prop}(b:s.heap.get? a=some {cls:=.type "list_iterator",data:=.fields #[.ref l,.int 0 0]})
 (h:Q (.done (.ret (.ref s.heap.objs.size))) {s with heap:=s.heap.push (lW a)}):
 ar (bX prog w) A (bE.«object.__getattribute__» ⟨[.ref a,.str "__next__" c],[]⟩) Q E s:=by
 have n:s.TypeIs (.ref a) "list_iterator" :=⟨_,b,rfl⟩
 have f:=slot_listiter_next.lookup
 have i:=Bn
 have j:=RA
 have k:=RC
 have m:=Ry
 obtain⟨o,g,d,e,os⟩:=s
 delta bE.«object.__getattribute__»
 repeat (any_goals (first| assumption| wp_step))
 exact Wy b rfl (aD h)
theorem Pc{s:ai}{a l:aq}{expr:Bool}{Q:af->ai->Prop}(f:s.heap.get? a=some {cls:=.type "list_iterator",data:=.fields #[.ref l,.int 0 0]})
 (h:∀i,Q (.ref s.heap.objs.size) {s with heap:=s.heap.push (lW a),toks:=i}):
 ar (bX prog w) A (kS (.ref a) "__next__" expr) Q E s:=by
 obtain⟨k,g,d,i,os⟩:=s
 have e:∀c,(⟨k,g,d,c,os⟩:ai).TypeIs (.ref a) "list_iterator" :=λb=>⟨_,f,rfl⟩
 have m:=wt.lookup
 have n:=wt.bind (.ref a)
 have j:(expr && Hc (rO "object.__getattribute__"))=false:=tR _
 delta kS E6
 repeat (any_goals (first| assumption| exact e _| ((with_reducible show ar _ _ (rV _ _ _ _) _ _ _);delta rV;refine aa (j ..)<|aa (if_neg (by decide)) ?_;delta DF)|
  ((with_reducible show ar _ _ (bM (rO "object.__getattribute__") _ _) _ _ _);refine jT (mK wt.plain Lz (wt.check _ _ _ _ _ _ _ _ (e _) (Lw _ _) (O9 f ?_))))| wp_step))
 exact h _
theorem RF{s:ai}{it l:aq}{i:Nat}{b:Array af}{x:af}{R:hZ->ai->Prop}(hit:s.heap.IsListIter it l i)
 (hl:s.heap.IsList l b) (k:b[i]?=some x)
 (h:∀h',h'.IsListIter it l (i+1)->hO it s.heap h'->R (.ok (.ret x)) {s with heap:=h'}):
 eU (bX prog w) A (.builtin "list_iterator.__next__" ⟨[.ref it],[]⟩) R s:=by
 refine bI (id hit) λo d j c=>?_
 refine bI hl λn f a g=>?_;refine aL g λm e=>?_
 refine fN zg ?_
 show ar _ _ (oK (.ref it) 0>>=_) _ _ s
 refine ah (ir d c (x:=.ref l) rfl ?_)
 show ar _ _ (if (eB l==Value.none)=true then _ else _) _ _ s
 refine aa (if_neg (show ¬((eB l==Value.none)=true) from tT)) ?_
 show ar _ _ (oK (.ref it) 1>>=_) _ _ s
 refine ah (ir d c (x:=.int i 0) rfl ?_)
 show ar _ _ (qw (.ref l)>>=_) _ _ s
 refine ah (lb f e ?_)
 simp only [xm,k]
 refine ah (wL d c (by simp) (aD (h _ ?_ (ft ..))))
 exact⟨_,eI _ d (xN (rN c _)),(CH ..).trans j,by
  refine aa (rN c ..) ?_;simp [gE]⟩
theorem RE{s:ai}{it l:aq}{i:Nat}{c:Array af}{R:hZ->ai->Prop}(q:A.handled=none)
 (hit:s.heap.IsListIter it l i) (hl:s.heap.IsList l c) (r:c[i]?=none)
 (p:∀h' e,ly it s.heap h'->s.heap.objs.size<=h'.objs.size->s.heap.objs.size<=e->(∃j n,h'.get? e=some j/\j.cls=.type "StopIteration" /\j.data=.fields n/\n[1]?=some .none)->R (.error (.ref e)) {s with heap:=h'}):
 eU (bX prog w) A (.builtin "list_iterator.__next__" ⟨[.ref it],[]⟩) R s:=by
 refine bI (id hit) λo g t d=>?_
 refine bI hl λv h b k=>?_;refine aL k λu f=>?_
 refine fN zg ?_
 refine aa (gH slot_listiter_next.plain _ ..) ?_
 show ar _ _ (oK (.ref it) 0>>=_) _ _ s
 refine ah (ir g d (x:=.ref l) rfl ?_)
 show ar _ _ (if (eB l==Value.none)=true then _ else _) _ _ s
 refine aa (if_neg (show ¬((eB l==Value.none)=true) from tT)) ?_
 show ar _ _ (oK (.ref it) 1>>=_) _ _ s
 refine ah (ir g d (x:=.int i 0) rfl ?_)
 show ar _ _ (qw (.ref l)>>=_) _ _ s
 refine ah (lb h f ?_)
 simp only [xm,r]
 refine ah (nH (ah (wL g d (by simp) ?_)))
 show ar _ _ (Ao (.type "StopIteration") []>>=_) _ _ _
 refine ah ?_
 simp only [Ao,m6]
 refine ah (iS ?_ (by size_fits))
 refine ah (m:=zj _ _) (hK (a:=Value.none) (by first| rfl| (simp only [zj];rfl)) ?_)
 refine iS ?_ (by size_fits)
 refine By (A:=A.in1) q<|p _ _ (((ft ..).extBut.push _).push _) (by simp only [c9,jt];lia) (by simp only [c9,jt];lia) ⟨_,_,c5 _ rfl,rfl,rfl,(I4 (by simp)).trans rfl⟩
end
section
variable {M:lB} {A:aO} {E:af->ai->Prop} {s:ai}
theorem Tb{base:aN}{g:bg}{f:List bg}{L e:aq}{w:bu}{x:Array af}{Q:Unit->ai->Prop}
 (C:A.frames=some (g::f)) (hl:s.heap.FunFrames base (g::f)) (J:g.frame=some L)
 (B:s.heap.get? e=some w) (u:w.data=.fields x) (I:x[1]?=some .none)
 (h:∀h' T,s.heap.objs.size<=T->s.heap.objs.size<=h'.objs.size->(∀b o,b≠e->b∉(g::f).filterMap (·.frame)->s.heap.get? b=some o->h'.get? b=some o)->
   (∀b o,b≠e->s.heap.get? b=some o->∃H,h'.get? b=some {o with slots:=H})->
   (∃q t,h'.get? e=some q/\q.cls=w.cls/\q.data=.fields t/\t[1]?=some (.ref T))->(∃K N,h'.get? T=some K/\K.data=.fields N/\3<N.size)->Q () {s with heap:=h'}):ar M A (sT (.ref e) g) Q E s:=by
 have hsz:1<x.size:=(Array.getElem?_eq_some_iff.mp I).1
 delta sT
 simp only [J]
 refine ah (ir B u I ?_)
 refine aa (if_neg (by decide)) ?_
 have r:e∉(g::f).filterMap (·.frame):=λO=>by
  refine aA (hl.mem O) λa G=>?_;refine aw G λo v D=>?_
  rw [B] at v;injection v with v;subst v;exact D x u
 refine ah (wpAny_frameOf_fun C hl J λc d=>?_)
 refine ah (wpAny_entryPlaceOf λpl F=>?_)
 delta Xq newFields
 refine ah (iS ?_ (F.sizeOk5 _ _ _ _ _))
 have k:c.get? e=some w:=(d.2.1 e r).trans B
 have l:=bH (h:=c) {cls:=.type "traceback",dict:=none,data:=.fields ([Value.none,.ref L,.none,gE L,.none]++(if pl.isEmpty then Cw 6 Value.none else pl)).toArray} k
 refine wL l u hsz ?_
 have y:c.objs.size≠e:=dc (b9 k)
 have j:=rN u (·.setIfInBounds 1 (eB c.objs.size))
 have p:=eI (lE (·.setIfInBounds 1 (eB c.objs.size))) l (xN j)
 have n:=(gf (c.push {cls:=.type "traceback",dict:=none,data:=.fields ([Value.none,.ref L,.none,gE L,.none]++(if pl.isEmpty then Cw 6 Value.none else pl)).toArray})
  (lE (·.setIfInBounds 1 (eB c.objs.size))) (Ne.symm y)).trans (c5 c rfl)
 have m:∀b o,b≠e->c.get? b=some o->((c.push {cls:=.type "traceback",dict:=none,data:=.fields ([Value.none,.ref L,.none,gE L,.none]++(if pl.isEmpty then Cw 6 Value.none else pl)).toArray}).update e (lE (·.setIfInBounds 1 (eB c.objs.size)))).get? b=some o:=λb o i hb=>by
  exact aa (gf _ _ (Ne.symm i) ..)<|Heap.get?_push_of_some _ hb
 refine h _ c.objs.size (bN d.1.symm) (by exact aa (jt ..)<|aa (c9 ..)<|aa (d.1 ..)<|Nat.le_succ _) (λb o i z hb=>m b o i ((d.2.1 b z).trans hb)) (λb o i hb=>?_) ⟨_,_,p,CH _ _,j,by simp [hsz]⟩ ⟨_,_,n,rfl,by simp only [rH,bF,gM,Ck];lia⟩
 refine aL (d.2.2 b o hb) λH P=>?_
 exact⟨H,m b _ i P⟩
end
end
section
section
variable {W:Wd} {n:Nat} {si:SI}
theorem Ev.QW{p e i t m}(O:W.Ok)(B:iv W si "iter" (.builtin "iter"))(I:Ev W n si e m)
 (N:∀d,bB [e] d= [(false,aU e d)]) (j:∀d,iE (.Call (.Name (au "iter") p) [e] [] i) (au "__next__") d (aU (.Call (.Name (au "iter") p) [e] [] i) d)=aU (.Call (.Name (au "iter") p) [e] [] i) d):
 Ev W n si (.Attribute (.Call (.Name (au "iter") p) [e] [] i) (au "__next__") t) (.ax qg m):=λ{A d M G s ρ σ r} P st F h=>
 ob h λq D h=>ob h λc E h=>sj h (by
  refine aa (uk ..)<|aa (j ..)<|aa (jB ..) ?_
  refine ah (ah (g8 O st F B.hk B.hb (.inr ⟨B.hg,B.hm⟩) ?_))
  refine aa (N ..) ?_
  refine j7 rfl rfl (BU (BV (bR I P st F D λ{z ak v} l f y u=>w9 ?_)))
  refine oy f u E λ{b R m} H J L=>?_
  refine QV ⟨_,L.1,rfl,m,rfl⟩ (ah (cQ (ah (bz (Pc (c5 _ rfl) λQ=>ah (tG (aD ?_)))))))
  have k:(ak.heap.push (qi b)).objs.size=ak.heap.objs.size+1:=c9 ..
  obtain⟨x,C,w⟩:=f.Dc (s':={ak with heap:=(ak.heap.push (qi b)).push (lW ak.heap.objs.size),toks:=Q}) (a:=ak.heap.objs.size+1) (da:=ak.heap.objs.size) (c:=.iter c.1 0) rfl rfl
   (by show((ak.heap.push _).push _).objs.size=_;exact aa (c9 ..)<|aa (k ..) rfl) (λb o e=>bH _ (bH _ e)) rfl rfl λG' K=>
   ⟨_,b,rfl,K.g _ _ J,by exact aa (.symm (k ..))<|Heap.get?_push_size _ rfl,⟨_,bH _ (c5 _ rfl),rfl,rfl⟩⟩
  exact⟨_,l.trans C,x,.ref (w.trans (congrArg some k.symm))⟩)
theorem St.raised{G:Gh}{s s':ai}{σ:MH}{c:Nat}{x:Nat×Nat}{it:aq}(st:St W G s σ)(B:σ.cell c=some (.iter x.1 x.2))(r:G.d c=some it)
 (k:∀b o,b≠it->¬G.ou b->s.heap.get? b=some o->s'.heap.get? b=some o) (F:∀b o,G.ou b->s.heap.get? b=some o->∃J,s'.heap.get? b=some {o with slots:=J}) (p:s.heap.objs.size<=s'.heap.objs.size) (t:s'.gens=s.gens) (D:s'.os=s.os):
 St W G s' (σ.del c)/\Step W bf G s.heap G s'.heap:=by
 have v:=(st.cells.at_ c _ B).1 rfl
 have n:G.own it:=⟨c,v,.inr r⟩
 have H:=st.inv.cn it n
 have S:Step W bf G s.heap G s'.heap:=⟨λa a e=>e,λa a e=>e,rfl,λa x=>x,λa x=>.inl x,λb o e hb a a f=>k b o (λq=>hb (q▸n)) (λu=>f (st.inv.b8 b u) u) e,p,rfl,λb o e a E a=>F b o E e⟩
 have K:=S.ea λa x=>x.elim
 have z:∀b o,b<W.base.objs.size->s.heap.get? b=some o->s'.heap.get? b=some o:=λb o hb e=>
  k b o (λq=>absurd hb (Nat.not_lt.mpr (q▸H.1))) (λx=>absurd hb (Nat.not_lt.mpr (st.inv.b0 b (st.inv.b8 b x)).1)) e
 refine⟨⟨⟨λb o e=>z b o (b9 e) (st.inv.keep b o e),aE st.inv.size p,t.trans st.inv.gens,D.trans st.inv.os,λb x=>?_,λb x=>?_,st.inv.gR,st.inv.g7,st.inv.gd,st.inv.tab.keep K.bq λa e=>z _ _ st.inv.eO e,st.inv.eO,st.inv.hJ,st.inv.b8⟩,⟨λi y e=>?_,st.cells.free⟩⟩,S⟩
 .exact(st.inv.cn b x).imp id (.imp (λh=>a9 h p) id)
 .exact(st.inv.b0 b x).imp id (.imp (λh=>a9 h p) id)
 .refine ec e (λa e=>aY e) λC e=>?_
  refine aA (st.cells.at_ i y e) λj w=>?_;refine aw w λb l I=>?_
  have A:y.qd=false->∀b,(G.g i=some b∨G.d i=some b)->¬G.ou b:=λf b hb x=>(st.inv.cn b ⟨i,j f,hb⟩).2.2.1 (st.inv.b8 b x)
  exact⟨j,b,l,I.oZ K (λf o e=>k _ o (λq=>st.inv.gd i c it (j f) v (q▸l) r) (A f b (.inl l)) e)
   (λf d o m e=>k _ o (λq=>C (st.inv.g7 i c it (j f) v (q▸m) r)) (A f d (.inr m)) e)⟩
noncomputable def i6 (si:SI) (x:String):Bool:=(si.kind x==some .local|| si.kind x==some .cell|| si.kind x==some .free) && (!(au x==("__classdict__" :aj)) && !(au x==("__debug__" :aj)))
theorem zT{A a M G s ρ σ d}{x:String}{p:bc}(st:St W G s σ)(F:aT W A G s.heap si a M ρ)(f:ρ x=some d)(e:i6 si x=true):ar W.M A (aU (.Name (au x) p) a) (Out W G s σ d) aF s:=
 have b:=band e
 have c:=band b.2
 wpAny_Name (F2 st F f b.1 (by simpa using c.1)) (by simpa using c.2)
theorem Hm{A f M G s ρ σ d q}{x:String}{ap j np:bc}(st:St W G s σ)(F:aT W A G s.heap si f M ρ)(e:ρ x=some d)(h:pa d σ=some q)(k:i6 si x=true)(l:(ap.endLine==j.line)=true):
 ar W.M A (aU (.Call (.Attribute (.Name (au x) np) (au "pop") ap) [] [] j) f) (Out W G s q.2 q.1) aF s:=
 BS rfl l (iu (zT st F e k) λv ak i c b g=>MethodOnS.mono (Hp b g h) λa a o=>o.trans c)
theorem Oc{A e M G s ρ σ ab}{dd j st:String}{n o r kP sp dp ep D E H:bc}{Q:gw->ai->Prop}(S:St W G s σ)(Fr:aT W A G s.heap si e M ρ)(h:y7 dd j st ρ σ=some ab)(k1:i6 si dd=true)(k2:i6 si j=true)(k3:i6 si st=true)
 (l1:(n.endLine==r.line)=true) (l2:(o.endLine==kP.line)=true) (hm:si.sc.kind≠ .module) (K:∀O G',Step W bf G s.heap G' O.heap->St W G' O ab->aT W A G' O.heap si e M ρ->Q .next O):
 ar W.M A (ja [.Delete [.Subscript (.Name (au dd) D) (.Call (.Attribute (.Name (au j) E) (au "pop") n) [] [] r) sp] dp,.Expr (.Call (.Attribute (.Name (au st) H) (au "pop") o) [] [] kP) ep] e) Q aF s:=
 ob h λk e1 h=>ob h λdq e2 h=>ob h λdi e3 h=>ob h λp e4 h=>ob h λC hk h=>ob h λc hc h=>og h λU h=>ob h λq e5 h=>by
  refine tF (wpAny_Delete (wpAny_deleteEach_cons (show ar _ _ (aU (.Name (au dd) D) e>>=λN=>kf [N] (aU (.Call (.Attribute (.Name (au j) E) (au "pop") n) [] [] r) e)>>=λV=>ip sp>>=λb=>kf [N,V] (delItem N V)>>=λb=>release [N,V] []) _ _ _ from ?_)))
  refine ah (iu (zT S Fr e1 k1) λBq ak Y f i I=>ah (bz (iu (Hm i (Fr.go S.inv f) e2 e4 k2 l1) λIL L Z g d J=>?_)))
  have v:=(Fr.go S.inv f).go i.inv g
  refine J.c8 hk λt q1 q2=>yF d (I.go g) hc λ{a P} T hg z ns hD X=>?_
  refine ah (cQ (ah (bz (wpAny_delItem_slot hD.typeIs (by decide) JJ (call_meetsIn JJ hD.typeIs F.entry_dict_delitem (F.args_dict_delitem_2 _ _) (meets_dict_delitem_pairs (strKind W.prog W.w) a (jI C t))
   ⟨P,hD,by exact aa (X.length ..)<|Nat.le_trans z f9,by exact aa (zM X ..)<|U,λh' R B=>qO (wpAny_deleteEach_nil (tF ?_))⟩)))))
  have y:=d.m_ (tk:=L.toks+1) (c':=.dict (c.2.filter λp=>decide (p.1≠C))) T rfl hg (.inl hg) B.extBut (bN B.1.symm) λK=>⟨aE (iX ..) z,ns,_,R,(X.keep K).without⟩
  have l:=v.go d.inv y.2
  exact aa (exec_Expr _ _ _ (by unfold zK;rw [Fr.sc,beq_eq_false_iff_ne.mpr hm];rfl) (show Iw (.Call (.Attribute (.Name (au st) H) (au "pop") o) [] [] kP) none ep.line e=pure false from rfl))<|wpAny_bind (cQ (ah (iu (Hm y.1 l e3 e5 k3 l2) λYl tw x m u HJ=>Ej (wK (K _ x (((f.trans g).trans y.2).trans m) (sj h u) (l.go y.1.inv m))))))
end
end
section
section
variable {W:Wd} {n:Nat} {si:SI}
theorem NC{s:ai}{it:aq}{A:aO}{E:af->ai->Prop}{Q:Unit->ai->Prop}(j:s.TypeIs (.ref it) "list_iterator")(h:Q () s):ar W.M A (yO "list_iterator.__next__" ⟨[.ref it],[]⟩) Q E s:=by
 unfold yO
 refine aw j λo n b=>?_
 obtain⟨c,f,e,q⟩:=o
 dsimp only at b
 subst b
 obtain⟨p,g,d,k,os⟩:=s
 have l:jJ (.type "list_iterator") (.type "module")=pure false:=by refine aa (eE ..) ?_;kernel_rfl
 have m:jJ (.type "list_iterator") (.type "type")=pure false:=by refine aa (eE ..) ?_;kernel_rfl
 have i:(Manifest.varargsMethods.contains "list_iterator.__next__" || false)=false:=by decide+kernel
 repeat (any_goals (first| assumption| (refine aa (i ..)<|aa (if_neg (by decide)) ?_)| ((with_reducible show ar _ _ (I_ _ _ _) _ _ _);refine hK (a:=()) (by kernel_rfl) ?_)| wp_step))
theorem Nr{A:aO}{s:ai}{f:bc}{a it:aq}{Q:af->ai->Prop}{E:af->ai->Prop}(hb:s.heap.get? a=some (lW it))(l:s.TypeIs (.ref it) "list_iterator")
 (h:eU W.M A (.builtin "list_iterator.__next__" ⟨[.ref it],[]⟩) (λr c=>match r with| .ok (.ret v)=>Q v c| .ok _=>False| .error e=>E e c) s):ar W.M A (i5 f (.ref a) [] [] []) Q E s:=by
 unfold i5
 refine ah (bz ?_)
 have d:ar W.M A (p7 (.ref a) true [] []) (λx c=>x=⟨[],[]⟩/\c=s) E s:=by
  unfold p7
  show ar W.M A (wx []>>=_) _ _ s
  refine ah (w9 ?_)
  refine ah (aD (bz ?_))
  exact ah (aD (ah (aD (aD ⟨rfl,rfl⟩))))
 refine gW d (λx c g=>aA g λj k=>?_) λb b x=>x
 subst j;subst k
 refine ah (cQ ?_)
 have m:∀{Q:Keeper->ai->Prop},Q .machine c->ar W.M A (FT (.ref a)) Q E c:=λ{Q} q=>by
  unfold FT
  refine ah (nG hb ?_)
  dsimp only [lW]
  exact aD q
 refine ah (m ?_)
 refine ah (gW (jT (uE ?_):ar W.M A (bM (.ref a) [] []) Q E c) (λr i n=>ah (bz (wpAny_point (aD n)))) λb b x=>x)
 show ar _ _ (uz (.ref a) _) _ _ _
 unfold uz
 refine ah (nG hb ?_)
 dsimp only [lW]
 refine aa (if_pos (by decide+kernel)) ?_
 refine ah (NC l ?_)
 exact aD ⟨xa _ (by decide+kernel),h⟩
end
end
section
theorem VG:jJ (.type "StopIteration") (.type "StopIteration")=pure true:=by refine aa (eE ..) ?_;kernel_rfl
theorem VH:jJ (.type "StopIteration") (.type "BaseException")=pure true:=by refine aa (eE ..) ?_;kernel_rfl
theorem VI:jJ (.type ((K4 "StopIteration").elim "type" λx=>x.metatype)) (.type "tuple")=pure false:=by
 refine aa (show(K4 "StopIteration").elim "type" (λx=>x.metatype)= "type" by kernel_rfl)<|aa (eE ..) ?_;kernel_rfl
theorem E5{h a:aN}:∀{fs:List bg},(∀e∈fs,e.scope.kind≠ .module/\∃L,e.frame=some L/\a.get? L=none/\∃o,h.get? L=some o/\∀l,o.data≠ .fields l)->h.FunFrames a fs
 | [],_=>trivial
 | env::rest,H=>
  aA (H env a0) λk b=>bI b λL d f c=>aw c λo g i=>
  ⟨k,⟨L,o,d,f,g,i⟩,E5 λe j=>H e (bT _ j)⟩
theorem Cell.QU{d i}(h:Cell.FN d=some i):d=.iter i.1 i.2:=by induction d<;>first| exact aY h| (obtain rfl:=aM h;rfl)
section
variable {W:Wd} {n:Nat} {si:SI}
theorem aT.at{A a G h env M ρ}(F:aT W A G h si env M ρ)(e:a.frames=A.frames):aT W a G h si env M ρ:=
 {F with here:=λp b=>by exact aa (e ..)<|F.here p b,fo:=by exact aa (e ..)<|F.fo}
structure x4(h:aN)(it:aq)(fy:aN)(e:aq):Prop where
 ext:ly it h fy
 size:h.objs.size<=fy.objs.size
 ge:h.objs.size<=e
 exc:∃oe vs,fy.get? e=some oe/\oe.cls=.type "StopIteration" /\oe.data=.fields vs/\vs[1]?=some .none
structure Lb(G:Gh)(fy iL:aN)(e T:aq):Prop where
 ge:fy.objs.size<=T
 size:fy.objs.size<=iL.objs.size
 keep:∀b o,b≠e->¬G.ou b->fy.get? b=some o->iL.get? b=some o
 dat:∀b o,b≠e->fy.get? b=some o->∃sl,iL.get? b=some {o with slots:=sl}
 exc:∃oe vs,iL.get? e=some oe/\oe.cls=.type "StopIteration" /\oe.data=.fields vs/\vs[1]?=some (.ref T)
 tb:∃oT ts,iL.get? T=some oT/\oT.data=.fields ts/\3<ts.size
theorem Tc{A p M G s ρ σ it j e}{C}{Q:Unit->ai->Prop}(N:si.here=some C)(st:St W G s σ)(F:aT W A G s.heap si p M ρ)(w:G.own it)(X:x4 s.heap it j e)(K:∀l T,Lb G j l e T->Q () {s with heap:=l}):
 ar W.M A (sT (.ref e) p) Q aF {s with heap:=j}:=by
 have h:=(F.here C N).2.2
 have fo:=F.ku
 unfold Fo at fo
 rw [h.2.choose_spec] at fo
 have y:=fo.choose_spec.2
 rw [← aM fo.choose_spec.1] at y
 have R:∀b,G.ou b->b≠it:=λb x q=>(st.inv.cn it w).2.2.1 (q▸st.inv.b8 b x)
 refine nI X.exc λY Z H I J L=>?_
 refine Tb (s:={s with heap:=j}) (base:=W.base) h.2.choose_spec (E5 λv m=>?_) h.1 H J L λl T a b c d f g=>K l T ⟨a,b,λb o O P e=>c b o O (λhb=>P ?_) e,d,f.imp λi=>dX λi x=>⟨x.1,x.2.1.trans I,x.2.2⟩,g⟩
 .refine aA (y v m) λk r=>?_;refine dG r λn z S B t=>?_;refine aw t λE U V=>?_
  exact⟨k,n,z,Heap.get?_none_of_le (st.inv.b0 n S).1,E,X.ext n E (R n B) U,V⟩
 .refine aw (List.mem_filterMap.mp hb) λv m D=>?_
  refine aA (y v m) λi u=>?_;refine dG u λn z i B i=>?_
  rw [z] at D
  exact aM D▸B
theorem Nz{A g M G s ρ σ c it j e}{y:Nat×Nat}{hp i h np p}{Q:gw->ai->Prop}(ok:W.Ok)(B:iv W si "StopIteration" (.type "StopIteration"))(Z:si.here=some hp)(st:St W G s σ)(F:aT W A G s.heap si g M ρ)(L:σ.cell c=some (.iter y.1 y.2))(O:G.d c=some it)(X:x4 s.heap it j e)
 (K:∀t,Step W bf G s.heap G t.heap->St W G t (σ.del c)->aT W (A.mark (some (.ref e))) G t.heap si g M ρ->ar W.M (A.mark (some (.ref e))) (ja (i::h) g) Q aF t):
 ar W.M A (sT (.ref e) g) (λa u=>ar W.M A (setFlight (.ref e) none) (λa v=>ar W.M A (handleBy (.ref e) g [.ExceptHandler (some (.Name (au "StopIteration") np)) none (i::h) p]) Q aF v) aF u) aF {s with heap:=j}:=by
 have n:G.own it:=⟨c,(st.cells.at_ c _ L).1 rfl,.inr O⟩
 have nX:∀b,G.ou b->b≠it:=λb x q=>(st.inv.cn it n).2.2.1 (q▸st.inv.b8 b x)
 refine Tc Z st F n X λf T N=>?_
 refine nI N.exc λP vs H Y I J=>?_
 refine eQ N.tb λoT ts R S U=>?_
 have C:T≠e:=λq=>fc X.exc λa a z a=>absurd (b9 z) (Nat.not_lt.mpr (q▸N.ge))
 have m:∀{h':aN},(∀b,b≠T->h'.get? b=f.get? b)->h'.objs.size=f.objs.size->St W G {s with heap:=h'} (σ.del c)/\Step W bf G s.heap G h':=λ{h'} k hz=>
  have ne:∀b o,s.heap.get? b=some o->b≠e/\b≠T:=λb o q=>⟨λr=>absurd (b9 q) (Nat.not_lt.mpr (r▸X.ge)),λr=>absurd (b9 q) (Nat.not_lt.mpr (r▸aE X.size N.ge))⟩
  st.raised (s':={s with heap:=h'}) (x:=y) L O (λb o hb D q=>(k b (ne b o q).2).trans (N.keep b o (ne b o q).1 D (X.ext b o hb q)))
   (λb o D q=>(N.dat b o (ne b o q).1 (X.ext b o (nX b D) q)).imp λsl r=>(k b (ne b o q).2).trans r) (aE (aE X.size N.size) (bN hz.symm)) rfl rfl
 refine WU H I J R S U ?_
 have V:=m (h':=f.update T (lE (·.setIfInBounds 3 .none))) (λb hb=>gf _ _ (Ne.symm hb)) (jt ..)
 have l:(f.update T (lE (·.setIfInBounds 3 .none))).get? e=some P:=(gf _ _ C).trans H
 have w:=rN S (·.setIfInBounds 3 Value.none)
 refine wpAny_handleBy_builtin VH VI VG (aF.any (g8 ok V.1 ((F.go st.inv V.2).at rfl) B.hk B.hb (.inr ⟨B.hg,B.hm⟩) ⟨rfl,⟨P,l,Y⟩,?_⟩))
 refine aa (if_pos rfl ..) ?_
 refine WU l I J (eI (lE (·.setIfInBounds 3 Value.none)) R (xN w)) w (by exact aa (Array.size_setIfInBounds ..)<|U) ?_
 have E:=m (h':=(f.update T (lE (·.setIfInBounds 3 .none))).update T (lE (·.setIfInBounds 3 .none))) (λb hb=>(gf _ _ (Ne.symm hb)).trans (gf _ _ (Ne.symm hb))) (by exact aa (jt ..)<|aa (jt ..) rfl)
 exact aF.any (K _ E.2 E.1 ((F.go st.inv E.2).at rfl))
theorem SU{A G s σ v d c}{y:Nat×Nat}{xs:List D}{J:bc}{Q:af->ai->Prop}{E:af->ai->Prop}(V:br n A)(st:St W G s σ)(r:Rep W G s.heap v d)(B:d.fP=some c)(O:σ.cell c=some (.iter y.1 y.2))(hl:σ.cell y.1=some (.list xs))
 (U:∀x u S,xs[y.2]?=some x->Out W G s (σ.put c (.iter y.1 (y.2+1))) x u S->Q u S) (T:∀it g e,xs[y.2]?=none->G.d c=some it->x4 s.heap it g e->E (.ref e) {s with heap:=g}):ar W.M A (i5 J v [] [] []) Q E s:=
 kO (motive:=λv=>ar W.M A (i5 J v [] [] []) Q E s) st r B O λ{a} F I=>nI I λit R C j hb hit=>by
  refine aA (st.cells.at_ _ _ hl) λf l=>?_;refine aw l λH k t=>?_
  obtain rfl:R=H:=aM (j.symm.trans k)
  refine ew (F9 t) λZ m L=>?_
  have i:a≠it:=λq=>by refine bI hit λY N p f=>?_;rw [← q,hb] at N;rw [← aM N] at p;exact absurd (show kF "method-wrapper" =kF "list_iterator" from p) (by decide)
  refine Nr hb hit.typeIs ?_
  induction o:xs[y.2]? with
  | some d=>
   refine aw (L.2.1.get o) λu P X=>?_
   refine RF hit ⟨_,L.1,rfl,m,rfl⟩ (x:=u) (by rw [jV] at P;exact P) λh' w h=>?_
   have z:=st.m_ (tk:=s.toks) (c':=.iter y.1 (y.2+1)) O rfl F (.inr C) h.extBut (bN h.1.symm) λK=>⟨it,R,C,j,h.2 a i▸hb,w⟩
   exact U d u _ o ⟨G,z.2,z.1,X.go z.2⟩
  | none=>exact RE V.2.2.2 hit ⟨_,L.1,rfl,m,rfl⟩ (tO (by exact aa (eX L.2.1 ..)<|List.getElem?_eq_none_iff.mp o)) λg e a b c d=>T it g e o C ⟨a,b,c,d⟩
theorem Mt{A:aO}{b:bg}{s:ai}{x:String}{fo f:ay}{i fp e c:bc}{Q:gw->ai->Prop}{E:af->ai->Prop}
 (h:ar W.M A (aU (.Subscript fo f fp) b) (λv ak=>ar W.M A (i5 e v [] [] []) (λu d=>ar W.M A (iy (.Name (au x) i) b u) (λa g=>Q .next g) E d) E ak) E s):ar W.M A (exec (.Assign [.Name (au x) i] (.Call (.Subscript fo f fp) [] [] e) c) b) Q E s:=by
 refine aa (zi ..)<|aa (show kq [.Name (au x) i] (.Call (.Subscript fo f fp) [] [] e) c.line b=pure false from rfl) ?_
 refine ah (cQ (ah (aD ?_)))
 refine aa (if_neg (by decide)) ?_
 refine ah (show ar _ _ (do i5 e (← aU (.Subscript fo f fp) b) [] [] []) _ _ _ from ah (gW h (λv ak h=>gW h (λu d h=>?_) λa a x=>x) λa a x=>x))
 refine aa (show l0 [.Name (au x) i] (.Call (.Subscript fo f fp) [] [] e) b=pure none from rfl) ?_
 refine ah (aD ?_)
 exact ah (gW h (λa a h=>aD h) λa a x=>x)
theorem Ex.qG{x dd j st:String}{fo fi:ay}{mI:ME}{xp fp cp H bp np L Q E F I kP sp dp ep Y Z Td:bc}{hp}(ok:W.Ok)(hh:si.here=some hp)(hm:si.sc.kind≠ .module)(T:Ev W n si (.Subscript fo fi fp) mI)(hx:i7 si x=true)(k1:i6 si dd=true)(k2:i6 si j=true)(k3:i6 si st=true)
 (B:iv W si "StopIteration" (.type "StopIteration")) (l1:(E.endLine==I.line)=true) (l2:(F.endLine==kP.line)=true):
 Ex W n si (.Try [.Assign [.Name (au x) xp] (.Call (.Subscript fo fi fp) [] [] cp) H,.Break bp]
  [.ExceptHandler (some (.Name (au "StopIteration") np)) none [.Delete [.Subscript (.Name (au dd) Y) (.Call (.Attribute (.Name (au j) Z) (au "pop") E) [] [] I) sp] dp,.Expr (.Call (.Attribute (.Name (au st) Td) (au "pop") F) [] [] kP) ep] L] [] [] Q)
  (.qG x mI dd j st):=λ{A env M G s ρ σ r} rm N Fr h=>
 ob h λp e1 h=>ob h λc S h=>ob h λcc R h=>ob h λy hy h=>ob h λcl J h=>ob h λxs V h=>by
  rw [Cell.QU hy] at R
  rw [Cell.qj V] at J
  refine WD (tF (Mt (aF.any (iu (T rm N Fr e1) λv ak fq g a O=>?_))))
  have i:=Fr.go N.inv g
  refine SU rm a O S R J (λd u b3 U o=>?_) λit fy e U hd X=>?_
  .rw [U] at h
   exact o.elim λlx f b P=>aF.any (kA (Et.name (n:=n) hx rm b (i.go a.inv f) P rfl) λeZ w C k q=>tF (wpAny_Break (sj h ⟨w,((g.trans f).any (M:=M)).trans C,k,q,trivial⟩)))
  .rw [U] at h
   exact ob h λaX K h=>Nz (y:=y) ok B hh a i R hd X λs' f b m=>Oc b m K k1 k2 k3 l1 l2 hm λks z D l t=>sj h ⟨z,((g.trans f).trans D).any,l,t.at rfl,trivial⟩
end
end
section
section
variable {W:Wd} {n:Nat} {si:SI}
def Kh(W:Wd)(I l:aq)(b:List (aj×D))(a:List (aj×af))(c:Nat):Gh->aN->List D->Prop:=λG h xs=>
 ∃j,h.IsKeyIter I l j a.length c/\ri (strKind W.prog W.w) h l a c/\bC W G h a b/\bJ W G l/\xs=(b.drop j).map λp=>.str p.1
theorem ju.keys{σ:MH}{I l:aq}{ei:List (aj×D)}{mC:List (aj×af)}{ep:Nat}:ju W n σ I (λa=>a=I) (Kh W I l ei mC ep) where
 item:=λ{A G s x xs} Q st b f J=>lg J λj z hD t i c=>by
  have g:=t.get j
  have m:(ei.drop j).head?=ei[j]?:=KI ..
  generalize w:mC[j]?=p at g
  generalize O:ei[j]?=q at g m
  generalize C:ei.drop j=kj at c m
  induction g with
  | none=>rw [List.head?_eq_none_iff.mp m] at c;exact(jX _ _ c).elim
  | @some k v d Z k2 r=>
   have T:kj=(k,d)::ei.drop (j+1):=by
    match kj,m,C with
    | y::ys,m,C=>obtain rfl:=aM m;exact aa (.symm (List.drop_drop ..))<|aa (C ..) rfl
   rw [T] at c
   refine aA (rz c) λE F=>?_;obtain rfl:=E;obtain rfl:=F
   refine WQ z hD w λkey h' u B P=>?_
   refine aA (vZ (tk:=s.toks) st (f _ rfl).1 P.extBut (bN P.1.symm)) λS h=>?_
   refine aL (LS u) λR H=>?_;obtain rfl:=H
   have K:=S.ea λa e=>(f a e).1
   exact⟨_,G,rfl,S,h,⟨j+1,B,(gA K.bq i hD).2,t.keep K,(gA K.bq i hD).1,rfl⟩,.str _ _ Z k2⟩
 done:=λ{A G s} Q st b f L=>lg L λj z hD t i c=>by
  have g:=t.get j
  have O:ei[j]?=none:=by exact aa (.symm (KI ..))<|aa (List.map_eq_nil_iff.mp c.symm ..) rfl
  rw [O] at g
  generalize w:mC[j]?=p at g
  cases g
  refine iT (WO Q.2.2.2 z hD w λh' V Y=>?_)
  refine aA (vZ (tk:=s.toks) st (f _ rfl).1 V Y) λS h=>?_
  exact⟨rfl,G,S,h⟩
 shift:=λN k X=>lg N λj M hD t i c=>aw M λo U r=>by
  exact⟨j,⟨o,X _ _ rfl U,r⟩,(gA k.bq i hD).2,t.keep k,(gA k.bq i hD).1,c⟩
theorem PT{A:aO}{E:af->ai->Prop}{s:ai}{a:aq}{Q:Bool->ai->Prop}(f:s.TypeIs (.ref a) "dict")(h:Q false s):ar W.M A (BO (.ref a)) Q E s:=by
 unfold BO
 refine ah (qP f F.slot_dict_len.lookup ?_)
 have i:splitId "dict.__len__" =some ("dict","__len__"):=by decide+kernel
 have t:jJ (.type "dict") (.type "dict")=pure true:=by refine aa (eE ..) ?_;kernel_rfl
 dsimp only
 refine aa (i ..) ?_
 dsimp only
 have q:ar W.M A (isInstance (.ref a) (.type "dict")) (λb k=>b=true/\k=s) E s:=by
  refine aw f λo u j=>?_
  obtain⟨c,m,l,w⟩:=o
  dsimp only at j
  subst j
  obtain⟨v,g,d,r,os⟩:=s
  repeat (any_goals (first| assumption| wp_step))
  exact⟨rfl,rfl⟩
 refine ah (bD q λb k e=>aA e λn p=>?_)
 subst n;subst p
 exact aa (if_neg (by decide))<|aa (if_pos (by decide+kernel))<|wpAny_bind (wN f (aD h))
noncomputable def lU (a:aq) (b:List (aj×af)) (c:Nat):bu:={cls:=.type "dict_keyiterator",data:=.fields #[.ref a,.int 0 0,.int b.length 0,.int c 0]}
theorem Rr{A G}{s:ai}{σ v d r}(rm:br (n+2) A)(st:St W G s σ)(fo:Fo A G s.heap)(rv:Rep W G s.heap v d)(e:sD d σ=some r):ar W.M A (bM (.type "list") [v]) (dy W G s r) aF s:=
 ob e λR hk e=>sj e (rv.y8 hk λ{a i} z f ns V rr=>by
  refine aL V.dictAt λC hD=>?_
  refine aw (id V.typeIs) λoa Y Ya=>?_
  have jG:a<s.heap.objs.size:=b9 Y
  refine DT (Q₁:=λobj ak=>obj=.ref s.heap.objs.size/\ak= {s with heap:=s.heap.push f6}) Jz (JQ _) JD (N1 _ ⟨rfl,rfl⟩) λobj ak fy=>?_
  refine aA fy λkp jk=>?_;obtain rfl:=kp;obtain rfl:=jk
  have hS:(s.heap.push f6).get? s.heap.objs.size=some f6:=c5 _ rfl
  refine⟨⟨_,hS,rfl⟩,Jx _ _,?_⟩
  have Pr:s.heap.objs.size≠a:=λq=>fV _ (q▸jG)
  show ar _ A.in1.in1 (do let old ← wZ (.ref s.heap.objs.size);BQ (.ref s.heap.objs.size) (λc=> #[]);letGo old.toList.reverse;nL (.ref s.heap.objs.size) (.ref a) .none) _ _ _
  refine ah ?_
  unfold wZ
  refine ah (lb hS rfl (aD ?_))
  show ar _ A.in1.in1 (l6 s.heap.objs.size (λc=> #[])>>=λc=>letGo (#[]:Array af).toList.reverse>>=λc=>nL (.ref s.heap.objs.size) (.ref a) .none) _ _ _
  refine ah (jn hS rfl ?_)
  have N:=eI (dE (λc=>(#[]:Array af))) hS rfl
  have H:∀b o,s.heap.get? b=some o->((s.heap.push f6).update s.heap.objs.size (dE (λc=>(#[]:Array af)))).get? b=some o:=λb o e=>(gf _ _ (λq=>fV _ (q▸b9 e))).trans (bH _ e)
  have B:((s.heap.push f6).update s.heap.objs.size (dE (λc=>(#[]:Array af)))).objs.size=s.heap.objs.size+1:=by exact aa (jt ..)<|aa (c9 ..) rfl
  generalize (s.heap.push f6).update s.heap.objs.size (dE (λc=>(#[]:Array af)))=g at*
  refine ah (qN ?_)
  have m:ri (strKind W.prog W.w) g a i C:=hD.at' λo e=>H _ _ e
  have P:=m.dictOf.typeIs (s:={s with heap:=g})
  unfold nL
  refine ah (wN P ?_)
  refine aa (if_neg (λh=>by rw [show Ji (.ref s.heap.objs.size) (.ref a)=false from decide_eq_false Pr] at h;exact absurd h (by decide))) ?_
  refine ah (IQ (o6 ns) m ?_)
  have Q:({s with heap:=g.push (lU a i C)}:ai).TypeIs (.ref a) "dict" :=(m.at' (λo e=>bH (lU a i C) e)).dictOf.typeIs
  refine ah (bz (PT Q ?_))
  show ar _ A.in1.in1 (rule "list.extend.makes-room" >>=λc=>Jj (.ref s.heap.objs.size)>>=λc=>
   mB (.builtin "list.extend.loop" ⟨[.ref s.heap.objs.size,.ref g.objs.size,.none],[]⟩)) _ _ _
  refine ah (nH (ah ?_))
  show ar _ A.in1.in1 (l6 s.heap.objs.size (·.push .none)>>=λc=>l6 s.heap.objs.size (·.pop)) _ _ _
  have hl:(g.push (lU a i C)).get? s.heap.objs.size=some _:=bH _ N
  refine ah (jn hl rfl ?_)
  have D:=eI (dE (·.push Value.none)) hl rfl
  refine jn (hz:=by seq_fits) D rfl ?_
  have O:=eI (dE (·.pop)) D rfl
  have He:∀b o,b≠s.heap.objs.size->(g.push (lU a i C)).get? b=some o->(((g.push (lU a i C)).update s.heap.objs.size (dE (·.push Value.none))).update s.heap.objs.size (dE (·.pop))).get? b=some o:=
   λb o hb e=>(gf _ _ (Ne.symm hb)).trans ((gf _ _ (Ne.symm hb)).trans e)
  have J:(((g.push (lU a i C)).update s.heap.objs.size (dE (·.push Value.none))).update s.heap.objs.size (dE (·.pop))).objs.size=s.heap.objs.size+2:=by exact aa (jt ..)<|aa (jt ..)<|aa (c9 ..)<|aa (B ..) rfl
  have kI:=He g.objs.size _ (by exact aa (B ..)<|Nat.succ_ne_self _) (c5 (o:=lU a i C) _ rfl)
  refine(id ?_:ar _ _ _ _ _ {s with heap:=((g.push (lU a i C)).update s.heap.objs.size (dE (·.push Value.none))).update s.heap.objs.size (dE (·.pop))})
  generalize ((g.push (lU a i C)).update s.heap.objs.size (dE (·.push Value.none))).update s.heap.objs.size (dE (·.pop))=j at*
  have u:∀b o,s.heap.get? b=some o->j.get? b=some o:=λb o e=>He b o (bj (b9 e)) (bH _ (H b o e))
  have t:∀b,(b=g.objs.size∨b=s.heap.objs.size)->s.heap.objs.size<=b/\b<j.objs.size:=λb hb=>by
   exact aa (J ..)<|hb.elim (λq=>by exact aa (q ..)<|aa (B ..)<|⟨dD _,cw _⟩) λq=>by exact aa (q ..)<|⟨bb _,ff (by decide)⟩
  have X:s.heap.objs.size<=j.objs.size:=by exact aa (J ..)<|Nat.le_add_right _ _
  refine aA (jE (b3:={s with heap:=j}) (M:=λb=>b=g.objs.size∨b=s.heap.objs.size) st t u X rfl rfl) λS E=>?_
  have m7:∀b,(b=g.objs.size∨b=s.heap.objs.size)->¬G.ou b:=λb hb y=>absurd (st.inv.b0 b (st.inv.b8 b y)).2.1 (Nat.not_lt.mpr (t b hb).1)
  have K:Fo A {G with fr:=λb=>G.fr b∨(b=g.objs.size∨b=s.heap.objs.size)} j:=aw fo λfs e k=>⟨fs,e,λy hy=>aA (k y hy) λk1 AO=>dG AO λL k2 k3 k4 AP=>aw AP λo k5 k6=>⟨k1,L,k2,.inl k3,k4,o,u _ _ k5,k6⟩⟩
  refine aD ⟨g_ tX _,g6 (EH (n:=n) (acc:=[]) (xs:=R.map λp=>.str p.1) (ju.keys (I:=g.objs.size) (l:=a) (ei:=R) (mC:=i) (ep:=C)) rm.in1
   ⟨S,K,λb hb=>⟨.inr (.inl hb),m7 b (.inl hb)⟩,.inr (.inr rfl),m7 _ (.inr rfl),λq=>absurd (q.trans B) (bj (cw _)),⟨0,⟨_,kI,rfl,rfl⟩,hD.at' (λo e=>u _ _ e),rr.keep E,(E.bq _ _ Y f).1,rfl⟩⟩
   ⟨fW _,_,#[],_,O,rfl,⟨rfl,rfl⟩,rfl,.nil⟩ (by exact aa (aZ ..)<|(rM _).symm▸z)) λr s' Uo=>aA Uo λe AQ=>bI AQ λG' S' Ba c'=>?_⟩
  subst e
  have PG:G'.fr=λb=>G.fr b∨(b=g.objs.size∨b=s.heap.objs.size):=S'.fr
  have Z:∀b,G'.ou b->G.fr b:=λb y=>st.inv.b8 b (by exact aa (.symm (show G'.ou=G.ou from S'.ou))<|y)
  refine aA (kV (fr:=λb=>G.fr b∨b=s.heap.objs.size) Ba (λb x=>by exact aa (PG ..)<|x.elim .inl λq=>.inr (.inr q)) λb y=>.inl (Z b y)) λT U=>?_
  exact⟨rfl,{G' with fr:=λb=>G.fr b∨b=s.heap.objs.size},s.heap.objs.size,rfl,bb _,rfl,
   (show Step W bf G s.heap {G' with fr:=G.fr} s'.heap from qy (G:=G) (M:=λa=>a=g.objs.size∨a=s.heap.objs.size) (λb y=>(t b y).1) u X (λa l=>⟨λUp=>aA Up λx y=>⟨x.elim id λz=>absurd l (Nat.not_lt.mpr (t a z).1),y⟩,λUq=>aA Uq λx y=>⟨.inl x,y⟩⟩) S'.ou (S'.weaken λc y=>.inr y)),
   T,c'.lT U (λc e=>e),λx=>absurd (st.inv.b0 _ x).2.1 (fV _),Z⟩)
theorem bG.Rq{p e j m}(w:W.Ok)(B:iv W si "list" (.type "list"))(v:Ev W (n+2) si e m)(i:∀b,bB [e] b= [(false,aU e b)]):bG W (n+2) si (.Call (.Name (au "list") p) [e] [] j) (.ax sD m):=λ{A b M G s ρ σ r} l st Fr h=>
 ob h λq u h=>by
  exact aa (jB ..)<|wpAny_bind (g8 w st Fr B.hk B.hb (.inr ⟨B.hg,B.hm⟩) (j7 rfl (kH (by exact aa (i ..) rfl)) (oI (λb=>by exact aa (i ..) rfl) (l8 (bR v l st Fr u λ{k ak t} f c d g=>qM (bD (Rr l c d.ku g h) λa a o=>dy.trans f o)) (by exact aa (i ..) rfl)))))
end
end
noncomputable def GA:MS:=(.cons (.assign (.name "kind") (.ax II (.var "path"))) (.cons (.ite (.val (.bh FK (.var "kind") (.tup [(.typ "str"),(.typ "bytes")]))) (.ret (.var "path")) .nil) .never))
noncomputable def iU:FM:=fO (bO (bind1 "path") GA)
noncomputable def RU:MS:=(.ite (.val (.bh mY (.var "path") (.typ "bytes"))) .never (.ret (.str "/")))
noncomputable def qY:FM:=fO (bO (bind1 "path") RU)
noncomputable def R0:MS:=(.cons (.assign (.name "p") (.a8 iU (aG [(.var "p")]))) (.cons (.ite (.val (.bh mY (.var "p") (.typ "bytes"))) .never (.cons (.assign (.name "sep") (.str "/")) (.assign (.name "empty") (.str "")))) (.ite (.val (.ne (.slice (.var "p") .none (some (.int 1))) (.var "sep"))) (.ret (.tup [(.var "empty"),(.var "empty"),(.var "p")])) (.ite (.or (.val (.ne (.slice (.var "p") (some (.int 1)) (some (.int 2))) (.var "sep"))) (.val (.eq (.slice (.var "p") (some (.int 2)) (some (.int 3))) (.var "sep")))) (.ret (.tup [(.var "empty"),(.var "sep"),(.slice (.var "p") (some (.int 1)) .none)])) (.ret (.tup [(.var "empty"),(.slice (.var "p") .none (some (.int 2))),(.slice (.var "p") (some (.int 2)) .none)]))))))
noncomputable def xg:FM:=fO (bO (bind1 "p") R0)
noncomputable def z_:MS:=(.cons (.assign (.name "p") (.a8 iU (aG [(.var "p")]))) (.cons (.assign (.name "sep") (.a8 qY (aG [(.var "p")]))) (.cons (.assign (.name "i") (.add (.bh HD (.var "p") (.var "sep")) (.int 1))) (.cons (.assign (.name "head") (.slice (.var "p") .none (some (.var "i")))) (.cons (.ite (.and (.val (.var "head")) (.val (.ne (.var "head") (.Ak (.var "sep") (.ax bW (.var "head")))))) (.assign (.name "head") (.bh HG (.var "head") (.var "sep"))) .nil) (.ret (.var "head")))))))
noncomputable def fm:FM:=fO (bO (bind1 "p") z_)
noncomputable def Aa:MS:=(.cons (.assign (.name "a") (.a8 iU (aG [(.var "a")]))) (.cons (.assign (.name "sep") (.a8 qY (aG [(.var "a")]))) (.cons (.assign (.name "path") (.var "a")) (.cons (.cD (.of (.var "p")) (.name "b") (.cons (.assign (.name "b") (.a8 iU (aG [(.var "b")]))) (.ite (.or (.val (.bh tu (.var "b") (.var "sep"))) (.not (.val (.var "path")))) (.assign (.name "path") (.var "b")) (.ite (.val (.bh endsF (.var "path") (.var "sep"))) (.assign (.name "path") (.bh kT (.var "path") (.var "b"))) (.assign (.name "path") (.bh kT (.var "path") (.add (.var "sep") (.var "b")))))))) (.ret (.var "path"))))))
noncomputable def iV:FM:=fO (bO (p4 "a" "p") Aa)
noncomputable def GH:MS:=(.cons (.assign (.name "path") (.a8 iU (aG [(.var "path")]))) (.cons (.ite (.val (.bh mY (.var "path") (.typ "bytes"))) .never (.cons (.assign (.name "sep") (.str "/")) (.cons (.assign (.name "dot") (.str ".")) (.assign (.name "dotdot") (.str ".."))))) (.cons (.ite (.not (.val (.var "path"))) (.ret (.var "dot")) .nil) (.cons (.assign (.tup [(.name "_"),(.name "initial_slashes"),(.name "path")]) (.a8 xg (aG [(.var "path")]))) (.cons (.assign (.name "comps") (.aI (.bh pf (.var "path") (.var "sep")))) (.cons (.assign (.name "new_comps") (.d9 (.list []))) (.cons (.cD (.of (.var "comps")) (.name "comp") (.cons (.ite (.or (.not (.val (.var "comp"))) (.val (.eq (.var "comp") (.var "dot")))) .cont .nil) (.ite (.or (.val (.ne (.var "comp") (.var "dotdot"))) (.or (.and (.not (.val (.var "initial_slashes"))) (.not (.val (.var "new_comps")))) (.and (.val (.var "new_comps")) (.val (.eq (.idx (.var "new_comps") (.neg (.int 1))) (.var "dotdot")))))) (.expr (.dB eh fK (.var "new_comps") (.var "comp"))) (.ite (.val (.var "new_comps")) (.expr (.ax pa (.var "new_comps"))) .nil)))) (.cons (.assign (.name "comps") (.var "new_comps")) (.cons (.assign (.name "path") (.add (.var "initial_slashes") (.bh jd (.var "sep") (.var "comps")))) (.ret (.or (.var "path") (.var "dot"))))))))))))
noncomputable def q8:FM:=fO (bO (bind1 "path") GH)
noncomputable def vH:MS:=(.cons (.ite (.not (.val (.var "m"))) (.ret (.str "")) .nil) (.cons (.ite (.not (.val (.bh mY (.idx (.var "m") (.int 0)) (.tup [(.typ "list"),(.typ "tuple")])))) .never .nil) (.cons (.assign (.name "s1") (.ax (mE false) (.var "m"))) (.cons (.assign (.name "s2") (.ax (mE true) (.var "m"))) (.cons (.cD (.enum (.var "s1")) (.tup [(.name "i"),(.name "c")]) (.ite (.val (.ne (.var "c") (.idx (.var "s2") (.var "i")))) (.ret (.slice (.var "s1") .none (some (.var "i")))) .nil)) (.ret (.var "s1")))))))
noncomputable def pz:FM:=fO (bO (bind1 "m") vH)
noncomputable def z9:MS:=(.cons (.assign (.name "paths") (.qH iU (.var "paths"))) (.cons (.ite (.not (.val (.var "paths"))) .never .nil) (.cons (.ite (.val (.bh mY (.idx (.var "paths") (.int 0)) (.typ "bytes"))) .never (.cons (.assign (.name "sep") (.str "/")) (.assign (.name "curdir") (.str ".")))) (.cons (.assign (.name "split_paths") (.aI (.comp (.of (.var "paths")) (.name "path") [] (.elt (.aI (.bh pf (.var "path") (.var "sep")))) [".0","path"] (.list [])))) (.cons (.qJ "isabs" (.comp (.of (.var "paths")) (.name "p") [] (.nC (.bh tu (.var "p") (.var "sep"))) [".0","p"] (.i0 false))) (.cons (.assign (.name "split_paths") (.aI (.comp (.of (.var "split_paths")) (.name "s") [] (.elt (.aI (.comp (.of (.var "s")) (.name "c") [(.and (.val (.var "c")) (.val (.ne (.var "c") (.var "curdir"))))] (.elt (.var "c")) [".0","c"] (.list [])))) [".0","s"] (.list [])))) (.cons (.assign (.name "s1") (.ax (mE false) (.var "split_paths"))) (.cons (.assign (.name "s2") (.ax (mE true) (.var "split_paths"))) (.cons (.assign (.name "common") (.var "s1")) (.cons (.cD (.enum (.var "s1")) (.tup [(.name "i"),(.name "c")]) (.ite (.val (.ne (.var "c") (.idx (.var "s2") (.var "i")))) (.cons (.assign (.name "common") (.slice (.var "s1") .none (some (.var "i")))) .brk) .nil)) (.cons (.assign (.name "prefix") (.ite (.val (.var "isabs")) (.var "sep") (.slice (.var "sep") .none (some (.int 0))))) (.ret (.add (.var "prefix") (.bh jd (.var "sep") (.var "common")))))))))))))))
noncomputable def px:FM:=fO (bO (bind1 "paths") z9)
noncomputable def GD:MS:=(.cons (.assign (.name "digits") (.list [])) (.cons (.cD (.of (.list [(.int 6),(.int 6),(.int 2),(.int 4),(.int 6),(.int 3),(.int 4)])) (.name "base") (.assign (.tup [(.name "digits"),(.name "number")]) (.tup [(.add (.var "digits") (.list [(.mod (.var "number") (.var "base"))])),(.fdiv (.var "number") (.var "base"))]))) (.cons (.assign (.name "pieces") (.aI (.comp (.of (.list [(.int 0),(.int 1),(.int 4)])) (.name "place") [] (.elt (.idx (.list [(.str "a"),(.str "b"),(.str "ab"),(.str ".."),(.str "."),(.str "")]) (.idx (.var "digits") (.var "place")))) [".0","place"] (.list [])))) (.cons (.assign (.name "names") (.list [])) (.cons (.cD (.of (.var "pieces")) (.name "piece") (.ite (.val (.eq (.var "piece") (.str ".."))) (.assign (.name "names") (.slice (.var "names") .none (some (.neg (.int 1))))) (.ite (.val (.jg (.var "piece") (.list [(.str ""),(.str ".")]))) (.assign (.name "names") (.add (.var "names") (.list [(.var "piece")]))) .nil))) (.ret (.tup [(.var "pieces"),(.var "names"),(.idx (.list [(.str ""),(.str "a"),(.str "b"),(.str "ab")]) (.idx (.var "digits") (.int 3))),(.eq (.idx (.var "digits") (.int 2)) (.int 1)),(.idx (.var "digits") (.int 5)),(.idx (.var "digits") (.int 6))])))))))
noncomputable def qZ:FM:=fO (bO (bind1 "number") GD)
noncomputable def GG:MS:=(.cons (.assign (.name "ways") (.d9 (.mN (.str "/") (.list [(.str "/")])))) (.cons (.cD (.of (.var "lines")) (.name "line") (.cD (.pd (.ax bW (.idx (.var "line") (.int 1)))) (.name "size") (.cons (.assign (.name "way") (.aI (.comp (.gT (.add (.var "size") (.int 1))) (.name "cut") [] (.elt (.add (.str "/") (.bh jd (.str "/") (.slice (.idx (.var "line") (.int 1)) .none (some (.var "cut")))))) [".0","cut"] (.list [])))) (.ite (.val (.jg (.idx (.var "way") (.neg (.int 1))) (.var "ways"))) (.assign (.sub (.var "ways") (.idx (.var "way") (.neg (.int 1)))) (.var "way")) .nil)))) (.ret (.var "ways"))))
noncomputable def q7:FM:=fO (bO (bind1 "lines") GG)
noncomputable def GC:MS:=(.cons (.assign (.name "mine") (.aI (.comp (.gT (.ax bW (.var "lines"))) (.name "mark") [(.val (.eq (.add (.str "/") (.bh jd (.str "/") (.idx (.idx (.var "lines") (.var "mark")) (.int 1)))) (.var "folder")))] (.elt (.var "mark")) [".0","mark"] (.list [])))) (.cons (.assign (.name "agents") (.aI (.comp (.enum (.list [(.str "fig"),(.str "Plum"),(.str "*")])) (.tup [(.name "place"),(.name "name")]) [(.val (.ne (.var "place") (.idx (.add (.aI (.comp (.of (.var "mine")) (.name "mark") [] (.elt (.idx (.idx (.var "lines") (.var "mark")) (.int 5))) [".0","mark"] (.list []))) (.list [(.int 3)])) (.int 0))))] (.elt (.var "name")) [".0","place","name"] (.list [])))) (.cons (.assign (.name "agents") (.slice (.slice (.add (.var "agents") (.var "agents")) (some (.mod (.idx (.add (.var "mine") (.list [(.int 0)])) (.int 0)) (.ax bW (.var "agents")))) .none) .none (some (.ax bW (.var "agents"))))) (.cons (.assign (.name "delays") (.add (.list [.none_]) (.aI (.comp (.of (.var "mine")) (.name "mark") [(.val (.eq (.idx (.idx (.var "lines") (.var "mark")) (.int 4)) (.int 1)))] (.elt (.mul (.int 5) (.var "mark"))) [".0","mark"] (.list []))))) (.cons (.assign (.name "rates") (.add (.list [.none_]) (.aI (.comp (.of (.var "mine")) (.name "mark") [(.val (.eq (.idx (.idx (.var "lines") (.var "mark")) (.int 4)) (.int 2)))] (.elt (.mul (.int 7) (.var "mark"))) [".0","mark"] (.list []))))) (.ret (.tup [(.var "agents"),(.var "mine"),(.idx (.var "delays") (.neg (.int 1))),(.idx (.var "rates") (.neg (.int 1)))])))))))
noncomputable def pD:FM:=fO (bO (j3 "lines" "folder") GC)
noncomputable def GB:MS:=(.cons (.assign (.name "agents") (.aI (.comp (.of (.idx (.idx (.var "plains") (.int 0)) (.int 0))) (.name "name") [(.val (.eq (.aI (.comp (.of (.var "plains")) (.name "one") [(.val (.jg (.var "name") (.idx (.var "one") (.int 0))))] (.elt (.var "one")) [".0","one"] (.list []))) (.list [])))] (.elt (.var "name")) [".0","name"] (.list [])))) (.cons (.assign (.name "marks") (.aI (.comp (.of (.var "plains")) (.name "one") [] (.inner (.of (.idx (.var "one") (.int 1))) (.name "mark") [] (.elt (.var "mark"))) [".0","one","mark"] (.list [])))) (.cons (.assign (.name "delays") (.add (.list [.none_]) (.aI (.comp (.of (.var "plains")) (.name "one") [(.val (.kg (.idx (.var "one") (.int 2)) .none_))] (.elt (.idx (.var "one") (.int 2))) [".0","one"] (.list []))))) (.cons (.assign (.name "rates") (.add (.list [.none_]) (.aI (.comp (.of (.var "plains")) (.name "one") [(.val (.kg (.idx (.var "one") (.int 3)) .none_))] (.elt (.idx (.var "one") (.int 3))) [".0","one"] (.list []))))) (.ret (.tup [(.var "agents"),(.var "marks"),(.idx (.var "delays") (.neg (.int 1))),(.idx (.var "rates") (.neg (.int 1)))]))))))
noncomputable def mm:FM:=fO (bO (bind1 "plains") GB)
noncomputable def GF:MS:=(.ret (.tup [(.ax (aV 59 "useragents") (.var "record")),(.aI (.comp (.of (.ax (aV 59 "rulelines") (.var "record"))) (.name "line") [] (.elt (.ax (aV cj "mark") (.var "line"))) [".0","line"] (.list []))),(.ax (aV 59 "delay") (.var "record")),(.ax (aV 59 "req_rate") (.var "record"))]))
noncomputable def fT:FM:=bO (bind1 "record") GF
noncomputable def RT:MS:=(.cons (.assign (.attr 59 "useragents" (.var "self")) (.d9 (.list []))) (.cons (.assign (.attr 59 "rulelines" (.var "self")) (.d9 (.list []))) (.cons (.assign (.attr 59 "delay" (.var "self")) .none_) (.assign (.attr 59 "req_rate" (.var "self")) .none_))))
noncomputable def xe:FM:=bO (bind1 "self") RT
noncomputable def RZ:MS:=(.cons (.assign (.slot 176 0 (.var "self")) (.var "node")) (.cons (.assign (.slot 176 1 (.var "self")) (.int 0)) (.assign (.slot 176 2 (.var "self")) (.d9 (.list [])))))
noncomputable def xf:FM:=bO (j3 "self" "node") RZ
noncomputable def R6:MS:=(.cons (.assign (.attr 273 "_node2info" (.var "self")) (.d9 .mM)) (.cons (.assign (.attr 273 "_ready_nodes" (.var "self")) .none_) (.cons (.assign (.attr 273 "_npassedout" (.var "self")) (.int 0)) (.cons (.assign (.attr 273 "_nfinished" (.var "self")) (.int 0)) (.ite (.val (.kg (.var "graph") .none_)) .never .nil)))))
noncomputable def xh:FM:=bO (yq "self" "graph") R6
noncomputable def Gz:MS:=(.cons (.ite (.val (.is (.var "useragent") .none_)) (.ret (.jH (.str "*") (.ax (aV 59 "useragents") (.var "self")))) .nil) (.cons (.assign (.name "useragent") (.ax sE (.idx (.aI (.bh pf (.var "useragent") (.str "/"))) (.int 0)))) (.cons (.cD (.of (.ax (aV 59 "useragents") (.var "self"))) (.name "agent") (.ite (.val (.ne (.var "agent") (.str "*"))) (.cons (.assign (.name "agent") (.ax sE (.var "agent"))) (.ite (.val (.jH (.var "agent") (.var "useragent"))) (.ret (.bool true)) .nil)) .nil)) (.ret (.bool false)))))
noncomputable def pA:FM:=bO (j3 "self" "useragent") Gz
noncomputable def mh:FM:=yR 59 xe
noncomputable def pv:FM:=yR 273 xh
noncomputable def qW:FM:=D1 176 xf
noncomputable def R4:MS:=(.cons (.pg "result" (.dB mV p_ (.ax (aV 273 "_node2info") (.var "self")) (.var "node")) (.pZ (.sub (.ax (aV 273 "_node2info") (.var "self")) (.var "node")) (.name "result") (.a8 qW (aG [(.var "node")]))) .nil) (.ret (.var "result")))
noncomputable def lq:FM:=bO (j3 "self" "node") R4
noncomputable def R1:MS:=(.cons (.ite (.val (.kg (.ax (aV 273 "_ready_nodes") (.var "self")) .none_)) .never .nil) (.cons (.assign (.name "nodeinfo") (.dC 273 "_get_nodeinfo" lq (.var "self") (aG [(.var "node")]))) (.cons (.lH 176 1 kT (.var "nodeinfo") (.ax bW (.var "predecessors"))) (.cD (.of (.var "predecessors")) (.name "pred") (.cons (.assign (.name "pred_info") (.dC 273 "_get_nodeinfo" lq (.var "self") (aG [(.var "pred")]))) (.expr (.dB eh fK (.ax (eY 176 2) (.var "pred_info")) (.var "node"))))))))
noncomputable def jr:FM:=bO (yr "self" "node" "predecessors") R1
noncomputable def R5:MS:=(.cons (.ite (.val (.is (.ax (aV 273 "_ready_nodes") (.var "self")) .none_)) .never .nil) (.cons (.assign (.name "result") (.ax wD (.ax (aV 273 "_ready_nodes") (.var "self")))) (.cons (.assign (.name "n2i") (.ax (aV 273 "_node2info") (.var "self"))) (.cons (.cD (.of (.var "result")) (.name "node") (.assign (.slot 176 1 (.idx (.var "n2i") (.var "node"))) (.int (-1)))) (.cons (.expr (.ax oA (.ax (aV 273 "_ready_nodes") (.var "self")))) (.cons (.oj 273 "_npassedout" kT (.var "self") (.ax bW (.var "result"))) (.ret (.var "result"))))))))
noncomputable def nO:FM:=bO (bind1 "self") R5
noncomputable def R7:MS:=(.cons (.ite (.val (.is (.ax (aV 273 "_ready_nodes") (.var "self")) .none_)) .never .nil) (.ret (.or (.lt (.ax (aV 273 "_nfinished") (.var "self")) (.ax (aV 273 "_npassedout") (.var "self"))) (.ax yt (.ax (aV 273 "_ready_nodes") (.var "self"))))))
noncomputable def nP:FM:=bO (bind1 "self") R7
noncomputable def R2:MS:=(.cons (.ite (.val (.is (.ax (aV 273 "_ready_nodes") (.var "self")) .none_)) .never .nil) (.cons (.assign (.name "n2i") (.ax (aV 273 "_node2info") (.var "self"))) (.cD (.of (.var "nodes")) (.name "node") (.cons (.pg "nodeinfo" (.dB mV p_ (.var "n2i") (.var "node")) .never .nil) (.cons (.assign (.name "stat") (.ax (eY 176 1) (.var "nodeinfo"))) (.cons (.ite (.val (.ne (.var "stat") (.int (-1)))) .never .nil) (.cons (.assign (.slot 176 1 (.var "nodeinfo")) (.int (-2))) (.cons (.cD (.of (.ax (eY 176 2) (.var "nodeinfo"))) (.name "successor") (.cons (.assign (.name "successor_info") (.idx (.var "n2i") (.var "successor"))) (.cons (.lH 176 1 u7 (.var "successor_info") (.int 1)) (.ite (.val (.eq (.ax (eY 176 1) (.var "successor_info")) (.int 0))) (.expr (.dB eh fK (.ax (aV 273 "_ready_nodes") (.var "self")) (.var "successor"))) .nil)))) (.oj 273 "_nfinished" kT (.var "self") (.int 1))))))))))
noncomputable def pF:FM:=bO (p4 "self" "nodes") R2
noncomputable def R3:MS:=(.cons (.assign (.name "n2i") (.ax (aV 273 "_node2info") (.var "self"))) (.cons (.assign (.name "stack") (.d9 (.list []))) (.cons (.assign (.name "itstack") (.d9 (.list []))) (.cons (.assign (.name "seen") (.d9 .te)) (.cons (.assign (.name "node2stacki") (.d9 .mM)) (.cons (.cD (.p9 (.var "n2i")) (.name "node") (.cons (.ite (.val (.bh oV (.var "node") (.var "seen"))) .cont .nil) (.nF fuel (.val (.bool true)) (.cons (.ite (.val (.bh oV (.var "node") (.var "seen"))) (.ite (.val (.jH (.var "node") (.var "node2stacki"))) .never .nil) (.cons (.expr (.dB sz wh (.var "seen") (.var "node"))) (.cons (.expr (.dB eh fK (.var "itstack") (.ax qg (.ax (eY 176 2) (.idx (.var "n2i") (.var "node")))))) (.cons (.assign (.sub (.var "node2stacki") (.var "node")) (.ax bW (.var "stack"))) (.expr (.dB eh fK (.var "stack") (.var "node"))))))) (.nF fuel (.val (.var "stack")) (.qG "node" (.idx (.var "itstack") (.neg (.int 1))) "node2stacki" "stack" "itstack") .brk)) .nil))) (.ret .none_)))))))
noncomputable def q9:FM:=bO (bind1 "self") R3
noncomputable def R8:MS:=(.cons (.ite (.val (.kg (.ax (aV 273 "_ready_nodes") (.var "self")) .none_)) .never .nil) (.cons (.assign (.attr 273 "_ready_nodes" (.var "self")) (.d9 (.comp (.values (.ax (aV 273 "_node2info") (.var "self"))) (.name "i") [(.val (.eq (.ax (eY 176 1) (.var "i")) (.int 0)))] (.elt (.ax (eY 176 0) (.var "i"))) [".0","i"] (.list [])))) (.cons (.assign (.name "cycle") (.dC 273 "_find_cycle" q9 (.var "self") (aG []))) (.ite (.val (.var "cycle")) .never .nil))))
noncomputable def pG:FM:=bO (bind1 "self") R8
noncomputable def Ab:ME:=(.ite (.val (.eq (.slice (.var "name") .none (some (.var "size"))) (.var "path"))) (.add (.var "size") (.int 1)) (.int 0))
noncomputable def pB:FL:=FZ (bind1 "name") Ab
noncomputable def Ac:MS:=(.cons (.assign (.name "path") (.a8 iV (aG [(.a8 q8 (aG [(.a8 iV (r7 (.str "/") (.idx (.var "told") (.int 0))))])),(.idx (.var "told") (.int 2))]))) (.assign (.name "size") (.ax bW (.var "path"))))
noncomputable def Ad:MS:=(.cons (.assign (.name "line") (.d9 (.ia cj))) (.cons (.assign (.attrL cj "applies_to" (.var "line")) (.lam iM ["size","path"])) (.cons (.assign (.tup [(.attrL cj "allowance" (.var "line")),(.attrL cj "path" (.var "line")),(.attrL cj "mark" (.var "line"))]) (.tup [(.idx (.var "told") (.int 3)),(.var "path"),(.var "mark")])) (.ret (.var "line")))))
noncomputable def pC:FM:=bO (j3 "told" "mark") (.IB Ac Ad)
noncomputable def RS:MS:=(.cons (.assign (.name "best_match") (.neg (.int 1))) (.cons (.assign (.name "allowance") (.bool true)) (.cons (.cD (.of (.ax (aV 59 "rulelines") (.var "self"))) (.name "line") (.cons (.assign (.name "m") (.sH cj iM "applies_to" pB (.var "line") (aG [(.var "filename")]))) (.ite (.val (.var "m")) (.ite (.val (.gt (.var "m") (.var "best_match"))) (.cons (.assign (.name "best_match") (.var "m")) (.assign (.name "allowance") (.ax (aV cj "allowance") (.var "line")))) (.ite (.and (.val (.eq (.var "m") (.var "best_match"))) (.not (.val (.var "allowance")))) (.assign (.name "allowance") (.ax (aV cj "allowance") (.var "line"))) .nil)) .nil))) (.ret (.var "allowance")))))
noncomputable def lp:FM:=bO (j3 "self" "filename") RS
noncomputable def RY:MS:=(.cons (.assign (.name "entry") (.call mh [])) (.cons (.assign (.attr 59 "useragents" (.var "entry")) (.d9 (.oL (.ax (aV 59 "useragents") (.var "e2")) (.ax (aV 59 "useragents") (.var "e1"))))) (.cons (.assign (.attr 59 "rulelines" (.var "entry")) (.d9 (.bh ui (.ax (aV 59 "rulelines") (.var "e1")) (.ax (aV 59 "rulelines") (.var "e2"))))) (.cons (.assign (.attr 59 "delay" (.var "entry")) (.ite (.val (.is (.ax (aV 59 "delay") (.var "e2")) .none_)) (.ax (aV 59 "delay") (.var "e1")) (.ax (aV 59 "delay") (.var "e2")))) (.cons (.assign (.attr 59 "req_rate" (.var "entry")) (.ite (.val (.is (.ax (aV 59 "req_rate") (.var "e2")) .none_)) (.ax (aV 59 "req_rate") (.var "e1")) (.ax (aV 59 "req_rate") (.var "e2")))) (.ret (.var "entry")))))))
noncomputable def gX:FM:=bO (j3 "e1" "e2") RY
noncomputable def RW:MS:=(.cons (.assign (.name "record") (.call mh [])) (.cons (.expr (.dB eh p8 (.ax (aV 59 "useragents") (.var "record")) (.idx (.var "plain") (.int 0)))) (.cons (.expr (.dB eh p8 (.ax (aV 59 "rulelines") (.var "record")) (.aI (.comp (.of (.idx (.var "plain") (.int 1))) (.name "mark") [] (.elt (.a8 pC (aG [(.idx (.var "lines") (.var "mark")),(.var "mark")]))) [".0","mark"] (.list []))))) (.cons (.assign (.tup [(.attr 59 "delay" (.var "record")),(.attr 59 "req_rate" (.var "record"))]) (.tup [(.idx (.var "plain") (.int 2)),(.idx (.var "plain") (.int 3))])) (.ret (.var "record"))))))
noncomputable def pE:FM:=bO (j3 "lines" "plain") RW
noncomputable def RX:MS:=(.cons (.assign (.name "sorter") (.call pv [])) (.cons (.expr (.dC 273 "add" jr (.var "sorter") (aG [(.str "/")]))) (.cons (.cD (.of (.slice (.var "folders") (some (.int 1)) .none)) (.name "folder") (.expr (.dC 273 "add" jr (.var "sorter") (aG [(.var "folder"),(.a8 fm (aG [(.var "folder")]))])))) (.cons (.expr (.dC 273 "prepare" pG (.var "sorter") (aG []))) (.cons (.assign (.tup [(.name "answers"),(.name "ready"),(.name "order"),(.name "kept"),(.name "whole")]) (.tup [(.d9 (.list [])),(.list []),(.d9 (.list [])),(.d9 .mM),(.idx (.var "own") (.str "/"))])) (.cons (.cD (.gT (.ax bW (.var "folders"))) (.name "step") (.cons (.expr (.dB eh fK (.var "answers") (.tup [(.ax jR (.dC 273 "is_active" nP (.var "sorter") (aG []))),(.dC 273 "get_ready" nO (.var "sorter") (aG []))]))) (.cons (.assign (.name "ready") (.add (.var "ready") (.aI (.ax qk (.idx (.idx (.var "answers") (.neg (.int 1))) (.int 1)))))) (.cons (.ite (.val (.eq (.var "ready") (.list []))) .brk .nil) (.cons (.assign (.name "folder") (.idx (.var "ready") (.mod (.idx (.var "numbers") (.mod (.var "step") (.ax bW (.var "numbers")))) (.ax bW (.var "ready"))))) (.cons (.assign (.name "ready") (.aI (.comp (.of (.var "ready")) (.name "one") [(.val (.ne (.var "one") (.var "folder")))] (.elt (.var "one")) [".0","one"] (.list [])))) (.cons (.expr (.dB eh fK (.var "order") (.var "folder"))) (.cons (.assign (.sub (.var "kept") (.var "folder")) (.ite (.val (.eq (.var "folder") (.str "/"))) (.idx (.var "own") (.var "folder")) (.a8 gX (aG [(.idx (.var "kept") (.a8 fm (aG [(.var "folder")]))),(.idx (.var "own") (.var "folder"))])))) (.cons (.assign (.name "whole") (.ite (.val (.eq (.var "folder") (.str "/"))) (.var "whole") (.a8 gX (aG [(.var "whole"),(.idx (.var "own") (.var "folder"))])))) (.expr (.dC 273 "done" pF (.var "sorter") (aG [(.var "folder")])))))))))))) (.cons (.expr (.dB eh fK (.var "answers") (.tup [(.ax jR (.dC 273 "is_active" nP (.var "sorter") (aG []))),(.dC 273 "get_ready" nO (.var "sorter") (aG []))]))) (.ret (.tup [(.var "answers"),(.var "order"),(.var "kept"),(.var "whole")])))))))))
noncomputable def q6:FM:=bO (yp "folders" "own" "numbers") RX
noncomputable def RV:MS:=(.cons (.assign (.name "numbers") (.aI (.comp (.gT (.int 6)) (.name "place") [] (.elt (.add (.ax sumF (.nh (.slice (.var "script") .none (some (.int 60))) (some (.var "place")) .none (some (.int 6)))) (.idx (.list [(.int 18394),(.int 15468),(.int 1446),(.int 1279),(.int 18254),(.int 8898)]) (.var "place")))) [".0","place"] (.list [])))) (.cons (.assign (.name "lines") (.aI (.comp (.of (.var "numbers")) (.name "number") [] (.elt (.a8 qZ (aG [(.var "number")]))) [".0","number"] (.list [])))) (.cons (.assign (.name "ways") (.a8 q7 (aG [(.var "lines")]))) (.cons (.assign (.name "folders") (.aI (.ax sD (.var "ways")))) (.cons (.assign (.name "plain") (.aI (.comp (.of (.var "folders")) (.name "folder") [] (.kv (.var "folder") (.a8 pD (aG [(.var "lines"),(.var "folder")]))) [".0","folder"] (.dict [])))) (.cons (.assign (.name "own") (.aI (.comp (.of (.var "folders")) (.name "folder") [] (.kv (.var "folder") (.a8 pE (aG [(.var "lines"),(.idx (.var "plain") (.var "folder"))]))) [".0","folder"] (.dict [])))) (.cons (.assign (.tup [(.name "answers"),(.name "order"),(.name "kept"),(.name "whole")]) (.a8 q6 (aG [(.var "folders"),(.var "own"),(.var "numbers")]))) (.cons (.assign (.name "inside") (.aI (.comp (.of (.var "folders")) (.name "folder") [] (.kv (.var "folder") (.ax wD (.aI (.comp (.of (.slice (.var "folders") (some (.int 1)) .none)) (.name "one") [(.val (.eq (.idx (.idx (.var "ways") (.var "one")) (.neg (.int 2))) (.var "folder")))] (.elt (.var "one")) [".0","one"] (.list []))))) [".0","folder"] (.dict [])))) (.cons (.ite (.val (.ne (.aI (.comp (.of (.var "folders")) (.name "folder") [] (.elt (.a8 fm (aG [(.var "folder")]))) [".0","folder"] (.list []))) (.add (.list [(.str "/")]) (.aI (.comp (.of (.slice (.var "folders") (some (.int 1)) .none)) (.name "folder") [] (.elt (.idx (.idx (.var "ways") (.var "folder")) (.neg (.int 2)))) [".0","folder"] (.list [])))))) (.ret (.bool false)) .nil) (.cons (.ite (.val (.ne (.var "answers") (.add (.add (.list [(.tup [(.str "True"),(.tup [(.str "/")])])]) (.aI (.comp (.of (.slice (.var "order") .none (some (.neg (.int 1))))) (.name "folder") [] (.elt (.tup [(.str "True"),(.idx (.var "inside") (.var "folder"))])) [".0","folder"] (.list [])))) (.list [(.tup [(.str "False"),(.tup [])])])))) (.ret (.bool false)) .nil) (.cons (.ite (.val (.ne (.list [(.a8 fT (aG [(.var "whole")])),(.a8 fT (aG [(.a8 gX (aG [(.idx (.var "own") (.str "/")),(.var "whole")]))]))]) (.aI (.comp (.of (.list [(.var "order"),(.add (.list [(.str "/")]) (.var "order"))])) (.name "row") [] (.elt (.a8 mm (aG [(.aI (.comp (.of (.var "row")) (.name "one") [] (.elt (.idx (.var "plain") (.var "one"))) [".0","one"] (.list [])))]))) [".0","row"] (.list []))))) (.ret (.bool false)) .nil) (.cons (.cD (.of (.var "folders")) (.name "folder") (.cons (.assign (.name "due") (.a8 mm (aG [(.aI (.comp (.of (.idx (.var "ways") (.var "folder"))) (.name "one") [] (.elt (.idx (.var "plain") (.var "one"))) [".0","one"] (.list [])))]))) (.cons (.assign (.name "heard") (.aI (.comp (.of (.list [(.str "Big*Figs/plum"),(.str "xpLumy"),.none_])) (.name "name") [] (.elt (.dC 59 "applies_to" pA (.idx (.var "kept") (.var "folder")) (aG [(.var "name")]))) [".0","name"] (.list [])))) (.ite (.or (.val (.ne (.a8 fT (aG [(.idx (.var "kept") (.var "folder"))])) (.var "due"))) (.val (.ne (.ax jR (.var "heard")) (.ax jR (.aI (.comp (.of (.list [(.str "fig"),(.str "Plum"),(.str "*")])) (.name "agent") [] (.elt (.jH (.var "agent") (.idx (.var "due") (.int 0)))) [".0","agent"] (.list []))))))) (.ret (.bool false)) .nil)))) (.cons (.assign (.name "rules") (.aI (.comp (.of (.var "lines")) (.name "line") [] (.elt (.tup [(.add (.add (.bh jd (.str "") (.aI (.comp (.of (.idx (.var "line") (.int 1))) (.name "name") [] (.elt (.add (.str "/") (.var "name"))) [".0","name"] (.list [])))) (.str "/")) (.idx (.var "line") (.int 2))),(.idx (.var "line") (.int 3))])) [".0","line"] (.list [])))) (.cons (.ite (.val (.ne (.aI (.comp (.of (.ax (aV 59 "rulelines") (.var "whole"))) (.name "line") [] (.elt (.ax (aV cj "path") (.var "line"))) [".0","line"] (.list []))) (.aI (.comp (.of (.ax (aV 59 "rulelines") (.var "whole"))) (.name "line") [] (.elt (.idx (.idx (.var "rules") (.ax (aV cj "mark") (.var "line"))) (.int 0))) [".0","line"] (.list []))))) (.ret (.bool false)) .nil) (.cons (.cD (.of (.add (.aI (.comp (.of (.var "rules")) (.tup [(.name "path"),(.name "allowed")]) [] (.elt (.var "path")) [".0","path","allowed"] (.list []))) (.aI (.comp (.of (.var "folders")) (.name "folder") [] (.elt (.a8 iV (aG [(.var "folder"),(.str "b")]))) [".0","folder"] (.list []))))) (.name "name") (.cons (.assign (.name "right") (.idx (.ax (mE true) (.add (.list [(.tup [(.neg (.int 1)),(.bool true)])]) (.aI (.comp (.of (.var "rules")) (.tup [(.name "path"),(.name "allowed")]) [(.val (.eq (.slice (.var "name") .none (some (.ax bW (.var "path")))) (.var "path")))] (.elt (.tup [(.ax bW (.var "path")),(.var "allowed")])) [".0","path","allowed"] (.list []))))) (.int 1))) (.ite (.val (.ne (.ax jR (.list [(.dC 59 "allowance" lp (.var "whole") (aG [(.var "name")])),(.dC 59 "allowance" lp (.idx (.var "kept") (.a8 fm (aG [(.var "name")]))) (aG [(.var "name")]))])) (.ax jR (.list [(.var "right"),(.var "right")])))) (.ret (.bool false)) .nil))) (.cons (.cD (.of (.add (.list [(.tup [(.int 0),(.ax bW (.var "lines"))])]) (.aI (.comp (.gT (.sub (.ax bW (.var "lines")) (.int 1))) (.name "place") [] (.elt (.tup [(.var "place"),(.add (.var "place") (.int 2))])) [".0","place"] (.list []))))) (.tup [(.name "first"),(.name "behind")]) (.cons (.assign (.name "ends") (.aI (.comp (.of (.slice (.var "lines") (some (.var "first")) (some (.var "behind")))) (.name "line") [] (.elt (.add (.str "/") (.bh jd (.str "/") (.idx (.var "line") (.int 1))))) [".0","line"] (.list [])))) (.ite (.val (.ne (.a8 pz (aG [(.aI (.comp (.of (.var "ends")) (.name "end") [] (.elt (.idx (.a8 fT (aG [(.idx (.var "kept") (.var "end"))])) (.int 1))) [".0","end"] (.list [])))])) (.idx (.a8 fT (aG [(.idx (.var "kept") (.a8 px (aG [(.var "ends")])))])) (.int 1)))) (.ret (.bool false)) .nil))) (.cons (.cD (.of (.aI (.comp (.of (.slice (.var "folders") (some (.int 1)) .none)) (.name "folder") [] (.inner (.of (.list [(.ax (aV 59 "useragents") (.idx (.var "kept") (.var "folder"))),(.ax (aV 59 "rulelines") (.idx (.var "kept") (.var "folder")))])) (.name "one") [] (.elt (.var "one"))) [".0","folder","one"] (.list [])))) (.name "part") (.expr (.ax oA (.var "part")))) (.ret (.eq (.aI (.comp (.of (.var "folders")) (.name "folder") [] (.elt (.a8 fT (aG [(.idx (.var "own") (.var "folder"))]))) [".0","folder"] (.list []))) (.aI (.comp (.of (.var "folders")) (.name "folder") [] (.elt (.idx (.var "plain") (.var "folder"))) [".0","folder"] (.list []))))))))))))))))))))))
noncomputable def tY:FM:=bO (bind1 "script") RV
section
structure Bx(P:Prop):Prop where
 out:P
section
variable {A B C D_ E F G H I J Q:Prop}
theorem eT(h:Bx (A->Q))(a:Bx A):Bx Q:=⟨h.1 a.1⟩
theorem bk(h:A->Q)(a:Bx A):Bx Q:=⟨h a.1⟩
theorem gQ(h:A->B->Q)(a:Bx A)(b:Bx B):Bx Q:=⟨h a.1 b.1⟩
theorem iG(h:A->B->C->Q)(a:Bx A)(b:Bx B)(c:Bx C):Bx Q:=⟨h a.1 b.1 c.1⟩
theorem h6(h:A->B->C->D_->Q)(a:Bx A)(b:Bx B)(c:Bx C)(d:Bx D_):Bx Q:=⟨h a.1 b.1 c.1 d.1⟩
theorem i4(h:A->B->C->D_->E->Q)(a:Bx A)(b:Bx B)(c:Bx C)(d:Bx D_)(e:Bx E):Bx Q:=⟨h a.1 b.1 c.1 d.1 e.1⟩
theorem j5(h:A->B->C->D_->E->F->Q)(a:Bx A)(b:Bx B)(c:Bx C)(d:Bx D_)(e:Bx E)(f:Bx F):Bx Q:=⟨h a.1 b.1 c.1 d.1 e.1 f.1⟩
theorem yx(h:A->B->C->D_->E->F->G->Q)(a:Bx A)(b:Bx B)(c:Bx C)(d:Bx D_)(e:Bx E)(f:Bx F)(g:Bx G):Bx Q:=⟨h a.1 b.1 c.1 d.1 e.1 f.1 g.1⟩
theorem mF(h:A->B->C->D_->E->F->G->H->Q)(a:Bx A)(b:Bx B)(c:Bx C)(d:Bx D_)(e:Bx E)(f:Bx F)(g:Bx G)(i:Bx H):Bx Q:=⟨h a.1 b.1 c.1 d.1 e.1 f.1 g.1 i.1⟩
theorem j6(h:A->B->C->D_->E->F->G->H->I->Q)(a:Bx A)(b:Bx B)(c:Bx C)(d:Bx D_)(e:Bx E)(f:Bx F)(g:Bx G)(i:Bx H)(j:Bx I):Bx Q:=⟨h a.1 b.1 c.1 d.1 e.1 f.1 g.1 i.1 j.1⟩
end
inductive BN where
 | inst (k:aq)
 | slot (i:Nat) (p:aq)
 | line
structure Cx where
 nt:List String
 K:kC
 mg:aj->Option af
 mb:aj->Option af
 fns:List (String×aq×FM)
 o3:List (String×aq×FM)
 ms:List (aj×aq×aq×FM)
 uq:List (aj×BN)
 cells:List String
 add:Bool
 ke:String×aq×FM
 lm:FL
structure fS(W:Wd)(n:Nat)(c:Cx):Prop where
 ok:W.Ok
 K:W.K=c.K
 mg:W.mg=c.mg
 mb:∀x:aj,x≠ "__name__" ->W.mb x=c.mb x
 inst:∀k,k≠cj->W.hU k
 sl:∀o sl,W.kind 176 o->W.kind 176 {o with slots:=sl}
 line:W.nQ cj
 vq:∀fd,W.kind cj {cls:=.type "function",data:=.func fd}
 fns:∀p∈c.fns,Bx (ba W (n+6) p.2.1 p.2.2)
 o3:∀p∈c.o3,Bx (ba W (n+6) p.2.1 p.2.2)
 ms:∀p∈c.ms,Bx (ba W (n+6) p.2.2.1 p.2.2.2)
 lm:Bx (jv W (n+6) iM c.lm)
 ke:Bx (ba W n c.ke.2.1 (fO c.ke.2.2))
@[elab_as_elim] noncomputable def sQ (e:ay) {motive:ay->Type} [Inhabited (motive e)] (k:∀x p,motive (.Name x p)):motive e:=if h:e.ctorIdx=23 then XD (motive_1:=motive) e h k else default
@[elab_as_elim] noncomputable def lJ (e:ay) {motive:ay->Type} [Inhabited (motive e)] (k:∀f as a p,motive (.Call f as a p)):motive e:=if h:e.ctorIdx=16 then Xv (motive_1:=motive) e h k else default
@[elab_as_elim] noncomputable def kJ (e:ay) {motive:ay->Type} [Inhabited (motive e)] (k:∀o n p,motive (.Attribute o n p)):motive e:=if h:e.ctorIdx=20 then Xs (motive_1:=motive) e h k else default
@[elab_as_elim] noncomputable def jm (e:ay) {motive:ay->Type} [Inhabited (motive e)] (k:∀a k p,motive (.Tuple a k p)):motive e:=if h:e.ctorIdx=25 then XJ (motive_1:=motive) e h k else default
@[elab_as_elim] noncomputable def Vq (e:ay) {motive:ay->Type} [Inhabited (motive e)] (k:∀a p,motive (.Starred a p)):motive e:=if h:e.ctorIdx=22 then XH (motive_1:=motive) e h k else default
@[elab_as_elim] noncomputable def F1 (e:ay) {motive:ay->Type} [Inhabited (motive e)] (k:∀a b s p,motive (.ListComp a b s p)):motive e:=if h:e.ctorIdx=8 then XC (motive_1:=motive) e h k else default
@[elab_as_elim] noncomputable def Ed (e:ay) {motive:ay->Type} [Inhabited (motive e)] (k:∀a b c s p,motive (.DictComp a b c s p)):motive e:=if h:e.ctorIdx=10 then Xz (motive_1:=motive) e h k else default
@[elab_as_elim] noncomputable def HO (e:ay) {motive:ay->Type} [Inhabited (motive e)] (k:∀a b s p,motive (.SetComp a b s p)):motive e:=if h:e.ctorIdx=9 then XF (motive_1:=motive) e h k else default
@[elab_as_elim] noncomputable def tv (e:ay) {motive:ay->Type} [Inhabited (motive e)] (k:∀a b p,motive (.Subscript a b p)):motive e:=if h:e.ctorIdx=21 then XI (motive_1:=motive) e h k else default
@[elab_as_elim] noncomputable def Ve (e:ay) {motive:ay->Type} [Inhabited (motive e)] (k:∀a b d p,motive (.Slice a b d p)):motive e:=if h:e.ctorIdx=26 then XG (motive_1:=motive) e h k else default
@[elab_as_elim] noncomputable def y6 (e:ay) {motive:ay->Type} [Inhabited (motive e)] (k:∀v k p,motive (.Constant v k p)):motive e:=if h:e.ctorIdx=19 then Xx (motive_1:=motive) e h k else default
@[elab_as_elim] noncomputable def Bo (e:ay) {motive:ay->Type} [Inhabited (motive e)] (k:∀o a p,motive (.UnaryOp o a p)):motive e:=if h:e.ctorIdx=3 then XK (motive_1:=motive) e h k else default
@[elab_as_elim] noncomputable def DA (e:ay) {motive:ay->Type} [Inhabited (motive e)] (k:∀a o b p,motive (.BinOp a o b p)):motive e:=if h:e.ctorIdx=2 then Xt (motive_1:=motive) e h k else default
@[elab_as_elim] noncomputable def yY (e:ay) {motive:ay->Type} [Inhabited (motive e)] (k:∀a o b p,motive (.Compare a o b p)):motive e:=if h:e.ctorIdx=15 then Xw (motive_1:=motive) e h k else default
@[elab_as_elim] noncomputable def DE (e:ay) {motive:ay->Type} [Inhabited (motive e)] (k:∀o l p,motive (.BoolOp o l p)):motive e:=if h:e.ctorIdx=0 then Xu (motive_1:=motive) e h k else default
@[elab_as_elim] noncomputable def Qx (e:ay) {motive:ay->Type} [Inhabited (motive e)] (k:∀a b d p,motive (.IfExp a b d p)):motive e:=if h:e.ctorIdx=5 then XA (motive_1:=motive) e h k else default
@[elab_as_elim] noncomputable def Gj (e:ay) {motive:ay->Type} [Inhabited (motive e)] (k:∀l p,motive (.List l p)):motive e:=if h:e.ctorIdx=24 then XB (motive_1:=motive) e h k else default
@[elab_as_elim] noncomputable def Ob (e:ay) {motive:ay->Type} [Inhabited (motive e)] (k:∀a b p,motive (.Dict a b p)):motive e:=if h:e.ctorIdx=6 then Xy (motive_1:=motive) e h k else default
@[elab_as_elim] noncomputable def SS (e:ay) {motive:ay->Type} [Inhabited (motive e)] (k:∀a b p,motive (.NamedExpr a b p)):motive e:=if h:e.ctorIdx=1 then XE (motive_1:=motive) e h k else default
@[elab_as_elim] noncomputable def EG (e:bZ) {motive:bZ->Type} [Inhabited (motive e)] (k:∀e p,motive (.Expr e p)):motive e:=if h:e.ctorIdx=24 then X2 (motive_2:=motive) e h k else default
@[elab_as_elim] noncomputable def retS (e:bZ) {motive:bZ->Type} [Inhabited (motive e)] (k:∀e p,motive (.Return e p)):motive e:=if h:e.ctorIdx=3 then X4 (motive_2:=motive) e h k else default
@[elab_as_elim] noncomputable def DG (e:bZ) {motive:bZ->Type} [Inhabited (motive e)] (k:∀p,motive (.Break p)):motive e:=if h:e.ctorIdx=26 then XZ (motive_2:=motive) e h k else default
@[elab_as_elim] noncomputable def NV (e:bZ) {motive:bZ->Type} [Inhabited (motive e)] (k:∀p,motive (.Continue p)):motive e:=if h:e.ctorIdx=27 then X0 (motive_2:=motive) e h k else default
@[elab_as_elim] noncomputable def Qw (e:bZ) {motive:bZ->Type} [Inhabited (motive e)] (k:∀t a b p,motive (.If t a b p)):motive e:=if h:e.ctorIdx=12 then Stmt.If.elim (motive_2:=motive) e h k else default
@[elab_as_elim] noncomputable def O1 (e:bZ) {motive:bZ->Type} [Inhabited (motive e)] (k:∀t i a b p,motive (.For t i a b p)):motive e:=if h:e.ctorIdx=9 then X3 (motive_2:=motive) e h k else default
@[elab_as_elim] noncomputable def WA (e:bZ) {motive:bZ->Type} [Inhabited (motive e)] (k:∀t a b p,motive (.While t a b p)):motive e:=if h:e.ctorIdx=11 then X6 (motive_2:=motive) e h k else default
@[elab_as_elim] noncomputable def MG (e:bZ) {motive:bZ->Type} [Inhabited (motive e)] (k:∀t o v p,motive (.AugAssign t o v p)):motive e:=if h:e.ctorIdx=7 then XY (motive_2:=motive) e h k else default
@[elab_as_elim] noncomputable def V2 (e:bZ) {motive:bZ->Type} [Inhabited (motive e)] (k:∀a b d f p,motive (.Try a b d f p)):motive e:=if h:e.ctorIdx=17 then X5 (motive_2:=motive) e h k else default
@[elab_as_elim] noncomputable def Dt (e:bZ) {motive:bZ->Type} [Inhabited (motive e)] (k:∀t v p,motive (.Assign t v p)):motive e:=if h:e.ctorIdx=5 then XX (motive_2:=motive) e h k else default
@[elab_as_elim] noncomputable def Od (e:bZ) {motive:bZ->Type} [Inhabited (motive e)] (k:∀t p,motive (.Delete t p)):motive e:=if h:e.ctorIdx=4 then X1 (motive_2:=motive) e h k else default
section
variable {α:Type}
@[elab_as_elim] noncomputable def fA (l:List α) {motive:List α->Type} [∀l,Inhabited (motive l)] (k:motive []):motive l:=match l with| []=>k| _::_=>default
@[elab_as_elim] noncomputable def y5 (l:List α) {motive:List α->Type} [∀l,Inhabited (motive l)] (k:∀a l,motive (a::l)):motive l:=match l with| []=>default| a::l=>k a l
@[elab_as_elim] noncomputable def eN (l:List α) {motive:List α->Type} [∀l,Inhabited (motive l)] (k:∀a,motive [a]):motive l:=match l with| []=>default| a::l=>fA l (k a)
@[elab_as_elim] noncomputable def ky (l:List α) {motive:List α->Type} [∀l,Inhabited (motive l)] (k:∀a b,motive [a,b]):motive l:=match l with| []=>default| a::l=>eN l (k a)
@[elab_as_elim] noncomputable def IC (l:List α) {motive:List α->Type} [∀l,Inhabited (motive l)] (k:∀a b c,motive [a,b,c]):motive l:=match l with| []=>default| a::l=>ky l (k a)
noncomputable def alt (x y:Option α):Option α:=match x with| some a=>some a| none=>y
end
abbrev Ok{α:Type}(J:α->Prop):Type:=Option {m:α // Bx (J m)}
noncomputable def ns (e:ay):Bool:= !(e.ctorIdx==22)
theorem ej{e:ay}(h:ns e=true)(b:List ay)(a:bg):bB (e::b) a=(false,aU e a)::bB b a:=by cases e<;>first| rfl| exact lj h
theorem Dr{e:ay}(h:ns e=true)(b:List ay)(a:bg):gy (e::b) a=(false,assign e a)::gy b a:=by cases e<;>first| rfl| exact lj h
theorem sU{a:List ay}(h:a.all ns=true)(b:bg):(bB a b).any (·.1)=false:=by
 induction a with
 | nil=>rfl
 | cons e a c=>have h:=band h;rw [ej h.1];exact c h.2
theorem Fi{b:List ay}(a:bg)(h:(bB b a).any (·.1)=false):(bB b a).head?.any (·.1)=false:=by
 generalize bB b a=l at h
 induction l with
 | nil=>rfl
 | cons x r=>rw [pL,Je] at h;exact h.1
noncomputable def qm (e:ay):Bool:= !(e.ctorIdx==16)
theorem j2{o:ay}(h:qm o=true)(a:aj)(b:bg)(w:bY af):iE o a b w=w:=by cases o<;>first| rfl| exact lj h
noncomputable def Ax (e:ay):Bool:= !(e.ctorIdx==7)
theorem EY{e:ay}(h:Ax e=true)(a:bg)(x:af):ib e a x=pure x:=by cases e<;>first| rfl| exact lj h
noncomputable def vS (e:ay):Bool:= !(e.ctorIdx==8|| (e.ctorIdx==9|| e.ctorIdx==10))
theorem Iv{e:ay}(h:vS e=true)(t:Option ay)(l:Nat)(a:bg):Iw e t l a=pure false:=by cases e<;>first| rfl| exact lj h
theorem wA{e t:ay}(h:vS e=true)(l:Nat)(a:bg):kq [t] e l a=pure false:=Iv h _ l a
noncomputable def Iu (sc s:cR) (q:Nat) (id:aj) (p:bc):Bool:=(if sc.kind.isAnnotationScope then LJ else sc.kind)==.function && sc.names.lookup id==some .local && p.line==q && !(s.names.any λ(n,k)=>n==id && (k==.local|| k==.cell))
noncomputable def qC (sc:cR) (b:List ay):List aj:=b.filterMap λ
 | .Name id a=>if sc.names.lookup id==some .local && a.line==(b.head?.map (·.pos.line)).getD 0 then some id else none
 | _=>none
noncomputable def It (sc:cR) (a b:List ay) (r:bY (Option (List aj))):bY (Option (List aj)):=
 if (!(a.length==2|| a.length==3)|| b.length !=a.length|| (if sc.kind.isAnnotationScope then LJ else sc.kind) !=.function)=true then pure none else
 if (b.any λ| .Starred .. =>true| _=>false)=true then pure none else
 if ((qC sc a).length !=a.length|| (qC sc a).eraseDups.length !=(qC sc a).length)=true then pure none else r
theorem Vm{si:SI}{a c k p d f}(h:(!(a.length==2|| a.length==3)|| (qC si.sc a).length !=a.length)=true)(b:bg)(l:b.scope=si.sc):l0 [.Tuple a k p] (.Tuple c d f) b=pure none:=by
 have e:∃r,l0 [.Tuple a k p] (.Tuple c d f) b=It b.scope a c r:=⟨_,rfl⟩
 obtain⟨r,e⟩:=e
 rw [e,l]
 unfold It
 generalize (c.any λ| .Starred .. =>true| _=>false)=i
 generalize ((qC si.sc a).length !=a.length)=j at h ⊢
 generalize (!(a.length==2|| a.length==3))=g at h ⊢
 induction g with
 | true=>rfl
 | false=>induction j with
  | true=>induction i<;>exact(ite_self _)
  | false=>exact lj h
theorem Vn{b k p}{v:ay}(h:(v.ctorIdx==25)=false)(a:bg):l0 [.Tuple b k p] v a=pure none:=by cases v<;>first| rfl| exact lj h
structure CV(t:ay):Prop where
 s1:∀v env,l0 [t] v env=pure none
 s2:∀u v env,l0 [t,u] v env=pure none
 a1:∀es env,gy (t::es) env=(false,assign t env)::gy es env
noncomputable def tB (t:ay):Option (PLift (CV t)):=
 alt (sQ t λa a=>some ⟨λa a=>rfl,λa a a=>rfl,λa a=>rfl⟩) (alt (kJ t λa a a=>some ⟨λa a=>rfl,λa a a=>rfl,λa a=>rfl⟩) (tv t λa a a=>some ⟨λa a=>rfl,λa a a=>rfl,λa a=>rfl⟩))
end
section
structure Cs(W:Wd)(n:Nat) where
 E:∀si e,Ok (Ev W n si e)
 B:∀si e,Ok (Eb W n si e)
 F:∀si e,Ok (bG W n si e)
 I:∀si t e,Ok (du W n si t e)
 T:∀si e,Ok (Et W n si e)
 S:∀si e,Ok (Ex W n si e)
structure BI(W:Wd)(si:SI)(x:String)(v:af):Prop where
 hk:si.kind x=some .globalImplicit
 hb:(au x==("__debug__" :aj))=false
 v:W.mg (au x)=some v
section
variable {W:Wd} {n:Nat} {c:Cx}
theorem Ev.Wj{si x b}(h:i6 si x=true):Ev W n si (.Name (au x) b) (.var x):=λa st F e=>ob e λa c e=>sj e (zT st F c h)
noncomputable def Ar (l:List String) (s:aj):Option {x:String // au x=s}:=match l with
 | []=>none
 | x::l=>if h:au x=s then some ⟨x,h⟩ else Ar l s
@[elab_as_elim] noncomputable def sR (c:Cx) (s:aj) {motive:aj->Type} [Inhabited (motive s)] (k:∀x:String,motive (au x)):motive s:=match Ar c.nt s with
  | some x=>x.2▸k x.1
  | none=>default
@[elab_as_elim] noncomputable def jN (c:Cx) (e:ay) {motive:ay->Type} [∀e,Inhabited (motive e)] (k:∀x p,motive (.Name (au x) p)):motive e:=sQ e λs p=>sR c s λx=>k x p
@[elab_as_elim] noncomputable def jc (x:String) (e:ay) {motive:ay->Type} [∀e,Inhabited (motive e)] (k:∀p,motive (.Name (au x) p)):motive e:=sQ e λs p=>if h:au x=s then h▸k p else default
@[elab_as_elim] noncomputable def nq (x:String) (s:aj) {motive:aj->Type} [Inhabited (motive s)] (k:motive (au x)):motive s:=if h:au x=s then h▸k else default
noncomputable def isNm (e:ay) (x:String):Bool:=(jc (motive:=λa=>Option Unit) x e λa=>some ()).isSome
noncomputable def iF (H:fS W n c) (si:SI) (x:String) (v:af):Option (PLift (iv W si x v)):=
 if h:si.kind x=some .globalImplicit/\(au x==("__debug__" :aj))=false/\au x≠ "__name__" /\c.mg (au x)=none/\c.mb (au x)=some v then
  some ⟨h.1,h.2.1,(congrFun H.mg _).trans h.2.2.2.1,(H.mb _ h.2.2.1).trans h.2.2.2.2⟩ else none
noncomputable def yg (H:fS W n c) (si:SI) (x:String) (v:af):Option (PLift (BI W si x v)):=
 if h:si.kind x=some .globalImplicit/\(au x==("__debug__" :aj))=false/\c.mg (au x)=some v then some ⟨h.1,h.2.1,(congrFun H.mg _).trans h.2.2⟩ else none
noncomputable def Value.V8:af->Option String| .type t=>some t| _=>none
noncomputable def Value.LZ:af->Option aq| .ref a=>some a| _=>none
noncomputable def Value.Qz:af->Option (Int×de)| .int i t=>some (i,t)| _=>none
noncomputable def cN {k} (H:fS W n c) (si:SI) (x:String) (p:bc):Ok (Ev W k si (.Name (au x) p)):=
 if a:i6 si x=true then some ⟨.var x,bk Ev.Wj ⟨a⟩⟩ else
 alt ((c.mb (au x)).bind λv=>(Value.V8 v).bind λt=>(iF H si x (.type t)).bind λb=>some ⟨.typ t,i4 Ev.typ ⟨H.ok⟩ ⟨b.1.hk⟩ ⟨b.1.hb⟩ ⟨b.1.hg⟩ ⟨b.1.hm⟩⟩)
  ((c.mg (au x)).bind λv=>(Value.Qz v).bind λt=>(yg H si x (.int t.1 t.2)).bind λb=>some ⟨.int t.1,h6 Ev.Pm ⟨H.ok⟩ ⟨b.1.hk⟩ ⟨b.1.hb⟩ ⟨b.1.v⟩⟩)
noncomputable def cK {si} (c:Cx) (v:Const) {k p}:Ok (Ev W n si (.Constant v k p)):=match v with
 | .int i=>some ⟨.int i,bk (λa=>Ev.int) ⟨trivial⟩⟩
 | .bool b=>some ⟨.bool b,bk (λa=>Ev.bool) ⟨trivial⟩⟩
 | .none=>some ⟨.none_,bk (λa=>Ev.S_) ⟨trivial⟩⟩
 | .str s=>sR c s λx=>if h:x.length<=1000 then some ⟨.str x,bk Ev.str ⟨h⟩⟩ else none
 | _=>none
noncomputable def MN (op:CK) (l:ay):Ok (bL W n (kL op)):=match op with
 | .Add=>some ⟨_,⟨Op.add⟩⟩
 | .Sub=>some ⟨_,⟨Op.sub⟩⟩
 | .Mod=>some ⟨_,⟨Op.mod⟩⟩
 | .FloorDiv=>some ⟨_,⟨Op.fdiv⟩⟩
 | .Mult=>bif isNm l "sep" then some ⟨_,⟨Op.Ak⟩⟩ else some ⟨_,⟨Op.mul⟩⟩
 | _=>none
noncomputable def NM (op:mj) (r:ay):Option {f // Bx (bL W n (iJ op) f)/\yn op r=false}:=if h:yn op r=false then match op,h with
 | .Eq,h=>some ⟨_,⟨Op.eq⟩,h⟩
 | .NotEq,h=>some ⟨_,⟨Op.ne⟩,h⟩
 | .Lt,h=>some ⟨_,⟨Op.lt⟩,h⟩
 | .Gt,h=>some ⟨_,⟨Op.gt⟩,h⟩
 | .Is,h=>some ⟨_,⟨Op.is⟩,h⟩
 | .IsNot,h=>some ⟨_,⟨Op.kg⟩,h⟩
 | .In,h=>bif isNm r "seen" then some ⟨_,⟨Op.inSet⟩,h⟩ else some ⟨_,⟨Op.jH⟩,h⟩
 | .NotIn,h=>some ⟨_,⟨Op.jg⟩,h⟩
 | _,_=>none else none
noncomputable def DK (R:Cs W n) (si:SI) (l:ay) (c:List mj) (d:List ay) {p}:Option {m // Bx (Ev W n si (.Compare l c d p) m)/\Bx (Eb W n si (.Compare l c d p) (.val m))}:=
 eN c λop=>eN d λe=>(NM op e).bind λf=>(R.E si l).bind λa=>(R.E si e).bind λb=>some ⟨.bh f.1 a.1 b.1,h6 Ev.yX f.2.1 a.2 b.2 ⟨f.2.2⟩,h6 Eb.yX f.2.1 a.2 b.2 ⟨f.2.2⟩⟩
noncomputable def vB (e:ay):Bool:= !(e.ctorIdx==15|| (e.ctorIdx==3|| (e.ctorIdx==0|| e.ctorIdx==5)))
theorem Wi{e:ay}(h:vB e=true)(a:bg)(w:bY af):qf e a w=(do let v ← w;ip e.pos;kf [v] (truthy v)):=by cases e<;>first| rfl| exact lj h
noncomputable def cB (R:Cs W n) (si:SI) (e:ay):Ok (Eb W n si e):=
 alt (yY e λl c g p=>(DK R si l c g).bind λm=>some ⟨.val m.1,m.2.2⟩)<|
 alt (Bo e λop x p=>match op with| .Not=>(R.B si x).bind λb=>some ⟨.not b.1,bk Eb.not b.2⟩| _=>none)<|
 alt (DE e λop f p=>alt (ky f λx y=>(R.B si x).bind λa=>(R.B si y).bind λb=>match op with| .And=>some ⟨.and a.1 b.1,gQ Eb.yh a.2 b.2⟩| .Or=>some ⟨.or a.1 b.1,gQ Eb.AF a.2 b.2⟩)
  (IC f λx y z=>match op with| .Or=>(R.B si x).bind λa=>(R.B si y).bind λb=>(R.B si z).bind λd=>some ⟨.or a.1 (.or b.1 d.1),iG Eb.or3 a.2 b.2 d.2⟩| _=>none))<|
 if h:vB e=true then (R.E si e).bind λm=>some ⟨.val m.1,gQ Eb.val m.2 ⟨Wi h⟩⟩ else none
noncomputable def cL (R:Cs W n) (si:SI):(c:List ay)->Option {b // Bx (dN W n si c b)/\c.all ns=true}
 | []=>some ⟨[],bk (λa=>dN.nil) ⟨trivial⟩,rfl⟩
 | e::c=>if h:ns e=true then (R.E si e).bind λm=>(cL R si c).bind λb=>some ⟨m.1::b.1,iG dN.cons m.2 b.2.1 ⟨λd=>ej h _ d⟩,by rw [xo,h];exact b.2.2⟩ else none
noncomputable def cA (R:Cs W n) (si:SI) (d:List ay):Option {g // Bx (fF W n si d g)/\∀c,(bB d c).head?.any (·.1)=false}:=
 alt ((cL R si d).bind λe=>some ⟨aG e.1,bk fF.of e.2.1,λc=>Fi c (sU e.2.2 c)⟩)
  (ky d λa b=>Vq b λb p=>if h:ns a=true then (R.E si a).bind λm=>(R.E si b).bind λf=>some ⟨r7 m.1 f.1,iG fF.Vp m.2 f.2 ⟨λc=>by rw [ej h];rfl⟩,λc=>by rw [ej h];rfl⟩ else none)
end
end
section
section
variable {W:Wd} {n:Nat} {c:Cx}
structure Un(W:Wd)(n:Nat)(si:SI)(x:String) where
 f:af
 F:D->MH->Option (D×MH)
 b:iv W si x f
 v:isVal f=true
 o:Bx (fH W n (λv=>bM f [v]) F)
noncomputable def nD (H:fS W n c) (si:SI) (x:String) (f:af) {F:D->MH->Option (D×MH)} (v:isVal f=true) (o:Bx (fH W (n+6) (λv=>bM f [v]) F)):Option (Un W (n+6) si x):=(iF H si x f).bind λb=>some ⟨f,F,b.1,v,o⟩
noncomputable def Wc (H:fS W n c) (si:SI) (x:String):Option (Un W (n+6) si x):=
 alt (nD H si x (.builtin "len") rfl ⟨Op.len⟩)<|alt (nD H si x (.builtin "max") rfl ⟨Op.max⟩)<|alt (nD H si x (.builtin "min") rfl ⟨Op.min⟩)<|alt (nD H si x (.builtin "sum") rfl ⟨Op.sum⟩)<|
 alt (nD H si x (.type "str") rfl ⟨Op.str⟩)<|alt (nD H si x (.type "bool") rfl ⟨Op.bool⟩)<|alt (nD H si x (.type "tuple") rfl ⟨Op.tuple⟩) (nD H si x (.type "type") rfl ⟨Op.type⟩)
noncomputable def MZ (H:fS W n c) (R:Cs W (n+6)) (si:SI) (f:ay) (as:List ay) (p:bc):Ok (Ev W (n+6) si (.Call f as [] p)):=
 jN c f λx q=>(Wc H si x).bind λu=>eN as λe=>if h:ns e=true then (R.E si e).bind λm=>some ⟨.ax u.F m.1,j6 Ev.yB ⟨H.ok⟩ ⟨u.b.hk⟩ ⟨u.b.hb⟩ ⟨u.b.hg⟩ ⟨u.b.hm⟩ ⟨u.v⟩ u.o m.2 ⟨λa=>ej h _ a⟩⟩ else none
noncomputable def DJ (H:fS W n c) (R:Cs W (n+6)) (si:SI) (f:ay) (as:List ay) (p:bc) (x:String) {F} (o:Bx (bL W (n+6) (λv u=>bM (.builtin x) [v,u]) F)):Ok (Ev W (n+6) si (.Call f as [] p)):=
 jc x f λq=>(iF H si x (.builtin x)).bind λB=>ky as λa b=>if h:ns a=true/\ns b=true then (R.E si a).bind λm=>(R.E si b).bind λe=>
  some ⟨.bh F m.1 e.1,eT (eT (j6 Ev.Nj ⟨H.ok⟩ ⟨B.1.hk⟩ ⟨B.1.hb⟩ ⟨B.1.hg⟩ ⟨B.1.hm⟩ ⟨rfl⟩ o m.2 e.2) ⟨λd=>by rw [ej h.1,ej h.2];rfl⟩) ⟨λd=>ej h.2 _ d⟩⟩ else none
noncomputable def oM (K:kC) (a:aq):Bool:=(K.lookup a).any λo=>o.data.ctorIdx==7
theorem ET{K:kC}{a}(h:oM K a=true):∃o b,K.lookup a=some o/\o.data=.func b:=
 have⟨o,c,f⟩:∃o,K.lookup a=some o/\(o.data.ctorIdx==7)=true:=by
  unfold oM at h
  generalize K.lookup a=x at h ⊢
  induction x with
  | none=>exact lj h
  | some o=>exact⟨o,rfl,h⟩
 Xo (motive:=λd=>o.data=d->∃o b,K.lookup a=some o/\o.data=.func b) _ (eq_of_beq f) (λb e=>⟨o,b,c,e⟩) rfl
noncomputable def zo {P:aq->FM->Prop}:(l:List (String×aq×FM))->(∀p∈l,P p.2.1 p.2.2)->(x:String)->(a:aq)->Option {F // P a F}
 | [],_,_,_=>none
 | p::l,H,x,a=>if h:p.1=x/\p.2.1=a then some ⟨p.2.2,h.2▸H p (.head _)⟩ else zo l (λp b=>H p (.tail _ b)) x a
noncomputable def C2 (H:fS W n c) (si:SI) (x:String):Option {a:aq // BI W si x (.ref a)}:=(c.mg (au x)).bind λv=>(Value.LZ v).bind λa=>(yg H si x (.ref a)).bind λb=>some ⟨a,b.1⟩
noncomputable def M3 (H:fS W n c) (R:Cs W (n+6)) (si:SI) (f:ay) (as:List ay) (p:bc):Ok (Ev W (n+6) si (.Call f as [] p)):=
 jN c f λx q=>(C2 H si x).bind λa=>(zo (P:=λa F=>Bx (ba W (n+6) a F)) c.fns H.fns x a.1).bind λF=>if b:oM c.K a.1=true then (cA R si as).bind λg=>
  some ⟨.a8 F.1 g.1,mF Ev.Nk ⟨H.ok⟩ ⟨a.2.hk⟩ ⟨a.2.hb⟩ ⟨a.2.v⟩ ⟨ET (H.K▸b)⟩ F.2 g.2.1 ⟨g.2.2⟩⟩ else none
noncomputable def M5 (H:fS W n c) (R:Cs W (n+6)) (si:SI) (f:ay) (as:List ay) (p:bc):Ok (Ev W (n+6) si (.Call f as [] p)):=
 jN c f λx q=>(C2 H si x).bind λa=>(zo (P:=λa F=>Bx (ba W (n+6) a F)) c.o3 H.o3 x a.1).bind λF=>if hb:u9 c.K (.ref a.1)=true then
  alt (fA as (some ⟨.call F.1 [],j5 Ev.Nm ⟨H.ok⟩ ⟨a.2.hk⟩ ⟨a.2.hb⟩ ⟨a.2.v⟩ ⟨H.K▸hb⟩ F.2⟩))
   (y5 as λe d=>(cL R si (e::d)).bind λg=>some ⟨.a8 F.1 (aG g.1),eT (mF Ev.Nl ⟨H.ok⟩ ⟨a.2.hk⟩ ⟨a.2.hb⟩ ⟨a.2.v⟩ ⟨H.K▸hb⟩ F.2 (bk fF.of g.2.1) ⟨λb=>ej (band g.2.2).1 _ b⟩) ⟨λb=>sU (band g.2.2).2 b⟩⟩) else none
noncomputable def Nf (H:fS W n c) (R:Cs W (n+6)) (si:SI) (f:ay) (as:List ay) (p:bc):Ok (Ev W (n+6) si (.Call f as [] p)):=
 jc "tuple" f λq=>(iF H si "tuple" (.type "tuple")).bind λB=>eN as λa=>lJ a λf as h j=>fA h<|jc "map" f λk=>(iF H si "map" (.type "map")).bind λg=>ky as λz e=>jc c.ke.1 z λi=>
  (yg H si c.ke.1 (.ref c.ke.2.1)).bind λG=>if d:ns e=true then (R.E si e).bind λm=>
    some ⟨.qH (fO c.ke.2.2) m.1,eT (eT (eT (mF Ev.qH ⟨H.ok⟩ ⟨B.1⟩ ⟨g.1⟩ ⟨G.1.hk⟩ ⟨G.1.hb⟩ ⟨G.1.v⟩ H.ke m.2) ⟨λb=>by rw [ej (show ns (.Name _ i)=true from rfl),ej d];rfl⟩) ⟨λb=>ej d _ b⟩) ⟨λb=>rfl⟩⟩ else none
theorem zl{as:List ay}(h:as.all ns=true)(hl:as.length<29)(pos:bc)(a:bg):sI (as.length+([]:List pK).length) (fZ pos (bB as a)) (p0 pos (qh [] a))=true:=by
 have b:(fZ pos (bB as a)).all (!·.1)=true:=by rw [List.all_eq_not_any_not];simpa using kH (pos:=pos) (sU h a)
 unfold sI
 rw [b]
 show decide (as.length+0+_<30)=true
 exact decide_eq_true (ee (xH (by split<;>decide) _) (xM hl))
noncomputable def E9 {P:aq->FM->Prop}:(l:List (aj×aq×aq×FM))->(∀p∈l,P p.2.2.1 p.2.2.2)->(x:aj)->Option ((_:aq)× {q:aq×FM // P q.1 q.2})
 | [],_,_=>none
 | p::l,H,x=>if p.1=x then some ⟨p.2.1,p.2.2,H p (.head _)⟩ else E9 l (λp a=>H p (.tail _ a)) x
section
variable (H:fS W n c) (R:Cs W (n+6)) (si:SI) (o:ay) (bx:aj) (ap:bc) (as:List ay) (p:bc) (hb:qm o=true) (hl:(ap.endLine==p.line)=true)
noncomputable def M7:Ok (Ev W (n+6) si (.Call (.Attribute o bx ap) as [] p)):=if isNm o "seen" =true then none else (E9 (P:=λa F=>Bx (ba W (n+6) a F)) c.ms H.ms bx).bind λx=>
 if h:vM c.K x.1 bx x.2.1.1=true/\x.1≠cj then (R.E si o).bind λd=>
  alt (fA as (some ⟨.dC x.1 bx x.2.1.2 d.1 (aG []),mF Ev.Sw ⟨H.ok⟩ ⟨H.inst _ h.2⟩ ⟨H.K▸h.1⟩ x.2.2 d.2 ⟨λb=>j2 hb _ b _⟩ ⟨λb=>zl rfl (by decide) _ b⟩ ⟨hl⟩⟩))
   (y5 as λe f=>if i:(e::f).length<29 then (cL R si (e::f)).bind λg=>some ⟨.dC x.1 bx x.2.1.2 d.1 (aG g.1),eT (eT (j6 Ev.Sv ⟨H.ok⟩ ⟨H.inst _ h.2⟩ ⟨H.K▸h.1⟩ x.2.2 d.2 (bk fF.of g.2.1) ⟨λb=>j2 hb _ b _⟩ ⟨λb=>ej (band g.2.2).1 _ b⟩ ⟨λb=>sU (band g.2.2).2 b⟩) ⟨λb=>zl g.2.2 i _ b⟩) ⟨hl⟩⟩ else none) else none
noncomputable def M8:Ok (Ev W (n+6) si (.Call (.Attribute o bx ap) as [] p)):=if h:isNm o "line" =true/\bx= "applies_to" /\lO bx=true then (R.E si o).bind λd=>y5 as λe b=>if f:(e::b).length<29 then (cL R si (e::b)).bind λg=>
 some ⟨.sH cj iM bx c.lm d.1 (aG g.1),j6 Ev.Sx ⟨H.line⟩ ⟨h.2.2⟩ H.lm d.2 (bk fF.of g.2.1) ⟨λa=>j2 hb _ a _⟩ ⟨λa=>Fi a (sU g.2.2 a)⟩ ⟨λa=>zl g.2.2 f _ a⟩ ⟨hl⟩⟩ else none else none
noncomputable def yy (m:String) {f} (k:Bx (rI W (n+6) m f)):Ok (Ev W (n+6) si (.Call (.Attribute o bx ap) as [] p)):=nq m bx<|fA as<|(R.E si o).bind λb=>some ⟨.ax f b.1,h6 Ev.method0 b.2 k ⟨λa=>j2 hb _ a _⟩ ⟨hl⟩⟩
noncomputable def rT (m:String) {f} (k:Bx (n7 W (n+6) m f)):Ok (Ev W (n+6) si (.Call (.Attribute o bx ap) as [] p)):=nq m bx<|eN as λe=>if h:ns e=true then (R.E si o).bind λa=>(R.E si e).bind λb=>some ⟨.bh f a.1 b.1,j5 Ev.method1 a.2 b.2 k ⟨λc=>j2 hb _ c _⟩ ⟨λc=>ej h _ c⟩ ⟨hl⟩⟩ else none
noncomputable def uy (m:String) {g f} (k:Bx (pQ W (n+6) m g f)):Ok (Ev W (n+6) si (.Call (.Attribute o bx ap) as [] p)):=nq m bx<|eN as λe=>if h:ns e=true then (R.E si o).bind λa=>(R.E si e).bind λb=>some ⟨.dB g f a.1 b.1,j5 Ev.Su a.2 b.2 k ⟨λc=>j2 hb _ c _⟩ ⟨λc=>ej h _ c⟩ ⟨hl⟩⟩ else none
noncomputable def M9:Ok (Ev W (n+6) si (.Call (.Attribute o bx ap) as [] p)):=nq "split" bx<|eN as λe=>if h:ns e=true then (R.E si o).bind λa=>(R.E si e).bind λb=>some ⟨.aI (.bh pf a.1 b.1),bk Ev.aI (j5 bG.method1 a.2 b.2 ⟨M.split⟩ ⟨λc=>j2 hb _ c _⟩ ⟨λc=>ej h _ c⟩ ⟨hl⟩)⟩ else none
noncomputable def M_:Ok (Ev W (n+6) si (.Call (.Attribute o bx ap) as [] p)):=alt (M8 H R si o bx ap as p hb hl)<|alt (M7 H R si o bx ap as p hb hl)<|
 alt (yy R si o bx ap as p hb hl "lower" ⟨M.lower⟩)<|alt (yy R si o bx ap as p hb hl "pop" ⟨M.pop⟩)<|alt (yy R si o bx ap as p hb hl "clear" ⟨M.clear⟩)<|
 alt (rT R si o bx ap as p hb hl "startswith" ⟨M.starts⟩)<|alt (rT R si o bx ap as p hb hl "endswith" ⟨M.ends⟩)<|alt (rT R si o bx ap as p hb hl "rfind" ⟨M.rfind⟩)<|alt (rT R si o bx ap as p hb hl "rstrip" ⟨M.rstrip⟩)<|alt (rT R si o bx ap as p hb hl "join" ⟨M.join⟩)<|
 alt (uy R si o bx ap as p hb hl "append" ⟨M.append⟩)<|alt (uy R si o bx ap as p hb hl "extend" ⟨M.extend⟩)<|alt (uy R si o bx ap as p hb hl "get" ⟨M.get⟩)<|alt (uy R si o bx ap as p hb hl "add" ⟨M.US⟩) (M9 R si o bx ap as p hb hl)
end
end
end
section
section
variable {W:Wd} {n:Nat} {c:Cx} (H:fS W n c) (R:Cs W (n+6)) (si:SI)
noncomputable def MY (o:ay) (bx:aj) (p:bc) (hb:qm o=true):Ok (Ev W (n+6) si (.Attribute o bx p)):=(c.uq.lookup bx).bind λk=>(R.E si o).bind λm=>match k with
 | .inst k=>if h:k≠cj/\oO c.K k bx=true then some ⟨.ax (aV k bx) m.1,i4 Ev.attr ⟨H.ok⟩ ⟨H.inst _ h.1⟩ ⟨H.K▸h.2⟩ m.2 ⟨λa=>j2 hb _ a _⟩⟩ else none
 | .slot i p=>if h:th c.K 176 bx p i=true then some ⟨.ax (eY 176 i) m.1,i4 Ev.slot ⟨H.ok⟩ ⟨H.inst _ (by decide)⟩ ⟨H.K▸h⟩ m.2 ⟨λa=>j2 hb _ a _⟩⟩ else none
 | .line=>if h:lO bx=true then some ⟨.ax (aV cj bx) m.1,h6 Ev.attrL ⟨H.line⟩ ⟨h⟩ m.2 ⟨λa=>j2 hb _ a _⟩⟩ else none
noncomputable def Nb (o:ay) (bx:aj) (p:bc):Ok (Ev W (n+6) si (.Attribute o bx p)):=nq "__next__" bx<|lJ o λf as b q=>fA b<|jc "iter" f λc=>(iF H si "iter" (.builtin "iter")).bind λB=>eN as λe=>if h:ns e=true then (R.E si e).bind λm=>
 some ⟨.ax qg m.1,i4 Ev.QW ⟨H.ok⟩ ⟨B.1⟩ m.2 ⟨λa=>ej h _ a⟩ ⟨λa=>rfl⟩⟩ else none
noncomputable def yz:(e:Option ay)->Option {m // Bx (nN W (n+6) si e m)}
 | none=>some ⟨none,⟨trivial⟩⟩
 | some e=>(R.E si e).bind λm=>some ⟨some m.1,m.2⟩
noncomputable def Nd (v s:ay) (p:bc):Ok (Ev W (n+6) si (.Subscript v s p)):=(R.E si v).bind λm=>alt
 (Ve s λx y z q=>(yz R si x).bind λa=>(yz R si y).bind λb=>match z with
   | none=>some ⟨.slice m.1 a.1 b.1,iG Ev.slice m.2 a.2 b.2⟩
   | some _=>(yz R si _).bind λk=>some ⟨.nh m.1 a.1 b.1 k.1,h6 Ev.nh m.2 a.2 b.2 k.2⟩)
 ((R.E si s).bind λi=>some ⟨.idx m.1 i.1,gQ Ev.idx m.2 i.2⟩)
noncomputable def Na (f:ay) (as:List ay) (p:bc):Ok (Ev W (n+6) si (.Call f as [] p)):=kJ f λo bx ap=>if h:qm o=true/\(ap.endLine==p.line)=true then M_ H R si o bx ap as p h.1 h.2 else none
noncomputable def M0 (f:ay) (as:List ay) (p:bc):Ok (Ev W (n+6) si (.Call f as [] p)):=alt (Nf H R si f as p)<|alt (MZ H R si f as p)<|alt (DJ H R si f as p "isinstance" ⟨Op.QM⟩)<|alt (DJ H R si f as p "issubclass" ⟨Op.QN⟩)<|alt (M5 H R si f as p)<|alt (M3 H R si f as p) (Na H R si f as p)
noncomputable def cE (e:ay):Ok (Ev W (n+6) si e):=
 alt (jN c e λx p=>cN H si x p)<|
 alt (y6 e λv k p=>cK c v)<|
 alt (kJ e λo bx p=>alt (Nb H R si o bx p) (if h:qm o=true then MY H R si o bx p h else none))<|
 alt (lJ e λf as q p=>fA q (M0 H R si f as p))<|
 alt (tv e λv s p=>Nd R si v s p)<|
 alt (Bo e λop x p=>(R.E si x).bind λm=>match op with| .USub=>some ⟨.neg m.1,bk Ev.neg m.2⟩| .Not=>some ⟨.not m.1,bk Ev.not m.2⟩| _=>none)<|
 alt (DA e λl op x p=>if c.add=true then (MN op l).bind λf=>(R.E si l).bind λa=>(R.E si x).bind λb=>some ⟨.bh f.1 a.1 b.1,iG Ev.binop f.2 a.2 b.2⟩ else none)<|
 alt (yY e λl j r p=>(DK R si l j r).bind λm=>some ⟨m.1,m.2.1⟩)<|
 alt (DE e λop u p=>ky u λx y=>(R.E si x).bind λa=>(R.E si y).bind λb=>match op with| .And=>some ⟨.and a.1 b.1,gQ Ev.yh a.2 b.2⟩| .Or=>some ⟨.or a.1 b.1,gQ Ev.AF a.2 b.2⟩)<|
 alt (Qx e λt x y p=>(R.B si t).bind λb=>(R.E si x).bind λa=>(R.E si y).bind λd=>some ⟨.ite b.1 a.1 d.1,iG Ev.ite b.2 a.2 d.2⟩)<|
 alt (Gj e λi p=>(cL R si i).bind λg=>some ⟨.list g.1,bk Ev.list g.2.1⟩)<|
 alt (jm e λi k p=>(cL R si i).bind λg=>some ⟨.tup g.1,bk Ev.tup g.2.1⟩)<|
 if (e.ctorIdx==8|| (e.ctorIdx==10|| e.ctorIdx==16))=true then (R.F si e).bind λm=>some ⟨.aI m.1,bk Ev.aI m.2⟩ else none
noncomputable def VR (c:Cx):ay->Option (List String)
 | .Name id _=>(Ar c.nt id).bind λx=>some [x.1]
 | .Tuple b _ _=>b.mapM λe=>jN (motive:=λa=>Option String) c e λx a=>some x
 | _=>none
noncomputable def Hf (c:Cx):List hN->Option (List String)
 | []=>some []
 | g::a=>(VR c g.target).bind λx=>(Hf c a).bind λy=>some (x++y)
noncomputable def DN:(a:List ay)->Ok (gv W (n+6) si a)
 | []=>some ⟨[],⟨.nil⟩⟩
 | e::a=>(R.B si e).bind λb=>(DN a).bind λbs=>some ⟨b.1::bs.1,⟨.cons b.2.1 bs.2.1⟩⟩
structure Cl(W:Wd)(n:Nat)(si HU:SI)(tg it:ay)(ifs:List ay) where
 mi:MI
 mt:MT
 bs:List MB
 i:Bx (du W n si tg it mi)
 t:Bx (Et W n HU tg mt)
 b:Bx (gv W n HU ifs bs)
 f:∀env x,ib it env x=pure x
@[elab_as_elim] noncomputable def rS (c:SI) (g:hN) {motive:hN->Type} [∀g,Inhabited (motive g)] (k:∀{a b d},Cl W (n+6) si c a b d->motive ⟨a,b,d,0⟩):motive g:=match g with
  | ⟨a,b,d,as⟩=>if h:0=as then h▸(if f:Ax b=true then match R.I si a b,R.T c a,DN R c d with
   | some i,some t,some b=>k ⟨i.1,t.1,b.1,i.2,t.2,b.2,λe x=>EY f e x⟩
   | _,_,_=>default else default) else default
noncomputable def yA (c:Cx) (b:List hN) (a:cR):Option {o // jq si a o}:=(Hf c b).bind λo=>if h:y2 si a (".0" ::o)=true then some ⟨".0" ::o,.of h⟩ else none
structure Co(W:Wd)(n:Nat)(si:SI)(e:ay) where
 m:MF
 o:Bx (bG W n si e m)
 a:∀{tg mt H_},Bx (Et W n si tg mt)->(∀env:bg,env.scope=si.sc->kq [tg] e H_.line env=pure true)->CV tg->Bx (Ex W n si (.Assign [tg] e H_) (.assign mt (.aI m)))
noncomputable def DO (h:ay) (j:List hN) (a:cR) (p:bc):Option (Co W (n+6) si (.ListComp h j a p)):=(yA si c j a).bind λo=>(R.E (cC si a) h).bind λm=>
 alt (eN j λg=>rS R si (cC si a) g λK=>some ⟨.comp K.mi K.mt K.bs (.elt m.1) o.1 (.list []),yx bG.Ro ⟨H.ok⟩ ⟨o.2⟩ ⟨K.f⟩ K.i K.t K.b m.2,
  λq l k=>eT (j6 Ex.Mv ⟨H.ok⟩ ⟨o.2⟩ ⟨K.f⟩ K.i K.t K.b m.2 q ⟨l⟩) ⟨λe=>k.a1 _ e⟩⟩)
  (ky j λg r=>rS R si (cC si a) g λK=>rS R (cC si a) (cC si a) r λd=>some ⟨.comp K.mi K.mt K.bs (.inner d.mi d.mt d.bs (.elt m.1)) o.1 (.list []),
    eT (eT (j6 bG.Rp ⟨H.ok⟩ ⟨o.2⟩ ⟨K.f⟩ ⟨d.f⟩ K.i K.t K.b d.i d.t) d.b) m.2,
    λq l k=>eT (eT (eT (eT (eT (j6 Ex.Mw ⟨H.ok⟩ ⟨o.2⟩ ⟨K.f⟩ ⟨d.f⟩ K.i K.t K.b d.i d.t) d.b) m.2) q) ⟨l⟩) ⟨λe=>k.a1 _ e⟩⟩)
noncomputable def DM (j k:ay) (h:List hN) (d:cR) (p:bc):Option (Co W (n+6) si (.DictComp j k h d p)):=(yA si c h d).bind λo=>(R.E (cC si d) j).bind λa=>(R.E (cC si d) k).bind λb=>
 eN h λg=>rS R si (cC si d) g λK=>some ⟨.comp K.mi K.mt K.bs (.kv a.1 b.1) o.1 (.dict []),mF bG.Of ⟨H.ok⟩ ⟨o.2⟩ ⟨K.f⟩ K.i K.t K.b a.2 b.2,
  λq m l=>eT (eT (j6 Ex.Mu ⟨H.ok⟩ ⟨o.2⟩ ⟨K.f⟩ K.i K.t K.b a.2 b.2 q) ⟨m⟩) ⟨λe=>l.a1 _ e⟩⟩
noncomputable def Nc (d:ay) (e:List hN) (a:cR) (p:bc):Ok (bG W (n+6) si (.SetComp d e a p)):=(yA si c e a).bind λo=>(R.E (cC si a) d).bind λm=>
 eN e λg=>rS R si (cC si a) g λK=>some ⟨.comp K.mi K.mt K.bs (.nC m.1) o.1 (.i0 false),yx bG.U6 ⟨H.ok⟩ ⟨o.2⟩ ⟨K.f⟩ K.i K.t K.b m.2⟩
noncomputable def M1 (e:ay) (p g:bc):Ok (bG W (n+6) si (.Call (.Name (au "list") p) [e] [] g)):=(iF H si "list" (.type "list")).bind λB=>lJ e λf as d q=>fA d<|jc "filter" f λl=>(iF H si "filter" (.type "filter")).bind λj=>ky as λt b=>kJ t λo bx r=>
 nq "__contains__" bx<|lJ o λf as d s=>fA d<|jc "set" f λu=>(iF H si "set" (.type "set")).bind λk=>eN as λa=>if h:ns a=true/\ns b=true then (R.E si a).bind λm=>(R.E si b).bind λi=>
  some ⟨.oL m.1 i.1,eT (eT (j6 (bG.oL (n:=n+2)) ⟨H.ok⟩ ⟨B.1⟩ ⟨j.1⟩ ⟨k.1⟩ m.2 i.2 ⟨λc=>ej h.1 _ c⟩ ⟨λc=>rfl⟩ ⟨λc=>by rw [ej (show ns (.Attribute _ _ _)=true from rfl),ej h.2];rfl⟩) ⟨λc=>ej h.2 _ c⟩) ⟨λc=>rfl⟩⟩ else none
noncomputable def M6 (f:ay) (as:List ay) (p:bc):Ok (bG W (n+6) si (.Call f as [] p)):=
 alt (jc "list" f λq=>eN as λe=>alt (M1 H R si e q p) ((iF H si "list" (.type "list")).bind λB=>if h:ns e=true then (R.E si e).bind λm=>
  if isNm e "ways" =true then some ⟨.ax sD m.1,h6 (bG.Rq (n:=n+4)) ⟨H.ok⟩ ⟨B.1⟩ m.2 ⟨λa=>ej h _ a⟩⟩
  else some ⟨.ax qk m.1,j6 bG.yB ⟨H.ok⟩ ⟨B.1.hk⟩ ⟨B.1.hb⟩ ⟨B.1.hg⟩ ⟨B.1.hm⟩ ⟨rfl⟩ ⟨xQ.list⟩ m.2 ⟨λa=>ej h _ a⟩⟩ else none))
  (jc "set" f λq=>(iF H si "set" (.type "set")).bind λB=>fA as (some ⟨.te,h6 bG.te ⟨H.ok⟩ ⟨B.1.hk⟩ ⟨B.1.hg⟩ ⟨B.1.hm⟩⟩))
noncomputable def cF (e:ay):Ok (bG W (n+6) si e):=
 alt (Gj e λq p=>(cL R si q).bind λi=>some ⟨.list i.1,bk bG.list i.2.1⟩)<|
 alt (Ob e λh j p=>alt (fA h (fA j (some ⟨.mM,bk bG.mM ⟨H.ok⟩⟩))) (eN h λk=>eN j λv=>match k with
  | some k=>(R.E si k).bind λa=>(R.E si v).bind λb=>some ⟨.mN a.1 b.1,h6 bG.mN ⟨H.ok⟩ a.2 b.2 ⟨λc=>rfl⟩⟩
  | none=>none))<|
 alt (F1 e λd g s p=>(DO H R si d g s p).bind λx=>some ⟨x.m,x.o⟩)<|
 alt (Ed e λk v g s p=>(DM H R si k v g s p).bind λx=>some ⟨x.m,x.o⟩)<|
 alt (HO e λd g s p=>Nc H R si d g s p)<|
 alt (DA e λl op x p=>match op with| .Add=>(R.E si l).bind λa=>(R.E si x).bind λb=>some ⟨.bh ui a.1 b.1,iG bG.binop ⟨xQ.add⟩ a.2 b.2⟩| _=>none)
 (lJ e λf as h p=>fA h (M6 H R si f as p))
end
end
section
theorem QH{si:SI}(h:si.sc.kind≠ .module)(a:bg)(b:a.scope=si.sc):zK a=false:=by
 unfold zK
 rw [b,beq_eq_false_iff_ne.mpr h]
 rfl
section
variable {W:Wd} {n:Nat} {c:Cx} (H:fS W n c) (R:Cs W (n+6)) (si:SI)
@[elab_as_elim] noncomputable def FF (i:Int) (e:ay) {motive:ay->Type} [∀e,Inhabited (motive e)] (k:∀q p,motive (.Constant (.int i) q p)):motive e:=y6 e λv q p=>if h: .int i=v then h▸k q p else default
noncomputable def M4 (tg e:ay):Ok (du W (n+6) si tg e):=lJ e λf as b p=>fA b<|
 alt (jc "range" f λq=>(iF H si "range" (.type "range")).bind λB=>alt (eN as λe=>if h:ns e=true then (R.E si e).bind λm=>some ⟨.gT m.1,j5 du.gT ⟨H.ok⟩ ⟨B.1.hk⟩ ⟨B.1.hg⟩ ⟨B.1.hm⟩ m.2 ⟨λa=>ej h _ a⟩⟩ else none)
  (IC as λe x y=>FF 0 x λj g=>Bo y λop y c=>FF 1 y λl i=>match op with
    | .USub=>if h:ns e=true then (R.E si e).bind λm=>some ⟨.pd m.1,j5 du.pd ⟨H.ok⟩ ⟨B.1.hk⟩ ⟨B.1.hg⟩ ⟨B.1.hm⟩ m.2 ⟨λa=>ej h _ a⟩⟩ else none
    | _=>none))<|
 alt (jc "enumerate" f λq=>(iF H si "enumerate" (.type "enumerate")).bind λB=>jm tg λd k c=>eN as λe=>if h:ns e=true then (R.E si e).bind λm=>some ⟨.enum m.1,h6 du.enum ⟨H.ok⟩ ⟨B.1⟩ m.2 ⟨λa=>ej h _ a⟩⟩ else none)
 (kJ f λo bx ap=>nq "values" bx<|fA as<|if h:qm o=true/\(ap.endLine==p.line)=true then (R.E si o).bind λm=>some ⟨.values m.1,iG du.values m.2 ⟨λa=>j2 h.1 _ a _⟩ ⟨h.2⟩⟩ else none)
noncomputable def cI (tg e:ay):Ok (du W (n+6) si tg e):=alt (M4 H R si tg e) ((R.E si e).bind λm=>if isNm e "n2i" =true then some ⟨.p9 m.1,bk du.p9 m.2⟩ else some ⟨.of m.1,bk du.of m.2⟩)
structure Tl(W:Wd)(n:Nat)(si:SI)(es:List ay) where
 ms:List MT
 h:Bx (ll W n si es ms)
 l:es.length=ms.length
 k:∀env,(gy es env).length=es.length/\(gy es env).findIdx? (·.1)=none
noncomputable def DQ:(c:List ay)->Option (Tl W (n+6) si c)
 | []=>some ⟨[],bk (λa=>ll.nil) ⟨trivial⟩,rfl,λa=>⟨rfl,rfl⟩⟩
 | e::c=>if h:ns e=true then (R.T si e).bind λm=>(DQ c).bind λx=>some ⟨m.1::x.ms,iG ll.cons m.2 x.h ⟨λb=>Dr h _ b⟩,congrArg (· +1) x.l,λb=>by
  rw [Dr h];have y:=x.k b;exact⟨congrArg (· +1) y.1,by rw [List.findIdx?_cons,y.2];rfl⟩⟩ else none
noncomputable def cT (e:ay):Ok (Et W (n+6) si e):=
 alt (jN c e λx p=>if h:i7 si x=true then some ⟨.name x,bk Et.name ⟨h⟩⟩ else none)<|
 alt (jm e λd k p=>(DQ R si d).bind λx=>some ⟨.tup x.ms,iG Et.tup x.h ⟨x.l⟩ ⟨x.k⟩⟩)<|
 alt (tv e λo i p=>(R.E si o).bind λa=>(R.E si i).bind λb=>some ⟨.sub a.1 b.1,gQ Et.sub a.2 b.2⟩)
 (kJ e λo bx p=>(c.uq.lookup bx).bind λk=>(R.E si o).bind λm=>match k with
   | .inst k=>sR c bx λx=>if h:k≠cj/\setOk c.K k (au x)=true/\x.length<=100 then some ⟨.attr k (au x) m.1,i4 Et.attr ⟨H.ok⟩ ⟨H.inst _ h.1⟩ ⟨H.K▸h.2.1⟩ ⟨h.2.2⟩ m.2⟩ else none
   | .slot i p=>if h:ti c.K 176 bx p i=true then some ⟨.slot 176 i m.1,i4 Et.slot ⟨H.ok⟩ ⟨H.inst _ (by decide)⟩ ⟨H.sl⟩ ⟨H.K▸h⟩ m.2⟩ else none
   | .line=>sR c bx λx=>if h:lO (au x)=true/\x.length<=100 then some ⟨.attrL cj (au x) m.1,h6 Et.attrL ⟨H.line⟩ ⟨h.1⟩ ⟨h.2⟩ m.2⟩ else none)
noncomputable def fM:(b:List bZ)-> {m // Bx (dY W (n+6) si b m)}
 | []=>⟨.nil,bk (λa=>dY.nil) ⟨trivial⟩⟩
 | [s]=>match R.S si s with
  | none=>⟨.never,bk (λa=>dY.never) ⟨trivial⟩⟩
  | some m=>⟨m.1,bk dY.one m.2⟩
 | s::c::b=>match R.S si s with
  | none=>⟨.never,bk (λa=>dY.never) ⟨trivial⟩⟩
  | some m=>let x:=fM (c::b);⟨.cons m.1 x.1,gQ dY.cons m.2 x.2⟩
noncomputable def QK (c:Cx) (t:ay):Bool:=(alt (sQ (motive:=λa=>Option aj) t λs a=>some s) (kJ (motive:=λa=>Option aj) t λa s a=>some s)).any λs=>c.cells.any λx=>decide (au x=s)
noncomputable def cV (c:Cx) (t v:ay):Ok (Ev W (n+6) si v):=alt (if QK c t=true then (R.F si v).bind λm=>some ⟨.d9 m.1,bk Ev.d9 m.2⟩ else none) (R.E si v)
noncomputable def DR (c:Cx):List ay->(d:List ay)->Ok (dN W (n+6) si d)
 | _,[]=>some ⟨[],bk (λa=>dN.nil) ⟨trivial⟩⟩
 | [],_::_=>none
 | t::e,v::d=>if h:ns v=true then (cV R si c t v).bind λm=>(DR c e d).bind λx=>some ⟨m.1::x.1,iG dN.cons m.2 x.2 ⟨λb=>ej h _ b⟩⟩ else none
noncomputable def Nh (t v:ay) (p:bc):Ok (Ex W (n+6) si (.Assign [t] v p)):=jm t λd k q=>eN d λe=>jN c e λx j=>HO v λa f s i=>if h:i7 si x=true then (R.F si (.SetComp a f s i)).bind λm=>
 some ⟨.qJ x m.1,h6 Ex.qJ m.2 ⟨h⟩ ⟨λb g=>rfl⟩ ⟨λb g=>rfl⟩⟩ else none
noncomputable def DL (t v:ay) (p:bc) {s:cR} {q:Nat} (x:Co W (n+6) si v) (f:∀id tp l d,kq [.Name id tp] v l d=pure (Iu d.scope s q id tp)) (g:∀id tp d,l0 [.Name id tp] v d=pure none) (i:∀o a tp l d,kq [.Attribute o a tp] v l d=pure false):Ok (Ex W (n+6) si (.Assign [t] v p)):=
 alt (sQ t λid tp=>(R.T si (.Name id tp)).bind λmt=>
  if h:Iu si.sc s q id tp=true then some ⟨.assign mt.1 (.aI x.m),x.a mt.2 (λd e=>by rw [f,e,h]) ⟨λb b=>rfl,λb b b=>rfl,λb b=>rfl⟩⟩
  else (cV R si c (.Name id tp) v).bind λm=>some ⟨.assign mt.1 m.1,i4 Ex.assign m.2 mt.2 ⟨λd e=>by rw [f,e,Bool.eq_false_iff.mpr h]⟩ ⟨λd b=>g _ _ d⟩ ⟨λd=>rfl⟩⟩)
 (kJ t λo a tp=>(R.T si (.Attribute o a tp)).bind λmt=>(cV R si c (.Attribute o a tp) v).bind λm=>some ⟨.assign mt.1 m.1,i4 Ex.assign m.2 mt.2 ⟨λd e=>i _ _ _ _ d⟩ ⟨λd b=>rfl⟩ ⟨λd=>rfl⟩⟩)
noncomputable def MU (t v:ay) (p:bc):Ok (Ex W (n+6) si (.Assign [t] v p)):=
 alt (Nh (c:=c) R si t v p)<|
 alt (F1 v λi j s q=>(DO H R si i j s q).bind λx=>DL (c:=c) R si t _ p x (λd d d d=>rfl) (λd d d=>rfl) λd d d d d=>rfl)<|
 alt (Ed v λa b j s q=>(DM H R si a b j s q).bind λx=>DL (c:=c) R si t _ p x (λd d d d=>rfl) (λd d d=>rfl) λd d d d d=>rfl)<|
 if l:vS v=true then
  alt ((tB t).bind λT=>(R.T si t).bind λmt=>(cV R si c t v).bind λm=>some ⟨.assign mt.1 m.1,i4 Ex.assign m.2 mt.2 ⟨λe g=>wA l _ e⟩ ⟨λe d=>T.1.s1 v e⟩ ⟨λe=>T.1.a1 _ e⟩⟩)
   (jm t λf k q=>(R.T si (.Tuple f k q)).bind λmt=>alt (jm v λr u w=>if h:(!(f.length==2|| f.length==3)|| (qC si.sc f).length !=f.length)=true then (DR R si c f r).bind λo=>
     some ⟨.assign mt.1 (.tup o.1),i4 Ex.assign (bk Ev.tup o.2) mt.2 ⟨λe g=>rfl⟩ ⟨λe g=>Vm h e g⟩ ⟨λe=>rfl⟩⟩ else none)
     (if h:(v.ctorIdx==25)=false then (R.E si v).bind λm=>some ⟨.assign mt.1 m.1,i4 Ex.assign m.2 mt.2 ⟨λe g=>wA l _ e⟩ ⟨λe g=>Vn h e⟩ ⟨λe=>rfl⟩⟩ else none)) else none
noncomputable def MV (t u v:ay) (p:bc):Ok (Ex W (n+6) si (.Assign [t,u] v p)):=(tB t).bind λb=>(tB u).bind λd=>(R.E si v).bind λm=>(R.T si t).bind λmt=>(R.T si u).bind λc=>
 some ⟨.pZ mt.1 c.1 m.1,j5 Ex.pZ m.2 mt.2 c.2 ⟨λa e=>rfl⟩ ⟨λa e=>b.1.s2 _ _ a⟩ ⟨λa=>by rw [b.1.a1,d.1.a1];rfl⟩⟩
noncomputable def MD (op:CK):Ok (bL W n (oW op)):=match op with| .Add=>some ⟨_,⟨Op.iadd⟩⟩| .Sub=>some ⟨_,⟨Op.QQ⟩⟩| _=>none
noncomputable def MW (t:ay) (op:CK) (v:ay) (p:bc):Ok (Ex W (n+6) si (.AugAssign t op v p)):=(MD op).bind λf=>(R.E si v).bind λm=>alt
 (jN c t λx q=>if h:i7 si x=true/\(au x==("__classdict__" :aj))=false then some ⟨.assign (.name x) (.bh f.1 (.var x) m.1),h6 Ex.aug f.2 m.2 ⟨h.1⟩ ⟨h.2⟩⟩ else none)
 (kJ t λo bx q=>(c.uq.lookup bx).bind λk=>(R.E si o).bind λa=>match k with
   | .inst k=>sR c bx λx=>if h:k≠cj/\oO c.K k (au x)=true/\setOk c.K k (au x)=true/\x.length<=100 then some ⟨.oj k (au x) f.1 a.1 m.1,mF Ex.oj ⟨H.ok⟩ ⟨H.inst _ h.1⟩ ⟨H.K▸h.2.1⟩ ⟨H.K▸h.2.2.1⟩ ⟨h.2.2.2⟩ a.2 m.2 f.2⟩ else none
   | .slot i p=>if h:th c.K 176 bx p i=true/\ti c.K 176 bx p i=true then some ⟨.lH 176 i f.1 a.1 m.1,mF Ex.lH ⟨H.ok⟩ ⟨H.inst _ (by decide)⟩ ⟨H.sl⟩ ⟨H.K▸h.1⟩ ⟨H.K▸h.2⟩ a.2 m.2 f.2⟩ else none
   | _=>none)
end
end
section
section
variable {W:Wd} {n:Nat} {c:Cx} (H:fS W n c) (R:Cs W (n+6)) (si:SI)
@[elab_as_elim] noncomputable def Hn (e:ay) {motive:ay->Type} [∀e,Inhabited (motive e)] (k:∀x p ap np,i6 si x=true->(ap.endLine==p.line)=true->motive (.Call (.Attribute (.Name (au x) np) (au "pop") ap) [] [] p)):motive e:=
  lJ e λf as a p=>fA a<|fA as<|kJ f λo bx ap=>nq "pop" bx<|jN c o λx np=>if h:i6 si x=true/\(ap.endLine==p.line)=true then k x p ap np h.1 h.2 else default
@[elab_as_elim] noncomputable def VZ (s:bZ) {motive:bZ->Type} [∀s,Inhabited (motive s)] (k:∀{x fo a d fp b ap m},Bx (Ev W (n+6) si (.Subscript fo a fp) m)->i7 si x=true->motive (.Assign [.Name (au x) d] (.Call (.Subscript fo a fp) [] [] b) ap)):motive s:=
  Dt s λg v ap=>eN g λt=>jN c t λx d=>lJ v λf as e b=>fA e<|fA as<|tv f λfo a fp=>if h:i7 si x=true then match R.E si (.Subscript fo a fp) with| some m=>k m.2 h| none=>default else default
noncomputable def Ng (f g:bZ) (h:ExceptHandler) (tp:bc) {q} (o:si.here=some q) (p:si.sc.kind≠ .module):Ok (Ex W (n+6) si (.Try [f,g] [h] [] [] tp)):=VZ (c:=c) R si f λ{x _ _ _ _ _ _ m} A r=>DG g λG=>match h with
 | .ExceptHandler (some t) none b l=>jc "StopIteration" t λnp=>(iF H si "StopIteration" (.type "StopIteration")).bind λB=>ky b λd e=>Od d λF I=>eN F λt=>tv t λdd u J=>jN c dd λdd C=>Hn (c:=c) si u λa k i D v y=>
  EG e λe l=>Hn (c:=c) si e λst kP j E w z=>if s:i6 si dd=true then some ⟨.qG x m dd a st,eT (eT (j6 Ex.qG ⟨H.ok⟩ ⟨o⟩ ⟨p⟩ A ⟨r⟩ ⟨s⟩ ⟨v⟩ ⟨w⟩ ⟨B.1⟩) ⟨y⟩) ⟨z⟩⟩ else none
 | _=>none
noncomputable def Ni (t:ay) (xs b:List bZ) (p:bc):Ok (Ex W (n+6) si (.If t xs b p)):=yY t λl a d tp=>SS l λx e g=>jN c x λx np=>eN a λop=>eN d λr=>y6 r λv k f=>match op,v with
 | .Is,.none=>if h:i7 si x=true then (R.E si e).bind λm=>some ⟨.pg x m.1 (fM R si xs).1 (fM R si b).1,h6 Ex.pg m.2 ⟨h⟩ (fM R si xs).2 (fM R si b).2⟩ else none
 | _,_=>none
noncomputable def cS (s:bZ):Ok (Ex W (n+6) si s):=
 alt (EG s λe p=>if h:si.sc.kind≠ .module/\vS e=true then (R.E si e).bind λm=>some ⟨.expr m.1,iG Ex.expr m.2 ⟨QH h.1⟩ ⟨λd=>Iv h.2 _ _ d⟩⟩ else none)<|
 alt (Dt s λj v p=>alt (eN j λt=>MU H R si t v p) (ky j λt u=>MV R si t u v p))<|
 alt (Qw s λt xs g p=>alt (Ni (c:=c) R si t xs g p) ((R.B si t).bind λb=>some ⟨.ite b.1 (fM R si xs).1 (fM R si g).1,iG Ex.ite b.2 (fM R si xs).2 (fM R si g).2⟩))<|
 alt (retS s λv p=>match v with| some e=>(R.E si e).bind λm=>some ⟨.ret m.1,bk Ex.ret m.2⟩| none=>none)<|
 alt (O1 s λt it b o p=>fA o<|if h:Ax it=true then (R.I si t it).bind λi=>(R.T si t).bind λmt=>some ⟨.cD i.1 mt.1 (fM R si b).1,h6 Ex.cD i.2 mt.2 (fM R si b).2 ⟨λd x=>EY h d x⟩⟩ else none)<|
 alt (WA s λt xs g p=>(R.B si t).bind λb=>some ⟨.nF fuel b.1 (fM R si xs).1 (fM R si g).1,iG Ex.nF b.2 (fM R si xs).2 (fM R si g).2⟩)<|
 alt (MG s λt op v p=>MW H R si t op v p)<|
 alt (V2 s λb w o f p=>fA o<|fA f<|eN w λh=>alt (ky b λk l=>match q:si.here with| some y=>if r:si.sc.kind≠ .module then Ng H R si k l h p q r else none| none=>none) (some ⟨(fM R si b).1,bk Ex.V1 (fM R si b).2⟩))<|
 alt (DG s λp=>some ⟨.brk,bk (λa=>Ex.brk) ⟨trivial⟩⟩) (NV s λp=>some ⟨.cont,bk (λa=>Ex.cont) ⟨trivial⟩⟩)
noncomputable def mG:Nat->Cs W (n+6)
 | 0=>⟨λa a=>none,λa a=>none,λa a=>none,λa a a=>none,λa a=>none,λa a=>none⟩
 | k+1=>have R:=mG k;⟨cE H R,cB R,cF H R,cI H R,cT H R,cS H R⟩
end
end
section
noncomputable def GQ (P:mw):Array DictEntry:=match (KK P).lookup 3 with| some o=>(match o.data with| .dict a _=>a| _=> #[])| none=> #[]
noncomputable def sJ (P:mw):aj->Option af:=vT (GQ P)
noncomputable def EL:Data->Option gc| .func a=>some a| _=>none
noncomputable def dT (P:mw) (a:aq):gc:=(((KK P).lookup a).bind λo=>EL o.data).getD default
noncomputable def kK (P:mw) (a:aq):List bZ:=match (dT P a).body with| .stmts l=>l| _=>[]
structure tP where
 t:ay
 a:BJ
 b:ay
 s:cR
 p:bc
 q:bc
noncomputable def tP.st (x:tP):bZ:=.Assign [x.t] (.Lambda x.a x.b x.s x.p) x.q
noncomputable def Mr:bZ->tP
 | .Assign [t] (.Lambda a b s p) q=>⟨t,a,b,s,p,q⟩
 | _=>⟨.Name "" m8,⟨[],[],none,[],[],none,[]⟩,.Name "" m8,{kind:=.function,names:=[],isGenerator:=false,isCoroutine:=false},m8,m8⟩
noncomputable def dA (P:mw) (i:Nat):tP:=Mr ((kK P 344).getD i (.Pass m8))
structure LawW(W:Wd):Prop where
 ok:W.Ok
 K:W.K=KK W.w.params
 mb:∀x:aj,x≠ "__name__" ->W.mb x=yu x
 mg:W.mg=sJ W.w.params
 inst:∀k,k≠cj->W.hU k
 kI:∀k dx,k≠cj->W.kind k (mU k dx)
 sl:∀o sl,W.kind 176 o->W.kind 176 {o with slots:=sl}
 line:W.nQ cj
 vq:∀fd,W.kind cj {cls:=.type "function",data:=.func fd}
 tab:W.tab=339
 bi:W.base.BuiltinsAt W.mg W.tab
 jK:W.jK= "_law_line.<locals>.<lambda>"
 je:∀fd,W.je iM fd↔ ∃cl pm cd ct,qX ["size","path"] cl/\fd=vc "<lambda>" W.jK (dA W.w.params 3).a (dA W.w.params 3).b (dA W.w.params 3).s cl pm cd ct
noncomputable def Mz:List (aj×BN):=[("useragents",.inst 59),("rulelines",.inst 59),("delay",.inst 59),("req_rate",.inst 59),("_node2info",.inst 273),("_ready_nodes",.inst 273),("_npassedout",.inst 273),("_nfinished",.inst 273),
 ("node",.slot 0 177),("npredecessors",.slot 1 178),("successors",.slot 2 179),("allowance",.line),("path",.line),("mark",.line),("applies_to",.line)]
noncomputable def dK (P:mw) (nt cells:List String) (add:Bool) (fns o3:List (String×aq×FM)) (ms:List (aj×aq×aq×FM)) (ke:String×aq×FM) (lm:FL):Cx:=
 {nt:=nt,K:=KK P,mg:=sJ P,mb:=yu,fns:=fns,o3:=o3,ms:=ms,uq:=Mz,cells:=cells,add:=add,ke:=ke,lm:=lm}
noncomputable def dQ:FL:=λa a a=>none
noncomputable def dM:String×aq×FM:=("",0,λa a=>none)
section
variable {W:Wd} {n:Nat}
theorem LawW.cx(L:LawW W){l a add c d f b e}(g:∀p∈c,Bx (ba W (n+6) p.2.1 p.2.2))(h:∀p∈d,Bx (ba W (n+6) p.2.1 p.2.2))(i:∀p∈f,Bx (ba W (n+6) p.2.2.1 p.2.2.2))(j:Bx (ba W n b.2.1 (fO b.2.2)))(k:Bx (jv W (n+6) iM e)):
 fS W n (dK W.w.params l a add c d f b e):=⟨L.ok,L.K,L.mg,L.mb,L.inst,L.sl,L.line,L.vq,g,h,i,k,j⟩
theorem dV:Bx (jv W n iM dQ):=⟨λa a a a a h=>aY h⟩
theorem dW:Bx (ba W n dM.2.1 (fO dM.2.2)):=⟨λa a a a h=>ob h λd h a=>og h λa h=>ob h λa h a=>aY h⟩
theorem a_{α:Type}{P:α->Prop}:∀p∈([]:List α),P p:=λa h=>nomatch h
theorem c7{α:Type}{P:α->Prop}{a:α}{l:List α}(h:P a)(t:∀p∈l,P p):∀p∈a::l,P p:=λp b=>(List.mem_cons.mp b).elim (λe=>e▸h) (t p)
theorem cY{a F}{m:Nat}(h:Bx (ba W n a F))(k:n<=m):Bx (ba W m a F):=gQ ba.le h ⟨k⟩
noncomputable def EU (P:mw) (a:aq):Bool:=oM (KK P) a && (codeIn (KK P) (dT P a).code (dT P a).qualname && ((dT P a).closure.isEmpty && (decide ((dT P a).globals=kW) && (decide ((dT P a).builtins=j4) && ((dT P a).scope.names.all (λp=>decide (p.2≠ .free)) &&
 (!(dT P a).scope.isCoroutine && (!(dT P a).scope.isGenerator && (decide ((dT P a).scope.kind=.function) && (match (dT P a).body with| .stmts _=>true| _=>false)))))))))
def gu.mq(b:gu)(xs:List String):Prop:=∀a bs,b a=some bs->bs.map (·.1)=xs
theorem LawW.oM(L:LawW W){c:Cx}{a:aq}{d:gu}{m:MS}{xs:List String}(H:fS W n c)(A:EU W.w.params a=true)(f:Bx (b6 W (dT W.w.params a) d))(g:d.mq xs)(j:xs.all (lI (dT W.w.params a).scope)=true)
 (z:Bx (lh W (n+6) (dT W.w.params a) (kK W.w.params a) m)):Bx (ba W (n+7) a (bO d m)):=by
 have k:=band A
 have c2:=band k.2
 have p:=band c2.2
 have c4:=band p.2
 have q:=band c4.2
 have c6:=band q.2
 have r:=band c6.2
 have s:=band r.2
 have t:=band s.2
 obtain⟨o,u,v,i⟩:=ET k.1
 have e:dT W.w.params a=u:=by unfold dT;rw [v];show(EL o.data).getD default=u;rw [i];rfl
 have hb:(dT W.w.params a).body=.stmts (kK W.w.params a):=by
  have h:=t.2
  unfold kK
  cases C:(dT W.w.params a).body with
  | stmts l=>rfl
  | _=>rw [C] at h;exact lj h
 rw [← e] at i
 exact⟨ba.QI (n:=n+6) L.ok (by rw [L.K];exact v) i hb (by rw [L.K];exact c2.1) (List.isEmpty_iff.mp p.1) (of_decide_eq_true c4.1) (of_decide_eq_true q.1) (λx j=>of_decide_eq_true (List.all_eq_true.mp c6.1 _ j) rfl) (by simpa using r.1) (by simpa using s.1) (of_decide_eq_true t.1) f.1
  (λy bs hb b B=>List.all_eq_true.mp j _ (g y bs hb▸KU B)) z.1⟩
theorem LawW.fn(L:LawW W){c:Cx}{a:aq}{b:gu}{m:MS}{xs:List String}(k:Nat)(H:fS W n c)(f:EU W.w.params a=true)(d:Bx (b6 W (dT W.w.params a) b))(e:b.mq xs)(h:xs.all (lI (dT W.w.params a).scope)=true)
 (g:(fM (mG H k) (SI.fn (dT W.w.params a)) (kK W.w.params a)).1=m):Bx (ba W (n+7) a (bO b m)):=L.oM H f d e h (bk lh.of (g▸(fM (mG H k) _ _).2))
theorem gz{x}:(bind1 x).mq [x]:=λa bs h=>match a,h with| [_],h=>sj h rfl
theorem mD{x y}:(j3 x y).mq [x,y]:=λa bs h=>match a,h with| [_,_],h=>sj h rfl
theorem MJ{x y z}:(yp x y z).mq [x,y,z]:=λa bs h=>match a,h with| [_,_,_],h=>sj h rfl
theorem ML{x y}:(yq x y).mq [x,y]:=λa bs h=>match a,h with| [_],h=>sj h rfl
theorem DI{x y}:(p4 x y).mq [x,y]:=λa bs h=>match a,h with| [_,_],h=>sj h rfl| [_,_,_,_],h=>sj h rfl
theorem MR{x y z}:(yr x y z).mq [x,y,z]:=λa bs h=>match a,h with| [_,_],h=>sj h rfl| [_,_,_],h=>sj h rfl
end
end
section
section
variable {W:Wd} {n:Nat}
theorem AE{α:Type}{J:α->Prop}{m:α}(x:Ok J)(h:x.map (·.1)=some m):Bx (J m):=by
 cases x with
 | none=>exact aY h.symm.symm
 | some a=>exact aM h▸a.2
theorem G7{α:Type}{J:α->Prop}{m:α}(x: {m:α // Bx (J m)})(h:x.1=m):Bx (J m):=h▸x.2
theorem jv.le{m k F}(h:jv W n k F)(a:n<=m):jv W m k F:=λb=>h (b.le a)
theorem sW(L:LawW W):Bx (ba W (n+7) 143 iU):=bk ba.hide (L.fn (n:=n+0) (c:=dK W.w.params ["path","kind","type","issubclass","str","bytes","len"] [] true [] [] [] dM dQ) 40 (L.cx a_ a_ a_ dW dV) (by kernel_rfl) (bk b6.p1 ⟨λa=>by kernel_rfl⟩) gz (by kernel_rfl) (by kernel_rfl))
theorem G_(L:LawW W):Bx (ba W (n+7) 284 qY):=bk ba.hide (L.fn (n:=n+0) (c:=dK W.w.params ["path","isinstance","bytes","/"] [] true [] [] [] dM dQ) 40 (L.cx a_ a_ a_ dW dV) (by kernel_rfl) (bk b6.p1 ⟨λa=>by kernel_rfl⟩) gz (by kernel_rfl) (by kernel_rfl))
theorem Ts(L:LawW W):Bx (ba W (n+7) 35 xe):=L.fn (n:=n+0) (c:=dK W.w.params ["self","useragents","rulelines","delay","req_rate"] ["rulelines","useragents"] true [] [] [] dM dQ) 40 (L.cx a_ a_ a_ dW dV) (by kernel_rfl) (bk b6.p1 ⟨λa=>by kernel_rfl⟩) gz (by kernel_rfl) (by kernel_rfl)
theorem G8(L:LawW W):Bx (ba W (n+8) 59 mh):=j5 (ba.cls (fI:=35)) ⟨L.ok⟩ ⟨by rw [L.K];kernel_rfl⟩ ⟨by rw [L.K];kernel_rfl⟩ ⟨by rw [L.K];kernel_rfl⟩ ⟨λa=>L.kI _ a (by decide)⟩ (Ts L)
theorem TH(L:LawW W):Bx (ba W (n+7) 172 xf):=L.fn (n:=n+0) (c:=dK W.w.params ["self","node"] ["successors"] true [] [] [] dM dQ) 40 (L.cx a_ a_ a_ dW dV) (by kernel_rfl) (bk b6.p2 ⟨λa a=>by kernel_rfl⟩) mD (by kernel_rfl) (by kernel_rfl)
theorem Tj(L:LawW W):Bx (ba W (n+8) 176 qW):=j5 (ba.NK (fI:=172)) ⟨L.ok⟩ ⟨by rw [L.K];kernel_rfl⟩ ⟨by rw [L.K];kernel_rfl⟩ ⟨by rw [L.K];kernel_rfl⟩ ⟨λa=>L.kI _ a (by decide)⟩ (TH L)
theorem TQ(L:LawW W):Bx (ba W (n+7) 209 xh):=L.fn (n:=n+0) (c:=dK W.w.params ["self","graph","_node2info","_ready_nodes","_npassedout","_nfinished"] ["_node2info"] true [] [] [] dM dQ) 40 (L.cx a_ a_ a_ dW dV) (by kernel_rfl) (gQ b6.d1 ⟨L.ok⟩ ⟨λa=>by rw [L.K];kernel_rfl⟩) ML (by kernel_rfl) (by kernel_rfl)
theorem Tn(L:LawW W):Bx (ba W (n+8) 273 pv):=j5 (ba.cls (fI:=209)) ⟨L.ok⟩ ⟨by rw [L.K];kernel_rfl⟩ ⟨by rw [L.K];kernel_rfl⟩ ⟨by rw [L.K];kernel_rfl⟩ ⟨λa=>L.kI _ a (by decide)⟩ (TQ L)
theorem Tr(L:LawW W):Bx (ba W (n+7) 49 pA):=L.fn (n:=n+0) (c:=dK W.w.params ["self","useragent","agent","*","/"] [] true [] [] [] dM dQ) 40 (L.cx a_ a_ a_ dW dV) (by kernel_rfl) (bk b6.p2 ⟨λa a=>by kernel_rfl⟩) mD (by kernel_rfl) (by kernel_rfl)
theorem TA(L:LawW W):Bx (ba W (n+7) 322 qZ):=bk ba.hide (L.fn (n:=n+0) (c:=dK W.w.params ["number","digits","base","pieces","names","piece","place","..","a","b","ab",".",""] [] true [] [] [] dM dQ) 40 (L.cx a_ a_ a_ dW dV) (by kernel_rfl) (bk b6.p1 ⟨λa=>by kernel_rfl⟩) gz (by kernel_rfl) (by kernel_rfl))
theorem TG(L:LawW W):Bx (ba W (n+7) 327 q7):=bk ba.hide (L.fn (n:=n+0) (c:=dK W.w.params ["lines","ways","line","/","size","range","way","len","cut"] ["ways"] true [] [] [] dM dQ) 40 (L.cx a_ a_ a_ dW dV) (by kernel_rfl) (bk b6.p1 ⟨λa=>by kernel_rfl⟩) gz (by kernel_rfl) (by kernel_rfl))
theorem Tz(L:LawW W):Bx (ba W (n+7) 332 pD):=bk ba.hide (L.fn (n:=n+0) (c:=dK W.w.params ["lines","folder","mine","agents","delays","rates","mark","name","range","place","enumerate","len","/","fig","Plum","*"] [] true [] [] [] dM dQ) 40 (L.cx a_ a_ a_ dW dV) (by kernel_rfl) (bk b6.p2 ⟨λa a=>by kernel_rfl⟩) mD (by kernel_rfl) (by kernel_rfl))
theorem Tw(L:LawW W):Bx (ba W (n+7) 337 mm):=bk ba.hide (L.fn (n:=n+0) (c:=dK W.w.params ["plains","agents","marks","delays","rates","name","mark","one"] [] true [] [] [] dM dQ) 40 (L.cx a_ a_ a_ dW dV) (by kernel_rfl) (bk b6.p1 ⟨λa=>by kernel_rfl⟩) gz (by kernel_rfl) (by kernel_rfl))
theorem TC(L:LawW W):Bx (ba W (n+7) 354 fT):=L.fn (n:=n+0) (c:=dK W.w.params ["record","line"] [] true [] [] [] dM dQ) 40 (L.cx a_ a_ a_ dW dV) (by kernel_rfl) (bk b6.p1 ⟨λa=>by kernel_rfl⟩) gz (by kernel_rfl) (by kernel_rfl)
theorem Tp(L:LawW W):Bx (ba W (n+7) 150 pz):=bk ba.hide (L.fn (n:=n+0) (c:=dK W.w.params ["m","s1","s2","","min","max","i","c","enumerate","isinstance","tuple","list","map"] [] true [] [] [] dM dQ) 40 (L.cx a_ a_ a_ dW dV) (by kernel_rfl) (bk b6.p1 ⟨λa=>by kernel_rfl⟩) gz (by kernel_rfl) (by kernel_rfl))
theorem TK(L:LawW W):Bx (ba W (n+8) 298 xg):=bk ba.hide (L.fn (n:=n+1) (c:=dK W.w.params ["p","fspath","isinstance","bytes","sep","empty","/",""] [] true [("fspath",143,iU)] [] [] dM dQ) 40 (L.cx (c7 (cY (sW L (n:=n)) (by omega)) a_) a_ a_ dW dV) (by kernel_rfl) (bk b6.p1 ⟨λa=>by kernel_rfl⟩) gz (by kernel_rfl) (by kernel_rfl))
theorem G9(L:LawW W):Bx (ba W (n+8) 305 fm):=bk ba.hide (L.fn (n:=n+1) (c:=dK W.w.params ["p","sep","i","head","fspath","_get_sep","len"] [] true [("fspath",143,iU),("_get_sep",284,qY)] [] [] dM dQ) 40 (L.cx (c7 (cY (sW L (n:=n)) (by omega)) (c7 (cY (G_ L (n:=n)) (by omega)) a_)) a_ a_ dW dV) (by kernel_rfl) (bk b6.p1 ⟨λa=>by kernel_rfl⟩) gz (by kernel_rfl) (by kernel_rfl))
theorem Ha(L:LawW W):Bx (ba W (n+8) 291 iV):=bk ba.hide (L.fn (n:=n+1) (c:=dK W.w.params ["a","p","sep","path","fspath","_get_sep","b"] [] true [("fspath",143,iU),("_get_sep",284,qY)] [] [] dM dQ) 40 (L.cx (c7 (cY (sW L (n:=n)) (by omega)) (c7 (cY (G_ L (n:=n)) (by omega)) a_)) a_ a_ dW dV) (by kernel_rfl) (gQ b6.v1 ⟨λa a=>by kernel_rfl⟩ ⟨λa a a a=>by kernel_rfl⟩) DI (by kernel_rfl) (by kernel_rfl))
theorem TJ(L:LawW W):Bx (ba W (n+9) 312 q8):=bk ba.hide (L.fn (n:=n+2) (c:=dK W.w.params ["path","comps","new_comps","comp","fspath","isinstance","bytes","sep","dot","dotdot","/",".","..","_","initial_slashes","splitroot"] ["new_comps"] true [("fspath",143,iU),("splitroot",298,xg)] [] [] dM dQ) 40 (L.cx (c7 (cY (sW L (n:=n)) (by omega)) (c7 (cY (TK L (n:=n)) (by omega)) a_)) a_ a_ dW dV) (by kernel_rfl) (bk b6.p1 ⟨λa=>by kernel_rfl⟩) gz (by kernel_rfl) (by kernel_rfl))
theorem To(L:LawW W):Bx (ba W (n+14) 317 px):=bk ba.hide (L.fn (n:=n+7) (c:=dK W.w.params ["paths","tuple","isinstance","bytes","sep","curdir","/",".","split_paths","s1","s2","common","prefix","map","fspath","min","max","i","c","enumerate","isabs","path","s","p"] [] true [] [] [] ("fspath",143,bO (bind1 "path") GA) dQ) 40 (L.cx a_ a_ a_ (cY (sW L (n:=n)) (by omega)) dV) (by kernel_rfl) (bk b6.p1 ⟨λa=>by kernel_rfl⟩) gz (by kernel_rfl) (by kernel_rfl))
theorem TP(L:LawW W):Bx (ba W (n+7) 235 nO):=L.fn (n:=n+0) (c:=dK W.w.params ["self","result","n2i","node","_npassedout","tuple","_NODE_OUT","len"] [] true [] [] [] dM dQ) 40 (L.cx a_ a_ a_ dW dV) (by kernel_rfl) (bk b6.p1 ⟨λa=>by kernel_rfl⟩) gz (by kernel_rfl) (by kernel_rfl)
theorem TR(L:LawW W):Bx (ba W (n+7) 242 nP):=L.fn (n:=n+0) (c:=dK W.w.params ["self","bool"] [] true [] [] [] dM dQ) 40 (L.cx a_ a_ a_ dW dV) (by kernel_rfl) (bk b6.p1 ⟨λa=>by kernel_rfl⟩) gz (by kernel_rfl) (by kernel_rfl)
theorem TM(L:LawW W):Bx (ba W (n+7) 256 pF):=L.fn (n:=n+0) (c:=dK W.w.params ["self","nodes","n2i","node","stat","_NODE_DONE","successor","_nfinished","nodeinfo","_NODE_OUT","successor_info"] [] true [] [] [] dM dQ) 40 (L.cx a_ a_ a_ dW dV) (by kernel_rfl) (gQ b6.v1 ⟨λa a=>by kernel_rfl⟩ ⟨λa a a a=>by kernel_rfl⟩) DI (by kernel_rfl) (by kernel_rfl)
theorem TN(L:LawW W):Bx (ba W (n+7) 263 q9):=L.fn (n:=n+0) (c:=dK W.w.params ["self","n2i","stack","itstack","seen","node2stacki","node","set","len","StopIteration","iter"] ["itstack","node2stacki","seen","stack"] false [] [] [] dM dQ) 40 (L.cx a_ a_ a_ dW dV) (by kernel_rfl) (bk b6.p1 ⟨λa=>by kernel_rfl⟩) gz (by kernel_rfl) (by kernel_rfl)
theorem TS(L:LawW W):Bx (ba W (n+8) 228 pG):=L.fn (n:=n+1) (c:=dK W.w.params ["self","_ready_nodes","cycle","i"] ["_ready_nodes"] true [] [] [("_find_cycle",273,263,q9)] dM dQ) 40 (L.cx a_ a_ (c7 (cY (TN L (n:=n)) (by omega)) a_) dW dV) (by kernel_rfl) (bk b6.p1 ⟨λa=>by kernel_rfl⟩) gz (by kernel_rfl) (by kernel_rfl)
theorem TO(L:LawW W):Bx (ba W (n+9) 216 lq):=L.fn (n:=n+2) (c:=dK W.w.params ["self","node","result","_NodeInfo"] [] true [] [("_NodeInfo",176,qW)] [] dM dQ) 40 (L.cx a_ (c7 (cY (Tj L (n:=n)) (by omega)) a_) a_ dW dV) (by kernel_rfl) (bk b6.p2 ⟨λa a=>by kernel_rfl⟩) mD (by kernel_rfl) (by kernel_rfl)
theorem TL(L:LawW W):Bx (ba W (n+10) 223 jr):=L.fn (n:=n+3) (c:=dK W.w.params ["self","node","predecessors","nodeinfo","pred","len","pred_info"] [] true [] [] [("_get_nodeinfo",273,216,lq)] dM dQ) 40 (L.cx a_ a_ (c7 (cY (TO L (n:=n)) (by omega)) a_) dW dV) (by kernel_rfl) (gQ b6.v2 ⟨λa a=>by kernel_rfl⟩ ⟨λa a a=>by kernel_rfl⟩) MR (by kernel_rfl) (by kernel_rfl)
theorem vK{α:Type}{x:aj}{a:α}:∀{l:List (aj×α)},l.lookup x=some a->(x,a)∈l
 | [],h=>aY h
 | (y,b)::l,h=>by
  rw [dI] at h
  cases hb:x==y with
  | true=>rw [hb] at h;rw [eq_of_beq hb,← aM h];exact a0
  | false=>rw [hb] at h;exact bT _ (vK h)
theorem T3{l:List (aj×aq)}(h:l.Pairwise λx y=>x.2≠y.2){a b:aj}{c:aq}(d:(a,c)∈l)(hb:(b,c)∈l):a=b:=by
 induction h with
 | nil=>exact absurd d bQ
 | cons e g f=>
  rcases List.mem_cons.mp d with sg| sg<;>rcases List.mem_cons.mp hb with lR| lR
  .exact(lF (sg.trans lR.symm)).1
  .exact absurd (by rw [← sg]) (e (b,c) lR)
  .exact absurd (by rw [← lR]) (e (a,c) sg)
  .exact f sg lR
theorem qX.two{x y:String}{f:List (aj×aq)}(h:qX [x,y] f)(d:au x≠au y):∃a b,f= [(au x,a),(au y,b)]/\a≠b:=by
 obtain⟨c,j,g,rfl⟩:=h
 obtain⟨a,i⟩:=g x a0
 obtain⟨b,hb⟩:=g y (bT _ a0)
 refine⟨a,b,by rw [eK,eK,i,hb];rfl,λe=>?_⟩
 subst e
 exact d (T3 j (vK i) (vK hb))
theorem Q5(L:LawW W):∀e,W.je iM e->Ca e (dA W.w.params 3).b (dA W.w.params 3).s:=λe h=>by
 obtain⟨k,m,j,l,h',rfl⟩:=(L.je _).mp h
 obtain⟨a,b,rfl,f⟩:=h'.two (by decide)
 have i:(dA W.w.params 3).s.names= [(au "name",NameKind.local),(au "path",iw),(au "size",iw)]:=by kernel_rfl
 refine⟨rfl,rfl,rfl,rfl,?_,λx d=>?_,λx c d=>?_⟩
 .exact .cons (λy g=>by rw [List.mem_singleton.mp g];exact f) (.cons (λy g=>absurd g bQ) .nil)
 .rw [i] at d
  simp only [n5,Prod.mk.injEq,bQ,or_false] at d
  rcases d with ⟨_,h⟩| ⟨rfl,_⟩| ⟨rfl,_⟩
  .exact nomatch h
  .exact⟨b,rfl⟩
  .exact⟨a,rfl⟩
 .rw [i]
  rcases List.mem_cons.mp (vK d) with q| q
  .rw [(lF q).1];rfl
  .rw [(lF (List.mem_singleton.mp q)).1];rfl
theorem Tt(L:LawW W):Bx (jv W (n+7) iM pB):=
 have H:fS W n (dK W.w.params ["name","path","size"] [] true [] [] [] dM dQ):=L.cx a_ a_ a_ dW dV
 have E:Bx (Ev W (n+6) (SI.lam (dA W.w.params 3).s) (dA W.w.params 3).b Ab):=AE ((mG H 40).E _ _) (by kernel_rfl)
 have o:lI (dA W.w.params 3).s "name" =true:=by kernel_rfl
 eT (eT (yx (jv.intro (body:=(dA W.w.params 3).b) (scope:=(dA W.w.params 3).s) (bind:=bind1 "name")) ⟨L.ok⟩ ⟨Q5 L⟩ ⟨by kernel_rfl⟩ ⟨by kernel_rfl⟩ ⟨by kernel_rfl⟩ ⟨λx g=>by
  have e:(dA W.w.params 3).s.names.all (λp=>decide (p.2≠ .cell))=true:=by kernel_rfl
  exact of_decide_eq_true (List.all_eq_true.mp e x g)⟩ ⟨λm c=>by
  obtain⟨j,q,i,k,h,rfl⟩:=(L.je _).mp c
  exact(bk (b6.p1 (x:="name")) ⟨λv=>by kernel_rfl⟩).1⟩) ⟨λl bs hb b d=>by
  have a:b.1∈ ["name"]:=gz _ _ hb▸KU (f:=Prod.fst) d
  rw [List.mem_singleton.mp a]
  kernel_rfl⟩) E
theorem Tv(L:LawW W):Bx (ba W (n+10) 344 pC):=
 have H:fS W (n+3) (dK W.w.params ["told","mark","path","size","line","applies_to","join","len","allowance","normpath","/","name"] ["line"] true [("join",291,iV),("normpath",312,q8)] [] [] dM dQ):=(L.cx (c7 (cY (Ha L (n:=n)) (by omega)) (c7 (cY (TJ L (n:=n)) (by omega)) a_)) a_ a_ dW dV)
 L.oM (n:=n+3) H (by kernel_rfl) (bk b6.p2 ⟨λc c=>by kernel_rfl⟩) mD (by kernel_rfl) (by
  have e:kK W.w.params 344=(kK W.w.params 344).take 2++((dA W.w.params 2).st::(dA W.w.params 3).st::(kK W.w.params 344).drop 4):=by kernel_rfl
  have l:W.t6 ((SI.fn (dT W.w.params 344)).mR ["path","size"]):=⟨⟨343,(dT W.w.params 344).qualname++ ".<locals>.",by kernel_rfl,by rw [L.K,L.tab];kernel_rfl,by rw [L.jK];kernel_rfl⟩,L.bi,by rw [L.tab];decide⟩
  have r:=G7 (m:=Ac) (fM (mG H 40) (SI.fn (dT W.w.params 344)) ((kK W.w.params 344).take 2)) (by kernel_rfl)
  have v:=AE (m:=.name "line") ((mG H 40).T ((SI.fn (dT W.w.params 344)).mR ["path","size"]) (dA W.w.params 2).t) (by kernel_rfl)
  have y:=AE (m:=.attrL cj "applies_to" (.var "line")) ((mG H 40).T ((SI.fn (dT W.w.params 344)).mR ["path","size"]) (dA W.w.params 3).t) (by kernel_rfl)
  have i:=((tB (dA W.w.params 2).t).get (by kernel_rfl)).1
  have j:=((tB (dA W.w.params 3).t).get (by kernel_rfl)).1
  have A3:=i4 (Ex.assign (pos:=(dA W.w.params 2).q)) (bk Ev.d9 (j5 (bG.ia (k:=cj) (args:=(dA W.w.params 2).a) (body:=(dA W.w.params 2).b) (scope:=(dA W.w.params 2).s) (pos:=(dA W.w.params 2).p)) ⟨L.ok⟩ ⟨l⟩ ⟨by kernel_rfl⟩ ⟨by kernel_rfl⟩ ⟨by kernel_rfl⟩ ⟨L.vq⟩)) v ⟨by intro d C;exact wA (e:=.Lambda _ _ _ _) rfl _ d⟩ ⟨λd c=>i.s1 _ d⟩ ⟨λd=>i.a1 _ d⟩
  have o:=i4 (Ex.assign (pos:=(dA W.w.params 3).q)) (mF (Ev.lam (k:=iM) (xs:=["size","path"]) (args:=(dA W.w.params 3).a) (body:=(dA W.w.params 3).b) (scope:=(dA W.w.params 3).s) (pos:=(dA W.w.params 3).p)) ⟨L.ok⟩ ⟨l⟩ ⟨by kernel_rfl⟩ ⟨by kernel_rfl⟩ ⟨λd=>by kernel_rfl⟩ ⟨λx g=>by
   have f:(dA W.w.params 3).s.names.all (λp=>decide (p.2=.free->(dT W.w.params 344).scope.names.lookup p.1=some .cell))=true:=by kernel_rfl
   exact of_decide_eq_true (List.all_eq_true.mp f _ g) rfl⟩ ⟨λx g=>by
   have f:(["size","path"].all λx=>decide (((SI.fn (dT W.w.params 344)).mR ["path","size"]).kind x=some .cell/\au x∈((SI.fn (dT W.w.params 344)).mR ["path","size"]).fz))=true:=by kernel_rfl
   exact of_decide_eq_true (List.all_eq_true.mp f _ g)⟩ ⟨λA D z B h=>(L.je _).mpr ⟨A,D,z,B,h,rfl⟩⟩) y ⟨by intro d C;exact wA (e:=.Lambda _ _ _ _) rfl _ d⟩ ⟨λd c=>j.s1 _ d⟩ ⟨λd=>j.a1 _ d⟩
  have u:Bx (dY W (n+3+6) ((SI.fn (dT W.w.params 344)).mR ["path","size"]) ((dA W.w.params 2).st::(dA W.w.params 3).st::(kK W.w.params 344).drop 4) Ad):=
   gQ dY.cons A3 (gQ dY.cons o (G7 (fM (mG H 40) _ _) (by kernel_rfl)))
  rw [e]
  exact gQ lh.fz r u)
theorem Tq(L:LawW W):Bx (ba W (n+8) 56 lp):=L.fn (n:=n+1) (c:=dK W.w.params ["self","filename","best_match","allowance","line","m"] [] true [] [] [] dM pB) 40 (L.cx a_ a_ a_ dW (gQ jv.le (Tt L (n:=n)) ⟨by omega⟩)) (by kernel_rfl) (bk b6.p2 ⟨λa a=>by kernel_rfl⟩) mD (by kernel_rfl) (by kernel_rfl)
theorem Hb(L:LawW W):Bx (ba W (n+9) 70 gX):=L.fn (n:=n+2) (c:=dK W.w.params ["e1","e2","entry","useragents","rulelines","delay","req_rate","Entry","list","filter","set"] ["rulelines","useragents"] true [] [("Entry",59,mh)] [] dM dQ) 40 (L.cx a_ (c7 (cY (G8 L (n:=n)) (by omega)) a_) a_ dW dV) (by kernel_rfl) (bk b6.p2 ⟨λa a=>by kernel_rfl⟩) mD (by kernel_rfl) (by kernel_rfl)
theorem TB(L:LawW W):Bx (ba W (n+11) 349 pE):=L.fn (n:=n+4) (c:=dK W.w.params ["lines","plain","record","Entry","delay","req_rate","_law_line","mark"] [] true [("_law_line",344,pC)] [("Entry",59,mh)] [] dM dQ) 40 (L.cx (c7 (cY (Tv L (n:=n)) (by omega)) a_) (c7 (cY (G8 L (n:=n)) (by omega)) a_) a_ dW dV) (by kernel_rfl) (bk b6.p2 ⟨λa a=>by kernel_rfl⟩) mD (by kernel_rfl) (by kernel_rfl)
theorem TF(L:LawW W):Bx (ba W (n+11) 359 q6):=L.fn (n:=n+4) (c:=dK W.w.params ["folders","own","numbers","sorter","folder","step","TopologicalSorter","/","answers","ready","order","kept","whole","range","len","one","dirname","list","merge_entries","str"] ["answers","kept","order"] true [("dirname",305,fm),("merge_entries",70,gX)] [("TopologicalSorter",273,pv)] [("add",273,223,jr),("prepare",273,228,pG),("done",273,256,pF),("get_ready",273,235,nO),("is_active",273,242,nP)] dM dQ) 40 (L.cx (c7 (cY (G9 L (n:=n)) (by omega)) (c7 (cY (Hb L (n:=n)) (by omega)) a_)) (c7 (cY (Tn L (n:=n)) (by omega)) a_) (c7 (cY (TL L (n:=n)) (by omega)) (c7 (cY (TS L (n:=n)) (by omega)) (c7 (cY (TM L (n:=n)) (by omega)) (c7 (cY (TP L (n:=n)) (by omega)) (c7 (cY (TR L (n:=n)) (by omega)) a_))))) dW dV) (by kernel_rfl) (bk b6.p3 ⟨λa a a=>by kernel_rfl⟩) MJ (by kernel_rfl) (by kernel_rfl)
theorem Tu(L:LawW W):Bx (ba W (n+15) 364 tY):=L.fn (n:=n+8) (c:=dK W.w.params ["script","numbers","lines","ways","folders","plain","own","inside","folder","rules","name","part","_law_ways","list","answers","order","kept","whole","_law_walk","due","heard","right","first","behind","ends","one","place","_law_read","number","_law_plain","_law_record","tuple","_law_merged","line","path","sum","range","dirname","/","_law_told","row","join","b","max","str","commonprefix","False","merge_entries","Big*Figs/plum","xpLumy","allowed","len","True","end","agent","","commonpath","fig","Plum","*"] [] true [("_law_ways",327,q7),("_law_walk",359,q6),("_law_read",322,qZ),("_law_plain",332,pD),("_law_record",349,pE),("_law_merged",337,mm),("dirname",305,fm),("_law_told",354,fT),("join",291,iV),("commonprefix",150,pz),("merge_entries",70,gX),("commonpath",317,px)] [] [("applies_to",59,49,pA),("allowance",59,56,lp)] dM dQ) 40 (L.cx (c7 (cY (TG L (n:=n)) (by omega)) (c7 (cY (TF L (n:=n)) (by omega)) (c7 (cY (TA L (n:=n)) (by omega)) (c7 (cY (Tz L (n:=n)) (by omega)) (c7 (cY (TB L (n:=n)) (by omega)) (c7 (cY (Tw L (n:=n)) (by omega)) (c7 (cY (G9 L (n:=n)) (by omega)) (c7 (cY (TC L (n:=n)) (by omega)) (c7 (cY (Ha L (n:=n)) (by omega)) (c7 (cY (Tp L (n:=n)) (by omega)) (c7 (cY (Hb L (n:=n)) (by omega)) (c7 (cY (To L (n:=n)) (by omega)) a_)))))))))))) a_ (c7 (cY (Tr L (n:=n)) (by omega)) (c7 (cY (Tq L (n:=n)) (by omega)) a_)) dW dV) (by kernel_rfl) (bk b6.p1 ⟨λa=>by kernel_rfl⟩) gz (by kernel_rfl) (by kernel_rfl)
end
end
section
def Q9(k:Nat)(o:bu):Prop:=(k=cj->o.cls=.type "function" /\∃a,o.data=.func a)/\(k≠cj->o.cls=.ref k/\notCls o=true)
noncomputable def zS (prog:eA) (w:eC) (base:aN) (mg mb:aj->Option af) (os:CM):Wd:=
 {prog:=prog,w:=w,base:=base,K:=KK w.params,mg:=mg,mb:=mb,tab:=339,os:=os,kind:=Q9,
   je:=λk f=>∃c g d e,qX ["size","path"] c/\f=vc "<lambda>" "_law_line.<locals>.<lambda>" (dA w.params 3).a (dA w.params 3).b (dA w.params 3).s c g d e,
   jK:="_law_line.<locals>.<lambda>"}
section
variable {prog:eA} {w:eC} {ak:ai} {mg mb:aj->Option af}
theorem GR(c:(KK w.params).In ak.heap)(d:ak.heap.Ns kW mg):mg=sJ w.params:=by
 obtain⟨o,a,j,e,f,_,g⟩:=d
 have h:((KK w.params).lookup 3).isSome=true:=by kernel_rfl
 obtain⟨i,b⟩:=mX h
 obtain rfl:o=i:=aM ((show ak.heap.get? 3=some o from e).symm.trans (c _ _ b))
 funext x
 rw [← g x]
 unfold sJ GQ
 rw [b]
 show vT a x=vT (match o.data with| .dict a _=>a| _=> #[]) x
 rw [f]
theorem Rd(f:x_ [(343,339)] ak.heap)(t:(KK w.params).In ak.heap)(m:ak.heap.Ns kW mg)(v:ak.heap.Ns j4 mb)(D:ak.heap.NoLimit)(C:∃g,ak.heap.Ns DP g/\g "sys.int_max_str_digits" =none)
 (s:∀x:aj,x≠ "__name__" ->mb x=yu x) (p:∃c ob,mg "__builtins__" =some (.ref c)/\c≠j4/\ak.heap.get? c=some ob/\ob.cls=.type "module" /\ob.dict=some j4/\ob.data=.plain):
 LawW (zS prog w (uV ak.heap [(343,339)]) mg mb ak.os) where
 ok:=⟨ghost_K f t (by kernel_rfl),zp f m,zp f v,let ⟨g,a,r⟩:=D;⟨g,zp f a,r⟩,let ⟨g,a,r⟩:=C;⟨g,zp f a,r⟩⟩
 K:=rfl
 mb:=s
 mg:=GR t m
 inst k hk:=⟨λo h=>(h.2 hk).1,λo h=>(h.2 hk).2⟩
 kI k dx hk:=⟨λe=>absurd e hk,λb=>⟨rfl,rfl⟩⟩
 sl o sl h:=⟨λe=>absurd e (by decide),λe=>h.2 e⟩
 line:=⟨λo h=>(h.1 rfl).1,λo h=>(h.1 rfl).2,λo d h=>⟨λe=>h.1 e,λe=>absurd rfl e⟩⟩
 vq fd:=⟨λb=>⟨rfl,_,rfl⟩,λe=>absurd rfl e⟩
 tab:=rfl
 bi:=by
  obtain⟨c,ob,y,z,l,n,A,u⟩:=p
  have j:c≠339:=λq=>by
   have:=(f (343,339) a0).2
   rw [q,show ak.heap.get? 339=some (Bh #[]) from this] at l
   rw [← aM l] at n
   exact nomatch n
  refine⟨c,ob,y,z,λq=>?_,j,ghost_ne l (λB=>j (List.mem_singleton.mp B)),n,A,u⟩
  obtain⟨o,F,E,e,i,_⟩:=m
  rw [← q,l] at e
  rw [← aM e,u] at i
  exact nomatch i
 jK:=rfl
 je fd:=Iff.rfl
noncomputable def G0:Gh:=⟨λa=>none,λa=>none,λa=>False,λa=>True,λa=>False⟩
theorem B4{a:aq}:¬G0.own a:=λ⟨i,_,x⟩=>x.elim aY aY
theorem ints_rep{W:Wd}{G:Gh}{h:aN}:∀{a:List af} {is:List Int},IntsAre a is->aQ W G h a (is.map .int)
 | _,_,.nil=>.nil
 | _,_,.cons n t r=>.cons (.int n t) (ints_rep r)
theorem Rb(g:x_ [(343,339)] ak.heap)(h:ak.gens= #[]):St (zS prog w (uV ak.heap [(343,339)]) mg mb ak.os) G0 ak MH.nil:=by
 have f:=(g (343,339) a0).2
 refine⟨⟨λb o e=>of_hideAll _ e,bN (PR _ _),h,rfl,λa x=>absurd x B4,λa x=>x.elim,λi j a d d e=>aY e,λi j a d d e=>aY e,λi j a d d e=>aY e,⟨#[],f,⟨trivial,λk l e=>aY e⟩⟩,?_,?_,λd x=>x⟩,⟨λi c e=>aY e,λi d=>⟨rfl,rfl,trivial⟩⟩⟩
 .show 339<(uV ak.heap [(343,339)]).objs.size
  rw [PR];exact b9 f
 .exact hideAll_none _ (show(339:Nat)∈ [339] from a0)
theorem Ra(P:∀g:List Int,g.length<=63->∃ab,tY [.list (g.map .int)] MH.nil=some (.bool true,ab))(p:x_ [(343,339)] ak.heap)(z:(KK w.params).In ak.heap)(A:ak.heap.Ns kW mg)(C:ak.heap.Ns j4 mb)(J:ak.heap.NoLimit)(I:∃B,ak.heap.Ns DP B/\B "sys.int_max_str_digits" =none)
 (t:∀x:aj,x≠ "__name__" ->mb x=yu x) (s:∃k ob,mg "__builtins__" =some (.ref k)/\k≠j4/\ak.heap.get? k=some ob/\ob.cls=.type "module" /\ob.dict=some j4/\ob.data=.plain)
 (G:ak.gens= #[]) {m l:aq} {d:List af} {g:List Int} (h:mg "law" =some (.ref m)) (hl:ak.heap.get? l=some {cls:=.type "list",data:=.seq d.toArray}) (E:IntsAre d g) (c:g.length<=63):
 eU (bX prog w) callerA (.call (.ref m) ⟨[.ref l],[]⟩) (λr j=>r=.ok (.ret (.bool true))/\(∀b o,(uV ak.heap [(343,339)]).get? b=some o->j.heap.get? b=some o)/\j.os=ak.os/\j.gens= #[]/\GrownAll [(343,339)] j.heap) ak:=by
 have L:=Rd (prog:=prog) p z A C J I t s
 have D:sJ w.params "law" =some (.ref 364):=by kernel_rfl
 rw [GR z A,D] at h
 obtain rfl:364=m:=jA (aM h)
 have st:=Rb (prog:=prog) (w:=w) (mg:=mg) (mb:=mb) p G
 obtain⟨ab,i⟩:=P g c
 have f:l≠339:=λq=>by
  rw [q,(p (343,339) a0).2] at hl
  exact nomatch congrArg Obj.cls (aM hl)
 have y:Rep (zS prog w (uV ak.heap [(343,339)]) mg mb ak.os) G0 ak.heap (.ref l) (.list (g.map .int)):=
  .list (by rw [aZ];exact aE c (by decide)) ⟨B4,λx=>x,f⟩ hl rfl rfl rfl (ints_rep E)
 have K:br 15 callerA:=⟨by decide,by decide,rfl,rfl⟩
 refine g6 ((Tu L (n:=0)).1 K st (.cons y .nil) ⟨[],rfl,λe F=>nomatch F⟩ i) λr j ⟨v,H,G',N,a,M⟩=>?_
 subst H
 obtain rfl:v=.bool true:=M.inv
 obtain⟨ps,u,_⟩:=a.inv.tab
 exact⟨rfl,a.inv.keep,a.inv.os,a.inv.gens,⟨ps,u⟩,trivial⟩
end
end
section
theorem bs{α β:Type}{x:Option α}{f:α->Option β}{a:α}{r:Option β}(h:x=some a)(k:f a=r):x.bind f=r:=by exact aa (h ..)<|k
theorem sv{α:Type}{c:Prop} [Decidable c]{x:Option α}{r:Option α}(h:c)(k:x=r):(if c then x else none)=r:=(if_pos h).trans k
section
variable {ρ ae bw:aC} {σ ab ao aX:MH} {d e:D}
theorem u3{i k as}(b:σ.cell i=some (.inst k as)):sx σ (.ref i)=some (k,as):=bs (a:=i) rfl (bs b rfl)
theorem yH{i k as}(b:σ.cell i=some (.inst k as)):DW σ (.ref i)=some (i,k,as):=bs (a:=i) rfl (bs b rfl)
theorem uC{i k as}(b:σ.cell i=some (.slots k as)):uB k σ (.ref i)=some (i,as):=bs (a:=i) rfl (bs b (bs (a:=(k,as)) rfl (if_pos rfl)))
theorem yG{i as}(b:σ.cell i=some (.dict as)):cellK σ (.ref i)=some (i,as):=bs (a:=i) rfl (bs b rfl)
theorem oz{i as}(b:σ.cell i=some (.list as)):mH σ (.ref i)=some (i,as):=bs (a:=i) rfl (bs b rfl)
theorem yJ{i as}(b:σ.cell i=some (.set as)):rW σ (.ref i)=some (i,as):=bs (a:=i) rfl (bs b rfl)
theorem iC{i as}(a:σ.cell i=some (.list as)):bU σ (.ref i)=some as:=show(σ.cell i).bind (λc=>c.ij)=_ from bs a rfl
theorem yk{i as}(a:σ.cell i=some (.dict as)):j1 σ (.ref i)=some as:=show(σ.cell i).bind (λc=>c.i9)=_ from bs a rfl
theorem Ds{i as}(a:σ.cell i=some (.h_ as)):j1 σ (.ref i)=some as:=show(σ.cell i).bind (λc=>c.i9)=_ from bs a rfl
theorem uo{i as}(a:σ.cell i=some (.list as)):gP σ (.ref i)=some as:=iC a
theorem av{x:String}(h:ρ x=some d):ME.var x ρ σ=some (d,σ):=bs h rfl
theorem uO{f a r}(h:a ρ σ=some (d,ao))(k:f d ao=some r):ME.ax f a ρ σ=some r:=bs h k
theorem Ou{f a b r}(h:a ρ σ=some (d,ao))(h':b ρ ao=some (e,aX))(k:f d e aX=some r):ME.bh f a b ρ σ=some r:=bs h (bs h' k)
theorem Ay{f:D->D->MH->Option D}{r}(h:f d e σ=some r):cm f d e σ=some (r,σ):=bs h rfl
theorem Tg{f:D->MH->Option D}{r}(h:f d σ=some r):gD f d σ=some (r,σ):=bs h rfl
theorem eD{f:D->MH->Option D}{a r}(h:a ρ σ=some (d,ao))(k:f d ao=some r):ME.ax (gD f) a ρ σ=some (r,ao):=uO h (Tg k)
theorem aJ{f:D->D->MH->Option D}{a b r}(h:a ρ σ=some (d,ao))(h':b ρ ao=some (e,aX))(k:f d e aX=some r):ME.bh (cm f) a b ρ σ=some (r,aX):=Ou h h' (Ay k)
theorem cO{k:Nat}{name:aj}{a:ME}{i:Nat}{as v}(h:a ρ σ=some (.ref i,ao))(b:ao.cell i=some (.inst k as))(l:as.lookup name=some v):ME.ax (aV k name) a ρ σ=some (v,ao):=
 eD h (bs (u3 b) ((if_pos rfl).trans l))
theorem oF{k j:Nat}{a:ME}{i:Nat}{as v}(h:a ρ σ=some (.ref i,ao))(b:ao.cell i=some (.slots k as))(l:as.lookup j=some v):ME.ax (eY k j) a ρ σ=some (v,ao):=
 eD h (bs (uC b) l)
theorem d8{F:FM}{g ds r}(h:g ρ σ=some (ds,ao))(k:F ds ao=some r):ME.a8 F g ρ σ=some r:=bs h k
theorem bA:aG [] ρ σ=some ([],σ):=rfl
theorem aS{m a ds}(h:m ρ σ=some (d,ao))(k:aG a ρ ao=some (ds,aX)):aG (m::a) ρ σ=some (d::ds,aX):=bs h (bs k rfl)
theorem j9{a ds}(h:aG a ρ σ=some (ds,ab))(b:ds.length<=aP):ME.list a ρ σ=some (.list ds,ab):=bs h (sv b rfl)
theorem iK{a ds}(h:aG a ρ σ=some (ds,ab))(b:ds.length<=aP):ME.tup a ρ σ=some (.tup ds,ab):=bs h (sv b rfl)
theorem h8{m:MF}{c}(h:m ρ σ=some (c,ab)):ME.d9 m ρ σ=some (.ref ab.next,ab.new c):=bs h rfl
theorem mP{m:MF}{c}(h:m ρ σ=some (c,ab))(k:uA c=some d):ME.aI m ρ σ=some (d,ab):=bs h (bs k rfl)
theorem zb{b x y r}(h:b ρ σ=some (true,ao))(k:x ρ ao=some r):ME.ite b x y ρ σ=some r:=bs h k
theorem Em{b x y r}(h:b ρ σ=some (false,ao))(k:y ρ ao=some r):ME.ite b x y ρ σ=some r:=bs h k
theorem El{b x y c r}(h:b ρ σ=some (c,ao))(k:(bif c then x ρ ao else y ρ ao)=some r):ME.ite b x y ρ σ=some r:=bs h k
theorem j_{c f a b r}(h:a ρ σ=some (d,ao))(p:c d ao=true)(h':b ρ ao=some (e,aX))(k:f d e aX=some r):ME.dB c f a b ρ σ=some r:=bs h (sv p (bs h' k))
theorem jC{C name F mo g a r as}{i:Nat}(h:mo ρ σ=some (.ref i,ao))(b:ao.cell i=some (.inst C as))(l:as.lookup name=none)(h':g ρ ao=some (a,aX))(k:F (.ref i::a) aX=some r):ME.dC C name F mo g ρ σ=some r:=
 bs h (sv (show qt C name ao (.ref i)=true by unfold qt;exact aa (u3 b ..)<|decide_eq_true ⟨rfl,l⟩) (bs h' k))
theorem kc{c lo b xs l u}(h:c ρ σ=some (d,ao))(f:d.dj=none)(hl:jF lo ρ ao=some (l,ao))(e:jF b ρ ao=some (u,ao))(k:bU ao d=some xs):ME.slice c lo b ρ σ=some (.list (jQ xs l u),ao):=
 bs h (bs hl (bs e (bs (a:=.list (jQ xs l u)) (by unfold A4;exact aa (f ..)<|bs k rfl) rfl)))
theorem oo{a b}(h:a ρ σ=some (d,ao))(k:k9 ao d=some b):MB.val a ρ σ=some (b,ao):=bs h (bs k rfl)
theorem cz{a b}(h:a ρ σ=some (.bool b,ao)):MB.val a ρ σ=some (b,ao):=bs h rfl
theorem ur{a b}(h:a ρ σ=some (b,ao)):MB.not a ρ σ=some (!b,ao):=bs h rfl
theorem MK{a b r}(h:a ρ σ=some (false,ao))(k:b ρ ao=some r):MB.or a b ρ σ=some r:=bs h k
theorem Dv{a b p q}(h:a ρ σ=some (p,σ))(k:b ρ σ=some (q,σ)):MB.and a b ρ σ=some (p && q,σ):=bs h (by induction p<;>first| exact k| rfl)
theorem aK{x y r}(h:x ρ σ=some (.next,ae,ab))(k:y ae ab=some r):MS.cons x y ρ σ=some r:=bs h k
theorem wj{x y f r}(h:x ρ σ=some (f,r))(k:f.oY=false):MS.cons x y ρ σ=some (f,r):=bs h (by show(bif f.oY then _ else _)=_;exact aa (k ..) rfl)
theorem eo{t m}(h:m ρ σ=some (d,ao))(k:t d ρ ao=some (ae,ab)):MS.assign t m ρ σ=some (.next,ae,ab):=bs h (bs k rfl)
theorem bt{x m}(h:m ρ σ=some (d,ao)):MS.assign (.name x) m ρ σ=some (.next,ρ.set x d,ao):=bs h rfl
theorem il{m}(h:m ρ σ=some (d,ab)):MS.expr m ρ σ=some (.next,ρ,ab):=bs h rfl
theorem fC{m}(h:m ρ σ=some (d,ab)):MS.ret m ρ σ=some (.ret d,ρ,ab):=bs h rfl
theorem iO{b x y r}(h:b ρ σ=some (true,ao))(k:x ρ ao=some r):MS.ite b x y ρ σ=some r:=bs h k
theorem d_{b x y r}(h:b ρ σ=some (false,ao))(k:y ρ ao=some r):MS.ite b x y ρ σ=some r:=bs h k
theorem HM{b x y c r}(h:b ρ σ=some (c,ao))(d:c=true->x ρ ao=some r)(a:c=false->y ρ ao=some r):MS.ite b x y ρ σ=some r:=bs h (by induction c<;>first| exact d rfl| exact a rfl)
theorem iq{k:Nat}{name:aj}{mo i as}(h:mo ρ σ=some (.ref i,ao))(b:ao.cell i=some (.inst k as))(c:as.length<=1000):MT.attr k name mo d ρ σ=some (ρ,ao.put i (.inst k (eF as name d))):=
 bs h (bs (a:=ao.put i (.inst k (eF as name d))) (bs (yH b) (if_pos ⟨rfl,c⟩)) rfl)
theorem tx{k j:Nat}{b i as}(h:b ρ σ=some (.ref i,ao))(c:ao.cell i=some (.slots k as)):MT.slot k j b d ρ σ=some (ρ,ao.put i (.slots k (putN as j d))):=
 bs h (bs (a:=ao.put i (.slots k (putN as j d))) (bs (uC c) rfl) rfl)
theorem tA{mo mi:ME}{k:aj}{i b}(h:mo ρ σ=some (.ref i,ao))(h':mi ρ ao=some (.str k,aX))(c:aX.cell i=some (.dict b))(e:b.length<aP):MT.sub mo mi d ρ σ=some (ρ,aX.put i (.dict (eF b k d))):=
 bs h (bs h' (bs (a:=k) rfl (bs (yG c) (if_pos e))))
theorem EK{a m c b f}(hb:a c=some b)(h:m (c_ b) σ=some (f,ae,ab))(k:f.val?=some d):bO a m c σ=some (d,ab):=bs hb (bs h (bs k rfl))
theorem fx{a m ds yv}(hb:a ds=some yv)(h:m (c_ yv) σ=some (.ret d,ae,ab)):bO a m ds σ=some (d,ab):=EK hb h rfl
theorem oJ{a m c b}(hb:a c=some b)(h:m (c_ b) σ=some (.next,ae,ab)):bO a m c σ=some (.none,ab):=EK hb h rfl
theorem qn{F:FM}{a}(b:a.all (noRef 6)=true)(h:F a MH.nil=some (d,ab))(k:bq ab 5 d=some e):m9 F a=some e:=sv b (bs h k)
theorem f_hide{F:FM}{a}(h:m9 F a=some d):fO F a σ=some (d,σ):=bs h rfl
end
end
theorem be{α β:Type}{x:Option α}{f:α->Option β}{r:β}(h:x.bind f=some r):∃a,x=some a/\f a=some r:=by
 induction x with
 | none=>cases h
 | some a=>exact⟨a,rfl,h⟩
def After(q:Fl×aC×MH)(K:aC->MH->Prop)(Q:Fl->aC->MH->Prop):Prop:=match q.1 with
 | .next=>K q.2.1 q.2.2
 | .cont=>K q.2.1 q.2.2
 | .brk=>Q .next q.2.1 q.2.2
 | .ret d=>Q (.ret d) q.2.1 q.2.2
noncomputable def turn (t:MT) (a:MS) (x:D) (ρ:aC) (σ:MH):Option (Fl×aC×MH):=(t x ρ σ).bind λp=>a p.1 p.2
theorem lM{α:Type}{l r:List α}{x:α}:(l++x::r)[l.length]?=some x:=by exact aa (Cg (bb _) ..)<|aa (CF ..) rfl
theorem RJ{q:Fl×aC×MH}{go:aC->MH->Option (Fl×aC×MH)}{K:aC->MH->Prop}{Q:Fl->aC->MH->Prop}(h:After q K Q)(k:∀ρ σ,K ρ σ->∃r,go ρ σ=some r/\Q r.1 r.2.1 r.2.2):∃r,vz q go=some r/\Q r.1 r.2.1 r.2.2:=by
 obtain⟨a,ρ,σ⟩:=q
 induction a with
 | next=>exact k _ _ h
 | cont=>exact k _ _ h
 | brk=>exact⟨_,rfl,h⟩
 | ret d=>exact⟨_,rfl,h⟩
theorem A0{α:Type}(as:List α)(c:α->D){m:MI}{t:MT}{b:MS}{ρ:aC}{σ ao:MH}{at_:dR}(I:List α->aC->MH->Prop)(Q:Fl->aC->MH->Prop)(d:m ρ σ=some (at_,(as.map c).length+1,ao))(e:∀l ρ σ j,I l ρ σ->at_ σ j=some (as.map c)[j]?)
 (n:I [] ρ ao) (k7:∀l a r ρ σ,as=l++a::r->I l ρ σ->∃q,turn t b (c a) ρ σ=some q/\After q (I (l++ [a])) Q)
 (g:∀ρ σ,I as ρ σ->Q .next ρ σ):∃q,MS.cD m t b ρ σ=some q/\Q q.1 q.2.1 q.2.2:=by
 have i:∀(r l:List α) (ρ:aC) (σ:MH),as=l++r->I l ρ σ->∃q,mQ at_ t b (r.length+1) l.length ρ σ=some q/\Q q.1 q.2.1 q.2.2:=by
  intro r
  induction r with
  | nil=>
   intro l ρ σ d h
   rw [hW] at d
   exact⟨(.next,ρ,σ),bs ((e l ρ σ l.length h).trans (by exact aa (d ..)<|aa (mn (by rw [aZ];exact bb _)) rfl)) rfl,g ρ σ (d▸h)⟩
  | cons x r z=>
   intro l ρ σ d h
   refine aw (k7 l x r ρ σ d h) λq v s=>?_
   refine aw (be v) λp u hb=>?_
   obtain⟨A,w,o⟩:=RJ s (go:=mQ at_ t b (r.length+1) (l.length+1)) λae ab h'=>by
    have:=z (l++ [x]) ae ab (by exact aa (iW ..)<|d) h'
    rwa [bF] at this
   have y:at_ σ l.length=some (some (c x)):=(e l ρ σ l.length h).trans (congrArg some (by exact aa (gg ..)<|aa (d ..)<|aa (lM ..) rfl))
   exact⟨A,bs y (bs u (bs hb w)),o⟩
 refine aw (i as [] ρ ao rfl n) λq h k=>?_
 rw [← aZ (f:=c)] at h
 exact⟨q,bs d h,k⟩
theorem jO{α:Type}(as:List α)(c:α->D){mi:MI}{t:MT}{body:MS}{ρ:aC}{σ ao:MH}{at_:dR}{P:Prop}(I:List α->aC->MH->Prop)(Q:Fl->aC->MH->Prop)(i:mi ρ σ=some (at_,(as.map c).length+1,ao))(e:∀l ρ σ j,I l ρ σ->at_ σ j=some (as.map c)[j]?)
 (g:I [] ρ ao) (k7:∀l a r ρ σ,as=l++a::r->I l ρ σ->∃q,turn t body (c a) ρ σ=some q/\After q (I (l++ [a])) Q)
 (d:∀ρ σ,I as ρ σ->Q .next ρ σ) (k:∀f ae ab,MS.cD mi t body ρ σ=some (f,ae,ab)->Q f ae ab->P):P:=aw (A0 as c I Q i e g k7 d) λb h q=>k _ _ _ h q
theorem fh{xs:List D}{σ:MH}{j:Nat}:fj (.list xs) σ j=some xs[j]?:=rfl
theorem rQ{σ:MH}{i j:Nat}{xs:List D}(h:σ.cell i=some (.list xs)):fj (.ref i) σ j=some xs[j]?:=bs (uo h) rfl
theorem cU{m:ME}{ρ:aC}{σ ao:MH}{xs:List D}(h:m ρ σ=some (.list xs,ao)):MI.of m ρ σ=some (fj (.list xs),xs.length+1,ao):=bs h rfl
theorem zF{m:ME}{ρ:aC}{σ ao:MH}{xs:List D}(h:m ρ σ=some (.tup xs,ao)):MI.of m ρ σ=some (fj (.tup xs),xs.length+1,ao):=bs h rfl
theorem sm{m:ME}{ρ:aC}{σ ao:MH}{i:Nat}{xs:List D}(h:m ρ σ=some (.ref i,ao))(a:ao.cell i=some (.list xs)):MI.of m ρ σ=some (fj (.ref i),xs.length+1,ao):=bs h (bs (x:=gP ao (.ref i)) (uo a) rfl)
theorem HA{a c k:Int}(n:Nat)(h:k=n)(b:n<=aP):wd a c k=some (ie (gU a c n),n+1):=by
 subst h
 exact(if_pos ⟨pJ _,Int.ofNat_le.mpr b⟩)
theorem sk{m:ME}{ρ:aC}{σ ao:MH}{n:Nat}(h:m ρ σ=some (.int n,ao))(b:n<=aP):MI.gT m ρ σ=some (ie (gU 0 1 n),n+1,ao):=bs h (bs (a:=(n:Int)) rfl (bs (HA n rfl b) rfl))
theorem UB{a c n}:(gU a c n).length=n:=by unfold gU;exact aa (aZ ..)<|aa (hX ..) rfl
def Agree(own:List String)(ρ ae:aC):Prop:=∀z,z∉own->ae z=ρ z
theorem Agree.set{own ρ ae x d}(h:Agree own ρ ae)(b:x∈own):Agree own ρ (ae.set x d):=λz a=>(if_neg (c:=z=x) λe=>a (by exact aa (e ..)<|b)).trans (h z a)
theorem Agree.drop{own ρ}:Agree own ρ (ρ.drop own):=λa b=>if_neg b
noncomputable def y4 (t:MT) (a:List MB) (b:MX) (y:D) (ρ:aC) (σ:MH) (c:Cell):Option (aC×MH×Cell):=(t y ρ σ).bind λp=>(oU a p.1 p.2).bind λk=>bif k.1 then b p.1 k.2 c else some (p.1,k.2,c)
theorem N4(a:List D){d:dR}{t:MT}{g:List MB}{b:MX}(J:List D->aC->MH->Cell->Prop)(f:∀l ρ σ c j,J l ρ σ c->d σ j=some a[j]?)
 (k7:∀l x r ρ σ c,a=l++x::r->J l ρ σ c->∃q,y4 t g b x ρ σ c=some q/\J (l++ [x]) q.1 q.2.1 q.2.2):
 ∀(r l:List D) (ρ:aC) (σ:MH) (c:Cell),a=l++r->J l ρ σ c->∃q,j8 d t g b (r.length+1) l.length ρ σ c=some q/\J a q.1 q.2.1 q.2.2:=by
 intro r
 induction r with
 | nil=>
  intro l ρ σ c e h
  rw [hW] at e
  exact⟨(ρ,σ,c),bs ((f l ρ σ c l.length h).trans (by exact aa (e ..)<|aa (mn (bb _) ..) rfl)) rfl,e▸h⟩
 | cons x r y=>
  intro l ρ σ c e h
  refine aw (k7 l x r ρ σ c e h) λq v o=>?_
  refine aw (be v) λp u hb=>?_
  refine aw (be hb) λk s hb=>?_
  have:=y (l++ [x]) q.1 q.2.1 q.2.2 (by exact aa (iW ..)<|e) o
  rw [bF] at this
  refine aw this λz m n=>?_
  have w:d σ l.length=some (some x):=(f l ρ σ c l.length h).trans (congrArg some (e▸lM))
  refine⟨z,bs w (bs u (bs s ?_)),n⟩
  induction i:k.1 with
  | true=>rw [i] at hb;exact bs hb m
  | false=>rw [i] at hb;obtain rfl:=aM hb;exact m
theorem y1(d:List D){at_:dR}{t:MT}{ifs:List MB}{b:MX}{P:Prop}(J:List D->aC->MH->Cell->Prop)(e:∀l ρ σ c j,J l ρ σ c->at_ σ j=some d[j]?)
 (k7:∀l x r ρ σ c,d=l++x::r->J l ρ σ c->∃q,y4 t ifs b x ρ σ c=some q/\J (l++ [x]) q.1 q.2.1 q.2.2) (ρ:aC) (σ:MH) (c:Cell) (h:J [] ρ σ c)
 (k:∀ae ab f,j8 at_ t ifs b (d.length+1) 0 ρ σ c=some (ae,ab,f)->J d ae ab f->P):P:=aw (N4 d J e k7 d [] ρ σ c rfl h) λa h q=>k _ _ _ h q
def ma(own:List String)(t:MT)(d:List MB)(b:MX)(y:D)(ρ:aC)(σ:MH)(e:List D):Prop:=
 ∀ae c,Agree own ρ ae->c.length+e.length<=aP->∃a,y4 t d b y ae σ (.list c)=some (a,σ,.list (c++e))/\Agree own ρ a
theorem y0{α:Type}{own:List String}{ρ:aC}{σ:MH}(as:List α)(d:α->D)(g:α->List D){at_:dR}{t:MT}{ifs:List MB}{b:MX}(i:∀j,at_ σ j=some (as.map d)[j]?)
 (h:∀a∈as,ma own t ifs b (d a) ρ σ (g a)) {ae acc} (n:Agree own ρ ae) (F:acc.length+(as.flatMap g).length<=aP):
 ∃c,j8 at_ t ifs b ((as.map d).length+1) 0 ae σ (.list acc)=some (c,σ,.list (acc++as.flatMap g))/\Agree own ρ c:=by
 have o:∀(r l:List α) (ae:aC),as=l++r->Agree own ρ ae->∃c,j8 at_ t ifs b (r.length+1) l.length ae σ (.list (acc++l.flatMap g))=some (c,σ,.list (acc++as.flatMap g))/\Agree own ρ c:=by
  intro r
  induction r with
  | nil=>
   intro l ae e h'
   rw [hW] at e
   subst e
   exact⟨ae,bs ((i as.length).trans (by exact aa (mn (by rw [aZ];exact bb _)) rfl)) rfl,h'⟩
  | cons x r G=>
   intro l ae e h'
   have m:(acc++l.flatMap g).length+(g x).length<=aP:=by
    rw [e,t8,bF,nZ,bF] at F
    refine aa (bF ..) ?_;lia
   refine aw (h x (e▸d0 _ a0) ae _ h' m) λbw E A=>?_
   refine aw (be E) λp C hb=>?_
   refine aw (be hb) λk B hb=>?_
   have:=G (l++ [x]) bw (by exact aa (iW ..)<|e) A
   rw [bF,t8,xt,← iW] at this
   refine aw this λH u z=>?_
   refine⟨H,bs ((i l.length).trans (congrArg some (show(as.map d)[l.length]?=some (d x) by exact aa (gg ..)<|aa (e ..)<|aa (lM ..) rfl))) (bs C (bs B ?_)),z⟩
   induction s:k.1 with
   | true=>rw [s] at hb;exact bs hb u
   | false=>rw [s] at hb;refine aA (lF (aM hb)) λq v=>?_;obtain rfl:=q;refine aA (lF v) λw y=>?_;show j8 _ _ _ _ _ _ _ k.2 _=_;exact aa (w ..)<|aa (y ..)<|u
 have:=o as [] ae rfl n
 rwa [Ku,hW,← aZ (f:=d)] at this
theorem oE{α:Type}{own:List String}{ρ:aC}{σ ao:MH}(as:List α)(e:α->D)(g:α->List D){i:MI}{at_:dR}{t:MT}{ifs:List MB}{b:MX}(l:i ρ σ=some (at_,(as.map e).length+1,ao))(f:∀j,at_ ao j=some (as.map e)[j]?)
 (h:∀a∈as,ma own t ifs b (e a) ρ ao (g a)) (m:(as.flatMap g).length<=aP):ME.aI (.comp i t ifs b own (.list [])) ρ σ=some (.list (as.flatMap g),ao):=
 aw (y0 as e g f h Agree.drop (acc:=[]) (by exact aa (Ck ..)<|aa (rM ..)<|m)) λk h d=>
 mP (c:=.list (as.flatMap g)) (bs l (bs h rfl)) rfl
theorem wR{m:ME}{ρ:aC}{σ ao:MH}{d:D}{b:List D}(h:m ρ σ=some (d,ao))(c:b.length<aP):MX.elt m ρ σ (.list b)=some (ρ,ao,.list (b++ [d])):=bs h (bs (a:=b) rfl (if_pos c))
theorem rP{own:List String}{x:String}{b:List MB}{m:ME}{y d:D}{ρ:aC}{σ:MH}(c:x∈own)(h:∀ae,Agree own ρ ae->ae x=some y->oU b ae σ=some (true,σ)/\m ae σ=some (d,σ)):ma own (.name x) b (.elt m) y ρ σ [d]:=λae e a f=>
 have k:=h (ae.set x y) (a.set c) (if_pos rfl)
 ⟨ae.set x y,bs rfl (bs k.1 (wR k.2 f)),a.set c⟩
theorem C7{own:List String}{x:String}{c:List MB}{b:MX}{y:D}{ρ:aC}{σ:MH}(d:x∈own)(h:∀ae,Agree own ρ ae->ae x=some y->oU c ae σ=some (false,σ)):ma own (.name x) c b y ρ σ []:=λae e a f=>
 ⟨ae.set x y,bs rfl (bs (h (ae.set x y) (a.set d) (if_pos rfl)) (by exact aa (hW ..) rfl)),a.set d⟩
theorem qb{b:MB}{ρ:aC}{σ:MH}{p:Bool}(h:b ρ σ=some (p,σ)):oU [b] ρ σ=some (p,σ):=bs h (by induction p<;>rfl)
theorem eV{α:Type}{own:List String}{x:String}{ρ:aC}{σ ao:MH}(as:List α)(b:α->D)(g:α->D){d:MI}{at_:dR}{m:ME}(i:d ρ σ=some (at_,(as.map b).length+1,ao))(c:∀j,at_ ao j=some (as.map b)[j]?)
 (l:x∈own) (h:∀a∈as,∀ae,Agree own ρ ae->ae x=some (b a)->m ae ao=some (g a,ao)) (n:as.length<=aP):ME.aI (.comp d (.name x) [] (.elt m) own (.list [])) ρ σ=some (.list (as.map g),ao):=by
 have e:as.flatMap (λa=>[g a])=as.map g:=List.map_eq_flatMap.symm
 exact aa (.symm (e ..))<|oE as b _ i c (λa f=>rP l λae k o=>⟨rfl,h a f ae k o⟩) (by exact aa (e ..)<|aa (aZ ..)<|n)
theorem mO{α:Type}{own:List String}{x:String}{ρ:aC}{σ ao:MH}(as:List α)(c:α->D)(p:α->Bool)(g:α->D){s:MI}{d:dR}{b:MB}{m:ME}(o:s ρ σ=some (d,(as.map c).length+1,ao))(f:∀j,d ao j=some (as.map c)[j]?)
 (q:x∈own) (h:∀a∈as,∀ae,Agree own ρ ae->ae x=some (c a)->b ae ao=some (p a,ao)/\(p a=true->m ae ao=some (g a,ao))) (r:as.length<=aP):ME.aI (.comp s (.name x) [b] (.elt m) own (.list [])) ρ σ=some (.list ((as.filter p).map g),ao):=by
 have e:as.flatMap (λa=>if p a then [g a] else [])=(as.filter p).map g:=by
  clear h r o f
  induction as with
  | nil=>rfl
  | cons a as t=>refine aa (nZ ..)<|aa (t ..) ?_;induction i:p a<;>simp [i]
 refine aa (.symm (e ..)) ?_
 refine oE as c _ o f (λa n=>?_) (by exact aa (e ..)<|aa (aZ ..)<|Nat.le_trans (iX ..) r)
 induction i:p a with
 | true=>exact rP q λae k l=>⟨i▸qb (h a n ae k l).1,(h a n ae k l).2 i⟩
 | false=>exact C7 q λae k l=>i▸qb (h a n ae k l).1
noncomputable def nm:Nat->aj| 0=>"a" | 1=>"b" | _=>"ab"
noncomputable def aR (f:List Nat):aj:=("/" :aj)++iZ "/" (f.map nm)
noncomputable def pc:Nat->aj| 0=>"a" | 1=>"b" | 2=>"ab" | 3=>".." | 4=>"." | _=>""
noncomputable def en:Nat->aj| 0=>"" | 1=>"a" | 2=>"b" | _=>"ab"
noncomputable def bS (f:List Nat) (e:Nat):aj:=bif f.isEmpty then ("/" :aj)++en e else aR f++ "/" ++en e
noncomputable def ic (f:List Nat) (p:Nat):List Nat:=if p<3 then f++ [p] else if p=3 then f.dropLast else f
noncomputable def fo (p q r:Nat):List Nat:=ic (ic (ic [] p) q) r
noncomputable def b7:List (List Nat):=[]::((dv 3).map λa=>[a])++((dv 3).flatMap λa=>(dv 3).map λb=>[a,b])++(dv 3).flatMap λa=>(dv 3).flatMap λb=>(dv 3).map λc=>[a,b,c]
noncomputable def isStr (r:Option D) (s:aj):Bool:=match r with| some (.str t)=>t==s| _=>false
theorem qe{r s}(h:isStr r s=true):r=some (.str s):=by
 induction r with
 | none=>exact nomatch h
 | some d=>cases d with
  | str t=>exact congrArg (λx=>some (D.str x)) (eq_of_beq h)
  | _=>exact nomatch h
noncomputable def r6 (k:Nat->Bool):Bool:=k 0 && (k 1 && (k 2 && (k 3 && (k 4 && (k 5 && true)))))
theorem Hx(n:Nat){k:Nat->Bool}(h:(dv n).all k=true){p:Nat}(a:p<n):k p=true:=List.all_eq_true.mp h p (List.mem_range.mpr a)
theorem qq{k:Nat->Bool}(h:r6 k=true){p:Nat}(a:p<6):k p=true:=Hx 6 h a
noncomputable def S2 (p q r:Nat):Bool:=isStr ((m9 (bO (p4 "a" "p") Aa) [.str "/",.str (pc p),.str (pc q),.str (pc r)]).bind λd=>m9 (bO (bind1 "path") GH) [d]) (aR (fo p q r))
noncomputable def o7 (p:Nat):Bool:=r6 λq=>r6 λr=>S2 p q r
theorem SV:o7 0=true:=by kernel_rfl
theorem SW:o7 1=true:=by kernel_rfl
theorem SX:o7 2=true:=by kernel_rfl
theorem SY:o7 3=true:=by kernel_rfl
theorem S0:o7 4=true:=by kernel_rfl
theorem S1:o7 5=true:=by kernel_rfl
theorem S3{p q r:Nat}(c:p<6)(e:q<6)(f:r<6):∃d,(∀σ,iV [.str "/",.str (pc p),.str (pc q),.str (pc r)] σ=some (d,σ))/\∀σ,q8 [d] σ=some (.str (aR (fo p q r)),σ):=by
 have h:r6 o7=true:=by unfold r6;rw [SV,SW,SX,SY,S0,S1];rfl
 refine aw (be (qe (qq (qq (qq h c) e) f))) λd a b=>?_
 exact⟨d,λσ=>f_hide a,λσ=>f_hide b⟩
noncomputable def As (c:aj):Bool:= !(c.length==0) && !(c== ".")
noncomputable def DZ (f:List Nat):Bool:=isStr (m9 (bO (bind1 "p") z_) [.str (aR f)]) (aR f.dropLast) && (t5 "/" (f.map nm) && (fB (iZ "/" (f.map nm)) && (fB (aR f) && (decide (1+(iZ "/" (f.map nm)).length<=aP) &&
 ((Txt.split (aR f) "/").all fB && (decide ((Txt.split (aR f) "/").length<=aP) && ((Txt.split (aR f) "/").filter As==f.map nm && (ya (aR f) "/" && ((f.isEmpty==(aR f== "/")) && decide (f.length<=3))))))))))
theorem NF:b7.all DZ=true:=by kernel_rfl
structure JU(f:List Nat):Prop where
 dir:∀σ,fm [.str (aR f)] σ=some (.str (aR f.dropLast),σ)
 FQ:t5 "/" (f.map nm)=true
 FR:fB (iZ "/" (f.map nm))=true
 st:fB (aR f)=true
 len:1+(iZ "/" (f.map nm)).length<=aP
 sp:(Txt.split (aR f) "/").all fB=true
 H9:(Txt.split (aR f) "/").length<=aP
 ON:(Txt.split (aR f) "/").filter As=f.map nm
 Vo:ya (aR f) "/" =true
 root:f.isEmpty=(aR f== "/")
 mZ:f.length<=3
theorem gm{f}(h:f∈b7):JU f:=by
 have:=List.all_eq_true.mp NF f h
 unfold DZ at this
 simp only [jo,decide_eq_true_eq,beq_iff_eq] at this
 obtain⟨a,b,c,d,e,g,i,j,k,l,m⟩:=this
 exact⟨λσ=>f_hide (qe a),b,c,d,e,g,i,j,k,l,m⟩
noncomputable def r4 (k:Nat->Bool):Bool:=k 0 && (k 1 && (k 2 && (k 3 && true)))
theorem ta{k:Nat->Bool}(h:r4 k=true){p:Nat}(a:p<4):k p=true:=Hx 4 h a
noncomputable def DY (f:List Nat) (e:Nat):Bool:=isStr (m9 (bO (p4 "a" "p") Aa) [.str (aR f),.str (en e)]) (bS f e) && (isStr (m9 (bO (bind1 "p") z_) [.str (bS f e)]) (aR f) && fB (bS f e))
theorem ND:(b7.all λf=>r4 λe=>DY f e)=true:=by kernel_rfl
structure K3(f:List Nat)(e:Nat):Prop where
 join:∀σ,iV [.str (aR f),.str (en e)] σ=some (.str (bS f e),σ)
 dir:∀σ,fm [.str (bS f e)] σ=some (.str (aR f),σ)
 st:fB (bS f e)=true
theorem z1{f e}(h:f∈b7)(a:e<4):K3 f e:=by
 have:=ta (List.all_eq_true.mp ND f h) a
 unfold DY at this
 simp only [jo] at this
 exact⟨λσ=>f_hide (qe this.1),λσ=>f_hide (qe this.2.1),this.2.2⟩
theorem QD:(b7.all λf=>b7.all λg=> !(aR f==aR g)|| (f==g))=true:=by kernel_rfl
theorem qo{f g}(a:f∈b7)(b:g∈b7)(h:aR f=aR g):f=g:=by
 have:=List.all_eq_true.mp (List.all_eq_true.mp QD f a) g b
 rw [h,beq_self_eq_true] at this
 simpa using this
theorem Ug:(b7.all λf=>r4 λe=>b7.all λg=> !(KL (bS g 0).cps.toList (bS f e).cps.toList)|| g.isPrefixOf f)=true:=by kernel_rfl
theorem RL:(b7.all λg=>r4 λe=>KL (bS g 0).cps.toList (bS g e).cps.toList)=true:=by kernel_rfl
noncomputable def hit (name a:aj):Bool:=ng name none (some (a.length:Int))==a
theorem PV{x y:aj}(h:hit x y=true):y.cps.toList<+:x.cps.toList:=by
 have h:=eq_of_beq h
 have hl:y.length<=x.length:=by exact aa (.symm (h ..))<|Txt.slice_le ..
 have:=eq_of_beq (slice_closes_toL (x:=x) (j:=(y.length:Int)) (pJ _) (Int.ofNat_le.mpr hl))
 have h':CX x none (some (y.length:Int))=y:=h
 rw [h'] at this
 refine aa (this ..) ?_
 simpa using List.take_prefix y.length x.cps.toList
theorem PU{f g e b}(l:f∈b7)(k:e<4)(d:g∈b7)(a:b<4)(h:hit (bS f e) (bS g b)=true):g<+:f:=by
 have i:=ta (List.all_eq_true.mp RL g d) a
 have c:=List.all_eq_true.mp (ta (List.all_eq_true.mp Ug f l) k) g d
 have j:=(List.isPrefixOf_iff_prefix.mp i).trans (PV h)
 rw [List.isPrefixOf_iff_prefix.mpr j] at c
 exact List.isPrefixOf_iff_prefix.mp (by simpa using c)
theorem T5:(b7.all λf=>b7.contains f.dropLast)=true:=by kernel_rfl
theorem Hk{f}(h:f∈b7):f.dropLast∈b7:=List.contains_iff_mem.mp (List.all_eq_true.mp T5 f h)
theorem OW:(r6 λp=>r6 λq=>r6 λr=>b7.contains (fo p q r))=true:=by kernel_rfl
theorem OX{p q r:Nat}(a:p<6)(b:q<6)(c:r<6):fo p q r∈b7:=List.contains_iff_mem.mp (qq (qq (qq OW a) b) c)
section
noncomputable def iD (i:Nat):D:=.int (i:Int)
structure Ln where
 p:Nat
 q:Nat
 r:Nat
 e:Nat
 al:Bool
 k:Nat
 g:Nat
noncomputable def Ln.f (l:Ln):List Nat:=fo l.p l.q l.r
structure Ln.Ok(l:Ln):Prop where
 p:l.p<6
 q:l.q<6
 r:l.r<6
 e:l.e<4
 k:l.k<3
 g:l.g<4
noncomputable def fD (f:List Nat):D:=.list ((f.map nm).map .str)
noncomputable def cW (l:Ln):D:=.tup [.list [.str (pc l.p),.str (pc l.q),.str (pc l.r)],fD l.f,.str (en l.e),.bool l.al,iD l.k,iD l.g]
theorem Ln.Ok.f{l:Ln}(h:l.Ok):l.f∈b7:=OX h.p h.q h.r
theorem UP{x:Option (Fl×aC×MH)}{y d σ}(h:(x.bind λr=>bif r.1.oY then (r.2.1 y).bind λd=>some (d,r.2.2) else none)=some (d,σ)):∃ρ,x=some (.next,ρ,σ)/\ρ y=some d:=by
 obtain⟨⟨e,ρ,ab⟩,f,c⟩:=be h
 induction e with
 | next=>refine aw (be c) λj g i=>?_;refine aA (lF (aM i)) λa b=>?_;obtain rfl:=a;obtain rfl:=b;exact⟨ρ,f,g⟩
 | _=>exact nomatch c
theorem UT{x y z:MS}{ρ ae σ ab r}(h:MS.cons x y ρ σ=some (.next,ae,ab))(k:z ae ab=some r):MS.cons x (.cons y z) ρ σ=some r:=by
 obtain⟨⟨b,bw,ao⟩,c,a⟩:=be h
 induction b with
 | next=>exact bs c (bs a k)
 | _=>exact nomatch a
theorem cf{n:Nat}(h:n<=1000):n<=aP:=aE h (by decide)
theorem uD{n k:Nat}(h:k<=n):iI n (k:Int)=k:=by
 unfold iI
 exact aa (if_neg (Int.not_lt.mpr (pJ k)) ..)<|aa (Ka (Int.ofNat_le.mpr h) ..)<|aa (J_ (pJ k) ..) rfl
theorem NJ{n k:Nat}(h:k<=n):∀i:Int,i<0->i+n=k->iI n i=k:=λi a e=>by
 unfold iI
 exact aa (if_pos a ..)<|aa (e ..)<|aa (Ka (Int.ofNat_le.mpr h) ..)<|aa (J_ (pJ k) ..) rfl
theorem HY(xs:List D):jQ xs none (some (-1))=xs.dropLast:=by
 refine aa (xr ..) ?_
 show(xs.drop 0).take (iI xs.length (-1) - 0)=_
 induction xs with
 | nil=>rfl
 | cons x xs=>
  exact aa (show iI (x::xs).length (-1)=xs.length from NJ (dD _) (-1) (by decide) (show(-1:Int)+((xs.length:Int)+1)=_ by rw [J6,J7])) rfl
theorem c2{P:Nat->Prop}{a:Nat}(d:a<2)(b:P 0)(c:P 1):P a:=by
 rcases a with _| _| a
 .exact b
 .exact c
 .exact absurd d (Nat.not_lt.mpr (ub 2 a))
theorem c4{P:Nat->Prop}{a:Nat}(f:a<4)(b:P 0)(c:P 1)(d:P 2)(e:P 3):P a:=by
 rcases a with _| _| a
 .exact b
 .exact c
 .exact c2 (P:=λa=>P (a+2)) (K7 (n:=2) f) d e
theorem c6{P:Nat->Prop}{a:Nat}(h:a<6)(b:P 0)(c:P 1)(d:P 2)(e:P 3)(f:P 4)(g:P 5):P a:=by
 rcases a with _| _| a
 .exact b
 .exact c
 .exact c4 (P:=λa=>P (a+2)) (K7 (n:=2) h) d e f g
theorem Sb{f:List Nat}:((f.map nm).map D.str).dropLast=(f.dropLast.map nm).map .str:=by exact aa (.symm (Cq ..))<|aa (.symm (Cq ..)) rfl
theorem jh{xs a:List D}{σ:MH}(h:xs.length+a.length<=aP):pX (.list xs) (.list a) σ=some (.list (xs++a)):=show yc xs a=_ from if_pos h
theorem sV{x y:aj}{σ:MH}(h:x.length+y.length<=aP):pX (.str x) (.str y) σ=some (.str (x++y)):=show yd x y=_ from if_pos h
section
variable {a b x:D} {σ:MH} {p q:fX} {xs:List D} {ps:List fX}
theorem ji(h:cX σ 6 a=some p)(h':cX σ 6 b=some q):uQ a b σ=some (.bool (fg p q)):=bs (a:=fg p q) (bs h (bs h' rfl)) rfl
theorem o9(h:cX σ 6 a=some p)(h':cX σ 6 b=some q):sO a b σ=some (.bool (!fg p q)):=bs (a:=fg p q) (bs h (bs h' rfl)) rfl
theorem Az(h:cX σ 6 x=some p)(h':hB (cX σ 6) xs=some ps):mT σ x (.list xs)=some (ps.any λy=>fg y p):=show(cX σ 6 x).bind _=_ from bs h (bs h' rfl)
theorem vV{c:Bool}(h:mT σ a b=some c):inD a b σ=some (.bool c):=bs h rfl
theorem AD{c:Bool}(h:mT σ a b=some c):Au a b σ=some (.bool (!c)):=bs h rfl
end
theorem r9{a:dR}{t:MT}{body:MS}{n j:Nat}{ρ ae:aC}{σ ab:MH}{x:D}{r}(h:a σ j=some (some x))(d:turn t body x ρ σ=some (.next,ae,ab))(k:mQ a t body n (j+1) ae ab=some r):mQ a t body (n+1) j ρ σ=some r:=by
 refine aw (be d) λp b c=>?_
 exact bs h (bs b (bs c k))
theorem Aw{k:Nat}{xs:List aj}:(xs.map D.str).all (noRef (k+1))=true:=by
 exact aa (ry ..)<|List.all_eq_true.mpr λa a=>rfl
theorem sf{σ:MH}{d:D}(h:d.fP=none)(k:noRef 5 d=true):bq σ 5 d=some d:=by
 show(match d.fP with| some i=>_| none=>_)=_
 exact aa (h ..)<|if_pos k
noncomputable def y9 (n:Int):List Int:=[n % 6,n / 6 % 6,n / 6 / 6 % 2,n / 6 / 6 / 2 % 4,n / 6 / 6 / 2 / 4 % 6,n / 6 / 6 / 2 / 4 / 6 % 3,n / 6 / 6 / 2 / 4 / 6 / 3 % 4]
theorem UC(n:Int):∃ρ,(MS.cons (.assign (.name "digits") (.list [])) (.cD (.of (.list [(.int 6),(.int 6),(.int 2),(.int 4),(.int 6),(.int 3),(.int 4)])) (.name "base") (.assign (.tup [(.name "digits"),(.name "number")]) (.tup [(.add (.var "digits") (.list [(.mod (.var "number") (.var "base"))])),(.fdiv (.var "number") (.var "base"))])))) (c_ [("number",.int n)]) MH.nil=some (.next,ρ,MH.nil)/\ρ "digits" =some (.list ((y9 n).map .int)):=
 UP (by kernel_rfl)
theorem lL(a:Int)(b:Nat)(hb:(b:Int)≠0):∃c:Nat,a % (b:Int)=c/\(c:Int)<b:=by
 have h:=Int.emod_nonneg a hb
 refine aL (Int.eq_ofNat_of_zero_le h) λc d=>?_
 exact⟨c,d,by exact aa (.symm (d ..))<|Int.emod_lt_of_pos a (by omega)⟩
theorem T_{a:Nat}(b:a<6):ef [.str "a",.str "b",.str "ab",.str "..",.str ".",.str ""] (a:Int)=some (.str (pc a)):=c6 (P:=λa=>ef [.str "a",.str "b",.str "ab",.str "..",.str ".",.str ""] (a:Int)=some (.str (pc a))) b rfl rfl rfl rfl rfl rfl
theorem Oy{a:Nat}(b:a<4):ef [.str "",.str "a",.str "b",.str "ab"] (a:Int)=some (.str (en a)):=c4 (P:=λa=>ef [.str "",.str "a",.str "b",.str "ab"] (a:Int)=some (.str (en a))) b rfl rfl rfl rfl
noncomputable def tc:MS:=.ite (.val (.eq (.var "piece") (.str ".."))) (.assign (.name "names") (.slice (.var "names") .none (some (.neg (.int 1))))) (.ite (.val (.jg (.var "piece") (.list [(.str ""),(.str ".")]))) (.assign (.name "names") (.add (.var "names") (.list [(.var "piece")]))) .nil)
def TurnOk(f:List Nat)(ρ:aC)(σ:MH)(a:Nat)(m:MS):Prop:=∃ae,m ρ σ=some (.next,ae,σ)/\ae "names" =some (fD (ic f a))/\∀z,z≠ "names" ->ae z=ρ z
theorem TurnOk.of{f ρ σ a m c}(h:TurnOk f ρ σ a m)(k:∀r,m ρ σ=some r->c ρ σ=some r):TurnOk f ρ σ a c:=h.imp λb=>eH (k _)
theorem AV{a:Nat}(v:a<6){f:List Nat}{ρ:aC}{σ:MH}(j:ρ "piece" =some (.str (pc a)))(l:ρ "names" =some (fD f))(y:f.length<=10):TurnOk f ρ σ a tc:=by
 have i:ic f a=f++ [a]->pc a=nm a->TurnOk f ρ σ a (.assign (.name "names") (.add (.var "names") (.list [(.var "piece")]))):=λe s=>
  ⟨_,bt (aJ (av l) (j9 (ds:=[.str (pc a)]) (aS (av j) bA) (cf (show 1<=1000 by decide))) (jh (by exact aa (aZ ..)<|aa (aZ ..)<|cf (aE (Nat.add_le_add_right y 1) (by decide))))),
    (if_pos rfl).trans (by refine aa (e ..)<|aa (s ..) ?_;unfold fD;exact aa (ey ..)<|aa (ey ..) rfl),λz m=>if_neg m⟩
 have A:ic f a=f->TurnOk f ρ σ a .nil:=λe=>⟨ρ,rfl,e.symm▸l,λd d=>rfl⟩
 have n:ic f a=f.dropLast->TurnOk f ρ σ a (.assign (.name "names") (.slice (.var "names") .none (some (.neg (.int 1))))):=λe=>⟨_,bt (kc (av l) rfl rfl rfl rfl),(if_pos rfl).trans (by exact aa (e ..)<|aa (HY ..)<|congrArg (λx=>some (D.list x)) Sb),λz m=>if_neg m⟩
 have all:∀b c,fg (.str (pc a)) (.str "..")=b->((fg (.str "") (.str (pc a)))|| ((fg (.str ".") (.str (pc a)))|| false))=c->
  TurnOk f ρ σ a (bif b then .assign (.name "names") (.slice (.var "names") .none (some (.neg (.int 1)))) else bif !c then .assign (.name "names") (.add (.var "names") (.list [(.var "piece")])) else .nil)->TurnOk f ρ σ a tc:=λb c hb w h=>by
  have t:(MB.val (.eq (.var "piece") (.str ".."))) ρ σ=some (b,σ):=cz (hb▸aJ (av j) rfl (ji rfl rfl))
  have u:(MB.val (.jg (.var "piece") (.list [(.str ""),(.str ".")]))) ρ σ=some (!c,σ):=cz (aJ (av j) (j9 (aS rfl (aS rfl bA)) (by decide)) (AD ((Az (p:=.str (pc a)) (ps:=[.str "",.str "."]) rfl rfl).trans (congrArg some w))))
  refine h.of λr g=>HM t (λq=>by rw [q] at g;exact g) λq=>HM u (λo=>by rw [q,o] at g;exact g) λo=>by rw [q,o] at g;exact g
 revert i A n all
 exact c6 (P:=λa=>(ic f a=f++ [a]->pc a=nm a->TurnOk f ρ σ a (.assign (.name "names") (.add (.var "names") (.list [(.var "piece")]))))->(ic f a=f->TurnOk f ρ σ a .nil)->(ic f a=f.dropLast->TurnOk f ρ σ a (.assign (.name "names") (.slice (.var "names") .none (some (.neg (.int 1))))))->
  (∀b c,fg (.str (pc a)) (.str "..")=b->((fg (.str "") (.str (pc a)))|| ((fg (.str ".") (.str (pc a)))|| false))=c->
  TurnOk f ρ σ a (bif b then .assign (.name "names") (.slice (.var "names") .none (some (.neg (.int 1)))) else bif !c then .assign (.name "names") (.add (.var "names") (.list [(.var "piece")])) else .nil)->TurnOk f ρ σ a tc)->TurnOk f ρ σ a tc) v
  (λp d d k=>k false false (by kernel_rfl) (by kernel_rfl) (p rfl rfl)) (λp d d k=>k false false (by kernel_rfl) (by kernel_rfl) (p rfl rfl)) (λp d d k=>k false false (by kernel_rfl) (by kernel_rfl) (p rfl rfl))
  (λd d p k=>k true false (by kernel_rfl) (by kernel_rfl) (p rfl)) (λd p d k=>k false true (by kernel_rfl) (by kernel_rfl) (p rfl)) (λd p d k=>k false true (by kernel_rfl) (by kernel_rfl) (p rfl))
theorem zt{f a}:(ic f a).length<=f.length+1:=by
 unfold ic
 split
 .exact aa (bF ..)<|Nat.le_refl _
 .split
  .refine aa (lz ..) ?_;omega
  .omega
theorem UD(n:Int):∃l:Ln,l.Ok/\∀σ,qZ [.int n] σ=some (cW l,σ):=by
 refine aw (UC n) λρ O t=>?_
 refine aw (lL n 6 (by decide)) λg H v=>?_
 refine aw (lL (n / 6) 6 (by decide)) λh I w=>?_
 refine aw (lL (n / 6 / 6) 2 (by decide)) λm J G=>?_
 refine aw (lL (n / 6 / 6 / 2) 4 (by decide)) λo K y=>?_
 refine aw (lL (n / 6 / 6 / 2 / 4) 6 (by decide)) λi L A=>?_
 refine aw (lL (n / 6 / 6 / 2 / 4 / 6) 3 (by decide)) λq M W=>?_
 refine aw (lL (n / 6 / 6 / 2 / 4 / 6 / 3) 4 (by decide)) λs N X=>?_
 have t:ρ "digits" =some (.list [iD g,iD h,iD m,iD o,iD i,iD q,iD s]):=t.trans (congrArg (λx:List Int=>some (D.list (x.map .int))) (show y9 n= [(g:Int),h,m,o,i,q,s] by
  unfold y9;exact aa (show n % 6=g from H)<|aa (show n / 6 % 6=h from I)<|aa (show n / 6 / 6 % 2=m from J)<|aa (show n / 6 / 6 / 2 % 4=o from K)<|aa (show n / 6 / 6 / 2 / 4 % 6=i from L)<|aa (show n / 6 / 6 / 2 / 4 / 6 % 3=q from M)<|aa (show n / 6 / 6 / 2 / 4 / 6 / 3 % 4=s from N) rfl))
 have v:g<6:=Int.ofNat_lt.mp v
 have w:h<6:=Int.ofNat_lt.mp w
 have G:m<2:=Int.ofNat_lt.mp G
 have y:o<4:=Int.ofNat_lt.mp y
 have A:i<6:=Int.ofNat_lt.mp A
 refine⟨⟨g,h,i,o,m==1,q,s⟩,⟨v,w,A,y,Int.ofNat_lt.mp W,Int.ofNat_lt.mp X⟩,λσ=>f_hide ?_⟩
 have R:ME.aI (.comp (.of (.list [(.int 0),(.int 1),(.int 4)])) (.name "place") [] (.elt (.idx (.list [(.str "a"),(.str "b"),(.str "ab"),(.str ".."),(.str "."),(.str "")]) (.idx (.var "digits") (.var "place")))) [".0","place"] (.list [])) ρ MH.nil=some (.list [.str (pc g),.str (pc h),.str (pc i)],MH.nil):=by
  refine eV [(0,g),(1,h),(4,i)] (λx=>iD x.1) (λx=>.str (pc x.2)) (cU (j9 (aS rfl (aS rfl (aS rfl bA))) (dO rfl))) (λj=>rfl) (by decide) (λx u ae Q S=>?_) (dO rfl)
  have B:=(Q "digits" (by decide)).trans t
  refine aJ (d:=.list [.str "a",.str "b",.str "ab",.str "..",.str ".",.str ""]) rfl (aJ (r:=iD x.2) (av B) (av S) ?_) ?_
  .simp only [n5,bQ,or_false] at u
   rcases u with rfl| rfl| rfl<;>rfl
  .refine T_ ?_
   simp only [n5,bQ,or_false] at u
   rcases u with rfl| rfl| rfl<;>assumption
 let b:=(ρ.set "pieces" (.list [.str (pc g),.str (pc h),.str (pc i)])).set "names" (fD [])
 refine bI (AV (ρ:=b.set "piece" (.str (pc g))) (σ:=MH.nil) v rfl rfl (by decide)) λe t1 Y T=>?_
 refine bI (AV (ρ:=e.set "piece" (.str (pc h))) (σ:=MH.nil) w rfl Y (aE zt (by decide))) λf t2 Z U=>?_
 refine bI (AV (ρ:=f.set "piece" (.str (pc i))) (σ:=MH.nil) A rfl Z (aE zt (aE (jZ zt) (by decide)))) λc t3 n3 V=>?_
 have look:∀z,z≠ "names" ->z≠ "piece" ->c z=b z:=λz E p=>by
  exact aa (V z E ..)<|aa (show(f.set "piece" (.str (pc i))) z=f z from if_neg p)<|aa (U z E ..)<|aa (show(e.set "piece" (.str (pc h))) z=e z from if_neg p)<|aa (T z E ..)<|aa (show(b.set "piece" (.str (pc g))) z=b z from if_neg p) rfl
 have k:c "digits" =some (.list [iD g,iD h,iD m,iD o,iD i,iD q,iD s]):=(look _ (by decide) (by decide)).trans t
 have C:c "pieces" =some (.list [.str (pc g),.str (pc h),.str (pc i)]):=look _ (by decide) (by decide)
 refine qn (F:=bO (bind1 "number") GD) (ab:=MH.nil) rfl (fx rfl (UT O (aK (bt R) (aK (bt rfl) (aK (ae:=c) (ab:=MH.nil) (bs (a:=(fj (.list [.str (pc g),.str (pc h),.str (pc i)]),4,MH.nil)) rfl (r9 (body:=tc) rfl t1 (r9 rfl t2 (r9 rfl t3 rfl)))) (fC (iK (aS (av C) (aS (av n3) (aS (aJ (d:=.list [.str "",.str "a",.str "b",.str "ab"]) rfl (aJ (r:=iD o) (av k) rfl rfl) (Oy y)) (aS (d:=.bool (m==1)) (aJ (aJ (r:=iD m) (av k) rfl rfl) rfl ?_) (aS (aJ (r:=iD q) (av k) rfl rfl) (aS (aJ (r:=iD s) (av k) rfl rfl) bA)))))) (dO rfl)))))))) ?_
 .exact c2 (P:=λa=>uQ (iD a) (.int 1) MH.nil=some (.bool (a==1))) G rfl rfl
 .exact sf rfl (show(true && ((((ic (ic (ic [] g) h) i).map nm).map D.str).all (noRef 3) && true))=true by exact aa (Aw ..) rfl)
end
noncomputable def dk (v:List Nat->D) (fs:List (List Nat)):List (aj×D):=fs.map λg=>(aR g,v g)
def dZ(fs:List (List Nat)):Prop:=∀g∈fs,g∈b7
theorem uJ{v fs g}(h:dZ fs)(d:g∈b7):(dk v fs).lookup (aR g)=if g∈fs then some (v g) else none:=by
 induction fs with
 | nil=>rfl
 | cons a fs c=>
  have c:=c λx f=>h x (bT _ f)
  show KQ (aR g) ((aR a,v a)::dk v fs)=_
  refine aa (dI ..) ?_
  by_cases e:g=a
  .exact aa (e ..)<|aa (beq_self_eq_true ..)<|aa (if_pos a0 ..) rfl
  .refine aa (show(aR g==aR a)=false from beq_eq_false_iff_ne.mpr λq=>e (qo d (h a a0) q)) ?_
   show(dk v fs).lookup (aR g)=_
   exact aa (c ..)<|ite_congr (propext ⟨bT _,λq=>(List.mem_cons.mp q).resolve_left e⟩) (λb=>rfl) λb=>rfl
theorem h7{v fs g}(h:dZ fs)(a:g∈fs):(dk v fs).lookup (aR g)=some (v g):=(uJ h (h g a)).trans (if_pos a)
theorem Mi{a:List (aj×D)}{k:aj}(h:a.lookup k=none):a.any (λp=>p.1=k)=false:=by
 induction a with
 | nil=>rfl
 | cons p r b=>
  rw [dI] at h
  refine aa (pL ..) ?_
  induction hb:k==p.1 with
  | true=>rw [hb] at h;cases h
  | false=>rw [hb] at h;exact aa (b h ..)<|aa (show decide (p.1=k)=false from decide_eq_false λq=>by rw [q,beq_self_eq_true] at hb;cases hb) rfl
theorem uK{v fs g}(h:dZ fs)(a:g∈b7)(b:g∉fs):eF (dk v fs) (aR g) (v g)=dk v (fs++ [g]):=by
 unfold eF
 refine aa (Mi ((uJ h a).trans (if_neg b)) ..) ?_
 unfold dk
 exact aa (ey ..) rfl
theorem oC{v fs}:(dk v fs).length=fs.length:=aZ _
theorem VM:(b7.all λf=>r4 λc=>b7.contains (f.take c))=true:=by kernel_rfl
theorem Bi{f c}(h:f∈b7):f.take c∈b7:=by
 by_cases a:c<4
 .exact List.contains_iff_mem.mp (ta (List.all_eq_true.mp VM f h) a)
 .exact aa (xE (aE (gm h).mZ (by lia)))<|h
noncomputable def cP (g:List Nat):List (List Nat):=(dv (g.length+1)).map g.take
noncomputable def fQ (g:List Nat):D:=.list ((cP g).map λx=>.str (aR x))
noncomputable def addW (fs:List (List Nat)) (g:List Nat):List (List Nat):=if g∈fs then fs else fs++ [g]
noncomputable def ups (f:List Nat):List (List Nat):=(dv f.length).map λi=>f.take (f.length - i)
noncomputable def iB (fs:List (List Nat)) (l:Ln):List (List Nat):=(ups l.f).foldl addW fs
noncomputable def oN (ls:List Ln):List (List Nat):=ls.foldl iB [[]]
theorem C3{fs g}(h:dZ fs)(b:g∈b7):dZ (addW fs g):=by
 unfold addW
 split
 .exact h
 .exact λx a=>(List.mem_append.mp a).elim (h x) λa=>(List.mem_singleton.mp a)▸b
theorem Bc{xs:List aj}:strsOf (xs.map .str)=some xs:=by
 induction xs with
 | nil=>rfl
 | cons x xs b=>exact bs (a:=x) rfl (bs b rfl)
theorem AA{x:aj}{xs:List aj}{σ:MH}{d:D}(e:bU σ d=some (xs.map .str))(b:t5 x xs=true)(c:fB (iZ x xs)=true):FP (.str x) d σ=some (.str (iZ x xs)):=
 bs (a:=x) rfl (bs e (bs Bc ((if_pos b).trans (if_pos c))))
theorem A6{xs:List D}{c:Nat}(h:c<=xs.length):jQ xs none (some (c:Int))=xs.take c:=by
 show(xs.drop 0).take (iI xs.length c - 0)=_
 exact aa (uD h ..) rfl
theorem A5{xs:List D}{c:Nat}(h:c<=xs.length):jQ xs (some (c:Int)) none=xs.drop c:=by
 show(xs.drop (iI xs.length c)).take (xs.length - iI xs.length c)=_
 exact aa (uD h ..)<|List.take_of_length_le (by exact aa (t9 ..)<|Nat.le_refl _)
theorem zd{ρ:aC}{σ:MH}{m:ME}{f:List Nat}(a:f∈b7)(h:m ρ σ=some (fD f,σ)):(ME.add (.str "/") (.bh jd (.str "/") m)) ρ σ=some (.str (aR f),σ):=
 have k:=gm a
 aJ (d:=.str "/") (e:=.str (iZ "/" (f.map nm))) rfl (aJ (d:=.str "/") rfl h (AA rfl k.FQ k.FR)) (sV k.len)
theorem OL{f:List Nat}{c:Nat}(h:c<=f.length):jQ ((f.map nm).map D.str) none (some (c:Int))=(((f.take c).map nm).map .str):=by
 exact aa (A6 (by rw [aZ,aZ];exact h))<|aa (.symm (t_ ..))<|aa (.symm (t_ ..)) rfl
theorem rZ{ρ:aC}{σ:MH}{m:ME}{l:Ln}(h:m ρ σ=some (cW l,σ)):(ME.idx m (.int 1)) ρ σ=some (fD l.f,σ):=aJ h rfl rfl
theorem su{xs:List D}{x:D}:ef (xs++ [x]) (-1)=some x:=by
 show sq (xs++ [x]) (-1)=_
 unfold sq
 exact aa (bF ..)<|aa (if_pos (by show -((xs.length:Int)+1)<= -1;lia))<|aa (show((-1:Int)+((xs.length+ [x].length:Nat):Int)).toNat=xs.length by show((-1:Int)+((xs.length:Int)+1)).toNat=_;rw [J6,J7];rfl)<|lM
theorem Bs{f:List Nat}:cP f=(dv f.length).map f.take++ [f]:=by
 unfold cP
 exact aa (Cv ..)<|aa (ey ..)<|aa (xy ..)<|aa (Cy ..) rfl
theorem Wu{f:List Nat}{s:Nat}(h:s<=f.length):cP (f.take s)=(dv (s+1)).map f.take:=by
 unfold cP
 refine aa (Cm ..)<|aa (ud h ..) ?_
 refine kD λc a=>?_
 exact aa (Cz ..)<|aa (ud (rJ (List.mem_range.mp a)) ..) rfl
noncomputable def sG:ME:=.aI (.comp (.gT (.add (.var "size") (.int 1))) (.name "cut") [] (.elt (.add (.str "/") (.bh jd (.str "/") (.slice (.idx (.var "line") (.int 1)) .none (some (.var "cut")))))) [".0","cut"] (.list []))
theorem Ow{ρ:aC}{σ:MH}{l:Ln}{s:Nat}(hl:l.f∈b7)(h:ρ "line" =some (cW l))(k:ρ "size" =some (iD s))(g:s<=l.f.length):sG ρ σ=some (fQ (l.f.take s),σ):=by
 have o:=(gm hl).mZ
 have e:fQ (l.f.take s)=.list ((dv (s+1)).map λc=>.str (aR (l.f.take c))):=by
  unfold fQ;exact aa (Wu g ..)<|aa (fe ..) rfl
 refine aa (e ..) ?_
 refine eV (dv (s+1)) (λi=>.int (0+(i:Int)*1)) (λc=>.str (aR (l.f.take c))) (at_:=ie (gU 0 1 (s+1))) ?_ (λj=>rfl) (by decide) (λc b ae m n=>?_) (by exact aa (hX ..)<|cf (by lia))
 .exact aa (aZ ..)<|aa (hX ..)<|sk (aJ (r:=.int ((s+1:Nat):Int)) (av k) rfl rfl) (cf (by lia))
 .have b:c<=l.f.length:=aE (rJ (List.mem_range.mp b)) g
  refine zd (Bi hl) ?_
  unfold fD
  exact aa (.symm (OL b ..))<|kc (d:=fD l.f) (rZ (av ((m "line" (by decide)).trans h))) rfl rfl (bs (av n) (bs (a:=(c:Int)) (by show some (0+(c:Int)*1)=_;exact aa (B6 ..)<|aa (Kd ..) rfl) rfl)) rfl
theorem G5{σ:MH}{i:Nat}{a:List (aj×D)}{s:aj}(h:σ.cell i=some (.dict a)):mT σ (.str s) (.ref i)=some (a.lookup s).isSome:=by
 show(match bU σ (.ref i) with| some xs=>_| none=>(j1 σ (.ref i)).bind _)=_
 exact aa (show bU σ (.ref i)=none from show(σ.cell i).bind (λc=>c.ij)=_ from bs h rfl)<|bs (yk h) rfl
theorem cb{σ:MH}{i:Nat}{c:Cell}:(σ.put i c).cell i=some c:=if_pos rfl
theorem aH{σ:MH}{i j:Nat}{c:Cell}(h:j≠i):(σ.put i c).cell j=σ.cell j:=if_neg h
theorem ye{fs:List (List Nat)}{g}:(addW fs g).length<=fs.length+1:=by
 unfold addW
 split
 .exact dD _
 .exact aa (bF ..)<|Nat.le_refl _
structure mA(fs:List (List Nat))(ρ:aC)(σ:MH):Prop where
 w:ρ "ways" =some (.ref 0)
 c:σ.cell 0=some (.dict (dk fQ fs))
 i:dZ fs
 z:fs.length<=100
theorem Wv{fs:List (List Nat)}{ρ:aC}{σ:MH}{l:Ln}{s:Nat}(hl:l.f∈b7)(h:mA fs ρ σ)(b:ρ "line" =some (cW l))(p:ρ "size" =some (iD s))(r:s<=l.f.length)(n:fs.length<100):
 ∃ae ab,MS.cons (.assign (.name "way") sG) (.ite (.val (.jg (.idx (.var "way") (.neg (.int 1))) (.var "ways"))) (.assign (.sub (.var "ways") (.idx (.var "way") (.neg (.int 1)))) (.var "way")) .nil) ρ σ=some (.next,ae,ab)/\mA (addW fs (l.f.take s)) ae ab/\ae "line" =some (cW l)/\ae "lines" =ρ "lines" :=by
 have a:=Bi (c:=s) hl
 generalize e:l.f.take s=g at a
 have m:sG ρ σ=some (fQ g,σ):=e▸Ow hl b p r
 have o:fQ g=.list (((dv g.length).map λc=>.str (aR (g.take c)))++ [.str (aR g)]):=by unfold fQ;exact aa (Bs ..)<|aa (ey ..)<|aa (fe ..) rfl
 have k:∀σ,(ME.idx (.var "way") (.neg (.int 1))) (ρ.set "way" (fQ g)) σ=some (.str (aR g),σ):=λσ=>aJ (d:=fQ g) (e:=.int (-1)) rfl rfl (by exact aa (o ..)<|su)
 have j:(MB.val (.jg (.idx (.var "way") (.neg (.int 1))) (.var "ways"))) (ρ.set "way" (fQ g)) σ=some (!decide (g∈fs),σ):=cz (aJ (k σ) (av h.w) (AD ((G5 h.c).trans (by refine aa (uJ h.i a ..) ?_;by_cases q:g∈fs<;>simp [q]))))
 refine(?_:∃ae ab,_/\_/\_/\_)
 by_cases q:g∈fs
 .exact⟨_,_,aK (bt m) (d_ (j.trans (by exact aa (decide_eq_true q ..) rfl)) rfl),by unfold addW;exact aa (if_pos q ..)<|⟨h.w,h.c,h.i,h.z⟩,b,rfl⟩
 .refine⟨_,_,aK (bt m) (iO (j.trans (by exact aa (decide_eq_false q ..) rfl)) (eo (d:=fQ g) rfl (tA (av h.w) (k σ) h.c (by exact aa (oC ..)<|Nat.lt_of_lt_of_le n (by decide))))),⟨h.w,?_,C3 h.i a,aE ye n⟩,b,rfl⟩
  refine aa (cb ..)<|aa (uK h.i a q ..) ?_
  unfold addW
  exact aa (if_neg q ..) rfl
theorem EW{gs fs:List (List Nat)}:(gs.foldl addW fs).length<=fs.length+gs.length:=by
 induction gs generalizing fs with
 | nil=>exact bb _
 | cons g gs a=>exact aE a (by refine aa (gM ..) ?_;have:=ye (fs:=fs) (g:=g);lia)
theorem OY{a fs:List (List Nat)}(h:dZ fs)(b:dZ a):dZ (a.foldl addW fs):=by
 induction a generalizing fs with
 | nil=>exact h
 | cons g a d=>exact d (C3 h (b g a0)) λx c=>b x (bT _ c)
theorem Wg{f}(h:f∈b7):dZ (ups f):=λg c=>by
 refine aw (List.mem_map.mp c) λi a b=>?_;obtain rfl:=b
 exact Bi h
theorem Ww{fs:List (List Nat)}{ρ:aC}{σ:MH}{l:Ln}(hl:l.Ok)(h:mA fs ρ σ)(n:ρ "line" =some (cW l))(F:fs.length+3<=100):
 ∃q,MS.cD (.pd (.ax bW (.idx (.var "line") (.int 1)))) (.name "size") (.cons (.assign (.name "way") sG) (.ite (.val (.jg (.idx (.var "way") (.neg (.int 1))) (.var "ways"))) (.assign (.sub (.var "ways") (.idx (.var "way") (.neg (.int 1)))) (.var "way")) .nil)) ρ σ=some q/\(q.1=.next/\mA (iB fs l) q.2.1 q.2.2/\q.2.1 "lines" =ρ "lines"):=by
 have E:=(gm hl.f).mZ
 refine A0 (dv l.f.length) (λi=>.int ((l.f.length:Int)+(i:Int)*(-1))) (λL ae ab=>mA ((L.map λi=>l.f.take (l.f.length - i)).foldl addW fs) ae ab/\ae "line" =some (cW l)/\ae "lines" =ρ "lines" /\L.length<=3) (λx ae ab=>x=.next/\mA (iB fs l) ae ab/\ae "lines" =ρ "lines")
  (ao:=σ) (at_:=ie (gU l.f.length (-1) l.f.length)) ?_ (λb b b b b=>rfl) ⟨h,n,rfl,fW _⟩ (λL i r ae ab o m=>eP m λk B C G=>?_) λae ab k=>⟨rfl,k.1,k.2.2.1⟩
 .refine aa (aZ ..)<|aa (hX ..) ?_
  have A:wd (l.f.length:Int) (-1) (l.f.length:Int)=_:=HA l.f.length rfl (cf (by lia))
  have hl:(ME.ax bW (.idx (.var "line") (.int 1))) ρ σ=some (iD l.f.length,σ):=eD (d:=fD l.f) (rZ (av n)) ?_
  .exact bs hl (bs (a:=(l.f.length:Int)) rfl (bs A rfl))
  show some (D.int (((l.f.map nm).map D.str).length:Nat))=_
  exact aa (aZ ..)<|aa (aZ ..) rfl
 .have e:(dv l.f.length).length=L.length+(r.length+1):=by exact aa (o ..)<|aa (bF ..) rfl
  rw [hX] at e
  have y:i<l.f.length:=List.mem_range.mp (o▸d0 _ a0)
  have v:(.int ((l.f.length:Int)+(i:Int)*(-1)):D)=iD (l.f.length - i):=congrArg D.int (by refine aa (Int.mul_neg ..)<|aa (B6 ..) ?_;lia)
  refine nI (Wv (fs:=(L.map λi=>l.f.take (l.f.length - i)).foldl addW fs) (ρ:=ae.set "size" (iD (l.f.length - i))) (σ:=ab) hl.f ⟨k.w,k.c,k.i,k.z⟩ B rfl (rL _ _) (ee EW (by refine aa (aZ ..) ?_;lia))) λg j p s t u=>?_
  refine⟨(.next,g,j),(congrArg (λd=>turn _ _ d ae ab) v).trans (bs rfl p),?_,t,u.trans C,by refine aa (bF ..) ?_;show L.length+1<=3;lia⟩
  exact aa (ey ..)<|aa (xu ..)<|s
theorem OZ{a:List Ln}(h:∀l∈a,l.Ok):∀{fs:List (List Nat)},dZ fs->dZ (a.foldl iB fs):=by
 induction a with
 | nil=>exact λh=>h
 | cons l a d=>exact λb=>d (λx c=>h x (bT _ c)) (OY b (Wg (h l a0).f))
theorem GX:dZ [[]]:=λg a=>(List.mem_singleton.mp a)▸by decide
theorem E4{f:D->Option D}:∀{a:List (aj×D)},(∀p∈a,f p.2=some p.2)->sd f a=some a
 | [],_=>rfl
 | p::ps,h=>bs (h p a0) (bs (E4 λx b=>h x (bT _ b)) rfl)
theorem lY{α:Type}{k:Nat}{g:α->D}{xs:List α}(h:∀x∈xs,noRef k (g x)=true):(xs.map g).all (noRef k)=true:=by
 exact aa (ry ..)<|List.all_eq_true.mpr h
theorem G2{l:Ln}{k:Nat}:noRef (k+3) (cW l)=true:=by
 show(true && ((fD l.f|>noRef (k+2)) && true))=true
 exact aa (show noRef (k+2) (fD l.f)=true from Aw) rfl
theorem Wh{f}:(ups f).length=f.length:=by unfold ups;exact aa (aZ ..)<|aa (hX ..) rfl
theorem EZ{ls:List Ln}(h:∀l∈ls,l.Ok):∀{fs:List (List Nat)},(ls.foldl iB fs).length<=fs.length+3*ls.length:=by
 induction ls with
 | nil=>exact bb _
 | cons l ls d=>
  intro fs
  have e:=(gm (h l a0).f).mZ
  have a:=EW (gs:=ups l.f) (fs:=fs)
  rw [Wh] at a
  have b:=d (λx c=>h x (bT _ c)) (fs:=iB fs l)
  refine aa (gM ..) ?_
  show(ls.foldl iB (iB fs l)).length<=_
  unfold iB at b ⊢
  lia
theorem Wx{b:List Ln}(h:∀l∈b,l.Ok)(E:b.length<=20)(σ:MH):q7 [.list (b.map cW)] σ=some (.dict (dk fQ (oN b)),σ):=by
 refine jO b cW (t:=.name "line") (body:=.cD (.pd (.ax bW (.idx (.var "line") (.int 1)))) (.name "size") (.cons (.assign (.name "way") sG) (.ite (.val (.jg (.idx (.var "way") (.neg (.int 1))) (.var "ways"))) (.assign (.sub (.var "ways") (.idx (.var "way") (.neg (.int 1)))) (.var "way")) .nil)))
  (λL ae ab=>mA (L.foldl iB [[]]) ae ab/\∃r,b=L++r) (λe ae ab=>e=.next/\mA (oN b) ae ab) (mi:=.of (.var "lines")) (ρ:=(c_ [("lines",.list (b.map cW))]).set "ways" (.ref 0)) (σ:=MH.nil.new (.dict [(au "/",.list [.str "/"])])) (cU rfl) (λa a a a a=>rfl)
  ⟨⟨rfl,by kernel_rfl,GX,by decide⟩,b,rfl⟩ (λL l r ρ σ hl j=>aA j λk a=>by
    have C:L.length+(r.length+1)=b.length:=by exact aa (hl ..)<|aa (bF ..) rfl
    have D:=EZ (ls:=L) (λx v=>h x (hl▸jY _ v)) (fs:=[[]])
    refine dG (Ww (ρ:=ρ.set "line" (cW l)) (σ:=σ) (h l (hl▸d0 _ a0)) ⟨k.w,k.c,k.i,k.z⟩ rfl (by have:([[]]:List (List Nat)).length=1:=rfl;lia)) λq y A B G=>?_
    obtain⟨e,ae,ab⟩:=q
    obtain rfl:e=.next:=A
    refine⟨_,bs rfl y,?_,r,by exact aa (iW ..)<|hl⟩
    exact aa (xu ..)<|B) (λρ σ k=>⟨rfl,k.1⟩) λe ae ab n s=>?_
 refine aA s λo m=>?_
 obtain rfl:e=.next:=o
 refine f_hide (qn (F:=bO (bind1 "lines") GG) (d:=.ref 0) (ab:=ab) ?_ (fx rfl (aK (bt rfl) (aK n (fC (av m.w))))) (bs m.c (bs (E4 λp u=>?_) rfl)))
 .exact Bool.and_eq_true_iff.mpr ⟨lY λa a=>G2,rfl⟩
 .refine aw (List.mem_map.mp u) λg a f=>?_;obtain rfl:=f
  exact if_pos (lY λa a=>rfl)
structure Pl where
 ag:List aj
 ms:List Nat
 dl:Option Nat
 rt:Option Nat
noncomputable def oD:Option Nat->D| none=>.none| some n=>iD n
noncomputable def gh (a:List aj):D:=.list (a.map .str)
noncomputable def cZ (mk:List Nat):D:=.list (mk.map iD)
noncomputable def b_ (p:Pl):D:=.tup [gh p.ag,cZ p.ms,oD p.dl,oD p.rt]
noncomputable def A3:List aj:=["fig","Plum","*"]
structure Pl.Ok(p:Pl):Prop where
 ag:∀a∈p.ag,a∈A3
 al:p.ag.length<=3
theorem oS{xs:List D}{i:Nat}:ef xs (i:Int)=xs[i]?:=by
 delta ef
 exact aa (decide_eq_true (pJ i) ..) rfl
theorem we{n:Nat}:gU 0 1 n=(dv n).map iD:=kD λi a=>congrArg D.int (by exact aa (B6 ..)<|aa (Kd ..) rfl)
theorem IY{α:Type}{a:List α}:a.zipIdx.map (λp=>iD p.2)=gU 0 1 a.length:=by
 exact aa (we ..)<|aa (show a.zipIdx.map (λp=>iD p.2)=(a.zipIdx.map Prod.snd).map iD by rw [fe];rfl)<|aa (K0 ..)<|congrArg _ List.range_eq_range'.symm
theorem IX{α:Type}{a:List α}{p:α×Nat}(h:p∈a.zipIdx):a[p.2]?=some p.1:=List.mem_zipIdx_iff_getElem?.mp h
noncomputable def dF (ls:List Ln) (f:List Nat):List Nat:=(ls.zipIdx.filter λp=>p.1.f==f).map (·.2)
theorem wz{x y:aj}:fg (.str x) (.str y)=(x==y):=rfl
theorem AK{f g}(a:f∈b7)(b:g∈b7):(aR f==aR g)=(f==g):=by
 by_cases h:f=g
 .exact aa (h ..)<|aa (beq_self_eq_true ..)<|aa (beq_self_eq_true ..) rfl
 .exact aa (beq_eq_false_iff_ne.mpr h ..)<|beq_eq_false_iff_ne.mpr λq=>h (qo a b q)
theorem uN{ρ:aC}{σ:MH}{x:String}{a:List Ln}{p:Ln×Nat}(b:ρ "lines" =some (.list (a.map cW)))(c:ρ x=some (iD p.2))(d:p∈a.zipIdx):(ME.idx (.var "lines") (.var x)) ρ σ=some (cW p.1,σ):=
 aJ (av b) (av c) (show ef (a.map cW) (p.2:Int)=_ by exact aa (oS ..)<|aa (gg ..)<|aa (IX d ..) rfl)
noncomputable def RP:ME:=.aI (.comp (.gT (.ax bW (.var "lines"))) (.name "mark") [(.val (.eq (.add (.str "/") (.bh jd (.str "/") (.idx (.idx (.var "lines") (.var "mark")) (.int 1)))) (.var "folder")))] (.elt (.var "mark")) [".0","mark"] (.list []))
theorem Qs{α:Type}{m:ME}{ρ:aC}{σ ao:MH}{a:List α}(h:m ρ σ=some (iD a.length,ao))(b:a.length<=1000):MI.gT m ρ σ=some (ie (gU 0 1 a.length),(a.zipIdx.map λp=>iD p.2).length+1,ao):=by
 exact aa (IY ..)<|aa (UB ..)<|sk h (cf b)
theorem len_list{ρ:aC}{σ:MH}{m:ME}{xs:List D}{n:Nat}(h:m ρ σ=some (.list xs,σ))(a:xs.length=n):(ME.ax bW m) ρ σ=some (iD n,σ):=eD h (a▸rfl)
theorem Ot{ρ:aC}{σ:MH}{b:List Ln}{f:List Nat}(hl:∀l∈b,l.Ok)(k:b.length<=20)(n:f∈b7)(d:ρ "lines" =some (.list (b.map cW)))(m:ρ "folder" =some (.str (aR f))):RP ρ σ=some (cZ (dF b f),σ):=by
 have e:cZ (dF b f)=.list ((b.zipIdx.filter λp=>p.1.f==f).map λp=>iD p.2):=by delta cZ dF;exact aa (fe ..) rfl
 refine aa (e ..) ?_
 refine mO b.zipIdx (λp=>iD p.2) _ (λp=>iD p.2) (Qs (len_list (av d) (aZ _)) (aE k (by decide))) (λj=>by exact aa (IY ..) rfl) (by decide) (λp h ae g i=>⟨?_,λa=>av i⟩) (by exact aa (xw ..)<|cf (aE k (by decide)))
 have c:=hl p.1 (Kx h)
 refine cz (aJ (zd c.f (rZ (uN ((g _ (by decide)).trans d) i h))) (av ((g _ (by decide)).trans m)) (r:=.bool (p.1.f==f)) ?_)
 exact aa (.symm (AK c.f n ..))<|ji (p:=.str (aR p.1.f)) (q:=.str (aR f)) rfl rfl
theorem jM{a:List Ln}{f:List Nat}{i:Nat}:i∈dF a f↔ ∃l,a[i]?=some l/\l.f=f:=by
 delta dF
 rw [xB]
 constructor
 .rintro ⟨p,b,rfl⟩
  have:=List.mem_filter.mp b
  exact⟨p.1,IX this.1,eq_of_beq this.2⟩
 .rintro ⟨l,h,e⟩
  exact⟨(l,i),List.mem_filter.mpr ⟨List.mem_zipIdx_iff_getElem?.mpr h,beq_iff_eq.mpr e⟩,rfl⟩
theorem sM{ls:List Ln}{f:List Nat}:(dF ls f).length<=ls.length:=by
 delta dF
 exact aa (aZ ..)<|Nat.le_trans (iX ..) (bN xw)
theorem Qt{xs:List D}{d:D}:∃x∈d::xs,ef (d::xs) (-1)=some x:=by
 refine ew (List.eq_nil_or_concat (d::xs)|>.resolve_left (by simp)) λa y e=>?_
 exact aa (e ..)<|⟨y,by simp,by exact aa (List.concat_eq_append ..)<|su⟩
theorem ED{xs:List D}{σ:MH}{d:D}{j:Nat}(h:bU σ d=some xs):uP d σ j=some (xs.zipIdx.map λp=>.tup [iD p.2,p.1])[j]?:=by
 refine bs h (congrArg some ?_)
 refine aa (gg ..)<|aa (Kz ..) ?_
 induction xs[j]? with
 | none=>rfl
 | some x=>rw [pV,pV,pV,rM];rfl
theorem Fx{m:ME}{ρ:aC}{σ ao:MH}{d:D}{xs:List D}(h:m ρ σ=some (d,ao))(k:bU ao d=some xs):MI.enum m ρ σ=some (uP d,(xs.zipIdx.map λp=>D.tup [iD p.2,p.1]).length+1,ao):=by
 exact aa (aZ ..)<|aa (xw ..)<|bs h (bs k rfl)
theorem C8{own:List String}{x e:String}{b:MB}{m:ME}{y f d:D}{c:Bool}{ρ:aC}{σ:MH}(o:x∈own)(j:e∈own)(i:x≠e)(h:∀ae,Agree own ρ ae->ae x=some y->ae e=some f->b ae σ=some (c,σ)/\m ae σ=some (d,σ)):
 ma own (.tup [.name x,.name e]) [b] (.elt m) (.tup [y,f]) ρ σ (if c then [d] else []):=λae n l p=>by
 have g:Agree own ρ ((ae.set x y).set e f):=(l.set o).set j
 have k:=h _ g ((if_neg i).trans (if_pos rfl)) (if_pos rfl)
 induction c with
 | true=>exact⟨_,bs (a:=((ae.set x y).set e f,σ)) rfl (bs (qb k.1) (wR k.2 p)),g⟩
 | false=>exact⟨_,bs (a:=((ae.set x y).set e f,σ)) rfl (bs (qb k.1) (by exact aa (if_neg (by decide))<|aa (hW ..) rfl)),g⟩
noncomputable def RO:ME:=.aI (.comp (.enum (.list [(.str "fig"),(.str "Plum"),(.str "*")])) (.tup [(.name "place"),(.name "name")]) [(.val (.ne (.var "place") (.idx (.add (.aI (.comp (.of (.var "mine")) (.name "mark") [] (.elt (.idx (.idx (.var "lines") (.var "mark")) (.int 5))) [".0","mark"] (.list []))) (.list [(.int 3)])) (.int 0))))] (.elt (.var "name")) [".0","place","name"] (.list []))
noncomputable def wU:List (D×Nat):=(A3.map D.str).zipIdx
noncomputable def j0 (g:Int):List aj:=(A3.zipIdx.filter λp=>(p.2:Int) !=g).map (·.1)
theorem C9(g:Int):(∀a∈j0 g,a∈A3)/\0<(j0 g).length/\(j0 g).length<=3:=by
 refine⟨λa c=>?_,?_,?_⟩
 .refine aw (List.mem_map.mp c) λp d b=>?_;obtain rfl:=b
  exact Kx (List.mem_filter.mp d).1
 .delta j0
  refine List.length_pos_of_mem (a:=(if g=0 then "Plum" else "fig" :aj)) (List.mem_map.mpr ?_)
  by_cases h:g=0
  .exact⟨("Plum",1),List.mem_filter.mpr ⟨by decide,by exact aa (h ..) rfl⟩,(if_pos h).symm⟩
  .exact⟨("fig",0),List.mem_filter.mpr ⟨by decide,bne_iff_ne.mpr λq=>h q.symm⟩,(if_neg h).symm⟩
 .delta j0
  exact aa (aZ ..)<|Nat.le_trans (iX ..) (by decide)
def oX(d:D):Prop:=∃i:Int,d=.int i
theorem Fj{xs:List D}(h:∀d∈xs,oX d){k:Int}:∃i:Int,(xs++ [.int k])[0]?=some (.int i):=by
 induction xs with
 | nil=>exact⟨k,rfl⟩
 | cons x xs=>refine aL (h x a0) λi a=>?_;obtain rfl:=a;exact⟨i,rfl⟩
theorem Om{ρ:aC}{σ:MH}{ls:List Ln}{f:List Nat}(A:ls.length<=20)(v:ρ "lines" =some (.list (ls.map cW)))(w:ρ "mine" =some (cZ (dF ls f))):∃g,RO ρ σ=some (gh (j0 g),σ):=by
 have y:=aE (sM (ls:=ls) (f:=f)) A
 have s:∀own,(∀z,z∈ ["lines","mine"]->z∉own)->∃g:Int,∀ae,Agree own ρ ae->(ME.idx (.add (.aI (.comp (.of (.var "mine")) (.name "mark") [] (.elt (.idx (.idx (.var "lines") (.var "mark")) (.int 5))) [".0","mark"] (.list []))) (.list [(.int 3)])) (.int 0)) ae σ=some (.int g,σ):=λown u=>by
  have o:∃b:List D,(∀d∈b,oX d)/\b.length<=20/\∀ae,Agree own ρ ae->ME.aI (.comp (.of (.var "mine")) (.name "mark") [] (.elt (.idx (.idx (.var "lines") (.var "mark")) (.int 5))) [".0","mark"] (.list [])) ae σ=some (.list b,σ):=by
   have:∃g:Nat->D,∀i∈dF ls f,oX (g i)/\∀ae,Agree own ρ ae->∀a,Agree [".0","mark"] ae a->a "mark" =some (iD i)->(ME.idx (.idx (.var "lines") (.var "mark")) (.int 5)) a σ=some (g i,σ):=by
    refine⟨λi=>((ls[i]?).map λl=>iD l.g).getD .none,λi h=>?_⟩
    refine aw (jM.mp h) λl hl B=>?_
    simp only [hl]
    exact⟨⟨l.g,rfl⟩,λae c a hb n=>aJ (uN (p:=(l,i)) ((hb _ (by decide)).trans ((c _ (u _ (by decide))).trans v)) n (List.mem_zipIdx_iff_getElem?.mpr hl)) rfl rfl⟩
   refine aL this λg m=>?_
   exact⟨(dF ls f).map g,λd x=>by refine aw (List.mem_map.mp x) λi h t=>?_;obtain rfl:=t;exact(m i h).1,by exact aa (aZ ..)<|y,λae c=>
    eV (dF ls f) iD g (cU (av ((c _ (u _ (by decide))).trans w))) (λj=>rfl) (by decide) (λi h a hb n=>(m i h).2 ae c a hb n) (cf (by lia))⟩
  refine bI o λb h hl o=>?_
  refine aL (Fj h (k:=3)) λg m=>?_
  exact⟨g,λae c=>aJ (d:=.list (b++ [D.int 3])) (e:=.int 0) (aJ (o ae c) (j9 (ds:=[.int 3]) rfl (by decide)) (jh (cf (by show b.length+1<=1000;lia)))) rfl (show ef (b++ [D.int 3]) ((0:Nat):Int)=some (D.int g) by exact aa (oS ..)<|m)⟩
 refine aL (s [".0","place","name"] (by decide)) λg m=>?_
 refine⟨g,?_⟩
 have e:gh (j0 g)=.list (wU.flatMap λp=>if (p.2:Int) !=g then [p.1] else []):=by
  delta gh j0 wU
  show D.list ((List.filter _ [(au "fig",0),(au "Plum",1),(au "*",2)]).map (·.1)|>.map D.str)=.list (Ks _ [(D.str "fig",0),(D.str "Plum",1),(D.str "*",2)])
  simp only [nZ,Ku,nY,List.filter_nil]
  split<;>split<;>split<;>rfl
 refine aa (e ..) ?_
 refine oE wU (λp=>.tup [iD p.2,p.1]) _ (Fx (d:=.list (A3.map .str)) rfl rfl) (λj=>ED rfl) (λp C=>C8 (by decide) (by decide) (by decide) λae c n r=>⟨cz (aJ (av n) (m ae c) (o9 (p:=.int p.2) (q:=.int g) rfl rfl)),av r⟩) ?_
 refine aE (bN ?_) (cf (aE (C9 g).2.2 (by decide)):(j0 g).length<=aP)
 have:=congrArg D.ij e
 have:=aM this
 exact aa (.symm (this ..))<|aa (aZ ..) rfl
theorem mJ{m:ME}{ρ:aC}{σ ao:MH}{i:Nat}(h:m ρ σ=some (iD i,ao)):jF (some m) ρ σ=some (some (i:Int),ao):=bs h rfl
theorem AB{a b:Int}{σ:MH}(h:0<b):Aj (.int a) (.int b) σ=some (.int (a % b)):=if_pos h
theorem Ov{ρ:aC}{σ:MH}{f:List Nat}{b:List aj}(q:0<b.length)(s:b.length<=3)(z:f.length<=20)(r:ρ "mine" =some (cZ f))(h:ρ "agents" =some (gh b)):
 ∃c,(∀a∈c,a∈b)/\c.length<=3/\(ME.slice (.slice (.add (.var "agents") (.var "agents")) (some (.mod (.idx (.add (.var "mine") (.list [(.int 0)])) (.int 0)) (.ax bW (.var "agents")))) .none) .none (some (.ax bW (.var "agents")))) ρ σ=some (gh c,σ):=by
 refine aL (Fj (xs:=f.map iD) (λd v=>by obtain⟨j,_,rfl⟩:=List.mem_map.mp v;exact⟨j,rfl⟩) (k:=0)) λi w=>?_
 have n:0<(b.length:Int):=Int.ofNat_lt.mpr q
 refine aw (lL i b.length (rj n)) λk y g=>?_
 have g:k<b.length:=Int.ofNat_lt.mp g
 have m:(ME.ax bW (.var "agents")) ρ σ=some (iD b.length,σ):=len_list (av h) (aZ _)
 have o:(ME.mod (.idx (.add (.var "mine") (.list [(.int 0)])) (.int 0)) (.ax bW (.var "agents"))) ρ σ=some (iD k,σ):=
  aJ (d:=.int i) (aJ (d:=.list (f.map iD++ [D.int 0])) (e:=.int 0) (aJ (av r) (j9 (ds:=[.int 0]) rfl (by decide)) (jh (cf (by show(f.map iD).length+1<=1000;refine aa (aZ ..) ?_;lia)))) rfl (show ef (f.map iD++ [D.int 0]) ((0:Nat):Int)=some (D.int i) by exact aa (oS ..)<|w)) m ((AB n).trans (congrArg (λx=>some (D.int x)) y))
 refine⟨((b++b).drop k).take b.length,λa t=>(List.mem_append.mp (xC (Cu t))).elim id id,aE (List.length_take_le ..) s,?_⟩
 have p:(ME.slice (.add (.var "agents") (.var "agents")) (some (.mod (.idx (.add (.var "mine") (.list [(.int 0)])) (.int 0)) (.ax bW (.var "agents")))) .none) ρ σ=some (gh ((b++b).drop k),σ):=by
  refine(kc (xs:=b.map D.str++b.map D.str) (l:=some (k:Int)) (u:=none) (aJ (av h) (av h) (jh (cf (by refine aa (aZ ..) ?_;lia)))) rfl (mJ o) rfl rfl).trans ?_
  exact aa (A5 (by rw [bF,aZ];lia))<|aa (.symm (ey ..))<|aa (.symm (xx ..)) rfl
 refine(kc (xs:=((b++b).drop k).map D.str) (l:=none) (u:=some (b.length:Int)) p rfl rfl (mJ m) rfl).trans ?_
 exact aa (A6 (by rw [aZ,t9,bF];lia))<|aa (.symm (t_ ..)) rfl
theorem Ew{ρ:aC}{σ:MH}{ls:List Ln}{f:List Nat}{c v:Nat}(w:v<10)(t:ls.length<=20)(m:ρ "lines" =some (.list (ls.map cW)))(n:ρ "mine" =some (cZ (dF ls f))):
 ∃ns:List Nat,(ME.add (.list [.none_]) (.aI (.comp (.of (.var "mine")) (.name "mark") [(.val (.eq (.idx (.idx (.var "lines") (.var "mark")) (.int 4)) (.int c)))] (.elt (.mul (.int v) (.var "mark"))) [".0","mark"] (.list [])))) ρ σ=some (.list (.none::ns.map iD),σ):=by
 have u:=aE (sM (ls:=ls) (f:=f)) t
 refine⟨((dF ls f).filter λi=>((ls[i]?.map λl=>l.k).getD 0)==c).map (v* ·),?_⟩
 refine aJ (d:=.list [.none]) (e:=.list (((dF ls f).filter λi=>((ls[i]?.map λl=>l.k).getD 0)==c).map λi=>iD (v*i))) rfl (mO (dF ls f) iD _ (λi=>iD (v*i)) (cU (av n)) (λj=>rfl) (by decide) (λi r ae o g=>?_) (cf (by lia))) ?_
 .refine aw (jM.mp r) λl hl a=>?_
  have s:i<ls.length:=(List.getElem?_eq_some_iff.mp hl).1
  refine⟨cz ?_,λa=>aJ (d:=.int v) (e:=.int i) rfl (av g) (if_pos ⟨by show v<1000000;lia,by show i<1000000;lia⟩)⟩
  have h:(ME.idx (.idx (.var "lines") (.var "mark")) (.int 4)) ae σ=some (iD l.k,σ):=aJ (uN (p:=(l,i)) ((o _ (by decide)).trans m) g (List.mem_zipIdx_iff_getElem?.mpr hl)) rfl rfl
  refine(aJ h rfl (ji (p:=.int l.k) (q:=.int c) rfl rfl)).trans ?_
  refine aa (hl ..) ?_
  refine congrArg (λb=>some (D.bool b,σ)) (Bool.eq_iff_iff.mpr ?_)
  show((l.k:Int)==(c:Int))=true↔(l.k==c)=true
  rw [beq_iff_eq,beq_iff_eq]
  exact B7
 .refine(jh (cf ?_)).trans (by exact aa (fe ..) rfl)
  refine aa (aZ ..) ?_
  have:=iX (λi=>((ls[i]?.map λl=>l.k).getD 0)==c) (dF ls f)
  show 1+_<=1000
  lia
theorem Ep{ρ:aC}{σ:MH}{x:String}{ns:List Nat}(h:ρ x=some (.list (.none::ns.map iD))):∃o,(ME.idx (.var x) (.neg (.int 1))) ρ σ=some (oD o,σ):=by
 refine aw (Qt (xs:=ns.map iD) (d:=.none)) λd f g=>?_
 have:∃o,d=oD o:=(List.mem_cons.mp f).elim (λe=>⟨none,e⟩) λh=>by refine aw (List.mem_map.mp h) λn a b=>?_;obtain rfl:=b;exact⟨some n,rfl⟩
 refine aL this λo c=>?_;obtain rfl:=c
 exact⟨o,aJ (e:=.int (-1)) (av h) rfl g⟩
theorem G3{o:Option Nat}{k:Nat}:noRef (k+1) (oD o)=true:=by induction o<;>rfl
theorem Av{p:Pl}{k:Nat}:noRef (k+3) (b_ p)=true:=by
 show((gh p.ag|>noRef (k+2)) && ((cZ p.ms|>noRef (k+2)) && ((oD p.dl|>noRef (k+2)) && ((oD p.rt|>noRef (k+2)) && true))))=true
 exact aa (G3 ..)<|aa (G3 ..)<|aa (show noRef (k+2) (gh p.ag)=true from Aw)<|aa (show noRef (k+2) (cZ p.ms)=true from lY λa a=>rfl) rfl
theorem Uc{ls:List Ln}{f:List Nat}(hl:∀l∈ls,l.Ok)(j:ls.length<=20)(A:f∈b7):∃p:Pl,p.Ok/\p.ms=dF ls f/\∀σ,pD [.list (ls.map cW),.str (aR f)] σ=some (b_ p,σ):=by
 let bw:=(c_ [("lines",.list (ls.map cW)),("folder",.str (aR f))]).set "mine" (cZ (dF ls f))
 refine aL (Om (ρ:=bw) (σ:=MH.nil) (f:=f) j rfl rfl) λg B=>?_
 refine bP (C9 g) λt q s=>?_
 refine bI (Ov (ρ:=bw.set "agents" (gh (j0 g))) (σ:=MH.nil) q s (aE (sM (ls:=ls) (f:=f)) j) rfl rfl) λk n o y=>?_
 let e:=(bw.set "agents" (gh (j0 g))).set "agents" (gh k)
 refine aL (Ew (ρ:=e) (σ:=MH.nil) (f:=f) (c:=1) (v:=5) (by decide) j rfl rfl) λm z=>?_
 refine aL (Ew (ρ:=e.set "delays" (.list (.none::m.map iD))) (σ:=MH.nil) (f:=f) (c:=2) (v:=7) (by decide) j rfl rfl) λD C=>?_
 let i:=(e.set "delays" (.list (.none::m.map iD))).set "rates" (.list (.none::D.map iD))
 refine aL (Ep (ρ:=i) (σ:=MH.nil) (x:="delays") rfl) λd u=>?_
 refine aL (Ep (ρ:=i) (σ:=MH.nil) (x:="rates") rfl) λr w=>?_
 refine⟨⟨k,dF ls f,d,r⟩,⟨λa h=>t a (n a h),o⟩,rfl,λσ=>f_hide (qn (F:=bO (j3 "lines" "folder") GC) (d:=b_ ⟨k,dF ls f,d,r⟩) (ab:=MH.nil) ?_ (fx rfl (aK (bt (Ot hl j A rfl rfl)) (aK (bt B) (aK (bt y) (aK (bt z) (aK (bt C) (fC (iK (aS (av rfl) (aS (av rfl) (aS u (aS w bA)))) (dO rfl))))))))) (sf rfl Av))⟩
 exact Bool.and_eq_true_iff.mpr ⟨lY λb b=>G2,rfl⟩
section
section
variable {σ:MH} {k:Nat}
theorem hG{α:Type}{g:α->D}{p:α->fX}{xs:List α}{f:D->Option fX}(h:∀x∈xs,f (g x)=some (p x)):hB f (xs.map g)=some (xs.map p):=by
 induction xs with
 | nil=>rfl
 | cons x xs b=>exact bs (h x a0) (bs (b λy a=>h y (bT _ a)) rfl)
theorem hH{d:D}{xs:List D}{ps:List fX}(h:bU σ d=some xs)(h':hB (cX σ k) xs=some ps):cX σ (k+1) d=some (.list ps):=by
 show(match bU σ d with| some xs=>_| none=>_)=_
 exact aa (h ..)<|bs h' rfl
theorem wc{xs:List D}{ps:List fX}(h':hB (cX σ k) xs=some ps):cX σ (k+1) (.tup xs)=some (.tuple ps):=bs h' rfl
noncomputable def wa:Option Nat->fX| none=>.none| some n=>.int n
noncomputable def qp (p:Pl):fX:=.tuple [.list (p.ag.map .str),.list (p.ms.map λ(i:Nat)=>CP (i:Int)),wa p.dl,wa p.rt]
theorem s9{p:Pl}:cX σ (k+3) (b_ p)=some (qp p):=
 have o:∀o,cX σ (k+2) (oD o)=some (wa o):=λo=>by induction o<;>rfl
 wc (bs (hH (k:=k+1) (d:=gh p.ag) rfl (hG λb b=>rfl)) (bs (bs (hH (k:=k+1) (d:=cZ p.ms) rfl (hG (p:=λi:Nat=>.int (i:Int)) λb b=>rfl)) (bs (bs (o p.dl) (bs (bs (o p.rt) (bs (a:=[]) rfl rfl)) rfl)) rfl)) rfl))
end
theorem EE{xs:List fX}:fg (.list xs) (.list [])=xs.isEmpty:=by induction xs<;>rfl
theorem yj{xs:List aj}{a:aj}:((xs.map xW).any λy=>fg y (.str a))=xs.contains a:=by
 induction xs with
 | nil=>rfl
 | cons x xs b=>exact aa (eK ..)<|aa (pL ..)<|aa (b ..)<|aa (List.contains_cons ..)<|aa (wz ..)<|aa (Bool.beq_comm ..) rfl
theorem Pg{x:D}{xs:List D}:ef (x::xs) (-1)=some ((x::xs).getLast (jX _ _)):=by
 exact(congrArg (λl=>ef l (-1)) (xq (jX x xs)).symm).trans su
noncomputable def lst (a o:Option Nat):Option Nat:=if o.isSome then o else a
noncomputable def eL (ps:List Pl):Pl:=⟨((ps.head?.map Pl.ag).getD []).filter λa=>ps.all λp=>p.ag.contains a,ps.flatMap Pl.ms,(ps.map Pl.dl).foldl lst none,(ps.map Pl.rt).foldl lst none⟩
noncomputable def o5 (p q:Pl):Pl:=⟨p.ag.filter λa=>q.ag.contains a,p.ms++q.ms,lst p.dl q.dl,lst p.rt q.rt⟩
theorem Gl{o}:lst none o=o:=by induction o<;>rfl
theorem GL(p:Pl):eL [p]=p:=by
 obtain⟨c,d,dl,e⟩:=p
 delta eL
 simp only [Cj,pV,ue,xt,eK,rE,rC,Kv,Gl,xo,Kl,Jb]
 exact aa (List.filter_eq_self.mpr λa b=>List.contains_iff_mem.mpr b ..) rfl
theorem GN{ps:List Pl}(h:ps≠ [])(q:Pl):eL (ps++ [q])=o5 (eL ps) q:=by
 refine ew (pM h) λp ps c=>?_;obtain rfl:=c
 delta eL o5
 simp only [rA,Cj,pV,ue,eK,ey,rE,xu,rC,Kv,List.filter_filter]
 congr 1
 .refine Cf λa b=>?_
  exact aa (.symm (rA ..))<|aa (List.all_append ..)<|aa (xo (l:=[]) ..)<|aa (Kl ..)<|aa (Jb ..)<|aa (Bool.and_comm ..) rfl
 .exact aa (.symm (rA ..))<|aa (t8 ..)<|aa (xt ..) rfl
theorem Gk{os:List (Option Nat)}:∀{a},lst a (os.foldl lst a)=os.foldl lst a:=by
 have b:∀(os:List (Option Nat)) (a:Option Nat),a.isSome->(os.foldl lst a).isSome:=by
  intro os
  induction os with
  | nil=>exact λa h=>h
  | cons o os e=>exact λa h=>e _ (by delta lst;split<;>assumption)
 intro a
 show(if (os.foldl lst a).isSome then os.foldl lst a else a)=_
 split
 .rfl
 .rename_i h
  induction c:a with
  | none=>
   rw [c] at h
   induction d:os.foldl lst none with
   | none=>exact d▸rfl
   | some x=>exact absurd (d▸rfl) h
  | some x=>exact absurd (b os a (by exact aa (c ..) rfl)) h
theorem Sq(p:Pl)(ps:List Pl):eL (p::p::ps)=o5 p (eL (p::ps)):=by
 delta eL o5
 simp only [Cj,pV,ue,eK,rC,Gl]
 have c:∀d:Option Nat,lst d d=d:=λd=>by induction d<;>rfl
 refine aa (c ..)<|aa (c ..)<|aa (Gk ..)<|aa (Gk ..) ?_
 congr 1
 refine Cf λa b=>?_
 rw [tS,rB,xA,xo (a:=p),jo]
 exact⟨λh=>⟨b,h.2⟩,λh=>⟨List.contains_iff_mem.mpr b,h.2⟩⟩
theorem C6{β:Type}{own:List String}{x:String}{y:D}{ρ:aC}{σ:MH}(c:List β)(e:β->D)(g:β->List D){n:MI}{at_:dR}{t:MT}{ifs:List MB}{b:MX}(s:x∈own)
 (r:∀ae,Agree own ρ ae->ae x=some y->n ae σ=some (at_,(c.map e).length+1,σ)) (i:∀j,at_ σ j=some (c.map e)[j]?) (h:∀l∈c,ma own t ifs b (e l) ρ σ (g l)):
 ma own (.name x) [] (.inner n t ifs b) y ρ σ (c.flatMap g):=λae o k u=>by
 have m:=k.set (d:=y) s
 refine aw (y0 c e g i h m u) λf p q=>?_
 exact⟨f,bs rfl (bs (a:=(true,σ)) rfl (bs (r _ m (if_pos rfl)) p)),q⟩
theorem Q7{os:List (Option Nat)}:∀{a:Option Nat},(a::os.filter pU).getLast (jX _ _)=os.foldl lst a:=by
 induction os with
 | nil=>exact rfl
 | cons o os b=>
  intro a
  induction o with
  | none=>exact b
  | some n=>exact(List.getLast_cons (jX _ _)).trans b
theorem Er{ρ:aC}{σ:MH}{x:String}{os:List (Option Nat)}(h:ρ x=some (.list (.none::(os.filter pU).map oD))):(ME.idx (.var x) (.neg (.int 1))) ρ σ=some (oD (os.foldl lst none),σ):=by
 refine aJ (e:=.int (-1)) (av h) rfl (Eq.trans (Pg (x:=.none) (xs:=(os.filter pU).map oD)) ?_)
 exact aa (.symm (Q7 ..))<|congrArg some (List.getLast_map (f:=oD) (l:=none::os.filter pU) (by simp))
theorem Ek{ρ:aC}{σ:MH}{ps:List Pl}{c:Nat}(b:Pl->Option Nat)(m:ps.length<=200)(f:ρ "plains" =some (.list (ps.map b_)))(g:∀p,ef [gh p.ag,cZ p.ms,oD p.dl,oD p.rt] (c:Int)=some (oD (b p))):
 (ME.add (.list [.none_]) (.aI (.comp (.of (.var "plains")) (.name "one") [(.val (.kg (.idx (.var "one") (.int c)) .none_))] (.elt (.idx (.var "one") (.int c))) [".0","one"] (.list [])))) ρ σ=some (.list (.none::((ps.map b).filter pU).map oD),σ):=by
 have e:((ps.map b).filter pU).map oD=(ps.filter λp=>(b p).isSome).map λp=>oD (b p):=by exact aa (List.filter_map ..)<|aa (fe ..) rfl
 refine aa (e ..) ?_
 refine aJ (d:=.list [.none]) (e:=.list ((ps.filter λp=>(b p).isSome).map λp=>oD (b p))) rfl (mO ps b_ _ (λp=>oD (b p)) (cU (av f)) (λj=>rfl) (by decide) (λp l ae i h=>?_) (cf (by lia))) (jh (cf ?_))
 .have k:(ME.idx (.var "one") (.int c)) ae σ=some (oD (b p),σ):=aJ (d:=b_ p) (e:=.int c) (av h) rfl (g p)
  refine⟨cz (aJ k rfl ?_),λa=>k⟩
  induction b p<;>rfl
 .refine aa (aZ ..) ?_
  have:=iX (λp=>(b p).isSome) ps
  show 1+_<=1000
  lia
theorem Sp{ps:List Pl}(K:ps≠ [])(w:ps.length<=200)(M:(ps.flatMap Pl.ms).length<=aP)(o:∀p∈ps,p.Ok)(σ:MH):mm [.list (ps.map b_)] σ=some (b_ (eL ps),σ):=by
 refine ew (pM K) λk z A=>?_;obtain rfl:=A
 generalize s:k::z=ps at*
 let l:=c_ [("plains",.list (ps.map b_))]
 have B:l "plains" =some (.list (ps.map b_)):=rfl
 have E:(ME.aI (.comp (.of (.idx (.idx (.var "plains") (.int 0)) (.int 0))) (.name "name") [(.val (.eq (.aI (.comp (.of (.var "plains")) (.name "one") [(.val (.jg (.var "name") (.idx (.var "one") (.int 0))))] (.elt (.var "one")) [".0","one"] (.list []))) (.list [])))] (.elt (.var "name")) [".0","name"] (.list []))) l MH.nil=some (gh (eL ps).ag,MH.nil):=by
  refine(mO k.ag D.str (λa=>ps.all λp=>p.ag.contains a) D.str (cU (xs:=k.ag.map .str) (aJ (d:=b_ k) (e:=.int 0) (aJ (e:=.int 0) (av B) rfl (s▸rfl)) rfl rfl)) (λj=>rfl) (by decide) (λa N ae y v=>⟨?_,λg=>av v⟩) (aE (o k (s▸a0)).al (by decide))).trans (by exact aa (.symm (s ..)) rfl)
  have G:ME.aI (.comp (.of (.var "plains")) (.name "one") [(.val (.jg (.var "name") (.idx (.var "one") (.int 0))))] (.elt (.var "one")) [".0","one"] (.list [])) ae MH.nil=some (.list ((ps.filter λp=> !p.ag.contains a).map b_),MH.nil):=
   mO ps b_ _ b_ (cU (av ((y _ (by decide)).trans B))) (λj=>rfl) (by decide) (λp o C L w=>⟨cz (aJ (av ((L _ (by decide)).trans v)) (aJ (d:=b_ p) (e:=.int 0) (r:=gh p.ag) (av w) rfl rfl) (AD ((Az (p:=.str a) rfl (hG λg g=>rfl)).trans (congrArg some yj)))),λg=>av w⟩) (cf (by lia))
  refine cz ((aJ G (e:=.list []) rfl (ji (hH rfl (hG λg g=>s9)) rfl)).trans ?_)
  refine aa (EE ..) ?_
  refine congrArg (λb=>some (D.bool b,MH.nil)) (Bool.eq_iff_iff.mpr ?_)
  rw [List.isEmpty_iff,List.map_eq_nil_iff,List.filter_eq_nil_iff,Cb]
  exact⟨λh p o=>by have:=h p o;simpa using this,λh p o=>by refine aa (h p o ..) ?_;decide⟩
 let bw:=l.set "agents" (gh (eL ps).ag)
 have H:(ME.aI (.comp (.of (.var "plains")) (.name "one") [] (.inner (.of (.idx (.var "one") (.int 1))) (.name "mark") [] (.elt (.var "mark"))) [".0","one","mark"] (.list []))) bw MH.nil=some (cZ (eL ps).ms,MH.nil):=by
  have q:(ps.flatMap λp=>p.ms.flatMap λi=>[iD i])=(eL ps).ms.map iD:=by
   show _=(ps.flatMap Pl.ms).map iD
   exact aa (Ct ..)<|congrArg (λf=>ps.flatMap f) (funext λp=>List.map_eq_flatMap.symm)
  have:=oE (σ:=MH.nil) ps b_ (λp=>p.ms.flatMap λi=>[iD i]) (own:=[".0","one","mark"]) (ρ:=bw) (cU (m:=.var "plains") (av (d:=.list (ps.map b_)) rfl)) (λj=>rfl) (λp o=>C6 (x:="one") (t:=.name "mark") (ifs:=[]) (b:=.elt (.var "mark")) p.ms iD (λi=>[iD i]) (by decide)
   (λae y v=>cU (m:=.idx (.var "one") (.int 1)) (xs:=p.ms.map iD) (aJ (d:=b_ p) (e:=.int 1) (av v) rfl rfl)) (λj=>rfl) (λi O=>rP (by decide) λae y v=>⟨rfl,av v⟩)) (by exact aa (q ..)<|aa (aZ ..)<|M)
  rw [q] at this
  exact this
 let n:=bw.set "marks" (cZ (eL ps).ms)
 have I:=Ek (ρ:=n) (σ:=MH.nil) (ps:=ps) (c:=2) Pl.dl w rfl λp=>rfl
 let u:=n.set "delays" (.list (.none::((ps.map Pl.dl).filter pU).map oD))
 have J:=Ek (ρ:=u) (σ:=MH.nil) (ps:=ps) (c:=3) Pl.rt w rfl λp=>rfl
 refine f_hide (qn (F:=bO (bind1 "plains") GB) (d:=b_ (eL ps)) (ab:=MH.nil) ?_ (fx rfl (aK (bt E) (aK (bt H) (aK (bt I) (aK (bt J) (fC (iK (aS (av rfl) (aS (av rfl) (aS (Er rfl) (aS (Er rfl) bA)))) (dO rfl)))))))) (sf rfl Av))
 exact Bool.and_eq_true_iff.mpr ⟨lY λg g=>Av,rfl⟩
end
section
structure jz{α:Type}(lt:α->α->Bool):Prop where
 qc:∀a,lt a a=false
 tr:∀{a b c},lt a b=true->lt b c=true->lt a c=true
 qE:∀{a b},lt a b=false->lt b a=false->a=b
theorem jz.flip{α:Type}{lt:α->α->Bool}(h:jz lt):jz λa b=>lt b a:=⟨h.qc,λx y=>h.tr y x,λx y=>h.qE y x⟩
noncomputable def gC {α:Type} [DecidableEq α] (lt:α->α->Bool):List α->List α->Bool
 | [],[]=>false
 | [],_::_=>true
 | _::_,[]=>false
 | x::xs,y::a=>if x=y then gC lt xs a else lt x y
section
variable {α:Type} [DecidableEq α] {lt:α->α->Bool}
theorem jL{x y:α}{xs a}(h:x≠y):gC lt (x::xs) (y::a)=lt x y:=if_neg h
theorem m4{x:α}{xs a}:gC lt (x::xs) (x::a)=gC lt xs a:=if_pos rfl
theorem zX:∀xs,gC lt xs xs=false
 | []=>rfl
 | x::xs=>m4.trans (zX xs)
theorem zW{a b:List α}:∀xs,gC lt (xs++a) (xs++b)=gC lt a b
 | []=>rfl
 | x::xs=>m4.trans (zW xs)
theorem vm(h:jz lt):jz (gC lt) where
 qc:=zX
 tr:=λ{a b c}=>by
  induction a generalizing b c with
  | nil=>
   intro f d
   induction c with
   | nil=>induction b with| nil=>exact f| cons=>exact d
   | cons=>rfl
  | cons x xs k=>
   intro f d
   induction b with
   | nil=>exact nomatch f
   | cons y l=>
    induction c with
    | nil=>exact nomatch d
    | cons z m=>
     by_cases i:x=y
     .subst i
      rw [m4] at f
      by_cases g:x=z
      .subst g;rw [m4] at d ⊢;exact k f d
      .rw [jL g] at d ⊢;exact d
     .rw [jL i] at f
      by_cases g:y=z
      .subst g;exact aa (jL i ..)<|f
      .rw [jL g] at d
       have j:=h.tr f d
       exact aa (jL λe=>by rw [e,h.qc] at j;cases j)<|j
 qE:=λ{a b}=>by
  induction a generalizing b with
  | nil=>intro f d;induction b with| nil=>rfl| cons=>exact nomatch f
  | cons x xs k=>
   intro f d
   induction b with
   | nil=>exact nomatch d
   | cons y l=>
    by_cases e:x=y
    .subst e;rw [m4] at f d;exact aa (k f d ..) rfl
    .rw [jL e] at f;rw [jL (Ne.symm e)] at d;exact absurd (h.qE f d) e
end
noncomputable def vN (a b:Nat):Bool:=decide (a<b)
theorem Al:jz vN:=⟨λa=>decide_eq_false (fV a),λb c=>decide_eq_true (rK (of_decide_eq_true b) (of_decide_eq_true c)),λb c=>CD (Nat.not_lt.mp (of_decide_eq_false c)) (Nat.not_lt.mp (of_decide_eq_false b))⟩
theorem F4:∀a b:List Nat,decide (a<b)=gC vN a b
 | [],[]=>rfl
 | [],y::c=>decide_eq_true (List.nil_lt_cons y c)
 | x::xs,[]=>decide_eq_false (List.not_lt_nil _)
 | x::xs,y::c=>by
  by_cases e:x=y
  .subst e
   exact aa (m4 ..)<|aa (.symm (F4 xs c ..))<|decide_eq_decide.mpr (List.cons_lt_cons_iff.trans ⟨λh=>h.elim (λh=>absurd h (fV _)) And.right,λh=>.inr ⟨rfl,h⟩⟩)
  .exact aa (jL e ..)<|decide_eq_decide.mpr (List.cons_lt_cons_iff.trans ⟨λh=>h.elim id λh=>absurd h.1 e,.inl⟩)
noncomputable def Ii (x y:aj):Bool:=gC vN x.cps.toList y.cps.toList
theorem Vw:jz Ii:=⟨λa=>zX _,λc d=>(vm Al).tr c d,λ{a b} c d=>by
 have:=(vm Al).qE c d
 obtain⟨⟨a⟩⟩:=a
 obtain⟨⟨b⟩⟩:=b
 exact congrArg (λl=>(⟨⟨l⟩⟩:aj)) this⟩
structure Key{α:Type} [DecidableEq α](e:α->D)(lt:α->α->Bool):Prop where
 o:jz lt
 eq:∀a b,oH (e a) (e b)=decide (a=b)
 cmp:∀g a b,oB g (e a) (e b)=bif g then lt b a else lt a b
 gn:∀g a b,vb g (e a) (e b)=true
 ne:∀σ a b,sO (e a) (e b) σ=some (.bool (!decide (a=b)))
theorem uu{α:Type} [DecidableEq α] [BEq α] [LawfulBEq α](a b:α):(a==b)=decide (a=b):=by
 by_cases h:a=b
 .exact aa (h ..)<|aa (beq_self_eq_true ..)<|aa (decide_eq_true rfl ..) rfl
 .exact aa (beq_eq_false_iff_ne.mpr h ..)<|aa (decide_eq_false h ..) rfl
theorem FV:Key iD vN where
 o:=Al
 eq a b:=(uu (a:Int) b).trans (decide_eq_decide.mpr B7)
 cmp g a b:=by induction g<;>exact decide_eq_decide.mpr Int.ofNat_lt
 gn g a b:=rfl
 ne σ a b:=(o9 (p:=.int a) (q:=.int b) rfl rfl).trans (congrArg (λx=>some (D.bool (!x))) ((uu (a:Int) b).trans (decide_eq_decide.mpr B7)))
theorem FW:Key D.str Ii where
 o:=Vw
 eq a b:=uu a b
 cmp g a b:=by induction g<;>exact F4 _ _
 gn g a b:=rfl
 ne σ a b:=(o9 (p:=.str a) (q:=.str b) rfl rfl).trans (congrArg (λx=>some (D.bool (!x))) (uu a b))
section
variable {α:Type} [DecidableEq α] {e:α->D} {lt:α->α->Bool}
theorem F3(K:Key e lt){g:Bool}:∀as bs:List α,o4 g (as.map e) (bs.map e)=bif g then gC lt bs as else gC lt as bs
 | [],[]=>by induction g<;>rfl
 | [],_::_=>by induction g<;>rfl
 | _::_,[]=>by induction g<;>rfl
 | a::as,b::bs=>by
  show(if oH (e a) (e b)=true then o4 g (as.map e) (bs.map e) else oB g (e a) (e b))=_
  refine aa (K.eq ..)<|aa (K.cmp ..)<|aa (F3 K as bs ..) ?_
  by_cases h:a=b
  .subst h;exact aa (if_pos (decide_eq_true rfl) ..)<|aa (m4 ..)<|aa (m4 ..) rfl
  .exact aa (if_neg (by rw [decide_eq_false h];decide))<|aa (jL h ..)<|aa (jL (Ne.symm h) ..) rfl
theorem D5(K:Key e lt){σ:MH}{g:Bool}(as bs:List α):i8 σ g (.list (as.map e)) (.list (bs.map e))=some (bif g then gC lt bs as else gC lt as bs):=by
 show vh g (as.map e) (bs.map e)=_
 unfold vh
 rw [if_pos,F3 K]
 exact aa (List.zip_map ..)<|aa (ry ..)<|List.all_eq_true.mpr λp a=>K.gn g p.1 p.2
end
theorem Dj{f g:Nat->Nat->Bool}:∀k,(∀i j,i<=k->j<=k->f i j=g i j)->eR f k=eR g k/\eR g k<=k
 | 0,_=>⟨rfl,bb _⟩
 | k+1,h=>by
  refine aA (Dj k λi j c d=>h i j (gN c) (gN d)) λb a=>?_
  show(if f (k+1) (eR f k) then k+1 else eR f k)=(if g (k+1) (eR g k) then k+1 else eR g k)/\(if g (k+1) (eR g k) then k+1 else eR g k)<=k+1
  refine aa (b ..)<|aa (h (k+1) (eR g k) (bb _) (gN a) ..) ?_
  refine⟨rfl,?_⟩
  split
  .exact bb _
  .exact gN a
theorem Di{β:Type}{lt:β->β->Bool}(h:jz lt)(x:Nat->β):∀k i,i<=k->lt (x i) (x (eR (λi j=>lt (x i) (x j)) k))=false
 | 0,i,a=>by exact aa (Nat.le_zero.mp a ..)<|h.qc _
 | k+1,i,a=>by
  show lt (x i) (x (if lt (x (k+1)) (x (eR (λi j=>lt (x i) (x j)) k)) then k+1 else eR (λi j=>lt (x i) (x j)) k))=false
  have c:=Di h x k
  induction b:lt (x (k+1)) (x (eR (λi j=>lt (x i) (x j)) k)) with
  | true=>
   refine aa (if_pos rfl ..) ?_
   rcases xI a with a| rfl
   .induction d:lt (x i) (x (k+1)) with
    | false=>rfl
    | true=>have:=h.tr d b;rw [c i (rJ a)] at this;cases this
   .exact h.qc _
  | false=>
   refine aa (if_neg (by decide)) ?_
   rcases xI a with a| rfl
   .exact c i (rJ a)
   .exact b
theorem yo{β:Type}{lt:β->β->Bool}(h:jz lt)(a:β->D){σ:MH}{g:Bool}{d:D}{xs:List β}(v:xs≠ [])(u:bU σ d=some (xs.map a))(r:∀x∈xs,∀y∈xs,i8 σ g (a x) (a y)=some (lt x y)):
 ∃m∈xs,(∀x∈xs,lt x m=false)/\oq g d σ=some (a m):=by
 refine ew (pM v) λk A p=>?_
 let x:Nat->β:=λi=>(xs[i]?).getD k
 have l:0<xs.length:=by exact aa (p ..)<|Nat.succ_pos _
 have e:∀i,i<xs.length->xs[i]?=some (x i):=λi b=>by
  show xs[i]?=some ((xs[i]?).getD k)
  exact aa (gL b ..) rfl
 have c:∀i,i<xs.length->x i∈xs:=λi b=>lA (e i b)
 obtain⟨s,t⟩:=Dj (f:=ov σ g (xs.map a)) (g:=λi j=>lt (x i) (x j)) (xs.length - 1) λi j b o=>by
  have b:i<xs.length:=by lia
  have o:j<xs.length:=by lia
  unfold ov
  refine aa (gg ..)<|aa (gg ..)<|aa (e i b ..)<|aa (e j o ..) ?_
  show(i8 σ g (a (x i)) (a (x j))).getD false=_
  exact aa (r _ (c i b) _ (c j o) ..) rfl
 have hb:eR (λi j=>lt (x i) (x j)) (xs.length - 1)<xs.length:=ee t (by lia)
 refine⟨_,c _ hb,λy q=>?_,bs u (Eq.trans (if_pos ⟨by exact aa (aZ ..)<|l,?_⟩) ?_)⟩
 .refine aL (Ci q) λi b=>?_
  have n:=(List.getElem?_eq_some_iff.mp b).1
  rw [e i n] at b
  exact aa (.symm (aM b ..))<|Di h x _ i (by lia)
 .exact aa (aZ ..)<|aa (s ..)<|aa (gg ..)<|aa (e _ hb ..) rfl
 .refine aa (ry ..) ?_
  refine List.all_eq_true.mpr λy q=>?_
  show((xs.map a).all λz=>(i8 σ g (a y) z).isSome)=true
  refine aa (ry ..) ?_
  refine List.all_eq_true.mpr λz w=>?_
  show(i8 σ g (a y) (a z)).isSome=true
  exact aa (r y q z w ..) rfl
structure lu{α:Type}(P:List α)(l_:List (List α)):Prop where
 pre:∀xs∈l_,P<+:xs
 fin:P∈l_∨∃a b s t,a≠b/\P++a::s∈l_/\P++b::t∈l_
theorem O2{α:Type} [DecidableEq α]{lt:α->α->Bool}(h:jz lt){P:List α}{f:List (List α)}(F:lu P f){m M:List α}(C:m∈f)(B:M∈f)(l:∀x∈f,gC lt x m=false)(y:∀x∈f,gC lt M x=false):
 ∃r g,m=P++r/\M=P++g/\(r= []∨∃a b s t,a≠b/\r=a::s/\g=b::t):=by
 refine aL (F.pre m C) λr n=>?_;obtain rfl:=n
 refine aL (F.pre M B) λg o=>?_;obtain rfl:=o
 refine⟨r,g,rfl,rfl,?_⟩
 rcases F.fin with k| ⟨a,b,s,t,zu,ka,kb⟩
 .have:=l P k
  rw [show P=P++ [] from(hW P).symm,iW,zW] at this
  induction r with
  | nil=>exact .inl rfl
  | cons=>exact nomatch this
 .have p:=l _ ka;have v:=l _ kb;have j:=y _ ka;have w:=y _ kb
  rw [zW] at p v j w
  induction r with
  | nil=>exact .inl rfl
  | cons c r=>
   induction g with
   | nil=>exact nomatch j
   | cons d g=>
    refine .inr ⟨c,d,r,g,λq=>zu ?_,rfl,rfl⟩
    subst q
    have i:∀x u,gC lt (x::u) (c::r)=false->gC lt (c::g) (x::u)=false->x=c:=λx u z A=>by
     by_cases e:x=c
     .exact e
     .rw [jL e] at z;rw [jL (Ne.symm e)] at A;exact h.qE z A
    exact(i a s p j).trans (i b t v w).symm
end
section
section
variable {α:Type} [DecidableEq α] {e:α->D} {lt:α->α->Bool}
theorem W_{β:Type}{xs:List β}{L r:List (β×Nat)}{p:β×Nat}(h:xs.zipIdx=L++p::r):p.2=L.length/\xs[L.length]?=some p.1:=by
 have a:xs.zipIdx[L.length]?=some p:=by exact aa (h ..)<|lM
 rw [Kz] at a
 induction b:xs[L.length]? with
 | none=>rw [b] at a;exact nomatch a
 | some x=>rw [b,pV,rM] at a;exact aa (.symm (aM a ..))<|⟨rfl,rfl⟩
theorem O3(K:Key e lt){P m M:List α}{r C:List α}{X:MS}{ρ:aC}{σ:MH}(Q:Fl->aC->MH->Prop)(l:m=P++r)(z:M=P++C)(N:r= []∨∃a b s t,a≠b/\r=a::s/\C=b::t)(E:ρ "s1" =some (.list (m.map e)))(F:ρ "s2" =some (.list (M.map e)))
 (H:∀ae,Agree ["i","c"] ρ ae->ae "i" =some (iD P.length)->∃q,X ae σ=some q/\After q (λf f=>False) Q) (n:∀ae,Agree ["i","c"] ρ ae->m=P->Q .next ae σ):
 ∃q,MS.cD (.enum (.var "s1")) (.tup [.name "i",.name "c"]) (.ite (.val (.ne (.var "c") (.idx (.var "s2") (.var "i")))) X .nil) ρ σ=some q/\Q q.1 q.2.1 q.2.2:=by
 refine A0 (m.map e).zipIdx (λp=>.tup [iD p.2,p.1]) (λL ae ab=>Agree ["i","c"] ρ ae/\ab=σ/\L.length<=P.length) Q (Fx (av E) rfl) (λf f f f f=>ED rfl) ⟨λf f=>rfl,rfl,fW _⟩ (λL p R ae ab G x=>bP x λu w hl=>?_) λae ab y=>bP y λu w hl=>?_
 .subst w
  refine aA (W_ G) λA B=>?_
  rw [gg] at B
  refine aw (Option.map_eq_some_iff.mp B) λc k O=>?_
  have h:Agree ["i","c"] ρ ((ae.set "i" (iD p.2)).set "c" p.1):=(u.set (by decide)).set (by decide)
  have g:∀d,M[L.length]?=some d->(MB.val (.ne (.var "c") (.idx (.var "s2") (.var "i")))) ((ae.set "i" (iD p.2)).set "c" p.1) ab=some (!decide (c=d),ab):=λd I=>
   cz (aJ (d:=p.1) (e:=e d) rfl (aJ (d:=.list (M.map e)) (e:=iD p.2) (av ((h _ (by decide)).trans F)) rfl (show ef (M.map e) (p.2:Int)=_ by exact aa (oS ..)<|aa (A ..)<|aa (gg ..)<|aa (I ..) rfl)) (by exact aa (.symm (O ..))<|K.ne ab c d))
  rcases xI hl with jG| i
  .have o:M[L.length]?=m[L.length]?:=by exact aa (l ..)<|aa (z ..)<|aa (Ky jG ..)<|aa (Ky jG ..) rfl
   refine⟨(.next,_,ab),bs rfl (d_ ((g c (o.trans k)).trans (by exact aa (decide_eq_true rfl ..) rfl)) rfl),h,rfl,by exact aa (bF ..)<|jG⟩
  .have v:m[L.length]?=r[0]?:=by exact aa (l ..)<|aa (i ..)<|aa (Cg (bb _) ..)<|aa (CF ..) rfl
   rw [v] at k
   rcases N with rfl| ⟨a,b,s,t,zu,rfl,rfl⟩
   .exact nomatch k
   .obtain rfl:a=c:=aM k
    refine aw (H _ h (show some (iD p.2)=_ by exact aa (A ..)<|aa (i ..) rfl)) λq J j=>?_
    refine⟨q,bs rfl (iO ((g b (by exact aa (z ..)<|aa (i ..)<|aa (Cg (bb _) ..)<|aa (CF ..) rfl)).trans (by exact aa (decide_eq_false zu ..) rfl)) J),?_⟩
    obtain⟨D,S,T⟩:=q
    induction D with
    | next=>exact j.elim
    | cont=>exact j.elim
    | brk=>exact j
    | ret d=>exact j
 .subst w
  refine n ae u ?_
  rw [xw,aZ,l,bF] at hl
  have:r= []:=t7 (by lia)
  exact aa (l ..)<|aa (this ..)<|aa (hW ..) rfl
theorem E1(K:Key e lt){P m M:List α}{r g:List α}{X:MS}{ρ:aC}{σ:MH}{G:Prop}(Q:Fl->aC->MH->Prop)(o:m=P++r)(l:M=P++g)(p:r= []∨∃a b s t,a≠b/\r=a::s/\g=b::t)(i:ρ "s1" =some (.list (m.map e)))(j:ρ "s2" =some (.list (M.map e)))
 (n:∀ae,Agree ["i","c"] ρ ae->ae "i" =some (iD P.length)->∃q,X ae σ=some q/\After q (λc c=>False) Q) (d:∀ae,Agree ["i","c"] ρ ae->m=P->Q .next ae σ)
 (k:∀f ae ab,MS.cD (.enum (.var "s1")) (.tup [.name "i",.name "c"]) (.ite (.val (.ne (.var "c") (.idx (.var "s2") (.var "i")))) X .nil) ρ σ=some (f,ae,ab)->Q f ae ab->G):G:=aw (O3 K Q o l p i j n d) λc h q=>k _ _ _ h q
end
theorem D6{α:Type} [DecidableEq α]{e:α->D}{lt:α->α->Bool}(K:Key e lt){σ:MH}{P:List α}{l_:List (List α)}{d:D}(h:l_≠ [])(F:lu P l_)(i:bU σ d=some (l_.map λxs=>.list (xs.map e))):
 ∃m M r f,oq false d σ=some (.list (m.map e))/\oq true d σ=some (.list (M.map e))/\m=P++r/\M=P++f/\(r= []∨∃a b s t,a≠b/\r=a::s/\f=b::t):=by
 refine bI (yo (vm K.o) (λxs:List α=>.list (xs.map e)) (g:=false) h i λx c y c=>D5 K x y) λm u w k=>?_
 refine bI (yo (vm K.o).flip (λxs:List α=>.list (xs.map e)) (g:=true) h i λx c y c=>D5 K x y) λM q v j=>?_
 refine eQ (O2 K.o F u q w v) λr f l n p=>?_
 exact⟨m,M,r,f,k,j,l,n,p⟩
theorem Iz{α:Type}{e:α->D}{P r:List α}:jQ ((P++r).map e) none (some (P.length:Int))=P.map e:=by
 exact aa (A6 (by rw [aZ,bF];exact cy _ _))<|aa (.symm (t_ ..))<|aa (KY ..) rfl
theorem Uh{P:List Nat}{b:List (List Nat)}(k:b≠ [])(F:lu P b)(σ:MH):pz [.list (b.map cZ)] σ=some (cZ P,σ):=by
 refine BG (D6 FV (σ:=MH.nil) (d:=.list (b.map cZ)) k F rfl) λm M r A s q n t u=>?_
 refine ew (pM k) λx xs p=>?_
 let bw:=((c_ [("m",.list (b.map cZ))]).set "s1" (cZ m)).set "s2" (cZ M)
 refine E1 FV (P:=P) (m:=m) (M:=M) (X:=.ret (.slice (.var "s1") .none (some (.var "i")))) (ρ:=bw) (σ:=MH.nil) (λg ae ab=>ab=MH.nil/\(g=.ret (cZ P)∨(g=.next/\ae "s1" =some (cZ P)))) n t u rfl rfl
  (λae h i=>⟨_,fC (kc (d:=cZ m) (xs:=m.map iD) (l:=none) (av (h _ (by decide))) rfl rfl (mJ (av i)) rfl),rfl,.inl (congrArg Fl.ret (by exact aa (n ..)<|aa (Iz ..) rfl))⟩)
  (λae h w=>⟨rfl,.inr ⟨rfl,(h _ (by decide)).trans (congrArg (λm=>some (cZ m)) w)⟩⟩) λg ae ab o y=>?_
 refine aA y λj v=>?_;obtain rfl:=j
 have hb:k9 MH.nil (.list (b.map cZ))=some true:=by exact aa (p ..) rfl
 have i:(ME.bh mY (.idx (.var "m") (.int 0)) (.tup [(.typ "list"),(.typ "tuple")])) (c_ [("m",.list (b.map cZ))]) MH.nil=some (.bool true,MH.nil):=aJ (d:=cZ x) (e:=.tup [.typ "list",.typ "tuple"]) (aJ (d:=.list (b.map cZ)) (e:=.int 0) rfl rfl (by exact aa (p ..) rfl)) rfl rfl
 have c:∀r,(MS.cons (.cD (.enum (.var "s1")) (.tup [.name "i",.name "c"]) (.ite (.val (.ne (.var "c") (.idx (.var "s2") (.var "i")))) (.ret (.slice (.var "s1") .none (some (.var "i")))) .nil)) (.ret (.var "s1"))) bw MH.nil=some r->vH (c_ [("m",.list (b.map cZ))]) MH.nil=some r:=λr z=>
  aK (d_ (ur (oo (av rfl) hb)) rfl) (aK (d_ (ur (cz i)) rfl) (aK (bt (eD (av rfl) s)) (aK (bt (eD (av rfl) q)) z)))
 have f:bO (bind1 "m") vH [.list (b.map cZ)] MH.nil=some (cZ P,MH.nil):=by
  rcases v with rfl| ⟨rfl,hs⟩
  .exact fx rfl (c _ (wj o rfl))
  .exact fx rfl (c _ (aK o (fC (av hs))))
 exact f_hide (qn (F:=bO (bind1 "m") vH) (Bool.and_eq_true_iff.mpr ⟨lY λa a=>lY λa a=>rfl,rfl⟩) f (sf rfl (lY λa a=>rfl)))
theorem Sd{σ:MH}{b:List aj}:vI iU σ (b.map .str)=some (b.map .str):=by
 induction b with
 | nil=>rfl
 | cons s b c=>exact bs (a:=(.str s,σ)) rfl (bs c rfl)
theorem T9{P:List Nat}{fs:List (List Nat)}(h0:fs≠ [])(C:dZ fs)(N:P∈b7)(E:fs.length<=100)(F:lu (P.map nm) (fs.map λf=>f.map nm))(σ:MH):px [.list (fs.map λf=>.str (aR f))] σ=some (.str (aR P),σ):=by
 let n:List D:=fs.map λf=>.str (aR f)
 have S:n=(fs.map aR).map .str:=by exact aa (fe ..) rfl
 let bw:=(c_ [("paths",.list n)]).set "paths" (.tup n)
 have B:(ME.qH iU (.var "paths")) (c_ [("paths",.list n)]) MH.nil=some (.tup n,MH.nil):=bs (av (d:=.list n) rfl) (bs (a:=n) rfl (bs (a:=n) (by exact aa (S ..)<|Sd) rfl))
 refine ew (pM h0) λw K A=>?_
 have e2:k9 MH.nil (.tup n)=some true:=by show some (!n.isEmpty)=_;exact aa (show n=.str (aR w)::K.map λf=>.str (aR f) by show fs.map _=_;rw [A];rfl) rfl
 have I:(ME.bh mY (.idx (.var "paths") (.int 0)) (.typ "bytes")) bw MH.nil=some (.bool false,MH.nil):=aJ (d:=.str (aR w)) (e:=.typ "bytes") (aJ (d:=.tup n) (e:=.int 0) rfl rfl (by show ef (fs.map _) 0=_;exact aa (A ..) rfl)) rfl rfl
 let o:=(bw.set "sep" (.str "/")).set "curdir" (.str ".")
 have G:MI.of (.var "paths") o MH.nil=some (fj (.tup n),n.length+1,MH.nil):=zF (av rfl)
 have z:fs.length<=aP:=cf (aE E (by decide))
 have e4:(ME.aI (.comp (.of (.var "paths")) (.name "path") [] (.elt (.aI (.bh pf (.var "path") (.var "sep")))) [".0","path"] (.list []))) o MH.nil=some (.list (fs.map λf=>.list ((Txt.split (aR f) "/").map .str)),MH.nil):=
  eV fs (λf=>.str (aR f)) _ G (λj=>rfl) (by decide) (λf s ae u U=>mP (c:=.list ((Txt.split (aR f) "/").map .str)) (bs (av U) (bs (av ((u _ (by decide)).trans rfl)) (bs (a:=aR f) rfl (bs (a:=("/" :aj)) rfl (bs (if_pos ⟨rfl,(gm (C f s)).sp,(gm (C f s)).H9⟩) rfl))))) rfl) z
 let i:=o.set "split_paths" (.list (fs.map λf=>.list ((Txt.split (aR f) "/").map .str)))
 have e5:(MS.qJ "isabs" (.comp (.of (.var "paths")) (.name "p") [] (.nC (.bh tu (.var "p") (.var "sep"))) [".0","p"] (.i0 false))) i MH.nil=some (.next,i.set "isabs" (.bool true),MH.nil):=by
  refine y1 n (at_:=fj (.tup n)) (t:=.name "p") (ifs:=[]) (b:=.nC (.bh tu (.var "p") (.var "sep"))) (λl ae ab c=>Agree [".0","p"] i ae/\ab=MH.nil/\∃b,c=.i0 b/\(l≠ []->b=true)) (λg g g g g g=>rfl)
   (λl x r ae ab c hl W=>bP W λL H Y=>aw Y λb hc g=>by
     subst H;subst hc
     have A:x∈n:=hl▸d0 _ a0
     refine aw (List.mem_map.mp A) λf s V=>?_;obtain rfl:=V
     refine⟨(ae.set "p" (.str (aR f)),MH.nil,.i0 true),bs rfl (bs (a:=(true,MH.nil)) rfl (bs (a:=(.bool true,MH.nil)) (aJ (d:=.str (aR f)) (e:=.str "/") rfl (av (L _ (by decide))) (by show some (D.bool (ya (aR f) "/"))=_;exact aa ((gm (C f s)).Vo ..) rfl)) rfl)),L.set (by decide),rfl,true,rfl,λg=>rfl⟩) (i.drop [".0","p"]) MH.nil (.i0 false) ⟨Agree.drop,rfl,false,rfl,λh=>absurd rfl h⟩ λXd Yp cq T O=>?_
  refine bP O λL B q=>?_
  refine aw q λb I hb=>?_
  subst B I
  obtain rfl:=hb (by show fs.map _≠ [];exact aa (A ..)<|List.cons_ne_nil _ _)
  exact bs (bs (a:=(fj (.tup n),n.length+1,MH.nil)) (zF (av rfl)) (bs T rfl)) (bs (a:=true) rfl (if_pos rfl))
 let v:=i.set "isabs" (.bool true)
 have e6:(ME.aI (.comp (.of (.var "split_paths")) (.name "s") [] (.elt (.aI (.comp (.of (.var "s")) (.name "c") [(.and (.val (.var "c")) (.val (.ne (.var "c") (.var "curdir"))))] (.elt (.var "c")) [".0","c"] (.list [])))) [".0","s"] (.list []))) v MH.nil=some (.list (fs.map λf=>.list ((f.map nm).map .str)),MH.nil):=by
  refine eV fs (λf=>.list ((Txt.split (aR f) "/").map .str)) _ (cU (av rfl)) (λj=>rfl) (by decide) (λf s ae u U=>?_) z
  refine aa (.symm ((gm (C f s)).ON ..)) ?_
  refine mO (Txt.split (aR f) "/") D.str As D.str (cU (av U)) (λj=>rfl) (by decide) (λx g Xc hb E=>⟨Dv (p:= !(x.length==0)) (q:= !(x== ".")) (oo (av E) rfl) (cz (aJ (e:=.str ".") (av E) (av ((hb _ (by decide)).trans (u _ (by decide)))) (o9 (p:=.str x) (q:=.str ".") rfl rfl))),λg=>av E⟩) (gm (C f s)).H9
 let dd:D:=.list (fs.map λf=>.list ((f.map nm).map .str))
 refine BG (D6 FW (σ:=MH.nil) (d:=dd) (l_:=fs.map λf=>f.map nm) (by exact aa (A ..)<|List.cons_ne_nil _ _) F (by exact aa (fe ..) rfl)) λm M r r' em eM h1 h2 h3=>?_
 let y:=(((v.set "split_paths" dd).set "s1" (.list (m.map .str))).set "s2" (.list (M.map .str))).set "common" (.list (m.map .str))
 refine E1 FW (P:=P.map nm) (m:=m) (M:=M) (X:=.cons (.assign (.name "common") (.slice (.var "s1") .none (some (.var "i")))) .brk) (ρ:=y) (σ:=MH.nil)
  (λZ ae ab=>Z=.next/\ab=MH.nil/\ae "sep" =some (.str "/")/\ae "isabs" =some (.bool true)/\ae "common" =some (fD P)) h1 h2 h3 rfl rfl
  (λae u hi=>⟨_,aK (bt (kc (d:=.list (m.map .str)) (xs:=m.map .str) (l:=none) (av (u _ (by decide))) rfl rfl (mJ (av hi)) rfl)) rfl,rfl,rfl,u "sep" (by decide),u "isabs" (by decide),congrArg (λx=>some (D.list x)) (by exact aa (h1 ..)<|aa (Iz ..) rfl)⟩)
  (λae u N=>⟨rfl,rfl,u _ (by decide),u _ (by decide),(u "common" (by decide)).trans (congrArg (λx:List aj=>some (D.list (x.map .str))) N)⟩) λZ ae ab T O=>?_
 refine l9 O λe0 B H Q R=>?_
 subst e0 B
 have k:=gm N
 have J:bO (bind1 "paths") z9 [.list n] MH.nil=some (.str (aR P),MH.nil):=
  fx rfl (aK (bt B) (aK (d_ (ur (oo (av rfl) e2)) rfl) (aK (d_ (r:=(.next,o,MH.nil)) (cz I) rfl) (aK (bt e4) (aK e5 (aK (bt e6) (aK (bt (eD (av rfl) em)) (aK (bt (eD (av rfl) eM)) (aK (bt (av rfl)) (aK T (aK (bt (zb (cz (av Q)) (av H))) (fC
   (aJ (d:=.str "/") (e:=.str (iZ "/" (P.map nm))) (av rfl) (aJ (d:=.str "/") (av H) (av R) (AA rfl k.FQ k.FR)) (sV k.len))))))))))))))
 exact f_hide (qn (F:=bO (bind1 "paths") z9) (Bool.and_eq_true_iff.mpr ⟨lY λg g=>rfl,rfl⟩) J (sf rfl rfl))
end
theorem gq{σ:MH}{c:Cell}:(σ.new c).cell σ.next=some c:=if_pos rfl
theorem fk{σ:MH}{c:Cell}{i:Nat}(h:i≠σ.next):(σ.new c).cell i=σ.cell i:=if_neg h
theorem g9{σ:MH}{c:Cell}{i:Nat}(h:i<σ.next):(σ.new c).cell i=σ.cell i:=if_neg (bj h)
structure Ext(n:Nat)(σ ab:MH):Prop where
 le:σ.next<=ab.next
 old:∀i,i<n->ab.cell i=σ.cell i
theorem Ext.refl{n σ}:Ext n σ σ:=⟨bb _,λa a=>rfl⟩
theorem Ext.trans{n σ ab a}(h:Ext n σ ab)(k:Ext n ab a):Ext n σ a:=⟨aE h.le k.le,λi b=>(k.old i b).trans (h.old i b)⟩
theorem Ext.mono{n m σ ab}(h:Ext n σ ab)(k:m<=n):Ext m σ ab:=⟨h.le,λi a=>h.old i (a9 a k)⟩
theorem Ext.put{n σ i c}(h:n<=i):Ext n σ (σ.put i c):=⟨bb _,λj a=>aH (bj (a9 a h))⟩
structure RecAt(σ:MH)(lc:Nat->Nat)(a b i:Nat)(p:Pl)(u r:Nat):Prop where
 u1:a<=u
 u2:u<b
 r1:a<=r
 r2:r<b
 i1:a<=i
 i2:i<b
 ci:σ.cell i=some (.inst 59 [("useragents",.ref u),("rulelines",.ref r),("delay",oD p.dl),("req_rate",oD p.rt)])
 cu:σ.cell u=some (.list (p.ag.map .str))
 cr:σ.cell r=some (.list (p.ms.map λm=>.ref (lc m)))
def Rec(σ:MH)(lc:Nat->Nat)(a b i:Nat)(p:Pl):Prop:=∃u r,RecAt σ lc a b i p u r
theorem RecAt.keep{σ ab lc a b i p u r}(h:RecAt σ lc a b i p u r)(k:∀j,a<=j->j<b->ab.cell j=σ.cell j):RecAt ab lc a b i p u r:=
 ⟨h.u1,h.u2,h.r1,h.r2,h.i1,h.i2,(k i h.i1 h.i2).trans h.ci,(k u h.u1 h.u2).trans h.cu,(k r h.r1 h.r2).trans h.cr⟩
theorem RecAt.wide{σ lc a b i p d e u r}(h:RecAt σ lc a b i p u r)(c:d<=a)(hb:b<=e):RecAt σ lc d e i p u r:=
 ⟨aE c h.u1,a9 h.u2 hb,aE c h.r1,a9 h.r2 hb,aE c h.i1,a9 h.i2 hb,h.ci,h.cu,h.cr⟩
theorem Rec.keep{σ ab lc a b i p}(h:Rec σ lc a b i p)(k:∀j,a<=j->j<b->ab.cell j=σ.cell j):Rec ab lc a b i p:=h.imp λc=>dX λc h=>h.keep k
theorem Rec.wide{σ lc a b i p d e}(h:Rec σ lc a b i p)(f:d<=a)(hb:b<=e):Rec σ lc d e i p:=h.imp λc=>dX λc h=>h.wide f hb
noncomputable def F6 (m:Nat) (a:aj) (b:Bool):Cell:=.inst cj [("applies_to",.lam iM [("size",.int a.length),("path",.str a)]),("allowance",.bool b),("path",.str a),("mark",iD m)]
def nW(σ:MH)(c m:Nat)(l:Ln):Prop:=σ.cell c=some (F6 m (bS l.f l.e) l.al)
noncomputable def kQ (u r:Nat) (d q:D):Cell:=.inst 59 [("useragents",.ref u),("rulelines",.ref r),("delay",d),("req_rate",q)]
theorem zr{n:Nat}(h:Nat.ble n 1000=true):n<=1000:=dO h
theorem EB(σ:MH):∃ab,mh [] σ=some (.ref σ.next,ab)/\ab.next=σ.next+3/\Ext σ.next σ ab/\ab.cell σ.next=some (kQ (σ.next+1) (σ.next+2) .none .none)/\ab.cell (σ.next+1)=some (.list [])/\ab.cell (σ.next+2)=some (.list []):=by
 let aW:=σ.new (.inst 59 [])
 have f:σ.next≠σ.next+1:=bj (cw _)
 have j:σ.next≠σ.next+2:=bj (ff (by decide))
 let ρ:=c_ [("self",.ref σ.next)]
 have g:∀ab,(ME.var "self") ρ ab=some (.ref σ.next,ab):=λab=>rfl
 let ao:=(aW.new (.list [])).put σ.next (.inst 59 [("useragents",.ref (σ.next+1))])
 let aX:=(ao.new (.list [])).put σ.next (.inst 59 [("useragents",.ref (σ.next+1)),("rulelines",.ref (σ.next+2))])
 let b:=aX.put σ.next (.inst 59 [("useragents",.ref (σ.next+1)),("rulelines",.ref (σ.next+2)),("delay",.none)])
 let a:=b.put σ.next (kQ (σ.next+1) (σ.next+2) .none .none)
 have l:(aW.new (.list [])).cell σ.next=some (.inst 59 []):=(fk f).trans gq
 have m:(ao.new (.list [])).cell σ.next=some (.inst 59 [("useragents",.ref (σ.next+1))]):=(fk j).trans cb
 have e:xe [.ref σ.next] aW=some (.none,a):=oJ rfl (aK (eo (h8 (c:=.list []) rfl) (iq (g _) l (zr rfl))) (aK (eo (h8 (c:=.list []) rfl) (iq (g _) m (zr rfl)))
  (aK (eo (d:=.none) rfl (iq (g _) cb (zr rfl))) (eo (d:=.none) rfl (iq (g _) cb (zr rfl))))))
 refine⟨a,bs e (if_pos rfl),rfl,⟨cy _ 3,λi k=>?_⟩,cb,?_,?_⟩
 .have h:=bj k
  exact(aH h).trans ((aH h).trans ((aH h).trans ((fk (bj (gO 2 k))).trans ((aH h).trans ((fk (bj (gO 1 k))).trans (fk h))))))
 .exact(aH f.symm).trans ((aH f.symm).trans ((aH f.symm).trans ((fk (bj (cw _))).trans ((aH f.symm).trans gq))))
 .exact(aH j.symm).trans ((aH j.symm).trans ((aH j.symm).trans gq))
theorem VL{ρ:aC}{σ ao:MH}{d:D}{k:Nat}{name:aj}{b:ME}{i:Nat}(h:b ρ σ=some (.ref i,ao))(c:ao.cell i=some (.ia k)):MT.attrL k name b d ρ σ=some (ρ,ao.put i (.inst k [(name,d)])):=
 bs h (bs (a:=ao.put i (.inst k [(name,d)])) (bs (a:=i) rfl (bs c (if_pos rfl))) rfl)
theorem Bg{ρ:aC}{σ ao:MH}{d:D}{k:Nat}{name:aj}{c:ME}{i:Nat}{as}(h:c ρ σ=some (.ref i,ao))(b:ao.cell i=some (.inst k as))(e:as.length<=1000):MT.attrL k name c d ρ σ=some (ρ,ao.put i (.inst k (eF as name d))):=
 bs h (bs (a:=ao.put i (.inst k (eF as name d))) (bs (a:=i) rfl (bs b (show s8 k name (.ref i) d ao=_ from bs (yH b) (if_pos ⟨rfl,e⟩)))) rfl)
theorem Rn{l:Ln}(hl:l.Ok)(m:Nat)(σ:MH):∃ab,pC [cW l,iD m] σ=some (.ref σ.next,ab)/\ab.next=σ.next+1/\Ext σ.next σ ab/\nW ab σ.next m l:=by
 let ρ:=c_ [("told",cW l),("mark",iD m)]
 refine aw (S3 hl.p hl.q hl.r) λd w x=>?_
 have k:=z1 hl.f hl.e
 have t:(ME.a8 iV (r7 (.str "/") (.idx (.var "told") (.int 0)))) ρ σ=some (d,σ):=d8 (bs (a:=(.str "/",σ)) rfl (bs (a:=(.list [.str (pc l.p),.str (pc l.q),.str (pc l.r)],σ)) (aJ (d:=cW l) (e:=.int 0) rfl rfl rfl) (bs (a:=[.str (pc l.p),.str (pc l.q),.str (pc l.r)]) rfl rfl))) (w σ)
 have u:(ME.a8 iV (aG [(.a8 q8 (aG [(.a8 iV (r7 (.str "/") (.idx (.var "told") (.int 0))))])),(.idx (.var "told") (.int 2))])) ρ σ=some (.str (bS l.f l.e),σ):=
  d8 (aS (d8 (aS t bA) (x σ)) (aS (aJ (d:=cW l) (e:=.int 2) rfl rfl rfl) bA)) (k.join σ)
 let P:=bS l.f l.e
 let b:=(ρ.set "path" (.str P)).set "size" (.int P.length)
 let g:=b.set "line" (.ref σ.next)
 have y:Ac ρ σ=some (.next,b,σ):=aK (bt u) (bt (eD (d:=.str P) rfl rfl))
 let n:D:=.lam iM [("size",.int P.length),("path",.str P)]
 let ao:=(σ.new (.ia cj)).put σ.next (.inst cj [("applies_to",n)])
 let aX:=ao.put σ.next (.inst cj [("applies_to",n),("allowance",.bool l.al)])
 let o:=aX.put σ.next (.inst cj [("applies_to",n),("allowance",.bool l.al),("path",.str P)])
 let j:=o.put σ.next (F6 m P l.al)
 have s:∀ab,(ME.var "line") g ab=some (.ref σ.next,ab):=λab=>rfl
 have z:Ad b σ=some (.ret (.ref σ.next),g,j):=aK (bt (h8 (c:=.ia cj) rfl)) (aK (eo (d:=n) (ao:=σ.new (.ia cj)) rfl (VL (s _) gq))
  (aK (eo (d:=.tup [.bool l.al,.str P,iD m]) (ao:=ao) (iK (aS (aJ (d:=cW l) (e:=.int 3) rfl rfl rfl) (aS (av rfl) (aS (av rfl) bA))) (dO rfl))
    (bs (a:=[.bool l.al,.str P,iD m]) rfl (bs (Bg (s _) cb (zr rfl)) (bs (Bg (s _) cb (zr rfl)) (bs (Bg (s _) cb (zr rfl)) rfl))))) (fC (s _))))
 refine⟨j,fx rfl (bs y z),rfl,⟨dD _,λi v=>?_⟩,cb⟩
 have h:=bj v
 exact(aH h).trans ((aH h).trans ((aH h).trans ((aH h).trans (fk h))))
def rq(σ:MH)(lc:Nat->Nat)(a:List Ln):Prop:=∀m l,a[m]?=some l->nW σ (lc m) m l
noncomputable def l5 (u:Nat) (p:Pl):D:=.tup [.ref u,cZ p.ms,oD p.dl,oD p.rt]
theorem wb{σ:MH}{u k:Nat}{p:Pl}(h:σ.cell u=some (.list (p.ag.map .str))):cX σ (k+3) (l5 u p)=some (qp p):=
 have o:∀o,cX σ (k+2) (oD o)=some (wa o):=λo=>by induction o<;>rfl
 wc (bs (hH (k:=k+1) (d:=.ref u) (iC h) (hG λb b=>rfl)) (bs (bs (hH (k:=k+1) (d:=cZ p.ms) rfl (hG (p:=λi:Nat=>CP (i:Int)) λb b=>rfl)) (bs (bs (o p.dl) (bs (bs (o p.rt) (bs (a:=[]) rfl rfl)) rfl)) rfl)) rfl))
theorem wB{σ:MH}{lc:Nat->Nat}{a b i u r:Nat}{p:Pl}{e:List Ln}(h:RecAt σ lc a b i p u r)(g:rq σ lc e)(l:∀m∈p.ms,m<e.length)(o:p.ms.length<=aP):fT [.ref i] σ=some (l5 u p,σ):=by
 let ρ:=c_ [("record",.ref i)]
 have c:(ME.var "record") ρ σ=some (.ref i,σ):=rfl
 have f:ME.aI (.comp (.of (.ax (aV 59 "rulelines") (.var "record"))) (.name "line") [] (.elt (.ax (aV cj "mark") (.var "line"))) [".0","line"] (.list [])) ρ σ=some (cZ p.ms,σ):=
  eV p.ms (λm=>.ref (lc m)) iD (sm (cO c h.ci rfl) h.cr) (λj=>rQ h.cr) (by decide) (λm d ae q n=>by
   have k:=g m _ (gL (l m d))
   exact cO (av n) k rfl) o
 refine(?_:bO (bind1 "record") GF [.ref i] σ=_)
 refine fx rfl (fC (iK (aS (cO c h.ci rfl) (aS f (aS (cO c h.ci rfl) (aS (cO c h.ci rfl) bA)))) (dO rfl)))
theorem Vy{b:List aj}(h:∀a∈b,a∈A3):b.all fB=true:=List.all_eq_true.mpr λa c=>List.all_eq_true.mp (show A3.all fB=true by kernel_rfl) a (h a c)
theorem Oo{ρ:aC}{σ:MH}{a b:ME}{i j:Nat}{xs d:List aj}(g:a ρ σ=some (.ref i,σ))(h:σ.cell i=some (.list (xs.map .str)))(hb:b ρ σ=some (.ref j,σ))(k:σ.cell j=some (.list (d.map .str)))(m:xs.length<4000)(e:d.all fB=true)(f:d.length<=aP):
 MF.oL a b ρ σ=some (.list ((d.filter λx=>xs.contains x).map .str),σ):=by
 refine bs g (bs (iC h) (bs Bc (bs hb (bs (iC k) (bs Bc ((if_pos ⟨m,e,f⟩).trans ?_))))))
 refine congrArg (λl:List aj=>some (Cell.list (l.map .str),σ)) (Cf λx c=>?_)
 rw [tS,decide_eq_true_iff,rB]
theorem Af{σ:MH}{lc:Nat->Nat}{a b V P i j:Nat}{p q:Pl}(h:Rec σ lc a b i p)(k:Rec σ lc V P j q)(hb:b<=σ.next)(v:P<=σ.next)(S:p.Ok)(hq:q.Ok)(hz:p.ms.length+q.ms.length<=aP):
 ∃ab,gX [.ref i,.ref j] σ=some (.ref σ.next,ab)/\ab.next=σ.next+5/\Ext σ.next σ ab/\Rec ab lc σ.next (σ.next+5) σ.next (o5 p q):=by
 refine BB (EB σ) λao X B E W f f=>?_
 refine ew h λu r h=>?_
 refine ew k λu' r' k=>?_
 have R:=h.keep λm f g=>E.old m (a9 g hb)
 have kn:=k.keep λm f g=>E.old m (a9 g v)
 let N:=σ.next
 let ρ:=(c_ [("e1",.ref i),("e2",.ref j)]).set "entry" (.ref N)
 have D:∀ab,(ME.var "entry") ρ ab=some (.ref N,ab):=λf=>rfl
 have H:∀ab,(ME.var "e1") ρ ab=some (.ref i,ab):=λf=>rfl
 have I:∀ab,(ME.var "e2") ρ ab=some (.ref j,ab):=λf=>rfl
 have ni:i≠N:=bj (a9 h.i2 hb)
 have nj:j≠N:=bj (a9 k.i2 v)
 have K:∀{m},m<N->m≠ao.next:=λg=>bj (a9 g E.le)
 have L:∀{m},m<N->m≠ao.next+1:=λg=>bj (fG (a9 g E.le))
 have A:∀{m},m<N->m≠N:=λg=>bj g
 have M:N≠ao.next:=by exact aa (B ..)<|Nat.ne_of_lt (ff (k:=3) (by decide))
 have O:N≠ao.next+1:=by exact aa (B ..)<|Nat.ne_of_lt (ff (k:=4) (by decide))
 let aX:=(ao.new (.list ((p.ag.filter λx=>q.ag.contains x).map .str))).put N (kQ ao.next (N+2) .none .none)
 have Y:(MS.assign (.attr 59 "useragents" (.var "entry")) (.d9 (.oL (.ax (aV 59 "useragents") (.var "e2")) (.ax (aV 59 "useragents") (.var "e1"))))) ρ ao=some (.next,ρ,aX):=
  eo (h8 (Oo (cO (I _) kn.ci rfl) kn.cu (cO (H _) R.ci rfl) R.cu (ee hq.al (by decide)) (Vy S.ag) (aE S.al (by decide)))) (iq (D _) ((fk M).trans W) (zr rfl))
 have w:∀m,m<N->aX.cell m=σ.cell m:=λm g=>(aH (A g)).trans ((fk (K g)).trans (E.old m g))
 have Q:=h.keep λm f g=>w m (a9 g hb)
 have T:=k.keep λm f g=>w m (a9 g v)
 let l:=(aX.new (.list ((p.ms++q.ms).map λm=>.ref (lc m)))).put N (kQ ao.next (ao.next+1) .none .none)
 have Z:(MS.assign (.attr 59 "rulelines" (.var "entry")) (.d9 (.bh ui (.ax (aV 59 "rulelines") (.var "e1")) (.ax (aV 59 "rulelines") (.var "e2"))))) ρ aX=some (.next,ρ,l):=
  eo (h8 (c:=.list ((p.ms++q.ms).map λm=>.ref (lc m))) (ab:=aX) (bs (cO (H _) Q.ci rfl) (bs (cO (I _) T.ci rfl) (bs (iC Q.cr) (bs (iC T.cr) ((if_pos (by exact aa (aZ ..)<|aa (aZ ..)<|hz)).trans (by exact aa (ey ..) rfl))))))) (iq (D _) ((fk O).trans cb) (zr rfl))
 have y:∀m,m<N->l.cell m=σ.cell m:=λm g=>(aH (A g)).trans ((fk (L g)).trans (w m g))
 have h3:=h.keep λm f g=>y m (a9 g hb)
 have k3:=k.keep λm f g=>y m (a9 g v)
 have C:∀(ab:MH) (name:aj) (d e:Option Nat),(ME.ax (aV 59 name) (.var "e1")) ρ ab=some (oD d,ab)->(ME.ax (aV 59 name) (.var "e2")) ρ ab=some (oD e,ab)->(ME.ite (.val (.is (.ax (aV 59 name) (.var "e2")) .none_)) (.ax (aV 59 name) (.var "e1")) (.ax (aV 59 name) (.var "e2"))) ρ ab=some (oD (lst d e),ab):=λab name d e q1 U=>by
  refine El (c:=jb (oD e)) (cz (aJ (e:=.none) U rfl (if_pos rfl))) ?_
  induction e with
  | none=>exact q1
  | some n=>exact U
 let o:=l.put N (kQ ao.next (ao.next+1) (oD (lst p.dl q.dl)) .none)
 have e4:=eo (t:=.attr 59 "delay" (.var "entry")) (C l "delay" p.dl q.dl (cO (H _) h3.ci rfl) (cO (I _) k3.ci rfl)) (ae:=ρ) (ab:=o) (iq (D _) cb (zr rfl))
 have z:∀m,m<N->o.cell m=σ.cell m:=λm g=>(aH (A g)).trans (y m g)
 have h4:=h.keep λm f g=>z m (a9 g hb)
 have k4:=k.keep λm f g=>z m (a9 g v)
 let s:=o.put N (kQ ao.next (ao.next+1) (oD (lst p.dl q.dl)) (oD (lst p.rt q.rt)))
 have e5:=eo (t:=.attr 59 "req_rate" (.var "entry")) (C o "req_rate" p.rt q.rt (cO (H _) h4.ci rfl) (cO (I _) k4.ci rfl)) (ae:=ρ) (ab:=s) (iq (D _) cb (zr rfl))
 have G:ao.next≠N:=M.symm
 have J:ao.next+1≠N:=O.symm
 have hx:Ext N σ s:=⟨by show σ.next<=ao.next+2;exact aa (B ..)<|Nat.le_add_right _ 5,λm g=>(aH (A g)).trans (z m g)⟩
 refine⟨s,fx rfl (aK (bt (ρ:=c_ [("e1",.ref i),("e2",.ref j)]) (d8 (F:=mh) (ds:=[]) rfl X)) (aK Y (aK Z (aK e4 (aK e5 (fC (D _))))))),by show ao.next+2=_;exact aa (B ..) rfl,hx,ao.next,ao.next+1,?_,?_,?_,?_,bb _,ff (by decide),cb,?_,?_⟩
 .exact aa (B ..)<|Nat.le_add_right _ 3
 .exact aa (B ..)<|Nat.add_lt_add_left (by decide) _
 .exact aa (B ..)<|Nat.le_add_right _ 4
 .exact aa (B ..)<|Nat.add_lt_add_left (by decide) _
 .exact(aH G).trans ((aH G).trans ((aH G).trans ((fk (bj (cw _))).trans ((aH G).trans gq))))
 .exact(aH J).trans ((aH J).trans ((aH J).trans gq))
noncomputable def yf:MS:=.ite (.val (.ne (.var "agent") (.str "*"))) (.cons (.assign (.name "agent") (.ax sE (.var "agent"))) (.ite (.val (.jH (.var "agent") (.var "useragent"))) (.ret (.bool true)) .nil)) .nil
structure tZ(s t x:aj):Prop where
 low:∀ρ σ,ρ "useragent" =some (.str s)->(ME.ax sE (.idx (.aI (.bh pf (.var "useragent") (.str "/"))) (.int 0))) ρ σ=some (.str t,σ)
 ag:∀a∈A3,o_ (h5 a)=some (.str (h5 a))/\(!(a== "*") && !(mf t (h5 a) 0 t.length 1).isEmpty)=(x==a)
theorem L_{s t x a:aj}(h:tZ s t x)(u:a∈A3){ρ:aC}{σ:MH}(k:ρ "useragent" =some (.str t)):∃q,turn (.name "agent") yf (.str a) ρ σ=some q/\((x==a)=true->q.1=.ret (.bool true))/\((x==a)=false->q.1=.next/\q.2.1 "useragent" =some (.str t))/\q.2.2=σ:=by
 refine aA (h.ag a u) λo g=>?_
 generalize (x==a)=c at g ⊢
 have i:(MB.val (.ne (.var "agent") (.str "*"))) (ρ.set "agent" (.str a)) σ=some (!(a== "*"),σ):=cz (aJ (d:=.str a) (e:=.str "*") rfl rfl (o9 (p:=.str a) (q:=.str "*") rfl rfl))
 have j:(MB.val (.jH (.var "agent") (.var "useragent"))) ((ρ.set "agent" (.str a)).set "agent" (.str (h5 a))) σ=some (!(mf t (h5 a) 0 t.length 1).isEmpty,σ):=cz (aJ (d:=.str (h5 a)) (e:=.str t) rfl (av k) (vV rfl))
 induction n:a== "*" with
 | true=>rw [n] at i g;obtain rfl:false=c:=g;exact⟨_,bs rfl (d_ i rfl),λq=>(nomatch q),λb=>⟨rfl,k⟩,rfl⟩
 | false=>
  rw [n] at i g
  have l:=bt (x:="agent") (eD (a:=.var "agent") (f:=λd b=>d.dj.bind λx=>o_ (h5 x)) (ρ:=ρ.set "agent" (.str a)) (ao:=σ) (d:=.str a) (r:=.str (h5 a)) rfl o)
  induction m:(mf t (h5 a) 0 t.length 1).isEmpty with
  | true=>rw [m] at j g;obtain rfl:false=c:=g;exact⟨_,bs rfl (iO i (aK l (d_ j rfl))),λq=>(nomatch q),λb=>⟨rfl,k⟩,rfl⟩
  | false=>rw [m] at j g;obtain rfl:true=c:=g;exact⟨_,bs rfl (iO i (aK l (iO j (fC rfl)))),λb=>rfl,λq=>(nomatch q),rfl⟩
theorem Fm{σ:MH}{lc a b i u r p}{s t x:aj}(h:RecAt σ lc a b i p u r)(B:p.Ok)(H:tZ s t x):pA [.ref i,.str s] σ=some (.bool (p.ag.contains x),σ):=by
 let ρ:=(c_ [("self",.ref i),("useragent",.str s)])
 let bw:=ρ.set "useragent" (.str t)
 refine jO p.ag D.str (mi:=.of (.ax (aV 59 "useragents") (.var "self"))) (t:=.name "agent") (body:=yf) (ρ:=bw) (σ:=σ) (λL ae ab=>ae "useragent" =some (.str t)/\ab=σ/\L.contains x=false/\∃R,p.ag=L++R)
  (λj ae ab=>ab=σ/\((p.ag.contains x=true/\j=.ret (.bool true))∨(p.ag.contains x=false/\j=.next))) (sm (cO (av rfl) h.ci rfl) h.cu) (λc c ab c A=>by exact aa (A.2.1 ..)<|rQ h.cu) ⟨rfl,rfl,rfl,_,rfl⟩
  (λL y R ae ab q n=>eP n λz m k N=>by
    subst m
    have w:y∈p.ag:=q▸d0 _ a0
    obtain⟨⟨j,K,M⟩,E,F,G,rfl⟩:=L_ H (B.ag y w) z (σ:=ab)
    refine⟨_,E,?_⟩
    induction f:x==y with
    | true=>
     obtain rfl:j=.ret (.bool true):=F f
     exact⟨rfl,.inl ⟨by exact aa (eq_of_beq f ..)<|List.contains_iff_mem.mpr w,rfl⟩⟩
    | false=>
     refine aA (G f) λI J=>?_
     obtain rfl:j=.next:=I
     refine⟨J,rfl,?_,R,by exact aa (iW ..)<|q⟩
     rw [Bool.eq_false_iff] at k ⊢
     intro g
     rw [rB,n4] at g
     rcases g with g| g
     .exact k (List.contains_iff_mem.mpr g)
     .rw [pO] at g;rw [g,beq_self_eq_true] at f;cases f) (λae ab o=>eP o λz m k c=>⟨m,.inr ⟨k,rfl⟩⟩) λj ae ab v l=>?_
 obtain⟨rfl,l⟩:=l
 have start:∀r,(MS.cons (.cD (.of (.ax (aV 59 "useragents") (.var "self"))) (.name "agent") yf) (.ret (.bool false))) bw ab=some r->Gz ρ ab=some r:=λr C=>
  aK (d_ (cz (aJ (d:=.str s) (e:=.none) rfl rfl (if_pos rfl))) rfl) (aK (bt (H.low ρ ab rfl)) C)
 rcases l with ⟨h1,rfl⟩| ⟨h1,rfl⟩
 .exact aa (h1 ..)<|fx rfl (start _ (wj v rfl))
 .exact aa (h1 ..)<|fx rfl (start _ (aK v (fC rfl)))
theorem GP{ρ:aC}{σ ao aX:MH}{d e:D}{f a b r}(h:a ρ σ=some (d,ao))(h':b ρ ao=some (e,aX))(k:f d e aX=some r):MF.bh f a b ρ σ=some r:=bs h (bs h' k)
theorem Vr{σ:MH}{lc a b i u r p}(h:RecAt σ lc a b i p u r):pA [.ref i,.none] σ=some (.bool (p.ag.contains "*"),σ):=by
 have f:(ME.jH (.str "*") (.ax (aV 59 "useragents") (.var "self"))) (c_ [("self",.ref i),("useragent",.none)]) σ=some (.bool (p.ag.contains "*"),σ):=by
  refine aJ (d:=.str "*") (e:=.ref u) rfl (cO (av rfl) h.ci rfl) (vV ?_)
  show(match bU σ (.ref u) with| some xs=>_| none=>_)=_
  exact aa (iC h.cu ..)<|bs (a:=.str "*") rfl (bs (hG λc c=>rfl) (congrArg some yj))
 exact fx rfl (wj (iO (cz (aJ (d:=.none) (e:=.none) rfl rfl (if_pos rfl))) (fC f)) rfl)
theorem PD:tZ "Big*Figs/plum" "big*figs" "fig" where
 low ρ σ h:=eD (aJ (mP (c:=.list [.str "Big*Figs",.str "plum"]) (GP (d:=.str "Big*Figs/plum") (e:=.str "/") (av h) rfl (by kernel_rfl)) rfl) rfl rfl) (by kernel_rfl)
 ag a ha:=by
  have:∀a∈A3,(isStr (o_ (h5 a)) (h5 a) && ((!(a== "*") && !(mf "big*figs" (h5 a) 0 ("big*figs" :aj).length 1).isEmpty)==(("fig" :aj)==a)))=true:=List.all_eq_true.mp (by kernel_rfl)
  have:=this a ha
  rw [jo,beq_iff_eq] at this
  exact⟨qe this.1,this.2⟩
theorem PE:tZ "xpLumy" "xplumy" "Plum" where
 low ρ σ h:=eD (aJ (mP (c:=.list [.str "xpLumy"]) (GP (d:=.str "xpLumy") (e:=.str "/") (av h) rfl (by kernel_rfl)) rfl) rfl rfl) (by kernel_rfl)
 ag a ha:=by
  have:∀a∈A3,(isStr (o_ (h5 a)) (h5 a) && ((!(a== "*") && !(mf "xplumy" (h5 a) 0 ("xplumy" :aj).length 1).isEmpty)==(("Plum" :aj)==a)))=true:=List.all_eq_true.mp (by kernel_rfl)
  have:=this a ha
  rw [jo,beq_iff_eq] at this
  exact⟨qe this.1,this.2⟩
section
section
variable {ρ:aC} {σ ao aX:MH} {d e:D}
theorem Eu{c lo b l u}{x:aj}(h:c ρ σ=some (.str x,ao))(hl:jF lo ρ ao=some (l,ao))(d:jF b ρ ao=some (u,ao)):ME.slice c lo b ρ σ=some (.str (ng x l u),ao):=bs h (bs hl (bs d (bs (a:=.str (ng x l u)) rfl rfl)))
theorem D3{m:ME}{i:Int}(h:m ρ σ=some (.int i,ao)):jF (some m) ρ σ=some (some i,ao):=bs h rfl
theorem Oq{k kl:Nat}{name:aj}{F:FL}{mo:ME}{g:MA}{c r i as b}(h:mo ρ σ=some (.ref i,ao))(d:ao.cell i=some (.inst k as))(l:as.lookup name=some (.lam kl b))(h':g ρ ao=some (c,aX))(f:F b c aX=some r):ME.sH k kl name F mo g ρ σ=some r:=
 bs h (bs (a:=.lam kl b) (bs (u3 d) ((if_pos rfl).trans l)) (bs (a:=(kl,b)) rfl ((if_pos rfl).trans (bs h' f))))
end
noncomputable def oQ (name a:aj):Int:=bif hit name a then (a.length:Int)+1 else 0
theorem Q6(name a:aj)(σ:MH):pB [("size",.int a.length),("path",.str a)] [.str name] σ=some (.int (oQ name a),σ):=by
 let ρ:=td [("size",.int a.length),("path",.str a)] [("name",.str name)]
 have c:(MB.val (.eq (.slice (.var "name") .none (some (.var "size"))) (.var "path"))) ρ σ=some (hit name a,σ):=cz (aJ (Eu (x:=name) (l:=none) rfl rfl (D3 rfl)) (av (d:=.str a) rfl) (ji (p:=.str (ng name none (some (a.length:Int)))) (q:=.str a) rfl rfl))
 refine Eq.trans (b:=Ab ρ σ) rfl ?_
 refine El c ?_
 unfold oQ
 induction hit name a with
 | true=>exact aJ (d:=.int a.length) (e:=.int 1) rfl rfl rfl
 | false=>rfl
noncomputable def C_:MS:=.cons (.assign (.name "m") (.sH cj iM "applies_to" pB (.var "line") (aG [(.var "filename")]))) (.ite (.val (.var "m")) (.ite (.val (.gt (.var "m") (.var "best_match"))) (.cons (.assign (.name "best_match") (.var "m")) (.assign (.name "allowance") (.ax (aV cj "allowance") (.var "line")))) (.ite (.and (.val (.eq (.var "m") (.var "best_match"))) (.not (.val (.var "allowance")))) (.assign (.name "allowance") (.ax (aV cj "allowance") (.var "line"))) .nil)) .nil)
noncomputable def k8 (st:Int×Bool) (x:Nat×Bool):Int×Bool:=if (x.1:Int)+1>st.1 then ((x.1:Int)+1,x.2) else if (x.1:Int)+1=st.1/\st.2=false then (st.1,x.2) else st
noncomputable def hits (name:aj) (l:Ln):List (Nat×Bool):=bif hit name (bS l.f l.e) then [((bS l.f l.e).length,l.al)] else []
structure pk(name:aj)(st:Int×Bool)(ρ:aC):Prop where
 f:ρ "filename" =some (.str name)
 b:ρ "best_match" =some (.int st.1)
 a:ρ "allowance" =some (.bool st.2)
theorem Mc{name:aj}{st:Int×Bool}{ρ:aC}{σ:MH}{c m:Nat}{l:Ln}(h:pk name st ρ)(u:nW σ c m l):∃ae,turn (.name "line") C_ (.ref c) ρ σ=some (.next,ae,σ)/\pk name ((hits name l).foldl k8 st) ae:=by
 let bw:=(ρ.set "line" (.ref c)).set "m" (.int (oQ name (bS l.f l.e)))
 have w:∀ρ:aC,ρ "line" =some (.ref c)->(ME.ax (aV cj "allowance") (.var "line")) ρ σ=some (.bool l.al,σ):=λρ hl=>cO (av hl) u rfl
 have r:=bt (x:="m") (Oq (k:=cj) (kl:=iM) (name:="applies_to") (F:=pB) (mo:=.var "line") (g:=aG [.var "filename"]) (ρ:=ρ.set "line" (.ref c)) (σ:=σ) rfl u rfl (aS (av h.f) bA) (Q6 name _ σ))
 have d:pk name st bw:=⟨h.f,h.b,h.a⟩
 unfold hits
 induction v:hit name (bS l.f l.e) with
 | false=>
  have j:bw "m" =some (.int 0):=congrArg (λi=>some (D.int i)) (show oQ name (bS l.f l.e)=0 by unfold oQ;exact aa (v ..) rfl)
  exact⟨bw,bs rfl (aK r (d_ (oo (av j) rfl) rfl)),d⟩
 | true=>
  have j:bw "m" =some (.int ((bS l.f l.e).length+1)):=congrArg (λi=>some (D.int i)) (show oQ name (bS l.f l.e)=_ by unfold oQ;exact aa (v ..) rfl)
  have t:(MB.val (.var "m")) bw σ=some (true,σ):=oo (av j) (congrArg some (bne_iff_ne.mpr (rj (Int.lt_add_one_of_le (pJ _)))))
  have n:(MB.val (.gt (.var "m") (.var "best_match"))) bw σ=some (decide (((bS l.f l.e).length:Int)+1>st.1),σ):=cz (aJ (av j) (av d.b) rfl)
  have s:(MB.and (.val (.eq (.var "m") (.var "best_match"))) (.not (.val (.var "allowance")))) bw σ=some (((((bS l.f l.e).length:Int)+1)==st.1) && !st.2,σ):=Dv (cz (aJ (av j) (av d.b) (ji (p:=.int (((bS l.f l.e).length:Int)+1)) (q:=.int st.1) rfl rfl))) (ur (cz (av d.a)))
  show ∃ae,_/\pk name (k8 st ((bS l.f l.e).length,l.al)) ae
  unfold k8
  by_cases q:((bS l.f l.e).length:Int)+1>st.1
  .refine aa (if_pos q ..) ?_
   rw [decide_eq_true q] at n
   exact⟨_,bs rfl (aK r (iO t (iO n (aK (bt (av j)) (bt (w _ rfl)))))),h.f,rfl,rfl⟩
  .refine aa (if_neg q ..) ?_
   rw [decide_eq_false q] at n
   by_cases o:((bS l.f l.e).length:Int)+1=st.1/\st.2=false
   .refine aa (if_pos o ..) ?_
    rw [o.1,o.2,beq_self_eq_true] at s
    exact⟨_,bs rfl (aK r (iO t (d_ n (iO s (bt (w _ rfl)))))),h.f,h.b,rfl⟩
   .refine aa (if_neg o ..) ?_
    have:((((bS l.f l.e).length:Int)+1)==st.1 && !st.2)=false:=Bool.eq_false_iff.mpr λk=>o ⟨eq_of_beq (Bool.and_eq_true_iff.mp k).1,by have:=(Bool.and_eq_true_iff.mp k).2;simpa using this⟩
    rw [this] at s
    exact⟨_,bs rfl (aK r (iO t (d_ n (d_ s rfl)))),d⟩
theorem Dd{σ:MH}{lc a b i u r p}{e:List Ln}{name:aj}(h:RecAt σ lc a b i p u r)(v:rq σ lc e)(y:∀m∈p.ms,m<e.length):lp [.ref i,.str name] σ=some (.bool ((p.ms.flatMap λm=>(e[m]?).elim [] (hits name)).foldl k8 (-1,true)).2,σ):=by
 let ρ:=(c_ [("self",.ref i),("filename",.str name)])
 refine jO p.ms (λm=>.ref (lc m)) (mi:=.of (.ax (aV 59 "rulelines") (.var "self"))) (t:=.name "line") (body:=C_) (ρ:=(ρ.set "best_match" (.int (-1))).set "allowance" (.bool true)) (σ:=σ)
  (λL ae ab=>pk name ((L.flatMap λm=>(e[m]?).elim [] (hits name)).foldl k8 (-1,true)) ae/\ab=σ) (λl ae ab=>l=.next/\ab=σ/\pk name ((p.ms.flatMap λm=>(e[m]?).elim [] (hits name)).foldl k8 (-1,true)) ae) (sm (cO (av rfl) h.ci rfl) h.cr) (λc c ab c s=>by exact aa (s.2 ..)<|rQ h.cr) ⟨⟨rfl,rfl,rfl⟩,rfl⟩
  (λL m R ae ab A j=>aA j λk B=>by
    subst B
    have g:=y m (A▸d0 _ a0)
    have hl:=gL g
    refine aw (Mc k (v m _ hl)) λn f q=>?_
    refine⟨_,f,?_,rfl⟩
    exact aa (t8 ..)<|aa (xu ..)<|aa (xt ..)<|aa (hl ..)<|q) (λae ab k=>⟨rfl,k.2,k.1⟩) λl ae ab z w=>?_
 refine bP w λo f x=>?_
 subst o f
 exact fx rfl (aK (bt (d:=.int (-1)) rfl) (aK (bt (d:=.bool true) rfl) (aK z (fC (av x.a)))))
structure tQ(H:List (Nat×Bool))(b:Bool):Prop where
 ex:(H= []/\b=true)∨∃M,(∀x∈H,x.1<=M)/\(∃x∈H,x.1=M)/\(b=true↔ ∃x∈H,x.1=M/\x.2=true)
theorem Dz{H a:List (Nat×Bool)}{b c:Bool}(h:tQ H b)(h':tQ a c)(e:∀x,x∈H↔x∈a):b=c:=by
 rcases h.ex with ⟨rfl,rfl⟩| ⟨M,m1,⟨x,hx,mx⟩,m3⟩<;>rcases h'.ex with ⟨rfl,rfl⟩| ⟨M',n1,⟨y,hy,ny⟩,n3⟩
 .rfl
 .exact absurd ((e y).mpr hy) bQ
 .exact absurd ((e x).mp hx) bQ
 .obtain rfl:M=M':=CD (mx▸n1 x ((e x).mp hx)) (ny▸m1 y ((e y).mpr hy))
  rw [tS,m3,n3]
  exact exists_congr λx=>and_congr_left' (e x)
def HI(P:List (Nat×Bool))(st:Int×Bool):Prop:=(P= []/\st=(-1,true))∨∃M:Nat,st.1=(M:Int)+1/\(∀x∈P,x.1<=M)/\(∃x∈P,x.1=M)/\(st.2=true↔ ∃x∈P,x.1=M/\x.2=true)
theorem HI.step{P st}(x:Nat×Bool)(h:HI P st):HI (P++ [x]) (k8 st x):=by
 have c:∀y,y∈P++ [x]↔y∈P∨y=x:=λy=>by rw [n4,pO]
 unfold k8
 rcases h with ⟨rfl,rfl⟩| ⟨M,h1,h2,⟨z,hz,Qn⟩,h4⟩
 .refine aa (if_pos (by show(-1:Int)<(x.1:Int)+1;lia)) ?_
  refine .inr ⟨x.1,rfl,λy d=>?_,⟨x,d0 _ a0,rfl⟩,?_⟩
  .exact aa ((c y).mp d|>.resolve_left bQ ..)<|Nat.le_refl _
  .exact⟨λq=>⟨x,d0 _ a0,rfl,q⟩,λi=>bI i λy d a q=>((c y).mp d|>.resolve_left bQ)▸q⟩
 .refine aa (h1 ..) ?_
  by_cases q:(x.1:Int)+1>(M:Int)+1
  .refine aa (if_pos q ..) ?_
   refine .inr ⟨x.1,rfl,λy d=>((c y).mp d).elim (λd=>aE (h2 y d) (by lia)) λe=>e▸bb _,⟨x,(c x).mpr (.inr rfl),rfl⟩,⟨λq=>⟨x,(c x).mpr (.inr rfl),rfl,q⟩,λj=>bI j λy d p n=>?_⟩⟩
   rcases (c y).mp d with d| rfl
   .have:=h2 y d;lia
   .exact n
  .refine aa (if_neg q ..) ?_
   have f:∀b:Bool,(b=true↔(st.2=true∨(x.1=M/\x.2=true)))->HI (P++ [x]) ((M:Int)+1,b):=λb hb=>.inr ⟨M,rfl,λy d=>((c y).mp d).elim (h2 y) λe=>by refine aa (e ..) ?_;lia,⟨z,(c z).mpr (.inl hz),Qn⟩,by
    rw [hb,h4]
    exact⟨λk=>k.elim (λl=>aw l λy d r=>⟨y,(c y).mpr (.inl d),r⟩) λk=>⟨x,(c x).mpr (.inr rfl),k⟩,λm=>aw m λy d r=>((c y).mp d).elim (λd=>.inl ⟨y,d,r⟩) λe=>.inr (e▸r)⟩⟩
   by_cases g:(x.1:Int)+1=(M:Int)+1/\st.2=false
   .refine aa (if_pos g ..) ?_
    refine f x.2 ?_
    have:x.1=M:=by lia
    refine aa (g.2 ..) ?_;simp [this]
   .refine aa (if_neg g ..) ?_
    have:=f st.2 ⟨.inl,λk=>k.elim id λk=>?_⟩
    .rw [← h1] at this;exact this
    .induction o:st.2 with
     | true=>rfl
     | false=>exact absurd ⟨by lia,o⟩ g
theorem EX(H:List (Nat×Bool)):tQ H (H.foldl k8 (-1,true)).2:=by
 have a:∀(R P:List (Nat×Bool)) (st:Int×Bool),HI P st->HI (P++R) (R.foldl k8 st):=by
  intro R
  induction R with
  | nil=>exact λP st h=>by exact aa (hW ..)<|h
  | cons x R b=>exact λP st h=>by have:=b (P++ [x]) _ (h.step x);rwa [iW] at this
 rcases a H [] (-1,true) (.inl ⟨rfl,rfl⟩) with ⟨h,e⟩| ⟨M,_,h⟩
 .exact⟨.inl ⟨h,by exact aa (e ..) rfl⟩⟩
 .exact⟨.inr ⟨M,h⟩⟩
end
theorem EJ{σ:MH}{i:Nat}{d:D}{xs ys:List D}(h:σ.cell i=some (.list xs))(k:bU σ d=some ys)(a:xs.length+ys.length<=aP):p8 (.ref i) d σ=some (.none,σ.put i (.list (xs++ys))):=bs (oz h) (bs k (if_pos a))
theorem pY{σ:MH}{i:Nat}{d:D}{xs:List D}(h:σ.cell i=some (.list xs))(a:xs.length<aP):fK (.ref i) d σ=some (.none,σ.put i (.list (xs++ [d]))):=bs (oz h) (if_pos a)
theorem mW{σ:MH}{i:Nat}{xs:List D}(h:σ.cell i=some (.list xs)):eh (.ref i) σ=true:=by unfold eh;exact aa (oz h ..) rfl
noncomputable def kU (N:Nat) (a:List Nat) (m:Nat):Nat:=N+a.idxOf m
theorem Rg{N:Nat}{a:List Nat}(h:a.Nodup):(dv a.length).map (λk=>D.ref (N+k))=a.map λm=>.ref (kU N a m):=by
 refine List.ext_getElem (by exact aa (aZ ..)<|aa (aZ ..)<|aa (hX ..) rfl) λk c b=>?_
 rw [aZ] at b
 refine aa (KC ..)<|aa (KC ..)<|aa (List.getElem_range ..) ?_
 unfold kU
 exact aa (h.idxOf_getElem k b ..) rfl
theorem UH{σ:MH}{w:List Ln}{p:Pl}(hl:∀l∈w,l.Ok)(hp:p.Ok)(hm:∀m∈p.ms,m<w.length)(hd:p.ms.Nodup)(hz:p.ms.length<=20):
 ∃ab,pE [.list (w.map cW),b_ p] σ=some (.ref σ.next,ab)/\Ext σ.next σ ab/\Rec ab (kU (σ.next+3) p.ms) σ.next (σ.next+3) σ.next p/\(∀m∈p.ms,∀l,w[m]?=some l->nW ab (kU (σ.next+3) p.ms m) m l)/\(∀m∈p.ms,kU (σ.next+3) p.ms m<ab.next)/\σ.next+3<=ab.next:=by
 let N:=σ.next
 refine BB (EB σ) λao e0 n1 x1 c1 c2 c3=>?_
 let u:=c_ [("lines",.list (w.map cW)),("plain",b_ p)]
 let ρ:=u.set "record" (.ref N)
 have K:∀ab,(ME.var "record") ρ ab=some (.ref N,ab):=λf=>rfl
 have P:N+1≠N:=pT N
 have Q:N+2≠N:=dc (ff (by decide))
 have B:N+2≠N+1:=dc (cw _)
 let aX:=ao.put (N+1) (.list (p.ag.map .str))
 have k2:aX.cell N=some (kQ (N+1) (N+2) .none .none):=(aH P.symm).trans c1
 have S:(ME.dB eh p8 (.ax (aV 59 "useragents") (.var "record")) (.idx (.var "plain") (.int 0))) ρ ao=some (.none,aX):=
  j_ (cO (K _) c1 rfl) (mW c2) (aJ (d:=b_ p) (e:=.int 0) (r:=gh p.ag) rfl rfl rfl) (EJ c2 (ys:=p.ag.map .str) rfl (by exact aa (aZ ..)<|cf (aE (xH hp.al 0) (by decide))))
 have k3:aX.cell (N+2)=some (.list []):=(aH B).trans c3
 have n2:aX.next=N+3:=n1
 refine y1 (p.ms.map iD) (at_:=fj (cZ p.ms)) (t:=.name "mark") (ifs:=[]) (b:=.elt (.a8 pC (aG [(.idx (.var "lines") (.var "mark")),(.var "mark")])))
  (λL ae ab c=>Agree [".0","mark"] ρ ae/\ab.next=N+3+L.length/\Ext (N+3) aX ab/\c=.list ((dv L.length).map λk=>.ref (N+3+k))/\∀(k m:Nat),k<L.length->p.ms[k]?=some m->∀l,w[m]?=some l->nW ab (N+3+k) m l) (λf f f f f f=>rfl)
  (λL x R ae ab c hs ko=>l9 ko λhA J hx V hI=>by
    subst V
    have I:(p.ms.map iD)[L.length]?=some x:=by exact aa (hs ..)<|lM
    rw [gg] at I
    refine aw (Option.map_eq_some_iff.mp I) λm n Z=>?_;obtain rfl:=Z
    have G:=hm m (lA n)
    have E:=gL G
    refine dG (Rn (hl _ (KD G)) m ab) λM S T A e4=>?_
    have C:L.length<p.ms.length:=(List.getElem?_eq_some_iff.mp n).1
    have W:(ae.set "mark" (iD m)) "lines" =some (.list (w.map cW)):=(if_neg (by decide)).trans (hA "lines" (by decide))
    have H:(ae.set "mark" (iD m)) "mark" =some (iD m):=if_pos rfl
    refine⟨(ae.set "mark" (iD m),M,_),bs rfl (bs (a:=(true,ab)) rfl (wR (d8 (aS (uN (p:=(w[m],m)) W H (List.mem_zipIdx_iff_getElem?.mpr E)) (aS (av H) bA)) S) (by exact aa (aZ ..)<|aa (hX ..)<|Nat.lt_of_lt_of_le (a9 C hz) (by decide)))),hA.set (by decide),?_,hx.trans (A.mono (by exact aa (J ..)<|Nat.le_add_right _ _)),?_,?_⟩
    .exact aa (bF ..)<|aa (T ..)<|aa (J ..) rfl
    .exact aa (bF ..)<|aa (xv ..)<|aa (Cv ..)<|aa (ey ..)<|aa (J ..) rfl
    .intro k m' q y l s
     rw [bF,xv] at q
     rcases xI (rJ q) with q| rfl
     .exact(A.old _ (by exact aa (J ..)<|Nat.add_lt_add_left q _)).trans (hI k m' q y l s)
     .rw [n] at y
      obtain rfl:=aM y
      rw [E] at s
      obtain rfl:=aM s
      exact aa (.symm (J ..))<|e4) (ρ.drop [".0","mark"]) aX (.list []) ⟨Agree.drop,n2,Ext.refl,rfl,λk m q=>absurd q (xJ _)⟩ λXd g cq hq hQ=>?_
 refine l9 hQ λf n3 O A hc=>?_
 subst A
 rw [aZ] at n3 hc
 have X:(dv p.ms.length).map (λk=>D.ref (N+3+k))=p.ms.map λm=>.ref (kU (N+3) p.ms m):=Rg hd
 have q2:g.cell (N+2)=some (.list []):=(O.old _ (cw _)).trans k3
 have q1:g.cell (N+1)=some (.list (p.ag.map .str)):=(O.old _ (fG (cw _))).trans cb
 have q0:g.cell N=some (kQ (N+1) (N+2) .none .none):=(O.old _ (ff (by decide))).trans k2
 let o:=g.put (N+2) (.list (p.ms.map λm=>.ref (kU (N+3) p.ms m)))
 have T:(ME.dB eh p8 (.ax (aV 59 "rulelines") (.var "record")) (.aI (.comp (.of (.idx (.var "plain") (.int 1))) (.name "mark") [] (.elt (.a8 pC (aG [(.idx (.var "lines") (.var "mark")),(.var "mark")]))) [".0","mark"] (.list [])))) ρ aX=some (.none,o):=by
  refine j_ (cO (K _) k2 rfl) (mW k3) (e:=.list (p.ms.map λm=>.ref (kU (N+3) p.ms m))) (mP (c:=.list ((dv p.ms.length).map λk=>D.ref (N+3+k))) (bs (a:=(fj (cZ p.ms),(p.ms.map iD).length+1,aX)) (cU (aJ (d:=b_ p) (e:=.int 1) rfl rfl rfl)) (bs hq (by exact aa (aZ ..) rfl))) (congrArg (λl=>some (D.list l)) X)) (EJ q2 rfl ?_)
  exact aa (aZ ..)<|cf (by show 0+p.ms.length<=1000;lia)
 let z:=o.put N (kQ (N+1) (N+2) (oD p.dl) .none)
 let i:=z.put N (kQ (N+1) (N+2) (oD p.dl) (oD p.rt))
 have A:(MS.assign (.tup [(.attr 59 "delay" (.var "record")),(.attr 59 "req_rate" (.var "record"))]) (.tup [(.idx (.var "plain") (.int 2)),(.idx (.var "plain") (.int 3))])) ρ o=some (.next,ρ,i):=
  eo (d:=.tup [oD p.dl,oD p.rt]) (iK (aS (aJ (d:=b_ p) (e:=.int 2) rfl rfl rfl) (aS (aJ (d:=b_ p) (e:=.int 3) rfl rfl rfl) bA)) (dO rfl)) (bs (a:=[oD p.dl,oD p.rt]) rfl (bs (iq (K _) ((aH Q.symm).trans q0) (zr rfl)) (bs (iq (K _) cb (zr rfl)) rfl)))
 have U:∀j,N+3<=j->i.cell j=g.cell j:=λj v=>(aH (dc (a9 (ff (by decide)) v))).trans ((aH (dc (a9 (ff (by decide)) v))).trans (aH (dc (a9 (cw _) v))))
 have Y:i.next=N+3+p.ms.length:=n3
 refine⟨i,fx rfl (aK (bt (ρ:=u) (d8 (F:=mh) (ds:=[]) rfl e0)) (aK (il S) (aK (il T) (aK A (fC (K _)))))),⟨by exact aa (Y ..)<|Nat.le_trans (cy N 3) (cy _ _),λj v=>?_⟩,
  ⟨N+1,N+2,⟨dD _,fG (cw _),cy _ _,cw _,bb _,ff (by decide),cb,?_,?_⟩⟩,λm n l s=>?_,λm n=>?_,by exact aa (Y ..)<|Nat.le_add_right _ _⟩
 .have h:=bj v
  exact(aH h).trans ((aH h).trans ((aH (bj (gO 2 v))).trans ((O.old j (gO 3 v)).trans ((aH (bj (gO 1 v))).trans (x1.old j v)))))
 .exact(aH P).trans ((aH P).trans ((aH B.symm).trans q1))
 .exact(aH Q).trans ((aH Q).trans cb)
 .have q:p.ms.idxOf m<p.ms.length:=KJ n
  exact(U _ (cy _ _)).trans (hc _ m q ((gL q).trans (congrArg some (List.getElem_idxOf q))) l s)
 .exact aa (Y ..)<|Nat.add_lt_add_left (KJ n) _
section
noncomputable def lX (f:List Nat) (n:Int) (l:Nat):Cell:=.slots 176 [(0,.str (aR f)),(1,.int n),(2,.ref l)]
noncomputable def aB (f:List Nat):D:=.str (aR f)
noncomputable def qB (fs:List (List Nat)):Cell:=.list (fs.map aB)
noncomputable def bV (ci:List Nat->Nat) (f:List Nat):D:=.ref (ci f)
structure fY(σ:MH)(B T:Nat)(ns:List (List Nat))(ci:List Nat->Nat)(np:List Nat->Int)(sc:List Nat->List (List Nat)):Prop where
 cG:dZ ns
 inf:∀f∈ns,σ.cell (ci f)=some (lX f (np f) (ci f+1))
 iQ:∀f∈ns,σ.cell (ci f+1)=some (qB (sc f))
 lo:∀f∈ns,B+2<=ci f
 hi:∀f∈ns,ci f+1<T
 ne:∀f∈ns,∀g∈ns,f≠g->ci f≠ci g
 n1:∀f∈ns,∀g∈ns,ci f≠ci g+1
noncomputable def eW {β:Type} (h:List Nat->β) (f:List Nat) (v:β):List Nat->β:=λg=>if g=f then v else h g
theorem lQ{β:Type}{h:List Nat->β}{f v}:eW h f v f=v:=if_pos rfl
theorem kR{β:Type}{h:List Nat->β}{f g v}(e:g≠f):eW h f v g=h g:=if_neg e
section
variable {σ ab:MH} {B T:Nat} {ns:List (List Nat)} {ci:List Nat->Nat} {np:List Nat->Int} {sc:List Nat->List (List Nat)} {f g:List Nat}
theorem fY.keep(S:fY σ B T ns ci np sc)(h:∀i,B+2<=i->i<T->ab.cell i=σ.cell i):fY ab B T ns ci np sc:=
 {S with
   inf:=λf a=>(h _ (S.lo f a) (lD (S.hi f a))).trans (S.inf f a)
   iQ:=λf a=>(h _ (gN (S.lo f a)) (S.hi f a)).trans (S.iQ f a)}
theorem fY.up(S:fY σ B T ns ci np sc){a}(h:T<=a):fY σ B a ns ci np sc:={S with hi:=λf b=>a9 (S.hi f b) h}
theorem fY.wo(S:fY σ B T ns ci np sc)(b:f∈ns)(v:Int):fY (σ.put (ci f) (lX f v (ci f+1))) B T ns ci (eW np f v) sc:=
 {S with
   inf:=λg a=>by
    by_cases e:g=f
    .subst e;exact aa (lQ ..)<|cb
    .exact aa (kR e ..)<|(aH (S.ne g a f b e)).trans (S.inf g a)
   iQ:=λg a=>(aH (Ne.symm (S.n1 f b g a))).trans (S.iQ g a)}
theorem fY.U8(S:fY σ B T ns ci np sc)(b:f∈ns)(v:List (List Nat)):fY (σ.put (ci f+1) (qB v)) B T ns ci np (eW sc f v):=
 {S with
   inf:=λg a=>(aH (S.n1 g a f b)).trans (S.inf g a)
   iQ:=λg a=>by
    by_cases e:g=f
    .subst e;exact aa (lQ ..)<|cb
    .exact aa (kR e ..)<|(aH λq=>S.ne g a f b e (XO q)).trans (S.iQ g a)}
theorem fY.same(S:fY σ B T ns ci np sc){ql b}(h:∀f∈ns,ql f=np f)(k:∀f∈ns,b f=sc f):fY σ B T ns ci ql b:=
 {S with inf:=λf a=>by exact aa (h f a ..)<|S.inf f a,iQ:=λf a=>by exact aa (k f a ..)<|S.iQ f a}
end
noncomputable def jS (B:Nat) (r:D) (p q:Int):Cell:=.inst 273 [("_node2info",.ref (B+1)),("_ready_nodes",r),("_npassedout",.int p),("_nfinished",.int q)]
structure iA(σ:MH)(B:Nat)(ns:List (List Nat))(ci:List Nat->Nat)(np:List Nat->Int)(sc:List Nat->List (List Nat)):Prop where
 S:fY σ B σ.next ns ci np sc
 c:σ.cell B=some (jS B .none 0 0)
 d:σ.cell (B+1)=some (.dict (dk (bV ci) ns))
 t:B+2<=σ.next
 df:∀f,f∉ns->np f=0/\sc f= []
 z:ns.length<=100
theorem gI{B i:Nat}(h:B+2<=i):B≠i/\B+1≠i:=⟨bj (a9 (ff (by decide)) h),bj h⟩
theorem QB(σ:MH)(f:List Nat):∃ab,qW [aB f] σ=some (.ref σ.next,ab)/\ab.next=σ.next+2/\Ext σ.next σ ab/\ab.cell σ.next=some (lX f 0 (σ.next+1))/\ab.cell (σ.next+1)=some (qB []):=by
 let N:=σ.next
 let ρ:=c_ [("self",.ref N),("node",aB f)]
 have b:∀ab,(ME.var "self") ρ ab=some (.ref N,ab):=λa=>rfl
 have j:N≠N+1:=bj (cw _)
 let ao:=((σ.new (.slots 176 [])).put N (.slots 176 [(0,aB f)])).put N (.slots 176 [(0,aB f),(1,.int 0)])
 have e:xf [.ref N,aB f] (σ.new (.slots 176 []))=some (.none,(ao.new (.list [])).put N (lX f 0 (N+1))):=
  oJ rfl (aK (eo (av rfl) (tx (b _) gq)) (aK (eo (d:=.int 0) (ao:=(σ.new (.slots 176 [])).put N (.slots 176 [(0,aB f)])) rfl (tx (b _) cb)) (eo (h8 (c:=.list []) (ab:=ao) rfl) (tx (b _) ((fk j).trans cb)))))
 refine⟨_,bs e (if_pos rfl),rfl,⟨cy _ 2,λi g=>?_⟩,cb,?_⟩
 .have h:=bj g
  exact(aH h).trans ((fk (bj (fG g))).trans ((aH h).trans ((aH h).trans (fk h))))
 .exact(aH j.symm).trans gq
theorem E_{σ:MH}{B:Nat}{ns:List (List Nat)}{ci:List Nat->Nat}{np:List Nat->Int}{sc:List Nat->List (List Nat)}{f:List Nat}(H:iA σ B ns ci np sc)(z:f∈b7)(F:ns.length<100):
 ∃ab l,lq [.ref B,aB f] σ=some (.ref (l f),ab)/\iA ab B (addW ns f) l np sc/\Ext B σ ab/\(∀g∈ns,l g=ci g):=by
 let ρ:=c_ [("self",.ref B),("node",aB f)]
 have O:∀ab,ab.cell B=some (jS B .none 0 0)->(ME.ax (aV 273 "_node2info") (.var "self")) ρ ab=some (.ref (B+1),ab):=λab h=>cO (av rfl) h rfl
 have s:(ME.dB mV p_ (.ax (aV 273 "_node2info") (.var "self")) (.var "node")) ρ σ=some (((dk (bV ci) ns).lookup (aR f)).getD .none,σ):=
  j_ (O σ H.c) (by unfold mV;exact aa (yk H.d ..) rfl) (av rfl) (Ay (bs (yk H.d) (bs (a:=aR f) rfl rfl)))
 rw [uJ H.S.cG z] at s
 by_cases h:f∈ns
 .rw [if_pos h] at s
  refine⟨σ,ci,?_,by unfold addW;exact aa (if_pos h ..)<|H,Ext.refl,λb b=>rfl⟩
  exact fx (ae:=ρ.set "result" (.ref (ci f))) rfl (aK (bs s rfl) (fC rfl))
 .rw [if_neg h] at s
  refine lg (QB σ f) λao G I w J K=>?_
  let N:=σ.next
  let l:=eW ci f N
  have j:∀g∈ns,l g=ci g:=λg m=>kR λe=>h (e▸m)
  have x:=gI H.t
  let aX:=ao.put (B+1) (.dict (dk (bV l) (ns++ [f])))
  have M:eF (dk (bV ci) ns) (aR f) (.ref N)=dk (bV l) (ns++ [f]):=by
   have:dk (bV ci) ns=dk (bV l) ns:=kD λg m=>by show(aR g,D.ref (ci g))=(aR g,D.ref (l g));exact aa (j g m ..) rfl
   exact aa (this ..)<|aa (show D.ref N=bV l f from congrArg D.ref (lQ (h:=ci)).symm)<|uK H.S.cG z h
  have u:ao.cell B=some (jS B .none 0 0):=(w.old B (a9 (ff (by decide)) H.t)).trans H.c
  have y:ao.cell (B+1)=some (.dict (dk (bV ci) ns)):=(w.old (B+1) H.t).trans H.d
  have L:(MS.pg "result" (.dB mV p_ (.ax (aV 273 "_node2info") (.var "self")) (.var "node")) (.pZ (.sub (.ax (aV 273 "_node2info") (.var "self")) (.var "node")) (.name "result") (.a8 qW (aG [(.var "node")]))) .nil) ρ σ=some (.next,(ρ.set "result" .none).set "result" (.ref N),aX):=
   bs s (bs (a:=(.ref N,ao)) (d8 (aS (av rfl) bA) G) (bs (tA (d:=.ref N) (mo:=.ax (aV 273 "_node2info") (.var "self")) (mi:=.var "node") (cO (av rfl) u rfl) (av rfl) y (by exact aa (oC ..)<|Nat.lt_of_lt_of_le F (by decide))) (bs rfl (congrArg (λk=>some (Fl.next,(ρ.set "result" .none).set "result" (.ref N),ao.put (B+1) (.dict k))) M))))
  have r:∀i,i<N->i≠B+1->aX.cell i=σ.cell i:=λi v C=>(aH C).trans (w.old i v)
  have E:aX.next=N+2:=I
  refine⟨aX,l,(fx rfl (aK L (fC (av rfl)))).trans (congrArg (λk=>some (D.ref k,aX)) (lQ (h:=ci)).symm),?_,⟨by exact aa (E ..)<|Nat.le_add_right _ _,λi v=>r i (rK v (a9 (ff (by decide)) H.t)) (bj (fG v))⟩,j⟩
  unfold addW
  refine aa (if_neg h ..) ?_
  have n:∀g,g∈ns++ [f]->g∈ns∨g=f:=λg m=>(List.mem_append.mp m).imp id List.mem_singleton.mp
  have p:l f=N:=lQ
  have o:∀g∈ns,ci g<N:=λg m=>lD (H.S.hi g m)
  refine⟨⟨λg m=>(n g m).elim (H.S.cG g) λe=>e▸z,λg m=>?_,λg m=>?_,λg m=>?_,λg m=>?_,λg m k A e=>?_,λg m k A=>?_⟩,(aH (bj (cw B))).trans u,cb,by exact aa (E ..)<|Nat.le_trans H.t (cy _ _),λg m=>H.df g λq=>m (jY _ q),by exact aa (bF ..)<|F⟩
  .rcases n g m with q| rfl
   .exact aa (j g q ..)<|aa (r _ (o g q) (gI (H.S.lo g q)).2.symm ..)<|H.S.inf g q
   .exact aa (p ..)<|aa ((H.df g h).1 ..)<|aa (aH x.2.symm ..)<|J
  .rcases n g m with q| rfl
   .exact aa (j g q ..)<|aa (r _ (H.S.hi g q) (Ne.symm (gI (gN (H.S.lo g q))).2) ..)<|H.S.iQ g q
   .exact aa (p ..)<|aa ((H.df g h).2 ..)<|aa (aH (Ne.symm (gI (gN H.t)).2) ..)<|K
  .rcases n g m with q| rfl
   .exact aa (j g q ..)<|H.S.lo g q
   .exact aa (p ..)<|H.t
  .refine aa (E ..) ?_
   rcases n g m with q| rfl
   .exact aa (j g q ..)<|Nat.lt_add_right 2 (H.S.hi g q)
   .exact aa (p ..)<|Nat.lt_succ_self _
  .rcases n g m with q| rfl<;>rcases n k A with q'| rfl
   .exact aa (j g q ..)<|aa (j k q' ..)<|H.S.ne g q k q' e
   .exact aa (j g q ..)<|aa (p ..)<|Nat.ne_of_lt (o g q)
   .exact aa (j k q' ..)<|aa (p ..)<|Nat.ne_of_gt (o k q')
   .exact absurd rfl e
  .rcases n g m with q| rfl<;>rcases n k A with q'| rfl
   .exact aa (j g q ..)<|aa (j k q' ..)<|H.S.n1 g q k q'
   .exact aa (j g q ..)<|aa (p ..)<|Nat.ne_of_lt (fG (o g q))
   .exact aa (j k q' ..)<|aa (p ..)<|Nat.ne_of_gt (H.S.hi k q')
   .exact bj (cw _)
end
section
section
variable {ρ:aC} {σ ao aX:MH}
theorem HL{k j:Nat}{f:D->D->MH->Option (D×MH)}{mo me:ME}{i:Nat}{as:List (Nat×D)}{x v z:D}(h:mo ρ σ=some (.ref i,σ))(b:σ.cell i=some (.slots k as))(l:as.lookup j=some x)(h':me ρ σ=some (v,σ))(c:f x v σ=some (z,σ)):
 MS.lH k j f mo me ρ σ=some (.next,ρ,σ.put i (.slots k (putN as j z))):=
 bs h (bs (a:=x) (bs (uC b) l) (bs h' (bs c (bs (a:=σ.put i (.slots k (putN as j z))) (bs (uC b) rfl) rfl))))
theorem HK{k:Nat}{name:aj}{f:D->D->MH->Option (D×MH)}{mo me:ME}{i:Nat}{as:List (aj×D)}{x v z:D}(h:mo ρ σ=some (.ref i,σ))(b:σ.cell i=some (.inst k as))(d:as.length<=1000)(l:as.lookup name=some x)(h':me ρ σ=some (v,σ))(c:f x v σ=some (z,σ)):
 MS.oj k name f mo me ρ σ=some (.next,ρ,σ.put i (.inst k (eF as name z))):=
 bs h (bs (a:=x) (bs (u3 b) ((if_pos rfl).trans l)) (bs h' (bs c (bs (a:=σ.put i (.inst k (eF as name z))) (bs (yH b) (if_pos ⟨rfl,d⟩)) rfl))))
end
theorem C4{fs:List (List Nat)}{f:List Nat}:f∈addW fs f:=by
 unfold addW
 split
 .assumption
 .exact d0 _ a0
theorem C5{σ:MH}{B:Nat}{ns ci np sc}{f:List Nat}{ds:List D}{n:Nat}(H:iA σ B ns ci np sc)(A:f∈b7)(I:ns.length<100)(G:ds.length=n):
 let ρ:=c_ [("self",.ref B),("node",aB f),("predecessors",.tup ds)]
 ∃ab l,iA ab B (addW ns f) l (eW np f (np f+n)) sc/\Ext B σ ab/\(∀(y:MS) r,y (ρ.set "nodeinfo" (.ref (l f))) ab=some r->MS.cons (.ite (.val (.kg (.ax (aV 273 "_ready_nodes") (.var "self")) .none_)) .never .nil) (.cons (.assign (.name "nodeinfo") (.dC 273 "_get_nodeinfo" lq (.var "self") (aG [(.var "node")]))) (.cons (.lH 176 1 kT (.var "nodeinfo") (.ax bW (.var "predecessors"))) y)) ρ σ=some r):=by
 intro ρ
 refine nI (E_ H A I) λao l s b J a=>?_
 have p:f∈addW ns f:=C4
 have E:=b.S.inf f p
 have u:(MB.val (.kg (.ax (aV 273 "_ready_nodes") (.var "self")) .none_)) ρ σ=some (false,σ):=cz (aJ (d:=.none) (e:=.none) (cO (av rfl) H.c rfl) rfl (if_pos rfl))
 have v:=bt (x:="nodeinfo") (jC (C:=273) (name:="_get_nodeinfo") (F:=lq) (mo:=.var "self") (g:=aG [.var "node"]) (ρ:=ρ) (σ:=σ) (i:=B) rfl H.c rfl (aS (d:=aB f) rfl bA) s)
 have m:(ME.ax bW (.var "predecessors")) (ρ.set "nodeinfo" (.ref (l f))) ao=some (iD n,ao):=eD (d:=.tup ds) rfl (congrArg (λk:Nat=>some (iD k)) G)
 have w:=HL (k:=176) (j:=1) (f:=kT) (mo:=.var "nodeinfo") (me:=.ax bW (.var "predecessors")) (ρ:=ρ.set "nodeinfo" (.ref (l f))) (σ:=ao) (x:=.int (np f)) (z:=.int (np f+n)) rfl E rfl m rfl
 have o:=gI (b.S.lo f p)
 refine⟨ao.put (l f) (lX f (np f+n) (l f+1)),l,⟨b.S.wo p _,(aH o.1).trans b.c,(aH o.2).trans b.d,b.t,λg q=>⟨(kR λe=>q (by exact aa (e ..)<|p)).trans (b.df g q).1,(b.df g q).2⟩,b.z⟩,J.trans (Ext.put (aE (cy B 2) (b.S.lo f p))),λy r h=>aK (d_ u rfl) (aK v (aK w h))⟩
theorem L3{σ:MH}{B:Nat}{ns ci np sc}{f:List Nat}(H:iA σ B ns ci np sc)(d:f∈b7)(h:ns.length<100)(b:np f=0):∃ab a,jr [.ref B,aB f] σ=some (.none,ab)/\iA ab B (addW ns f) a np sc/\Ext B σ ab:=by
 refine eQ (C5 H d h (ds:=[]) (n:=0) rfl) λab a c x k=>?_
 have:eW np f (np f+(0:Nat))=np:=funext λg=>by
  by_cases e:g=f
  .exact aa (e ..)<|aa (lQ ..)<|aa (b ..) rfl
  .exact kR e
 rw [this] at c
 exact⟨ab,a,oJ rfl (k _ _ rfl),c,x⟩
theorem L4{σ:MH}{B:Nat}{ns ci np sc}{f g:List Nat}(H:iA σ B ns ci np sc)(K:f∈b7)(L:g∈b7)(E:ns.length<99)(M:(sc g).length<=100):
 ∃ab v,jr [.ref B,aB f,aB g] σ=some (.none,ab)/\iA ab B (addW (addW ns f) g) v (eW np f (np f+1)) (eW sc g (sc g++ [f]))/\Ext B σ ab:=by
 let ρ:=c_ [("self",.ref B),("node",aB f),("predecessors",.tup [aB g])]
 let A:MS:=.cons (.assign (.name "pred_info") (.dC 273 "_get_nodeinfo" lq (.var "self") (aG [(.var "pred")]))) (.expr (.dB eh fK (.ax (eY 176 2) (.var "pred_info")) (.var "node")))
 refine eQ (C5 H K (fG E) (ds:=[aB g]) (n:=1) rfl) λao q p N k=>?_
 have y:(addW ns f).length<100:=ee ye (xM E)
 refine nI (E_ p L y) λaX m G j O b=>?_
 have r:g∈addW (addW ns f) g:=C4
 let bw:=(ρ.set "nodeinfo" (.ref (q f))).set "pred" (aB g)
 let o:=bw.set "pred_info" (.ref (m g))
 have I:=bt (x:="pred_info") (jC (C:=273) (name:="_get_nodeinfo") (F:=lq) (mo:=.var "self") (g:=aG [.var "pred"]) (ρ:=bw) (σ:=ao) (i:=B) rfl p.c rfl (aS (d:=aB g) rfl bA) G)
 have u:=j.S.iQ g r
 have J:(ME.dB eh fK (.ax (eY 176 2) (.var "pred_info")) (.var "node")) o aX=some (.none,aX.put (m g+1) (qB (sc g++ [f]))):=
  (j_ (oF (av rfl) (j.S.inf g r) rfl) (mW u) (av (d:=aB f) rfl) (pY u (by exact aa (aZ ..)<|Nat.lt_of_le_of_lt M (by decide)))).trans (congrArg (λl=>some (D.none,aX.put (m g+1) (.list l))) (ey (f:=aB) (l₁:=sc g) (l₂:=[f])).symm)
 have s:=gI (gN (j.S.lo g r))
 refine⟨_,m,oJ (ae:=o) rfl (k _ _ (bs (a:=(fj (.tup [aB g]),2,ao)) rfl (r9 rfl (bs rfl (aK I (il J))) rfl))),⟨j.S.U8 r _,(aH s.1).trans j.c,(aH s.2).trans j.d,j.t,λh w=>⟨(j.df h w).1,(kR λe=>w (by exact aa (e ..)<|r)).trans (j.df h w).2⟩,j.z⟩,(N.trans O).trans (Ext.put (gN (aE (cy B 2) (j.S.lo g r))))⟩
end
section
theorem sr{σ:MH}{i:Nat}{a:List (aj×D)}{k:aj}{c:Cell}(h:σ.cell i=some c)(e:c.ij=none)(f:c.i9=some a):mS (.ref i) (.str k) σ=a.lookup k:=by
 have b:bU σ (.ref i)=none:=show(σ.cell i).bind (λc=>c.ij)=_ from bs h e
 have d:j1 σ (.ref i)=some a:=show(σ.cell i).bind (λc=>c.i9)=_ from bs h f
 unfold mS
 exact aa (b ..)<|bs d rfl
abbrev js:=List Nat×Nat×Nat
structure lr(aW:MH)(B K:Nat)(ns:List (List Nat))(ci:List Nat->Nat)(np:List Nat->Int)(sc:List Nat->List (List Nat)):Prop where
 S:fY aW B K ns ci np sc
 d:aW.cell (B+1)=some (.h_ (dk (bV ci) ns))
 b:B+1<K
 ch:∀f∈ns,∀g∈sc f,g∈ns/\f.length<g.length
 z:ns.length<=40
 zs:∀f∈ns,(sc f).length<=20
structure Fc(aW:MH)(B K:Nat)(ns:List (List Nat))(ci:List Nat->Nat)(sc:List Nat->List (List Nat))(s:List js)(sn:List (List Nat))(ρ:aC)(σ:MH):Prop where
 v1:ρ "n2i" =some (.ref (B+1))
 v2:ρ "stack" =some (.ref K)
 v3:ρ "itstack" =some (.ref (K+1))
 v4:ρ "seen" =some (.ref (K+2))
 v5:ρ "node2stacki" =some (.ref (K+3))
 old:∀i,i<K->σ.cell i=aW.cell i
 st:σ.cell K=some (.list (s.map λx=>aB x.1).reverse)
 it:σ.cell (K+1)=some (.list (s.map λx=>D.ref x.2.1).reverse)
 se:σ.cell (K+2)=some (.set (sn.map aR))
 dd:∃ei,σ.cell (K+3)=some (.dict ei)/\ei.length<=sn.length/\(∀x∈s,(ei.lookup (aR x.1)).isSome=true)/\∀k,(ei.lookup k).isSome=true->∃x∈s,k=aR x.1
 cs:∀x∈s,σ.cell x.2.1=some (.iter (ci x.1+1) x.2.2)/\K+4<=x.2.1/\x.2.1<σ.next/\x.1∈ns
 ap:s.Pairwise λx y=>x.2.1≠y.2.1/\y.1.length<x.1.length
 si:∀f∈sn,f∈ns
 nx:K+4<=σ.next
noncomputable def fU (ns:List (List Nat)) (sc:List Nat->List (List Nat)) (sn:List (List Nat)):Nat:=((ns.filter λf=> !sn.contains f).map λf=>(sc f).length+1).sum
noncomputable def fR (sc:List Nat->List (List Nat)) (s:List js):Nat:=(s.map λx=>(sc x.1).length - x.2.2).sum
theorem OM{sc sn}{v:List Nat}(j:v∉sn):∀{ns:List (List Nat)},v∈ns->fU ns sc (sn++ [v])+((sc v).length+1)<=fU ns sc sn:=by
 have e:∀ns:List (List Nat),fU ns sc (sn++ [v])<=fU ns sc sn/\(v∈ns->fU ns sc (sn++ [v])+((sc v).length+1)<=fU ns sc sn):=by
  intro ns
  induction ns with
  | nil=>exact⟨bb _,λh=>absurd h bQ⟩
  | cons a ns g=>
   have f:∀sn,fU (a::ns) sc sn=(if sn.contains a then 0 else (sc a).length+1)+fU ns sc sn:=λsn=>by
    unfold fU
    refine aa (nY ..) ?_
    induction k:sn.contains a<;>simp
   refine aa (f ..)<|aa (f ..) ?_
   by_cases d:a=v
   .subst d
    have i:(sn++ [a]).contains a=true:=List.contains_iff_mem.mpr (d0 _ a0)
    have c2:sn.contains a=false:=Bool.eq_false_iff.mpr λq=>j (List.contains_iff_mem.mp q)
    refine aa (i ..)<|aa (c2 ..) ?_
    simp only [if_true,if_false,qV]
    exact⟨by lia,λb=>by lia⟩
   .have c:(sn++ [v]).contains a=sn.contains a:=by
     rw [tS,rB,rB,n4,pO]
     exact⟨λh=>h.resolve_right d,.inl⟩
    exact aa (c ..)<|⟨xH g.1 _,λh=>by
     have:=g.2 ((List.mem_cons.mp h).resolve_left (Ne.symm d))
     exact aa (K5 ..)<|Nat.add_le_add_left this _⟩
 exact λ{ns} h=>(e ns).2 h
section
variable {aW:MH} {B K:Nat} {ns:List (List Nat)} {ci:List Nat->Nat} {np:List Nat->Int} {sc:List Nat->List (List Nat)} {s:List js} {sn:List (List Nat)} {ρ:aC} {σ:MH} {v:List Nat}
theorem kn(j k:Nat)(h:j≠k:=by decide):K+j≠K+k:=λe=>h (Nat.add_left_cancel e)
theorem FC(C:lr aW B K ns ci np sc)(F:Fc aW B K ns ci sc s sn ρ σ)(i:v∈ns)(g:ρ "node" =some (aB v)):(MB.val (.bh oV (.var "node") (.var "seen"))) ρ σ=some (sn.contains v,σ):=by
 refine cz (aJ (av g) (av F.v4) (bs (a:=aR v) rfl (bs (yJ F.se) (congrArg (λb=>some (D.bool b)) ?_))))
 rw [tS,decide_eq_true_iff,rB,xB]
 exact⟨λc=>aw c λf d e=>qo (C.S.cG f (F.si f d)) (C.S.cG v i) e▸d,λh=>⟨v,h,rfl⟩⟩
noncomputable def z5:MS:=.cons (.expr (.dB sz wh (.var "seen") (.var "node"))) (.cons (.expr (.dB eh fK (.var "itstack") (.ax qg (.ax (eY 176 2) (.idx (.var "n2i") (.var "node")))))) (.cons (.assign (.sub (.var "node2stacki") (.var "node")) (.ax bW (.var "stack"))) (.expr (.dB eh fK (.var "stack") (.var "node")))))
theorem Gf{b:List (aj×D)}{k a:aj}{d:D}:(eF b k d).lookup a=if a=k then some d else b.lookup a:=by
 have g:∀l:List (aj×D),l.any (λp=>p.1=k)=true->(l.map λp=>if p.1=k then (p.1,d) else p).lookup a=if a=k then some d else l.lookup a:=by
  intro l
  induction l with
  | nil=>exact λh=>nomatch h
  | cons p r j=>
   intro h
   rw [eK,dI,dI]
   by_cases f:p.1=k
   .rw [if_pos f]
    by_cases c:a=k
    .exact aa (if_pos c ..)<|aa (show(a==(p.1,d).1)=true from beq_iff_eq.mpr (c.trans f.symm)) rfl
    .refine aa (if_neg c ..)<|aa (show(a==(p.1,d).1)=false from beq_eq_false_iff_ne.mpr λq=>c (q.trans f)) ?_
     show(r.map _).lookup a=r.lookup a
     clear j h
     induction r with
     | nil=>rfl
     | cons q r m=>
      rw [eK,dI,dI,m]
      by_cases i:q.1=k
      .rw [if_pos i,show(a==(q.1,d).1)=false from beq_eq_false_iff_ne.mpr λe=>c (e.trans i)]
      .exact aa (if_neg i ..) rfl
   .refine aa (if_neg f ..) ?_
    rw [pL,decide_eq_false f,tU] at h
    by_cases c:a=k
    .exact aa (show(a==p.1)=false from beq_eq_false_iff_ne.mpr λq=>f (q.symm.trans c))<|j h
    .induction hb:a==p.1 with
     | true=>exact aa (if_neg c ..) rfl
     | false=>exact j h
 unfold eF
 split
 .rename_i h;exact g b h
 .rename_i h
  refine aa (Cn ..) ?_
  by_cases c:a=k
  .subst c
   have:b.lookup a=none:=by
    induction hl:b.lookup a with
    | none=>rfl
    | some x=>exact absurd (List.any_eq_true.mpr ⟨_,mem_of_lookup hl,decide_eq_true rfl⟩) h
   exact aa (this ..)<|aa (if_pos rfl ..)<|aa (dI ..)<|aa (beq_self_eq_true ..) rfl
  .refine aa (if_neg c ..)<|aa (dI ..)<|aa (show(a==k)=false from beq_eq_false_iff_ne.mpr c) ?_
   show(b.lookup a).or none=_
   induction b.lookup a<;>rfl
theorem Rk{a:List (aj×D)}{k:aj}{d:D}:(eF a k d).length<=a.length+1:=by
 unfold eF
 split
 .exact aa (aZ ..)<|Nat.le_succ _
 .exact aa (bF ..)<|Nat.le_refl _
theorem Uj(C:lr aW B K ns ci np sc)(F:Fc aW B K ns ci sc s sn ρ σ)(w:v∈ns)(hs:v∉sn)(M:ρ "node" =some (aB v))(hl:∀x∈s,x.1.length<v.length)(V:sn.length<=1000)(E:s.length<=1000):
 ∃ab,z5 ρ σ=some (.next,ρ,ab)/\Fc aW B K ns ci sc ((v,σ.next,0)::s) (sn++ [v]) ρ ab:=by
 have q:=C.S.hi v w
 have G:=C.S.inf v w
 have J:=C.S.iQ v w
 let ao:=σ.put (K+2) (.set ((sn++ [v]).map aR))
 have Q:aR v∉sn.map aR:=λh=>by
  refine aw (List.mem_map.mp h) λf L e=>?_
  exact hs (qo (C.S.cG f (F.si f L)) (C.S.cG v w) e▸L)
 have e1:(ME.dB sz wh (.var "seen") (.var "node")) ρ σ=some (.none,ao):=
  j_ (av F.v4) (by unfold sz;exact aa (yJ F.se ..) rfl) (av M) (bs (a:=aR v) rfl (bs (yJ F.se) ((if_pos (by exact aa (aZ ..)<|Nat.lt_of_le_of_lt (jZ V) (by decide))).trans (by unfold qx;exact aa (if_neg Q ..)<|congrArg (λl=>some (D.none,σ.put (K+2) (.set l))) (ey (f:=aR) (l₁:=sn) (l₂:=[v])).symm))))
 have u:∀i,i≠K+2->ao.cell i=σ.cell i:=λi h=>aH h
 have n:∀{i},i<K->∀j,i≠K+j:=λp j=>bj (gO j p)
 let aX:=ao.new (.iter (ci v+1) 0)
 have z:∀{i},i≠σ.next->aX.cell i=ao.cell i:=λh=>fk (σ:=ao) h
 have Y:ao.cell (B+1)=some (.h_ (dk (bV ci) ns)):=(u _ (n C.b 2)).trans ((F.old _ C.b).trans C.d)
 have f1:ao.cell (ci v)=some (lX v (np v) (ci v+1)):=(u _ (n (lD q) 2)).trans ((F.old _ (lD q)).trans G)
 have s1:ao.cell (ci v+1)=some (qB (sc v)):=(u _ (n q 2)).trans ((F.old _ q).trans J)
 have e2:(ME.ax qg (.ax (eY 176 2) (.idx (.var "n2i") (.var "node")))) ρ ao=some (.ref σ.next,aX):=by
  refine uO (oF (aJ (d:=.ref (B+1)) (e:=aB v) (r:=.ref (ci v)) (av F.v1) (av M) ?_) f1 rfl) (bs (oz s1) rfl)
  exact(sr Y rfl rfl).trans (h7 C.S.cG w)
 have I:∀j,j<4->K+j≠σ.next:=λj A=>bj (a9 (gZ A K) F.nx)
 have i2:aX.cell (K+1)=some (.list (s.map λx=>D.ref x.2.1).reverse):=(z (I 1 (by decide))).trans ((u _ (kn 1 2)).trans F.it)
 let c:=aX.put (K+1) (.list (((v,σ.next,0)::s).map λx:js=>D.ref x.2.1).reverse)
 have e3:(ME.dB eh fK (.var "itstack") (.ax qg (.ax (eY 176 2) (.idx (.var "n2i") (.var "node"))))) ρ ao=some (.none,c):=
  (j_ (av F.v3) (mW ((u _ (kn 1 2)).trans F.it)) e2 (pY i2 (by exact aa (KN ..)<|aa (aZ ..)<|Nat.lt_of_le_of_lt E (by decide)))).trans (by exact aa (.symm (pP ..)) rfl)
 refine dG F.dd λH d1 T d3 d4=>?_
 have W:c.cell K=some (.list (s.map λx=>aB x.1).reverse):=(aH (kn 0 1)).trans ((z (I 0 (by decide))).trans ((u _ (kn 0 2)).trans F.st))
 have d5:c.cell (K+3)=some (.dict H):=(aH (kn 3 1)).trans ((z (I 3 (by decide))).trans ((u _ (kn 3 2)).trans d1))
 let m:=c.put (K+3) (.dict (eF H (aR v) (.int (s.map λx=>aB x.1).reverse.length)))
 have e4:(MS.assign (.sub (.var "node2stacki") (.var "node")) (.ax bW (.var "stack"))) ρ c=some (.next,ρ,m):=
  eo (eD (av F.v2) (bs (x:=gP c (.ref K)) (uo W) rfl)) (tA (av F.v5) (av M) d5 (ee (aE T V) (by decide)))
 let o:=m.put K (.list (((v,σ.next,0)::s).map λx:js=>aB x.1).reverse)
 have X:m.cell K=some (.list (s.map λx=>aB x.1).reverse):=(aH (kn 0 3)).trans W
 have e5:(ME.dB eh fK (.var "stack") (.var "node")) ρ m=some (.none,o):=
  (j_ (av F.v2) (mW X) (av M) (pY X (by exact aa (KN ..)<|aa (aZ ..)<|Nat.lt_of_le_of_lt E (by decide)))).trans (by exact aa (.symm (pP ..)) rfl)
 have N:∀i,K+4<=i->i≠σ.next->o.cell i=σ.cell i:=λi p P=>by
  have g:∀j,j<4->i≠K+j:=λj A=>dc (a9 (gZ A K) p)
  exact(aH (g 0 (by decide))).trans ((aH (g 3 (by decide))).trans ((aH (g 1 (by decide))).trans ((z P).trans (u _ (g 2 (by decide))))))
 refine⟨o,aK (il e1) (aK (il e3) (aK e4 (il e5))),⟨F.v1,F.v2,F.v3,F.v4,F.v5,λi p=>?_,cb,(aH (kn 1 0)).trans ((aH (kn 1 3)).trans cb),(aH (kn 2 0)).trans ((aH (kn 2 3)).trans ((aH (kn 2 1)).trans ((z (I 2 (by decide))).trans cb))),⟨_,(aH (kn 3 0)).trans cb,?_,λx t=>?_,λk O=>?_⟩,λx t=>?_,?_,λf L=>(List.mem_append.mp L).elim (F.si f) λe=>List.mem_singleton.mp e▸w,gN F.nx⟩⟩
 .exact(aH (n p 0)).trans ((aH (n p 3)).trans ((aH (n p 1)).trans ((z (bj (a9 p (aE (cy K 4) F.nx)))).trans ((u _ (n p 2)).trans (F.old i p)))))
 .exact aa (bF ..)<|Nat.le_trans Rk (jZ T)
 .refine aa (Gf ..) ?_
  split
  .rfl
  .rename_i h
   rcases List.mem_cons.mp t with rfl| t
   .exact absurd rfl h
   .exact d3 x t
 .rw [Gf] at O
  split at O
  .rename_i h;exact⟨_,a0,h⟩
  .refine aw (d4 k O) λx t e=>?_;exact⟨x,bT _ t,e⟩
 .rcases List.mem_cons.mp t with rfl| t
  .refine⟨?_,F.nx,cw _,w⟩
   have g:∀j,j<4->σ.next≠K+j:=λj A=>(I j A).symm
   exact(aH (g 0 (by decide))).trans ((aH (g 3 (by decide))).trans ((aH (g 1 (by decide))).trans (gq (σ:=ao))))
  .refine eP (F.cs x t) λZ c2 R c4=>?_
   exact⟨(N _ c2 (bj R)).trans Z,c2,fG R,c4⟩
 .exact List.pairwise_cons.mpr ⟨λy U=>⟨dc (F.cs y U).2.2.1,hl y U⟩,F.ap⟩
end
end
section
theorem Gd{c:List (aj×D)}{k b:aj}:(c.filter λp=>decide (p.1≠k)).lookup b=if b=k then none else c.lookup b:=by
 induction c with
 | nil=>split<;>rfl
 | cons p r e=>
  refine aa (nY ..) ?_
  by_cases d:p.1=k
  .refine aa (if_neg (by rw [decide_eq_false (not_not_intro d)];decide))<|aa (e ..)<|aa (dI ..) ?_
   by_cases a:b=k
   .exact aa (if_pos a ..)<|aa (if_pos a ..) rfl
   .exact aa (if_neg a ..)<|aa (if_neg a ..)<|aa (show(b==p.1)=false from beq_eq_false_iff_ne.mpr λq=>a (q.trans d)) rfl
  .refine aa (if_pos (decide_eq_true d) ..)<|aa (dI ..)<|aa (dI ..)<|aa (e ..) ?_
   by_cases a:b=k
   .exact aa (if_pos a ..)<|aa (if_pos a ..)<|aa (show(b==p.1)=false from beq_eq_false_iff_ne.mpr λq=>d (q.symm.trans a)) rfl
   .exact aa (if_neg a ..)<|aa (if_neg a ..) rfl
theorem Fz{σ:MH}{i:Nat}{xs:List D}{k:Int}(h:σ.cell i=some (.list xs)):mS (.ref i) (.int k) σ=ef xs k:=by
 have b:=iC h
 unfold mS
 exact aa (b ..)<|bs (a:=k) rfl rfl
theorem Ho{σ:MH}{i:Nat}{xs:List D}{x:D}(h:σ.cell i=some (.list (xs++ [x]))):pa (.ref i) σ=some (x,σ.put i (.list xs)):=
 bs (oz h) (bs (a:=x) KH (congrArg (λl=>some (x,σ.put i (.list l))) Cd))
section
variable {aW:MH} {B K:Nat} {ns:List (List Nat)} {ci:List Nat->Nat} {np:List Nat->Int} {sc:List Nat->List (List Nat)} {s:List js} {sn:List (List Nat)} {ρ:aC} {σ:MH} {v:List Nat}
noncomputable def vG:MS:=.qG "node" (.idx (.var "itstack") (.neg (.int 1))) "node2stacki" "stack" "itstack"
theorem Fc.node(F:Fc aW B K ns ci sc s sn ρ σ)(d:D):Fc aW B K ns ci sc s sn (ρ.set "node" d) σ:={F with v1:=F.v1,v2:=F.v2,v3:=F.v3,v4:=F.v4,v5:=F.v5}
theorem ID(F:Fc aW B K ns ci sc (x::s) sn ρ σ):(ME.idx (.var "itstack") (.neg (.int 1))) ρ σ=some (.ref x.2.1,σ):=by
 refine aJ (e:=.int (-1)) (av F.v3) rfl ((Fz F.it).trans ?_)
 exact aa (eK ..)<|aa (pP ..)<|su
theorem Fc.Iq(C:lr aW B K ns ci np sc)(F:Fc aW B K ns ci sc s sn ρ σ){f}(a:f∈ns):σ.cell (ci f+1)=some (qB (sc f)):=(F.old _ (C.S.hi f a)).trans (C.S.iQ f a)
theorem V4(C:lr aW B K ns ci np sc){x:js}(F:Fc aW B K ns ci sc (x::s) sn ρ σ){g}(q:(sc x.1)[x.2.2]?=some g):
 ∃ab,vG ρ σ=some (.brk,ρ.set "node" (aB g),ab)/\Fc aW B K ns ci sc ((x.1,x.2.1,x.2.2+1)::s) sn (ρ.set "node" (aB g)) ab:=by
 refine eP (F.cs x a0) λl c2 m c4=>?_
 have t:=F.Iq C c4
 have u:((sc x.1).map aB)[x.2.2]?=some (aB g):=by exact aa (gg ..)<|aa (q ..) rfl
 let ao:=σ.put x.2.1 (.iter (ci x.1+1) (x.2.2+1))
 have c:∀i,i<K+4->ao.cell i=σ.cell i:=λi f=>aH (bj (a9 f c2))
 have ap:=List.pairwise_cons.mp F.ap
 refine⟨ao,bs (ID F) (bs (a:=x.2.1) rfl (bs l (bs (a:=(ci x.1+1,x.2.2)) rfl (bs t (bs (a:=(sc x.1).map aB) rfl ?_))))),⟨F.v1,F.v2,F.v3,F.v4,F.v5,λi f=>(c i (gO 4 f)).trans (F.old i f),(c K (ff (by decide))).trans F.st,(c _ (gZ (by decide) K)).trans F.it,(c _ (gZ (by decide) K)).trans F.se,?_,λy b=>?_,?_,F.si,F.nx⟩⟩
 .show(match ((sc x.1).map aB)[x.2.2]? with| some d=>_| none=>_)=_
  exact aa (u ..) rfl
 .refine dG F.dd λh n o j p=>?_
  refine⟨h,(c _ (gZ (by decide) K)).trans n,o,λy b=>?_,λk r=>?_⟩
  .rcases List.mem_cons.mp b with rfl| b
   .exact j x a0
   .exact j y (bT _ b)
  .refine aw (p k r) λy b e=>?_
   rcases List.mem_cons.mp b with rfl| b
   .exact⟨_,a0,e⟩
   .exact⟨y,bT _ b,e⟩
 .rcases List.mem_cons.mp b with rfl| b
  .exact⟨cb,c2,m,c4⟩
  .refine aA (F.cs y (bT _ b)) λv w=>?_
   exact⟨(aH (Ne.symm (ap.1 y b).1)).trans v,w⟩
 .exact List.pairwise_cons.mpr ⟨λy b=>ap.1 y b,ap.2⟩
theorem V3(C:lr aW B K ns ci np sc){x:js}(F:Fc aW B K ns ci sc (x::s) sn ρ σ)(Q:(sc x.1)[x.2.2]?=none):∃ab,vG ρ σ=some (.next,ρ,ab)/\Fc aW B K ns ci sc s sn ρ ab:=by
 refine eP (F.cs x a0) λJ c2 W c4=>?_
 have R:=F.Iq C c4
 have T:((sc x.1).map aB)[x.2.2]?=none:=by exact aa (gg ..)<|aa (Q ..) rfl
 have ap:=List.pairwise_cons.mp F.ap
 refine dG F.dd λr M N G O=>?_
 let ao:=σ.del x.2.1
 have q:∀i,i≠x.2.1->ao.cell i=σ.cell i:=λi o=>if_neg o
 have m:∀j,j<4->K+j≠x.2.1:=λj w=>bj (a9 (gZ w K) c2)
 let L:=(s.map λx=>aB x.1).reverse
 let I:=(s.map λx=>D.ref x.2.1).reverse
 have E:ao.cell K=some (.list (L++ [aB x.1])):=(q K (m 0 (by decide))).trans (F.st.trans (by exact aa (eK ..)<|aa (pP ..) rfl))
 let aX:=ao.put K (.list L)
 have u:aX.cell (K+3)=some (.dict r):=(aH (kn 3 0)).trans ((q _ (m 3 (by decide))).trans M)
 let n:=r.filter λp=>decide (p.1≠aR x.1)
 let f:=aX.put (K+3) (.dict n)
 have A:f.cell (K+1)=some (.list (I++ [D.ref x.2.1])):=(aH (kn 1 3)).trans ((aH (kn 1 0)).trans ((q _ (m 1 (by decide))).trans (F.it.trans (by exact aa (eK ..)<|aa (pP ..) rfl))))
 let b:=f.put (K+1) (.list I)
 have P:y7 "node2stacki" "stack" "itstack" ρ ao=some b:=bs F.v5 (bs F.v2 (bs F.v3 (bs (Ho E) (bs (a:=aR x.1) rfl (bs (yG u) ((if_pos (G x a0)).trans (bs (Ho A) rfl)))))))
 have v:∀i,K+4<=i->i≠x.2.1->b.cell i=σ.cell i:=λi o z=>by
  have g:∀j,j<4->i≠K+j:=λj w=>dc (a9 (gZ w K) o)
  exact(aH (g 1 (by decide))).trans ((aH (g 3 (by decide))).trans ((aH (g 0 (by decide))).trans (q i z)))
 have ne:∀y∈s,aR y.1≠aR x.1:=λy c e=>by
  have:=(ap.1 y c).2
  rw [qo (C.S.cG _ (F.cs y (bT _ c)).2.2.2) (C.S.cG _ c4) e] at this
  exact fV _ this
 refine⟨b,bs (ID F) (bs (a:=x.2.1) rfl (bs J (bs (a:=(ci x.1+1,x.2.2)) rfl (bs R (bs (a:=(sc x.1).map aB) rfl ?_))))),⟨F.v1,F.v2,F.v3,F.v4,F.v5,λi o=>?_,(aH (kn 0 1)).trans ((aH (kn 0 3)).trans cb),cb,(aH (kn 2 1)).trans ((aH (kn 2 3)).trans ((aH (kn 2 0)).trans ((q _ (m 2 (by decide))).trans F.se))),⟨n,(aH (kn 3 1)).trans cb,aE (iX ..) N,λy c=>?_,λk t=>?_⟩,λy c=>?_,ap.2,F.si,F.nx⟩⟩
 .show(match ((sc x.1).map aB)[x.2.2]? with| some d=>_| none=>_)=_
  exact aa (T ..)<|bs P rfl
 .have l:∀j,i≠K+j:=λj=>bj (gO j o)
  exact(aH (l 1)).trans ((aH (l 3)).trans ((aH (l 0)).trans ((q i (bj (a9 (gO 4 o) c2))).trans (F.old i o))))
 .exact aa (Gd ..)<|aa (if_neg (ne y c) ..)<|G y (bT _ c)
 .rw [Gd] at t
  split at t
  .exact nomatch t
  .rename_i h
   refine aw (O k t) λy c e=>?_
   rcases List.mem_cons.mp c with rfl| c
   .exact absurd e h
   .exact⟨y,c,e⟩
 .refine bP (F.cs y (bT _ c)) λU H V=>?_
  exact⟨(v _ H (Ne.symm (ap.1 y c).1)).trans U,H,V⟩
theorem Ia(F:Fc aW B K ns ci sc s sn ρ σ):(MB.val (.var "stack")) ρ σ=some (!s.isEmpty,σ):=by
 refine oo (av F.v2) ?_
 unfold k9
 refine aa (iC F.st ..) ?_
 induction s with
 | nil=>rfl
 | cons x s=>show some (!((((x::s).map λx=>aB x.1)).reverse).isEmpty)=_;refine aa (eK ..)<|aa (pP ..) ?_;induction (s.map λx=>aB x.1).reverse<;>rfl
theorem QE(C:lr aW B K ns ci np sc):∀(s:List js) (σ:MH) (k:Nat),s.length<k->Fc aW B K ns ci sc s sn ρ σ->
 ∃h ae ab f,qL (.val (.var "stack")) vG .brk k ρ σ=some (h,ae,ab)/\Fc aW B K ns ci sc f sn ae ab/\f.length<=s.length/\((h=.brk/\f= [])∨(h=.next/\∃v∈ns,ae "node" =some (aB v)/\(∀x∈f,x.1.length<v.length)/\fR sc f+1<=fR sc s)):=by
 intro s
 induction s with
 | nil=>
  intro σ k m F
  induction k with
  | zero=>exact absurd m (xJ _)
  | succ k=>exact⟨_,_,_,[],bs (Ia F) rfl,F,bb _,.inl ⟨rfl,rfl⟩⟩
 | cons x s w=>
  intro σ k m F
  induction k with
  | zero=>exact absurd m (xJ _)
  | succ k=>
   have r:=Ia F
   induction l:(sc x.1)[x.2.2]? with
   | some g=>
    refine aw (V4 C F l) λab o n=>?_
    refine aA (C.ch x.1 (F.cs x a0).2.2.2 g (lA l)) λt q=>?_
    have u:=(List.getElem?_eq_some_iff.mp l).1
    refine⟨_,_,_,_,bs r (bs o rfl),n,bb _,.inr ⟨rfl,g,t,rfl,λy p=>?_,?_⟩⟩
    .rcases List.mem_cons.mp p with rfl| p
     .exact q
     .exact rK ((List.pairwise_cons.mp F.ap).1 y p).2 q
    .show((sc x.1).length - (x.2.2+1))+fR sc s+1<=((sc x.1).length - x.2.2)+fR sc s
     lia
   | none=>
    refine aw (V3 C F l) λab o n=>?_
    refine BF (w ab k (Nat.lt_of_succ_lt_succ m) n) λh i j f z A D E=>?_
    refine⟨h,i,j,f,bs r (bs o z),A,gN D,E.imp id λ⟨a,v,b,c,d,e⟩=>⟨a,v,b,c,d,aE e (ub _ _)⟩⟩
end
end
section
section
variable {aW:MH} {B K:Nat} {ns:List (List Nat)} {ci:List Nat->Nat} {np:List Nat->Int} {sc:List Nat->List (List Nat)} {s:List js} {sn:List (List Nat)} {ρ:aC} {σ:MH} {v:List Nat}
noncomputable def z8:MS:=.cons (.ite (.val (.bh oV (.var "node") (.var "seen"))) (.ite (.val (.jH (.var "node") (.var "node2stacki"))) .never .nil) z5) (.nF fuel (.val (.var "stack")) vG .brk)
structure pH(ns:List (List Nat))(sc:List Nat->List (List Nat))(s:List js)(sn:List (List Nat)):Prop where
 a:sn.length+fU ns sc sn<=1000
 b:s.length<=sn.length
theorem Wo(C:lr aW B K ns ci np sc)(F:Fc aW B K ns ci sc s sn ρ σ)(m:pH ns sc s sn)(n:v∈ns)(r:ρ "node" =some (aB v))(hl:∀x∈s,x.1.length<v.length):
 ∃l ae ab i j,z8 ρ σ=some (l,ae,ab)/\Fc aW B K ns ci sc i j ae ab/\pH ns sc i j/\((l=.brk/\i= [])∨(l=.next/\∃v∈ns,ae "node" =some (aB v)/\(∀x∈i,x.1.length<v.length)/\fU ns sc j+fR sc i<fU ns sc sn+fR sc s)):=by
 have w:=FC C F n r
 have u:∃ao ak f,MS.ite (.val (.bh oV (.var "node") (.var "seen"))) (.ite (.val (.jH (.var "node") (.var "node2stacki"))) .never .nil) z5 ρ σ=some (.next,ρ,ao)/\Fc aW B K ns ci sc ak f ρ ao/\pH ns sc ak f/\fU ns sc f+fR sc ak<=fU ns sc sn+fR sc s:=by
  by_cases h:v∈sn
  .refine⟨σ,s,sn,iO (w.trans (by exact aa (List.contains_iff_mem.mpr h ..) rfl)) (d_ (cz (aJ (av r) (av F.v5) (vV ?_))) rfl),F,m,bb _⟩
   refine dG F.dd λG A J L D=>?_
   refine(G5 A).trans (congrArg some (Bool.eq_false_iff.mpr λq=>?_))
   refine aw (D _ q) λx y e=>?_
   have:=hl x y
   rw [← qo (C.S.cG v n) (C.S.cG _ (F.cs x y).2.2.2) e] at this
   exact fV _ this
  .have z:sn.length<=1000:=aE (cy _ _) m.a
   refine aw (Uj C F n h r hl z (aE m.b z)) λab p o=>?_
   have M:=OM (sc:=sc) h n
   refine⟨ab,_,_,d_ (w.trans (by exact aa (Bool.eq_false_iff.mpr λq=>h (List.contains_iff_mem.mp q) ..) rfl)) p,o,⟨?_,?_⟩,?_⟩
   .have:=m.a;refine aa (bF ..) ?_;show sn.length+1+_<=1000;lia
   .exact aa (bF ..)<|Nat.succ_le_succ m.b
   .show fU ns sc (sn++ [v])+((sc v).length - 0+fR sc s)<=_;lia
 refine tK u λao ak f p k g t=>?_
 refine BF (QE C ak ao fuel (ee g.b (ee (aE (cy _ _) g.a) (by decide))) k) λl ae ab i E o H q=>?_
 exact⟨l,ae,ab,i,f,aK p E,o,⟨g.a,aE H g.b⟩,q.imp id λ⟨a,I,b,c,d,e⟩=>⟨a,I,b,c,d,by lia⟩⟩
theorem TV(C:lr aW B K ns ci np sc):∀(k:Nat) (s:List js) (sn:List (List Nat)) (ρ:aC) (σ:MH) (v:List Nat),fU ns sc sn+fR sc s<k->Fc aW B K ns ci sc s sn ρ σ->pH ns sc s sn->v∈ns->ρ "node" =some (aB v)->(∀x∈s,x.1.length<v.length)->
 ∃ae ab f,qL (.val (.bool true)) z8 .nil k ρ σ=some (.next,ae,ab)/\Fc aW B K ns ci sc [] f ae ab/\pH ns sc [] f:=by
 intro k
 induction k with
 | zero=>exact λs sn ρ σ v h=>absurd h (xJ _)
 | succ k u=>
  intro s sn ρ σ v z F o t p hl
  obtain⟨y,ae,ab,w,f,e,l,m,q⟩:=Wo C F o t p hl
  rcases q with ⟨rfl,rfl⟩| ⟨rfl,v',a,b,c,d⟩
  .exact⟨ae,ab,f,bs rfl (bs e rfl),l,m⟩
  .refine pj (u w f ae ab v' (by lia) l m a b c) λi j g n r=>?_
   exact⟨i,j,g,bs rfl (bs e n),r⟩
end
theorem Q2{ci:List Nat->Nat}{ns:List (List Nat)}{σ:MH}{j:Nat}:keysAt (dk (bV ci) ns) σ j=some (ns.map aB)[j]?:=by
 delta keysAt dk
 exact aa (gg ..)<|aa (gg ..)<|aa (Option.map_map ..) rfl
theorem Oa{aW:MH}{B:Nat}{ns:List (List Nat)}{ci:List Nat->Nat}{np:List Nat->Int}{sc:List Nat->List (List Nat)}{r:D}{p q:Int}(C:lr aW B aW.next ns ci np sc)(W:aW.cell B=some (jS B r p q)):
 ∃ab,q9 [.ref B] aW=some (.none,ab)/\Ext aW.next aW ab:=by
 let K:=aW.next
 let ρ:=((((c_ [("self",.ref B)]).set "n2i" (.ref (B+1))).set "stack" (.ref K)).set "itstack" (.ref (K+1))).set "seen" (.ref (K+2))|>.set "node2stacki" (.ref (K+3))
 let ao:=aW.new (.list [])
 let aX:=ao.new (.list [])
 let o:=aX.new (.set [])
 let n:=o.new (.dict [])
 have w:∀i,i<K->n.cell i=aW.cell i:=λi A=>(g9 (σ:=o) (gO 3 A)).trans ((g9 (σ:=aX) (gO 2 A)).trans ((g9 (σ:=ao) (gO 1 A)).trans (g9 A)))
 have T:n.cell K=some (.list []):=(g9 (σ:=o) (i:=K) (ff (k:=3) (by decide))).trans ((g9 (σ:=aX) (i:=K) (ff (k:=2) (by decide))).trans ((g9 (σ:=ao) (i:=K) (cw _)).trans gq))
 have U:n.cell (K+1)=some (.list []):=(g9 (σ:=o) (i:=K+1) (gZ (m:=3) (by decide) K)).trans ((g9 (σ:=aX) (i:=K+1) (gZ (m:=2) (by decide) K)).trans (gq (σ:=ao)))
 have c2:n.cell (K+2)=some (.set []):=(g9 (σ:=o) (i:=K+2) (gZ (m:=3) (by decide) K)).trans (gq (σ:=aX))
 have Y:fU ns sc []<=840:=by
  have I:∀l:List (List Nat),(∀f∈l,(sc f).length<=20)->fU l sc []<=21*l.length:=by
   intro l
   induction l with
   | nil=>exact λj=>bb _
   | cons f l ih=>
    intro h
    have h1:=h f a0
    have h2:=ih λg hg=>h g (bT _ hg)
    show(sc f).length+1+fU l sc []<=21*(l.length+1)
    lia
  have:=I ns C.zs
  have:=C.z
  lia
 have s:Fc aW B K ns ci sc [] [] ρ n:=⟨rfl,rfl,rfl,rfl,rfl,w,T,U,c2,⟨[],gq (σ:=o),bb _,λx u=>absurd u bQ,λk hk=>nomatch hk⟩,λx u=>absurd u bQ,List.Pairwise.nil,λf Z=>absurd Z bQ,bb _⟩
 refine jO ns aB (mi:=.p9 (.var "n2i")) (t:=.name "node") (body:=.cons (.ite (.val (.bh oV (.var "node") (.var "seen"))) .cont .nil) (.nF fuel (.val (.bool true)) z8 .nil)) (ρ:=ρ) (σ:=n)
  (λL ae ab=>∃sn,Fc aW B K ns ci sc [] sn ae ab/\pH ns sc [] sn) (λN ae ab=>N=.next/\∃sn,Fc aW B K ns ci sc [] sn ae ab) (at_:=keysAt (dk (bV ci) ns)) (ao:=n)
  (by exact aa (aZ ..)<|bs (a:=(.ref (B+1),n)) rfl (bs (a:=B+1) rfl (bs ((w _ C.b).trans C.d) (bs (a:=dk (bV ci) ns) rfl (by exact aa (oC ..) rfl))))) (λj j j j j=>Q2) ⟨[],s,⟨aE (bN (rM _)) (aE Y (by decide)),bb _⟩⟩
  (λL v R ae ab hs J=>aw J λsn F H=>by
    have P:v∈ns:=hs▸d0 _ a0
    have G:=F.node (aB v)
    have E:=FC C G P rfl
    induction O:sn.contains v with
    | true=>rw [O] at E;exact⟨_,bs rfl (wj (iO E rfl) rfl),sn,G,H⟩
    | false=>
     rw [O] at E
     refine pj (TV C fuel [] sn _ ab v (ee (aE (ub _ _) (aE H.a (bb _))) (by decide)) G H P rfl λx u=>absurd u bQ) λQ S y e r=>?_
     exact⟨_,bs rfl (aK (d_ E rfl) e),y,r⟩) (λae ab M=>aw M λsn F j=>⟨rfl,sn,F⟩) λN ae ab hq X=>?_
 refine aA X λV q=>?_
 refine aL q λsn F=>?_
 subst V
 exact⟨ab,fx (ae:=ae) rfl (aK (bt (cO (av rfl) W rfl)) (aK (bt (h8 (c:=.list []) rfl)) (aK (bt (h8 (c:=.list []) rfl)) (aK (bt (h8 (c:=.set []) rfl)) (aK (bt (h8 (c:=.dict []) rfl)) (aK hq (fC rfl))))))),aE (cy K 4) F.nx,F.old⟩
end
theorem OR{α β:Type}{p:α->Bool}{g:α->β}(as:List α):as.flatMap (λa=>if p a then [g a] else [])=(as.filter p).map g:=by
 induction as with
 | nil=>rfl
 | cons a as c=>refine aa (nZ ..)<|aa (c ..) ?_;induction b:p a<;>simp [b]
structure fv(σ:MH)(B R:Nat)(ns:List (List Nat))(ci:List Nat->Nat)(np:List Nat->Int)(sc:List Nat->List (List Nat))(rd:List (List Nat))(p q:Int):Prop where
 S:fY σ B R ns ci np sc
 c:σ.cell B=some (jS B (.ref R) p q)
 d:σ.cell (B+1)=some (.h_ (dk (bV ci) ns))
 r:σ.cell R=some (.list (rd.map aB))
 b:B+2<=R
 z:rd.length<=1000
theorem fv.keep{σ ab:MH}{B R ns ci np sc a p q}(H:fv σ B R ns ci np sc a p q)(h:∀i,B<=i->i<=R->ab.cell i=σ.cell i):fv ab B R ns ci np sc a p q:=
 have b:=H.b
 ⟨H.S.keep λi e f=>h i (aE (cy B 2) e) (jy f),(h B (bb _) (aE (cy B 2) b)).trans H.c,(h (B+1) (dD _) (aE (dD _) b)).trans H.d,(h R (aE (cy B 2) b) (bb _)).trans H.r,b,H.z⟩
theorem Ui{σ:MH}{B ns ci np sc}(H:iA σ B ns ci np sc)(M:ns.length<=40)(X:∀f∈ns,(sc f).length<=20)(W:∀f∈ns,∀g∈sc f,g∈ns/\f.length<g.length):
 ∃ab,pG [.ref B] σ=some (.none,ab)/\fv ab B σ.next ns ci np sc (ns.filter λf=>np f==0) 0 0/\Ext B σ ab/\σ.next+1<=ab.next:=by
 let R:=σ.next
 let ρ:=c_ [("self",.ref B)]
 let y:=ns.filter λf=>np f==0
 let ao:=σ.put (B+1) (.h_ (dk (bV ci) ns))
 have Y:∀{i},B+2<=i->i≠B+1:=λh=>Ne.symm (gI h).2
 have A:∀i,i≠B+1->ao.cell i=σ.cell i:=λi h=>aH h
 have n:fY ao B R ns ci np sc:=H.S.keep λi h a=>A i (Y h)
 have O:(MI.values (.ax (aV 273 "_node2info") (.var "self"))) ρ σ=some (ie (ns.map (bV ci)),(ns.map (bV ci)).length+1,ao):=by
  refine bs (cO (av rfl) H.c rfl) (bs (yG H.d) ?_)
  rw [aZ]
  have:(dk (bV ci) ns).map (·.2)=ns.map (bV ci):=by unfold dk;rw [fe];rfl
  rw [this,oC]
 have J:ns.flatMap (λf=>if np f==0 then [aB f] else [])=y.map aB:=OR ns
 obtain⟨N,I,_⟩:=y0 (own:=[".0","i"]) (ρ:=ρ) (σ:=ao) ns (bV ci) (λf=>if np f==0 then [aB f] else []) (at_:=ie (ns.map (bV ci))) (t:=.name "i") (ifs:=[(.val (.eq (.ax (eY 176 1) (.var "i")) (.int 0)))]) (b:=.elt (.ax (eY 176 0) (.var "i"))) (λj=>rfl)
  (λf K=>by
    have k:∀ae:aC,ae "i" =some (bV ci f)->(MB.val (.eq (.ax (eY 176 1) (.var "i")) (.int 0))) ae ao=some (np f==0,ao):=λae w=>cz (aJ (oF (av w) (n.inf f K) rfl) rfl (ji (p:=.int (np f)) (q:=.int 0) rfl rfl))
    induction L:np f==0 with
    | true=>exact rP (by decide) λae a w=>⟨qb ((k ae w).trans (by exact aa (L ..) rfl)),oF (av w) (n.inf f K) rfl⟩
    | false=>exact C7 (by decide) λae a w=>qb ((k ae w).trans (by exact aa (L ..) rfl))) (ae:=ρ.drop [".0","i"]) (acc:=[]) Agree.drop (by exact aa (J ..)<|aa (aZ ..)<|cf (by show 0+(ns.filter λf=>np f==0).length<=1000;have:=iX (λf=>np f==0) ns;lia))
 rw [J,xD] at I
 let aX:=ao.new (.list (y.map aB))
 have E:B≠R:=(gI H.t).1
 let l:=aX.put B (jS B (.ref R) 0 0)
 have P:=eo (t:=.attr 273 "_ready_nodes" (.var "self")) (ae:=ρ) (ab:=l) (h8 (ab:=ao) (c:=.list (y.map aB)) (m:=.comp (.values (.ax (aV 273 "_node2info") (.var "self"))) (.name "i") [(.val (.eq (.ax (eY 176 1) (.var "i")) (.int 0)))] (.elt (.ax (eY 176 0) (.var "i"))) [".0","i"] (.list [])) (ρ:=ρ) (σ:=σ) (bs O (bs I rfl))) (iq (mo:=.var "self") (i:=B) (ao:=aX) rfl ((fk (σ:=ao) E).trans ((A B (bj (cw B))).trans H.c)) (zr rfl))
 have Z:∀i,B+2<=i->i<R->l.cell i=ao.cell i:=λi U V=>(aH (Ne.symm (gI U).1)).trans (fk (σ:=ao) (bj V))
 have s:fY l B R ns ci np sc:=n.keep Z
 have z:l.cell B=some (jS B (.ref R) 0 0):=cb
 have G:l.cell (B+1)=some (.h_ (dk (bV ci) ns)):=(aH (pT B)).trans ((fk (σ:=ao) (gI H.t).2).trans cb)
 have r3:l.cell R=some (.list (y.map aB)):=(aH E.symm).trans (gq (σ:=ao))
 refine aw (Oa (aW:=l) (B:=B) (r:=.ref R) (p:=0) (q:=0) ⟨s.up (dD R),G,a9 H.t (dD R),W,M,X⟩ z) λo Q D=>?_
 have T:(MB.val (.kg (.ax (aV 273 "_ready_nodes") (.var "self")) .none_)) ρ σ=some (false,σ):=cz (aJ (d:=.none) (e:=.none) (cO (av rfl) H.c rfl) rfl (if_pos rfl))
 have u:∀i,i<=R->o.cell i=l.cell i:=λi v=>D.old i (K9 v)
 refine⟨o,oJ (ae:=ρ.set "cycle" .none) rfl (aK (d_ T rfl) (aK P (aK (bt (jC (C:=273) (name:="_find_cycle") (F:=q9) (mo:=.var "self") (g:=aG []) (i:=B) rfl z rfl bA Q)) (d_ (oo (av rfl) rfl) rfl)))),
  fv.keep (σ:=l) ⟨s,z,G,r3,H.t,aE (iX ..) (aE M (by decide))⟩ λi a v=>u i v,⟨aE (dD R) D.le,λi v=>?_⟩,D.le⟩
 have x:i<R:=a9 v (aE (cy B 2) H.t)
 exact(u i (jy x)).trans ((aH (bj v)).trans ((fk (σ:=ao) (bj x)).trans (A i (bj (fG v)))))
theorem Pk{σ:MH}{B R ns ci np sc n p q}(H:fv σ B R ns ci np sc n p q)(Z:∀f∈n,f∈ns):
 ∃ab,nO [.ref B] σ=some (.tup (n.map aB),ab)/\fv ab B R ns ci (λg=>if g∈n then -1 else np g) sc [] (p+n.length) q/\Ext B σ ab/\ab.next=σ.next/\∀i,R<i->ab.cell i=σ.cell i:=by
 let ρ:=c_ [("self",.ref B)]
 let bw:=(ρ.set "result" (.tup (n.map aB))).set "n2i" (.ref (B+1))
 refine jO n aB (mi:=.of (.var "result")) (t:=.name "node") (body:=.assign (.slot 176 1 (.idx (.var "n2i") (.var "node"))) (.int (-1))) (ρ:=bw) (σ:=σ)
  (λL ae ab=>Agree ["node"] bw ae/\fv ab B R ns ci (λg=>if g∈L then -1 else np g) sc n p q/\Ext B σ ab/\ab.next=σ.next/\∀i,R<i->ab.cell i=σ.cell i) (λG ae ab=>G=.next/\Agree ["node"] bw ae/\fv ab B R ns ci (λg=>if g∈n then -1 else np g) sc n p q/\Ext B σ ab/\ab.next=σ.next/\∀i,R<i->ab.cell i=σ.cell i)
  (zF (av rfl)) (λa a a a a=>rfl) ⟨λa a=>rfl,by
    have:(λg=>if g∈([]:List (List Nat)) then -1 else np g)=np:=funext λg=>if_neg bQ
    exact aa (this ..)<|H,Ext.refl,rfl,λa a=>rfl⟩
  (λL f T ae ab V F=>l9 F λI s x' n' o'=>by
    have w:=Z f (V▸d0 _ a0)
    have u:=s.S.inf f w
    have X:(ME.idx (.var "n2i") (.var "node")) (ae.set "node" (aB f)) ab=some (bV ci f,ab):=aJ (d:=.ref (B+1)) (e:=aB f) (av ((if_neg (by decide)).trans (I "n2i" (by decide)))) rfl ((sr s.d rfl rfl).trans (h7 s.S.cG w))
    have E:=eo (t:=.slot 176 1 (.idx (.var "n2i") (.var "node"))) (m:=.int (-1)) (d:=.int (-1)) (ρ:=ae.set "node" (aB f)) (σ:=ab) rfl (tx X u)
    have y:=gI (s.S.lo f w)
    have A:=lD (s.S.hi f w)
    refine⟨_,bs rfl E,I.set (by decide),⟨(s.S.wo w (-1)).same (λg hg=>?_) λa a=>rfl,(aH y.1).trans s.c,(aH y.2).trans s.d,(aH (dc A)).trans s.r,s.b,s.z⟩,x'.trans (Ext.put (aE (cy B 2) (s.S.lo f w))),n',λi u=>(aH (dc (rK A u))).trans (o' i u)⟩
    unfold eW
    by_cases e:g=f
    .exact aa (if_pos e ..)<|aa (if_pos (d0 _ (List.mem_singleton.mpr e)) ..) rfl
    .exact aa (if_neg e ..)<|ite_congr (propext ⟨λh=>(List.mem_append.mp h).resolve_right λq=>e (List.mem_singleton.mp q),jY _⟩) (λa=>rfl) λa=>rfl) (λae ab k=>⟨rfl,k⟩) λG o aX Y W=>?_
 refine wO W λN C l x2 n2 o2=>?_
 subst N
 let j:=aX.put R (.list [])
 have D:=gI H.b
 have E:(MB.val (.is (.ax (aV 273 "_ready_nodes") (.var "self")) .none_)) ρ σ=some (false,σ):=cz (aJ (d:=.ref R) (e:=.none) (cO (av rfl) H.c rfl) rfl (if_pos rfl))
 have K:∀ab,(ME.var "self") o ab=some (.ref B,ab):=λab=>av (C "self" (by decide))
 have J:∀ab,(ME.var "result") o ab=some (.tup (n.map aB),ab):=λab=>av (C "result" (by decide))
 have M:j.cell B=some (jS B (.ref R) p q):=(aH D.1).trans l.c
 have O:(ME.ax oA (.ax (aV 273 "_ready_nodes") (.var "self"))) o aX=some (.none,j):=uO (cO (K _) l.c rfl) (bs (oz l.r) rfl)
 have P:=HK (k:=273) (name:="_npassedout") (f:=kT) (me:=.ax bW (.var "result")) (x:=.int p) (v:=iD n.length) (z:=.int (p+n.length)) (K j) M (zr rfl) rfl (eD (J j) (by show some (iD (n.map aB).length)=_;exact aa (aZ ..) rfl)) rfl
 refine⟨j.put B (jS B (.ref R) (p+n.length) q),fx rfl (aK (d_ E rfl) (aK (bt (eD (cO (av rfl) H.c rfl) (bs (iC H.r) rfl))) (aK (bt (cO (av rfl) H.c rfl)) (aK Y (aK (il O) (aK P (fC (J _)))))))),
  ⟨l.S.keep λi Q U=>(aH (Ne.symm (gI Q).1)).trans (aH (bj U)),cb,(aH (pT B)).trans ((aH D.2).trans l.d),(aH D.1.symm).trans cb,H.b,fW _⟩,x2.trans ⟨bb _,λi u=>(aH (bj u)).trans (aH (bj (a9 u (aE (cy B 2) H.b))))⟩,n2,λi u=>?_⟩
 exact(aH (dc (ee (aE (cy B 2) H.b) u))).trans ((aH (dc u)).trans (o2 i u))
theorem LY{σ:MH}{B R ns ci np sc b p q}(H:fv σ B R ns ci np sc b p q):nP [.ref B] σ=some (.bool (decide (q<p)|| !b.isEmpty),σ):=by
 let ρ:=c_ [("self",.ref B)]
 have f:(MB.val (.is (.ax (aV 273 "_ready_nodes") (.var "self")) .none_)) ρ σ=some (false,σ):=cz (aJ (d:=.ref R) (e:=.none) (cO (av rfl) H.c rfl) rfl (if_pos rfl))
 have g:(ME.or (.lt (.ax (aV 273 "_nfinished") (.var "self")) (.ax (aV 273 "_npassedout") (.var "self"))) (.ax yt (.ax (aV 273 "_ready_nodes") (.var "self")))) ρ σ=some (.bool (decide (q<p)|| !b.isEmpty),σ):=by
  refine bs (a:=(.bool (decide (q<p)),σ)) (aJ (d:=.int q) (e:=.int p) (cO (av rfl) H.c rfl) (cO (av rfl) H.c rfl) rfl) (bs (a:=decide (q<p)) rfl ?_)
  induction decide (q<p) with
  | true=>rfl
  | false=>
   refine eD (cO (av rfl) H.c rfl) ?_
   unfold ux
   refine aa (iC H.r ..) ?_
   induction b<;>rfl
 exact fx rfl (aK (d_ f rfl) (fC g))
theorem Oh{σ:MH}{B R ns ci np sc F p q}{f:List Nat}(H:fv σ B R ns ci np sc F p q)(G:f∈ns)(hn:np f= -1)(hs:∀g∈sc f,g∈ns/\g≠f/\np g=1)(hd:(sc f).Nodup)(hz:F.length+(sc f).length<=1000):
 ∃ab,pF [.ref B,aB f] σ=some (.none,ab)/\fv ab B R ns ci (λg=>if g=f then -2 else if g∈sc f then 0 else np g) sc (F++sc f) p (q+1)/\Ext B σ ab/\ab.next=σ.next/\∀i,R<i->ab.cell i=σ.cell i:=by
 let ρ:=c_ [("self",.ref B),("nodes",.tup [aB f])]
 let bw:=(ρ.set "n2i" (.ref (B+1))).set "node" (aB f)
 let C:=bw.set "nodeinfo" (bV ci f)
 let o:=C.set "stat" (.int (-1))
 have y:=H.S.inf f G
 have W:=gI H.b
 have O:=gI (H.S.lo f G)
 have P:=lD (H.S.hi f G)
 have eg:(ME.dB mV p_ (.var "n2i") (.var "node")) bw σ=some (bV ci f,σ):=
  j_ (av rfl) (by unfold mV;exact aa (Ds H.d ..) rfl) (av rfl) (Ay (bs (Ds H.d) (bs (a:=aR f) rfl (congrArg some (by exact aa (h7 H.S.cG G ..) rfl)))))
 have es:(ME.ax (eY 176 1) (.var "nodeinfo")) C σ=some (.int (-1),σ):=oF (av rfl) y (congrArg (λi=>some (D.int i)) hn)
 let ao:=σ.put (ci f) (lX f (-2) (ci f+1))
 have e1:=eo (t:=.slot 176 1 (.var "nodeinfo")) (m:=.int (-2)) (d:=.int (-2)) (ρ:=o) (σ:=σ) (ae:=o) (ab:=ao) rfl (tx rfl y)
 have A:fv ao B R ns ci (eW np f (-2)) sc F p q:=⟨H.S.wo G (-2),(aH O.1).trans H.c,(aH O.2).trans H.d,(aH (dc P)).trans H.r,H.b,H.z⟩
 let J:MS:=.cons (.assign (.name "successor_info") (.idx (.var "n2i") (.var "successor"))) (.cons (.lH 176 1 u7 (.var "successor_info") (.int 1)) (.ite (.val (.eq (.ax (eY 176 1) (.var "successor_info")) (.int 0))) (.expr (.dB eh fK (.ax (aV 273 "_ready_nodes") (.var "self")) (.var "successor"))) .nil))
 refine jO (sc f) aB (mi:=.of (.ax (eY 176 2) (.var "nodeinfo"))) (t:=.name "successor") (body:=J) (ρ:=o) (σ:=ao)
  (λL ae ab=>Agree ["successor","successor_info"] o ae/\fv ab B R ns ci (λg=>if g=f then -2 else if g∈L then 0 else np g) sc (F++L) p q/\Ext B ao ab/\ab.next=σ.next/\∀i,R<i->ab.cell i=ao.cell i)
  (λfl ae ab=>fl=.next/\Agree ["successor","successor_info"] o ae/\fv ab B R ns ci (λg=>if g=f then -2 else if g∈sc f then 0 else np g) sc (F++sc f) p q/\Ext B ao ab/\ab.next=σ.next/\∀i,R<i->ab.cell i=ao.cell i)
  (sm (oF (av rfl) (A.S.inf f G) rfl) (A.S.iQ f G)) (λn n ab n hI=>rQ (hI.2.1.S.iQ f G)) ⟨λn n=>rfl,by
    have:(λg=>if g=f then (-2:Int) else if g∈([]:List (List Nat)) then 0 else np g)=eW np f (-2):=funext λg=>ite_congr rfl (λn=>rfl) λn=>if_neg bQ
    exact aa (this ..)<|aa (hW ..)<|A,Ext.refl,rfl,λn n=>rfl⟩
  (λL g T ae ab Y km=>l9 km λhA w x' n' o'=>by
    have hg:=Y▸d0 L (a0 (a:=g) (l:=T))
    refine bP (hs g hg) λK g2 g3=>?_
    have PM:g∉L:=λq=>by
     rw [Y] at hd
     exact(List.nodup_append.mp hd).2.2 g q g a0 rfl
    have gi:=w.S.inf g K
    rw [if_neg g2,if_neg PM,g3] at gi
    have zq:=gI (w.S.lo g K)
    have M:=lD (w.S.hi g K)
    let U:=ae.set "successor" (aB g)
    let I:=U.set "successor_info" (bV ci g)
    have N:Agree ["successor","successor_info"] o I:=(hA.set (by decide)).set (by decide)
    have Z:(ME.idx (.var "n2i") (.var "successor")) U ab=some (bV ci g,ab):=aJ (d:=.ref (B+1)) (e:=aB g) (av ((if_neg (by decide)).trans (hA "n2i" (by decide)))) rfl ((sr w.d rfl rfl).trans (h7 w.S.cG K))
    let u:=ab.put (ci g) (lX g 0 (ci g+1))
    have e2:=HL (k:=176) (j:=1) (f:=u7) (mo:=.var "successor_info") (me:=.int 1) (ρ:=I) (σ:=ab) (x:=.int 1) (v:=.int 1) (z:=.int 0) rfl gi rfl rfl rfl
    have X:u.cell (ci g)=some (lX g 0 (ci g+1)):=cb
    have e3:(MB.val (.eq (.ax (eY 176 1) (.var "successor_info")) (.int 0))) I u=some (true,u):=cz (aJ (oF (av rfl) X rfl) rfl (ji (p:=.int 0) (q:=.int 0) rfl rfl))
    have ca:u.cell B=some (jS B (.ref R) p q):=(aH zq.1).trans w.c
    have ra:u.cell R=some (.list ((F++L).map aB)):=(aH (dc M)).trans w.r
    have Q:(F++L).length+1<=1000:=by
     rw [Y,bF,gM] at hz
     refine aa (bF ..) ?_;lia
    have e4:(ME.dB eh fK (.ax (aV 273 "_ready_nodes") (.var "self")) (.var "successor")) I u=some (.none,u.put R (.list ((F++(L++ [g])).map aB))):=
     (j_ (cO (av (N "self" (by decide))) ca rfl) (mW ra) (av (d:=aB g) rfl) (pY ra (by exact aa (aZ ..)<|Nat.lt_of_lt_of_le Q (by decide)))).trans (congrArg (λl=>some (D.none,u.put R (.list l))) (by exact aa (.symm (iW ..))<|aa (ey (l₁:=F++L) ..) rfl))
    refine⟨_,bs rfl (aK (bt Z) (aK e2 (iO e3 (il e4)))),N,⟨?_,(aH W.1).trans ca,(aH W.2).trans ((aH zq.2).trans w.d),cb,w.b,by exact aa (.symm (iW ..))<|aa (bF ..)<|Q⟩,(x'.trans (Ext.put (aE (cy B 2) (w.S.lo g K)))).trans (Ext.put (aE (cy B 2) w.b)),n',λi y=>(aH (dc y)).trans ((aH (dc (rK M y))).trans (o' i y))⟩
    refine((w.S.wo K 0).same (λh hh=>?_) λn n=>rfl).keep λi n y=>aH (bj y)
    show(if h=f then (-2:Int) else if h∈L++ [g] then 0 else np h)=(if h=g then (0:Int) else (if h=f then -2 else if h∈L then 0 else np h))
    by_cases e:h=f
    .exact aa (if_pos e ..)<|aa (if_neg (λq=>g2 (q.symm.trans e)) ..)<|aa (if_pos e ..) rfl
    .refine aa (if_neg e ..) ?_
     by_cases V:h=g
     .exact aa (if_pos V ..)<|aa (if_pos (d0 _ (List.mem_singleton.mpr V)) ..) rfl
     .exact aa (if_neg V ..)<|aa (if_neg e ..)<|ite_congr (propext ⟨λk=>(List.mem_append.mp k).resolve_right λq=>V (List.mem_singleton.mp q),jY _⟩) (λn=>rfl) λn=>rfl) (λae ab k=>⟨rfl,k⟩) λfl E aX hq hQ=>?_
 refine wO hQ λe0 Qp s x2 n2 o2=>?_
 subst e0
 have e5:(MB.val (.is (.ax (aV 273 "_ready_nodes") (.var "self")) .none_)) ρ σ=some (false,σ):=cz (aJ (d:=.ref R) (e:=.none) (cO (av rfl) H.c rfl) rfl (if_pos rfl))
 have e6:=HK (k:=273) (name:="_nfinished") (f:=kT) (mo:=.var "self") (me:=.int 1) (ρ:=E) (σ:=aX) (x:=.int q) (v:=.int 1) (z:=.int (q+1)) (av (Qp "self" (by decide))) s.c (zr rfl) rfl rfl rfl
 have e7:(MB.val (.ne (.var "stat") (.int (-1)))) o σ=some (false,σ):=cz (aJ (d:=.int (-1)) (e:=.int (-1)) rfl rfl rfl)
 refine⟨aX.put B (jS B (.ref R) p (q+1)),oJ (ae:=E) rfl (aK (d_ e5 rfl) (aK (bt (cO (av rfl) H.c rfl)) (bs (a:=(fj (.tup [aB f]),2,σ)) rfl (r9 rfl (bs (a:=(bw,σ)) rfl (aK (bs eg rfl) (aK (bt es) (aK (d_ e7 rfl) (aK e1 (aK hq e6)))))) rfl)))),
  ⟨s.S.keep λi h1 n=>aH (Ne.symm (gI h1).1),cb,(aH (pT B)).trans s.d,(aH W.1.symm).trans s.r,H.b,s.z⟩,((Ext.put (aE (cy B 2) (H.S.lo f G))).trans x2).trans (Ext.put (bb _)),n2,λi y=>?_⟩
 exact(aH (dc (ee (aE (cy B 2) H.b) y))).trans ((o2 i y).trans (aH (dc (rK P y))))
noncomputable def eG (tl:List (List Nat)) (p:List Nat):List (List Nat):=tl.filter λf=>f.dropLast==p
structure nR(tl:List (List Nat)):Prop where
 cG:dZ tl
 nd:tl.Nodup
 ne:∀f∈tl,f≠ []
 par:∀f∈tl,f.dropLast= []∨f.dropLast∈tl
 z:tl.length<=18
theorem V5(σ:MH):∃ab,pv [] σ=some (.ref σ.next,ab)/\iA ab σ.next [] (λa=>0) (λa=>0) (λa=>[])/\Ext σ.next σ ab:=by
 let N:=σ.next
 let ρ:=c_ [("self",.ref N),("graph",.none)]
 have k:∀ab,(ME.var "self") ρ ab=some (.ref N,ab):=λa=>rfl
 have j:N≠N+1:=bj (cw _)
 let aW:=(σ.new (.inst 273 [])).new (.dict [])
 let ao:=aW.put N (.inst 273 [("_node2info",.ref (N+1))])
 let aX:=ao.put N (.inst 273 [("_node2info",.ref (N+1)),("_ready_nodes",.none)])
 let g:=aX.put N (.inst 273 [("_node2info",.ref (N+1)),("_ready_nodes",.none),("_npassedout",.int 0)])
 let b:=g.put N (jS N .none 0 0)
 have e:xh [.ref N] (σ.new (.inst 273 []))=some (.none,b):=
  oJ (ae:=ρ) rfl (aK (eo (h8 (c:=.dict []) rfl) (iq (k _) ((fk j).trans gq) (zr rfl))) (aK (eo (d:=.none) rfl (iq (k _) cb (zr rfl))) (aK (eo (d:=.int 0) rfl (iq (k _) cb (zr rfl)))
   (aK (eo (d:=.int 0) rfl (iq (k _) cb (zr rfl))) (d_ (cz (aJ (d:=.none) (e:=.none) rfl rfl (if_pos rfl))) rfl)))))
 refine⟨b,bs e (if_pos rfl),⟨⟨λf h=>absurd h bQ,λf h=>absurd h bQ,λf h=>absurd h bQ,λf h=>absurd h bQ,λf h=>absurd h bQ,λf h=>absurd h bQ,λf h=>absurd h bQ⟩,cb,?_,bb _,λa a=>⟨rfl,rfl⟩,fW _⟩,cy _ 2,λi l=>?_⟩
 .exact(aH j.symm).trans ((aH j.symm).trans ((aH j.symm).trans ((aH j.symm).trans (gq (σ:=σ.new (.inst 273 []))))))
 .have h:=bj l
  exact(aH h).trans ((aH h).trans ((aH h).trans ((aH h).trans ((fk (bj (fG l))).trans (fk h)))))
theorem L8{σ:MH}{B:Nat}{ρ:aC}{ci}{tl:List (List Nat)}(T:nR tl)(H:iA σ B [[]] ci (λa=>0) (λa=>[]))(h1:ρ "sorter" =some (.ref B))(h2:ρ "folders" =some (.list (([]::tl).map aB))):
 ∃ae ab j rest,MS.cD (.of (.slice (.var "folders") (some (.int 1)) .none)) (.name "folder") (.expr (.dC 273 "add" jr (.var "sorter") (aG [(.var "folder"),(.a8 fm (aG [(.var "folder")]))]))) ρ σ=some (.next,ae,ab)/\Agree ["folder"] ρ ae/\
  iA ab B ([]::rest) j (λf=>if f∈tl then 1 else 0) (eG tl)/\(∀f,f∈rest↔f∈tl)/\rest.length<=2*tl.length/\Ext B σ ab:=by
 have G:(ME.slice (.var "folders") (some (.int 1)) .none) ρ σ=some (.list (tl.map aB),σ):=kc (xs:=([]::tl).map aB) (l:=some 1) (u:=none) (av h2) rfl (D3 rfl) rfl rfl|>.trans (congrArg (λl=>some (D.list l,σ)) (A5 (c:=1) (xs:=([]::tl).map aB) (ub 1 _)))
 refine jO tl aB (mi:=.of (.slice (.var "folders") (some (.int 1)) .none)) (t:=.name "folder") (body:=.expr (.dC 273 "add" jr (.var "sorter") (aG [(.var "folder"),(.a8 fm (aG [(.var "folder")]))]))) (ρ:=ρ) (σ:=σ)
  (λL ae ab=>Agree ["folder"] ρ ae/\∃j rest,iA ab B ([]::rest) j (λf=>if f∈L then 1 else 0) (eG L)/\(∀f∈rest,f∈tl)/\(∀f∈L,f∈rest)/\rest.length<=2*L.length/\Ext B σ ab)
  (λQ ae ab=>Q=.next/\Agree ["folder"] ρ ae/\∃j rest,iA ab B ([]::rest) j (λf=>if f∈tl then 1 else 0) (eG tl)/\(∀f∈rest,f∈tl)/\(∀f∈tl,f∈rest)/\rest.length<=2*tl.length/\Ext B σ ab)
  (cU G) (λa a a a a=>rfl) ⟨λa a=>rfl,ci,[],by
    have:(λf=>if f∈([]:List (List Nat)) then (1:Int) else 0)=λa=>0:=funext λf=>if_neg bQ
    exact aa (this ..)<|H,λf h=>absurd h bQ,λf h=>absurd h bQ,bb _,Ext.refl⟩
  (λL f R ae ab x M=>aA M λv N=>tI N λj rest s I J S K=>by
    have m:f∈tl:=x▸d0 _ a0
    have o:=T.cG f m
    have X_:L.length+(R.length+1)=tl.length:=by exact aa (x ..)<|aa (bF ..) rfl
    have hz:=T.z
    refine eQ (L4 s o (Hk o) (by refine aa (gM ..) ?_;lia) (aE (iX ..) (by lia))) λV r e1 n O=>?_
    have y:f∉L:=λq=>by
     have:=T.nd
     rw [x] at this
     exact(List.nodup_append.mp this).2.2 f q f a0 rfl
    have e2:eW (λf=>if f∈L then (1:Int) else 0) f ((if f∈L then (1:Int) else 0)+1)=λg=>if g∈L++ [f] then 1 else 0:=funext λg=>by
     delta eW
     by_cases e:g=f
     .exact aa (if_pos e ..)<|aa (if_neg y ..)<|aa (if_pos (d0 _ (List.mem_singleton.mpr e)) ..) rfl
     .exact aa (if_neg e ..)<|ite_congr (propext ⟨jY _,λh=>(List.mem_append.mp h).resolve_right λq=>e (List.mem_singleton.mp q)⟩) (λa=>rfl) λa=>rfl
    have e3:eW (eG L) f.dropLast (eG L f.dropLast++ [f])=eG (L++ [f]):=funext λg=>by
     delta eW eG
     refine aa (List.filter_append ..) ?_
     by_cases e:g=f.dropLast
     .exact aa (if_pos e ..)<|aa (e ..)<|aa (nY ..)<|aa (if_pos (beq_self_eq_true _) ..) rfl
     .exact aa (if_neg e ..)<|aa (nY ..)<|aa (if_neg (λq=>e (eq_of_beq q).symm) ..)<|(hW _).symm
    rw [e2,e3] at n
    have add:∀rest g,(∀f∈rest,f∈tl)->(g= []∨g∈tl)->∃b,addW ([]::rest) g= []::b/\(∀f∈b,f∈tl)/\(∀f∈rest,f∈b)/\(g≠ []->g∈b)/\b.length<=rest.length+1:=λrest g h p=>by
     delta addW
     by_cases w:g∈ []::rest
     .exact⟨rest,if_pos w,h,λa=>id,λA=>(List.mem_cons.mp w).resolve_left A,dD _⟩
     .refine⟨rest++ [g],if_neg w,λf m=>(List.mem_append.mp m).elim (h f) λe=>?_,λf m=>jY _ m,λa=>d0 _ a0,by exact aa (bF ..)<|Nat.le_refl _⟩
      exact aa (List.mem_singleton.mp e ..)<|p.resolve_left λe=>w (e▸a0)
    refine lg (add rest f I (.inr m)) λr1 W X Y Z a5=>?_
    refine lg (add r1 f.dropLast X (T.par f m)) λU b1 b2 P b4 b5=>?_
    rw [W,b1] at n
    have ed:(ME.a8 fm (aG [(.var "folder")])) (ae.set "folder" (aB f)) ab=some (aB f.dropLast,ab):=d8 (aS (d:=aB f) rfl bA) ((gm o).dir ab)
    have E:(ae.set "folder" (aB f)) "sorter" =some (.ref B):=(if_neg (by decide)).trans ((v "sorter" (by decide)).trans h1)
    refine⟨_,bs rfl (il (jC (C:=273) (name:="add") (F:=jr) (mo:=.var "sorter") (i:=B) (av E) s.c rfl (aS (d:=aB f) rfl (aS ed bA)) e1)),v.set (by decide),r,U,n,b2,λg p=>?_,by refine aa (bF ..) ?_;show U.length<=2*(L.length+1);lia,K.trans O⟩
    rcases List.mem_append.mp p with p| p
    .exact P g (Y g (J g p))
    .exact aa (List.mem_singleton.mp p ..)<|P f (Z (T.ne f m))) (λae ab k=>⟨rfl,k⟩) λQ ae ab hq hQ=>?_
 refine bP hQ λe0 v q=>?_
 refine tI q λj rest s I J S K=>?_
 subst e0
 exact⟨ae,ab,j,rest,hq,v,s,λf=>⟨I f,J f⟩,S,K⟩
theorem Vk{σ:MH}{ρ:aC}{tl:List (List Nat)}(T:nR tl)(K:ρ "folders" =some (.list (([]::tl).map aB))):
 ∃ae ab R ci rest,(∀(y:MS) r,y ae ab=some r->MS.cons (.assign (.name "sorter") (.call pv [])) (.cons (.expr (.dC 273 "add" jr (.var "sorter") (aG [(.str "/")]))) (.cons (.cD (.of (.slice (.var "folders") (some (.int 1)) .none)) (.name "folder") (.expr (.dC 273 "add" jr (.var "sorter") (aG [(.var "folder"),(.a8 fm (aG [(.var "folder")]))])))) (.cons (.expr (.dC 273 "prepare" pG (.var "sorter") (aG []))) y))) ρ σ=some r)/\
  Agree ["sorter","folder"] ρ ae/\ae "sorter" =some (.ref σ.next)/\fv ab σ.next R ([]::rest) ci (λf=>if f∈tl then 1 else 0) (eG tl) [[]] 0 0/\(∀f,f∈rest↔f∈tl)/\Ext σ.next σ ab/\R+1<=ab.next:=by
 refine bI (V5 σ) λao G e O=>?_
 let B:=σ.next
 let bw:=ρ.set "sorter" (.ref B)
 refine eQ (L3 e (f:=[]) (by decide) (by decide) rfl) λaX u H p P=>?_
 refine IW (L8 (ρ:=bw) T p (if_pos rfl) ((if_neg (by decide)).trans K)) λb n m rest I E j x A Q=>?_
 have l:b "sorter" =some (.ref B):=(E "sorter" (by decide)).trans (if_pos rfl)
 have M:=T.z
 obtain⟨o,J,k,S,N⟩:=Ui j (by refine aa (gM ..) ?_;lia) (λf a=>aE (iX ..) (by lia)) (λf a g L=>by
  have:=List.mem_filter.mp L
  have t:=this.1
  have w:g.dropLast=f:=eq_of_beq this.2
  refine⟨bT _ ((x g).mpr t),?_⟩
  exact aa (.symm (w ..))<|aa (lz ..)<|Nat.sub_lt (List.length_pos_iff.mpr (T.ne g t)) (by decide))
 have v:(([]:List Nat)::rest).filter (λf=>(if f∈tl then (1:Int) else 0)==0)= [[]]:=by
  refine aa (nY ..)<|aa (if_pos (by rw [if_neg λh=>T.ne [] h rfl];rfl)) ?_
  refine congrArg (List.cons []) (List.filter_eq_nil_iff.mpr λf v=>?_)
  refine aa (if_pos ((x f).mp v) ..) ?_;decide
 rw [v] at k
 refine⟨b,o,n.next,m,rest,λy r h=>aK (bt (d8 (F:=pv) (ds:=[]) rfl G)) (aK (il (jC (C:=273) (name:="add") (F:=jr) (mo:=.var "sorter") (i:=B) (av (if_pos rfl)) e.c rfl (aS (d:=aB []) (congrArg (λs=>some (D.str s,ao)) (show au "/" =aR [] by decide)) bA) H)) (aK I (aK (il (jC (C:=273) (name:="prepare") (F:=pG) (mo:=.var "sorter") (g:=aG []) (i:=B) (av l) j.c rfl bA J)) h))),
  λz A=>(E z λq=>A (bT _ q)).trans (if_neg (c:=z= "sorter") λq=>A (by exact aa (q ..)<|List.mem_cons_self)),l,k,x,((O.trans P).trans Q).trans S,N⟩
section
noncomputable def ck (tl dn:List (List Nat)):List (List Nat):=match dn.getLast? with| none=>[[]]| some f=>eG tl f
theorem o8{tl dn f}:ck tl (dn++ [f])=eG tl f:=by unfold ck;exact aa (KH ..) rfl
noncomputable def g5 (tl dn:List (List Nat)):List (List (List Nat)):=(dv dn.length).map λk=>ck tl (dn.take k)
theorem De{tl dn f}:g5 tl (dn++ [f])=g5 tl dn++ [ck tl dn]:=by
 unfold g5
 refine aa (bF ..)<|aa (xv ..)<|aa (Cv ..)<|aa (ey ..)<|aa (xy ..)<|aa (KY ..) ?_
 refine congrArg (· ++_) (kD λk a=>?_)
 exact aa (KX (jy (List.mem_range.mp a)) ..) rfl
structure Ord(tl dn bK:List (List Nat)):Prop where
 sub:∀f∈dn,f∈ []::tl
 nd:dn.Nodup
 cl:∀f∈dn,f= []∨f.dropLast∈dn
 hd:dn≠ []->dn.head?=some []
 nx:∀f∈ck tl dn,f∈ []::tl/\(f= []∨f.dropLast∈dn)/\f∉dn
 rd:∀f,f∈bK++ck tl dn↔(f∈ []::tl/\(f= []∨f.dropLast∈dn)/\f∉dn)
 rn:(bK++ck tl dn).Nodup
section
variable {tl dn bK:List (List Nat)} {f:List Nat}
theorem vL{g:List Nat}:g∈eG tl f↔g∈tl/\g.dropLast=f:=by unfold eG;rw [xA,beq_iff_eq]
theorem Ord.init:Ord tl [] [] where
 sub _ h:=absurd h bQ
 nd:=rG
 cl _ h:=absurd h bQ
 hd h:=absurd rfl h
 nx f h:=⟨(List.mem_singleton.mp h)▸a0,.inl (List.mem_singleton.mp h),bQ⟩
 rd f:=⟨λh=>⟨(List.mem_singleton.mp h)▸a0,.inl (List.mem_singleton.mp h),bQ⟩,λh=>List.mem_singleton.mpr (h.2.1.resolve_right bQ)⟩
 rn:=List.nodup_cons.mpr ⟨bQ,rG⟩
theorem Ord.step(T:nR tl)(O:Ord tl dn bK)(D:f∈bK++ck tl dn):Ord tl (dn++ [f]) ((bK++ck tl dn).filter λg=> !(g==f)):=by
 refine bP ((O.rd f).mp D) λB u v=>?_
 have d:∀g,g∈dn++ [f]↔g∈dn∨g=f:=λg=>by rw [n4,pO]
 have A:∀g∈eG tl f,g∈tl/\g.dropLast=f/\g≠ []/\g∉dn/\g≠f:=λg k=>by
  refine aA (vL.mp k) λl i=>?_
  have m:=T.ne g l
  refine⟨l,i,m,λq=>?_,λq=>?_⟩
  .exact v (i▸(O.cl g q).resolve_left m)
  .have:=congrArg pN i
   rw [lz,q] at this
   have E:0<f.length:=q▸List.length_pos_iff.mpr m
   lia
 have p:∀g,g∈(bK++ck tl dn).filter (λg=> !(g==f))↔g∈bK++ck tl dn/\g≠f:=λg=>by
  rw [xA,pn,beq_eq_false_iff_ne]
 refine⟨λg k=>((d g).mp k).elim (O.sub g) λe=>e▸B,?_,λg k=>?_,λc=>?_,λg k=>?_,λg=>?_,?_⟩
 .exact List.nodup_append.mpr ⟨O.nd,List.nodup_cons.mpr ⟨bQ,rG⟩,λa o b hb e=>v (by rw [List.mem_singleton.mp hb] at e;exact e▸o)⟩
 .rcases (d g).mp k with h| rfl
  .exact(O.cl g h).imp id λh=>(d _).mpr (.inl h)
  .exact u.imp id λh=>(d _).mpr (.inl h)
 .induction w:dn with
  | nil=>rw [w] at u;exact aa (u.resolve_right bQ ..) rfl
  | cons x xs=>exact(show(x::xs).head?=_ from w▸O.hd (by exact aa (w ..)<|List.cons_ne_nil _ _))
 .rw [o8] at k
  refine l9 (A g k) λl i m r s=>?_
  exact⟨bT _ l,.inr (i▸(d _).mpr (.inr rfl)),λq=>((d g).mp q).elim r s⟩
 .rw [o8,n4,p,O.rd g,vL]
  constructor
  .rintro (⟨⟨n,j,t⟩,C⟩| h)
   .exact⟨n,j.imp id λh=>(d _).mpr (.inl h),λq=>((d g).mp q).elim t C⟩
   .refine l9 (A g (vL.mpr h)) λl i m r s=>?_
    exact⟨bT _ l,.inr ((d _).mpr (.inr i)),λq=>((d g).mp q).elim r s⟩
  .rintro ⟨n,j,t⟩
   have y:g∉dn:=λq=>t ((d g).mpr (.inl q))
   have z:g≠f:=λq=>t ((d g).mpr (.inr q))
   rcases j with rfl| j
   .exact .inl ⟨⟨n,.inl rfl,y⟩,z⟩
   .rcases (d _).mp j with j| j
    .exact .inl ⟨⟨n,.inr j,y⟩,z⟩
    .rcases List.mem_cons.mp n with rfl| n
     .exact .inl ⟨⟨a0,.inl rfl,y⟩,z⟩
     .exact .inr ⟨n,j⟩
 .refine aa (o8 ..) ?_
  refine List.nodup_append.mpr ⟨O.rn.filter _,T.nd.filter _,λa o b hb e=>?_⟩
  subst e
  have o:=(O.rd a).mp ((p a).mp o).1
  refine l9 (A a hb) λl i m r s=>?_
  exact v (i▸o.2.1.resolve_left m)
theorem Ord.more(T:nR tl)(O:Ord tl dn bK)(h:dn.length<tl.length+1):bK++ck tl dn≠ []:=by
 have o:([]::tl).Nodup:=List.nodup_cons.mpr ⟨λq=>T.ne [] q rfl,T.nd⟩
 have c:∃f,f∈ []::tl/\f∉dn:=by
  refine w_ λk=>?_
  have:=rx o λf a=>w_ λq=>k ⟨f,a,q⟩
  exact absurd h (Nat.not_lt.mpr this)
 have d:∀(n:Nat) (f:List Nat),f.length<=n->f∈ []::tl->f∉dn->∃g,g∈bK++ck tl dn:=by
  intro n
  induction n with
  | zero=>exact λf hl a b=>⟨f,(O.rd f).mpr ⟨a,.inl (t7 (Nat.le_zero.mp hl)),b⟩⟩
  | succ n p=>
   intro f hl a b
   by_cases e:f= []
   .exact⟨f,(O.rd f).mpr ⟨a,.inl e,b⟩⟩
   .by_cases i:f.dropLast∈dn
    .exact⟨f,(O.rd f).mpr ⟨a,.inr i,b⟩⟩
    .refine p f.dropLast (by refine aa (lz ..) ?_;lia) ?_ i
     exact(T.par f ((List.mem_cons.mp a).resolve_left e)).elim (λq=>q▸a0) (bT _)
 refine aw c λf j l=>?_
 refine aL (d _ f (bb _) j l) λg m=>?_
 exact List.ne_nil_of_mem m
theorem Ord.all(O:Ord tl dn bK)(h:dn.length=tl.length+1):bK= []/\ck tl dn= []/\∀f,f∈ []::tl->f∈dn:=by
 have b:∀f,f∈ []::tl->f∈dn:=λf c=>w_ λq=>by
  have:=rx (List.nodup_cons.mpr ⟨q,O.nd⟩) (l₂:=[]::tl) λg j=>(List.mem_cons.mp j).elim (λe=>e▸c) (O.sub g)
  rw [gM,h] at this
  exact absurd this (Nat.not_succ_le_self _)
 have:bK++ck tl dn= []:=List.eq_nil_iff_forall_not_mem.mpr λf c=>by
  refine bP ((O.rd f).mp c) λd a i=>?_
  exact i (b f d)
 exact⟨(List.append_eq_nil_iff.mp this).1,(List.append_eq_nil_iff.mp this).2,b⟩
theorem OO{α:Type} [BEq α] [LawfulBEq α]{l:List α}{a:α}(h:l.Nodup)(c:a∈l):(l.filter λb=> !(b==a)).length+1=l.length:=by
 induction l with
 | nil=>exact absurd c bQ
 | cons x l g=>
  refine aA (List.nodup_cons.mp h) λd f=>?_
  refine aa (nY ..) ?_
  by_cases e:x=a
  .refine aa (e ..)<|aa (beq_self_eq_true ..) ?_
   have:l.filter (λb=> !(b==a))=l:=List.filter_eq_self.mpr λb hb=>by
    rw [pn,beq_eq_false_iff_ne];exact λq=>d (by exact aa (e ..)<|aa (.symm (q ..))<|hb)
   exact aa (if_neg (by decide))<|aa (this ..) rfl
  .exact aa (if_pos (by rw [pn,beq_eq_false_iff_ne];exact e))<|aa (gM ..)<|aa (g f ((List.mem_cons.mp c).resolve_left (Ne.symm e)) ..) rfl
end
theorem Bu{f:List Nat}(h:f≠ []):cP f=cP f.dropLast++ [f]:=by
 refine aa (Bs ..) ?_
 refine congrArg (· ++ [f]) ?_
 unfold cP
 have b:=List.length_pos_iff.mpr h
 refine aa (lz ..)<|aa (xK b ..) ?_
 refine kD λc a=>?_
 have:=List.mem_range.mp a
 exact aa (xr ..)<|aa (Cz ..)<|aa (ud (by lia)) rfl
theorem So{ps:List Pl}(d:ps≠ [])(h:∀p∈ps,p.Ok):(eL ps).Ok:=by
 refine ew (pM d) λp f b=>?_;obtain rfl:=b
 have c:=h p a0
 exact⟨λa e=>c.ag a (List.mem_filter.mp e).1,aE (iX ..) c.al⟩
theorem SF{ps:List Pl}(h:∀p∈ps,p.ms.length<=20):(ps.flatMap Pl.ms).length<=20*ps.length:=by
 induction ps with
 | nil=>exact bb _
 | cons p ps b=>
  refine aa (nZ ..)<|aa (bF ..)<|aa (gM ..) ?_
  have:=h p a0
  have:=b λq a=>h q (bT _ a)
  lia
end
section
noncomputable def p6 (dn:List (List Nat)):List (List Nat):=if dn= [] then [[]] else dn
structure lG(tl:List (List Nat))(pl:List Nat->Pl)(N0:Nat):Prop where
 T:nR tl
 ok:∀f∈ []::tl,(pl f).Ok
 ms:∀f∈ []::tl,(pl f).ms.length<=20
structure WR(tl:List (List Nat))(pl:List Nat->Pl)(oi:List Nat->Nat)(lc:Nat->Nat)(N0 A:Nat)(aW:MH)(d7 dw:List (List Nat))(ki:List Nat->Nat)(wi:Nat)(σ:MH):Prop where
 kd:σ.cell (A+2)=some (.dict (dk (bV ki) d7))
 k0: []∈d7->ki []=oi []
 k1:∀f∈d7,f≠ []->Rec σ lc (A+3) σ.next (ki f) (eL ((cP f).map pl))
 wr:Rec σ lc (A+3) σ.next wi (eL ((p6 dw).map pl))∨(wi=oi []/\p6 dw= [[]])
 ow:∀f∈ []::tl,Rec σ lc 0 N0 (oi f) (pl f)
 old:∀i,i<N0->σ.cell i=aW.cell i
 nx:A+3<=σ.next
 n0:N0<=A
section
variable {tl:List (List Nat)} {pl:List Nat->Pl} {oi:List Nat->Nat} {lc:Nat->Nat} {N0 A:Nat} {aW:MH} {d7 dw:List (List Nat)} {ki:List Nat->Nat} {wi:Nat} {σ ab:MH} {f:List Nat}
theorem WR.keep(H:WR tl pl oi lc N0 A aW d7 dw ki wi σ)(h:∀i,(i<N0∨A+2<=i)->i<σ.next->ab.cell i=σ.cell i)(k:σ.next<=ab.next):WR tl pl oi lc N0 A aW d7 dw ki wi ab:=
 have g:N0<=σ.next:=aE H.n0 (aE (cy A 3) H.nx)
 have l:∀{i p},Rec σ lc (A+3) σ.next i p->Rec ab lc (A+3) ab.next i p:=λr=>(r.keep λj m b=>h j (.inr (lC m)) b).wide (bb _) k
 ⟨(h _ (.inr (bb _)) H.nx).trans H.kd,H.k0,λf c e=>l (H.k1 f c e),H.wr.imp l id,λf c=>(H.ow f c).keep λj a b=>h j (.inl b) (a9 b g),λi d=>(h i (.inl d) (a9 d g)).trans (H.old i d),aE H.nx k,H.n0⟩
theorem WR.sX(H:WR tl pl oi lc N0 A aW d7 dw ki wi σ)(c:f∈ []::tl):∃a b,Rec σ lc a b (oi f) (pl f)/\b<=σ.next:=⟨0,N0,H.ow f c,aE H.n0 (aE (cy A 3) H.nx)⟩
theorem WR.FU(H:WR tl pl oi lc N0 A aW d7 dw ki wi σ)(c:f∈d7):∃a b,Rec σ lc a b (ki f) (eL ((cP f).map pl))/\b<=σ.next:=by
 by_cases e:f= []
 .subst e
  refine fc (H.sX (f:=[]) a0) λa b h hb=>?_
  exact⟨a,b,by exact aa (H.k0 c ..)<|aa (show cP []= [[]] from rfl)<|aa (eK ..)<|aa (rE ..)<|aa (GL ..)<|h,hb⟩
 .exact⟨_,_,H.k1 f c e,bb _⟩
theorem WR.IM(H:WR tl pl oi lc N0 A aW d7 dw ki wi σ):∃a b,Rec σ lc a b wi (eL ((p6 dw).map pl))/\b<=σ.next:=by
 rcases H.wr with h| ⟨rfl,h2⟩
 .exact⟨_,_,h,bb _⟩
 .refine fc (H.sX (f:=[]) a0) λa b h hb=>?_
  exact⟨a,b,by exact aa (h2 ..)<|aa (eK ..)<|aa (rE ..)<|aa (GL ..)<|h,hb⟩
theorem nE(C:lG tl pl N0)(b:f∈ []::tl):∀g∈cP f,g∈ []::tl:=by
 have c:∀(n:Nat) (f:List Nat),f.length<=n->f∈ []::tl->∀g∈cP f,g∈ []::tl:=by
  intro n
  induction n with
  | zero=>intro f hl b g a;rw [t7 (Nat.le_zero.mp hl)] at a;exact(List.mem_singleton.mp a)▸a0
  | succ n d=>
   intro f hl b g a
   by_cases e:f= []
   .rw [e] at a;exact(List.mem_singleton.mp a)▸a0
   .rw [Bu e] at a
    rcases List.mem_append.mp a with a| a
    .exact d f.dropLast (by refine aa (lz ..) ?_;lia) ((C.T.par f ((List.mem_cons.mp b).resolve_left e)).elim (λq=>q▸a0) (bT _)) g a
    .exact(List.mem_singleton.mp a)▸b
 exact c _ f (bb _) b
theorem AI(C:lG tl pl N0){fs:List (List Nat)}(h:∀g∈fs,g∈ []::tl)(e:fs≠ [])(f:fs.length<=100):(eL (fs.map pl)).Ok/\(eL (fs.map pl)).ms.length<=2000:=by
 refine⟨So (λq=>e (List.map_eq_nil_iff.mp q)) λp b=>?_,?_⟩
 .refine aw (List.mem_map.mp b) λg a c=>?_;obtain rfl:=c;exact C.ok g (h g a)
 .have:=SF (ps:=fs.map pl) λp b=>by refine aw (List.mem_map.mp b) λg a d=>?_;obtain rfl:=d;exact C.ms g (h g a)
  rw [aZ] at this
  show((fs.map pl).flatMap Pl.ms).length<=2000
  lia
theorem wG:(cP f).length=f.length+1:=by unfold cP;exact aa (aZ ..)<|aa (hX ..) rfl
theorem wH:cP f≠ []:=λq=>by have:=congrArg pN q;rw [wG] at this;exact nomatch this
theorem Iy{a b:Nat}(h:a<=2000)(k:b<=20):a+b<=aP:=aE (K6 h k) (by decide)
theorem vY{ρ:aC}(g:ρ "own" =some (.dict (dk (bV oi) ([]::tl))))(c:ρ "folder" =some (aB f))(a:dZ ([]::tl))(b:f∈ []::tl):(ME.idx (.var "own") (.var "folder")) ρ σ=some (.ref (oi f),σ):=
 aJ (d:=.dict (dk (bV oi) ([]::tl))) (e:=aB f) (av g) (av c) (h7 a b)
theorem FI{ρ:aC}(b:ρ "folder" =some (aB f))(a:f∈b7):(MB.val (.eq (.var "folder") (.str "/"))) ρ σ=some (f.isEmpty,σ):=
 cz ((aJ (av b) rfl (ji (p:=.str (aR f)) (q:=.str "/") rfl rfl)).trans (by exact aa ((gm a).root ..) rfl))
theorem Q1(C:lG tl pl N0){ρ:aC}(H:WR tl pl oi lc N0 A aW d7 dw ki wi σ)(K:dZ ([]::tl))(U:∀g∈d7,g∈ []::tl)(hz:d7.length<=30)(w:f∈ []::tl)(I:f= []∨f.dropLast∈d7)(O:f∉d7)(Y:ρ "own" =some (.dict (dk (bV oi) ([]::tl))))(T:ρ "kept" =some (.ref (A+2)))(B:ρ "folder" =some (aB f)):
 ∃ab R,MS.assign (.sub (.var "kept") (.var "folder")) (.ite (.val (.eq (.var "folder") (.str "/"))) (.idx (.var "own") (.var "folder")) (.a8 gX (aG [(.idx (.var "kept") (.a8 fm (aG [(.var "folder")]))),(.idx (.var "own") (.var "folder"))]))) ρ σ=some (.next,ρ,ab)/\
  WR tl pl oi lc N0 A aW (d7++ [f]) dw R wi ab/\∀i,(i<A+2)->ab.cell i=σ.cell i:=by
 have p:=K f w
 have E:dZ d7:=λg l=>K g (U g l)
 have V:=FI (σ:=σ) B p
 have G:d7.length<aP:=ee hz (by decide)
 have s:∀v:Nat,eF (dk (bV ki) d7) (aR f) (.ref v)=dk (bV (eW ki f v)) (d7++ [f]):=λv=>by
  have:dk (bV ki) d7=dk (bV (eW ki f v)) d7:=kD λg l=>by show(aR g,D.ref (ki g))=(aR g,D.ref (eW ki f v g));exact aa (kR λe=>O (by rw [← e];exact l)) rfl
  exact aa (this ..)<|aa (show D.ref v=bV (eW ki f v) f from congrArg D.ref lQ.symm)<|uK E p O
 have u:∀g,g∈d7++ [f]->g∈d7∨g=f:=λg l=>(List.mem_append.mp l).imp id List.mem_singleton.mp
 by_cases e:f= []
 .subst e
  let ab:=σ.put (A+2) (.dict (dk (bV (eW ki [] (oi []))) (d7++ [[]])))
  have L:=eo (t:=.sub (.var "kept") (.var "folder")) (ae:=ρ) (ab:=ab) (zb (y:=.a8 gX (aG [(.idx (.var "kept") (.a8 fm (aG [(.var "folder")]))),(.idx (.var "own") (.var "folder"))])) V (vY Y B K w)) ((tA (av T) (av B) H.kd (by exact aa (oC ..)<|G)).trans (by exact aa (s ..) rfl))
  have n:∀i,i≠A+2->ab.cell i=σ.cell i:=λi h=>aH h
  have z:∀{j},A+3<=j->j≠A+2:=λh=>dc (a9 (cw _) h)
  have J:∀{j},j<N0->j≠A+2:=λh=>bj (gO 2 (a9 h H.n0))
  refine⟨ab,eW ki [] (oi []),L,⟨cb,λc=>lQ,λg l o=>?_,H.wr.imp (λr=>r.keep λj h c=>n j (z h)) id,λg l=>(H.ow g l).keep λj c h=>n j (J h),λi m=>(n i (J m)).trans (H.old i m),H.nx,H.n0⟩,λi m=>n i (bj m)⟩
  exact aa (kR o ..)<|(H.k1 g ((u g l).resolve_right o) o).keep λj h c=>n j (z h)
 .have I:=I.resolve_left e
  refine fc (H.FU I) λa b h1 hb=>?_
  refine fc (H.sX w) λa' b' h2 M=>?_
  have Q:=nE C (U _ I)
  have W:=AI C Q wH (by refine aa (wG ..)<|aa (lz ..) ?_;have:=(gm p).mZ;lia)
  refine dG (Af h1 h2 hb M W.1 (C.ok f w) (Iy W.2 (C.ms f w))) λao m1 m2 S X=>?_
  have N:o5 (eL ((cP f.dropLast).map pl)) (pl f)=eL ((cP f).map pl):=by
   rw [Bu e,ey,xy,GN λq=>wH (List.map_eq_nil_iff.mp q)]
  rw [N] at X
  have k:=H.keep (ab:=ao) (λi c m=>S.old i m) S.le
  let ab:=ao.put (A+2) (.dict (dk (bV (eW ki f σ.next)) (d7++ [f])))
  have Z:(ME.idx (.var "kept") (.a8 fm (aG [(.var "folder")]))) ρ σ=some (.ref (ki f.dropLast),σ):=aJ (d:=.ref (A+2)) (e:=aB f.dropLast) (av T) (d8 (aS (av B) bA) ((gm p).dir σ)) ((sr H.kd rfl rfl).trans (h7 E I))
  have P:(MB.val (.eq (.var "folder") (.str "/"))) ρ σ=some (false,σ):=V.trans (by exact aa (List.isEmpty_eq_false_iff.mpr e ..) rfl)
  have L:=eo (t:=.sub (.var "kept") (.var "folder")) (ae:=ρ) (ab:=ab) (Em (x:=.idx (.var "own") (.var "folder")) P (d8 (F:=gX) (aS Z (aS (vY Y B K w) bA)) m1)) ((tA (av T) (av B) k.kd (by exact aa (oC ..)<|G)).trans (by exact aa (s ..) rfl))
  have n:∀i,i≠A+2->ab.cell i=ao.cell i:=λi h=>aH h
  have z:∀{j},A+3<=j->j≠A+2:=λh=>dc (a9 (cw _) h)
  have J:∀{j},j<N0->j≠A+2:=λh=>bj (gO 2 (a9 h H.n0))
  refine⟨ab,eW ki f σ.next,L,⟨cb,λh=>(kR (Ne.symm e)).trans (H.k0 ((u _ h).resolve_right (Ne.symm e))),λg l o=>?_,k.wr.imp (λr=>r.keep λj h c=>n j (z h)) id,λg l=>(k.ow g l).keep λj c h=>n j (J h),λi m=>(n i (J m)).trans (k.old i m),k.nx,H.n0⟩,λi m=>(n i (bj m)).trans (S.old i (a9 m (aE (dD _) H.nx)))⟩
  rcases u g l with q| rfl
  .exact aa (kR λq'=>O (by rw [← q'];exact q))<|(k.k1 g q o).keep λj h c=>n j (z h)
  .exact aa (lQ ..)<|(X.wide H.nx (bN m2.symm)).keep λj h c=>n j (z h)
theorem WB(C:lG tl pl N0){ρ:aC}(H:WR tl pl oi lc N0 A aW d7 dw ki wi σ)(r:dZ ([]::tl))(z:∀g∈dw,g∈ []::tl)(B:dw.length<=30)(j:f∈ []::tl)(x:f= []->dw= [])(y:f≠ []->dw≠ [])(J:ρ "own" =some (.dict (dk (bV oi) ([]::tl))))(w:ρ "whole" =some (.ref wi))(v:ρ "folder" =some (aB f)):
 ∃ab k,MS.assign (.name "whole") (.ite (.val (.eq (.var "folder") (.str "/"))) (.var "whole") (.a8 gX (aG [(.var "whole"),(.idx (.var "own") (.var "folder"))]))) ρ σ=some (.next,ρ.set "whole" (.ref k),ab)/\WR tl pl oi lc N0 A aW d7 (dw++ [f]) ki k ab/\∀i,i<A+2->ab.cell i=σ.cell i:=by
 have m:=r f j
 have s:=FI (σ:=σ) v m
 by_cases e:f= []
 .subst e
  rw [x rfl] at H ⊢
  exact⟨σ,wi,bt (zb s (av w)),⟨H.kd,H.k0,H.k1,H.wr,H.ow,H.old,H.nx,H.n0⟩,λc c=>rfl⟩
 .have h:=y e
  refine fc H.IM λa b u hb=>?_
  rw [show p6 dw=dw from if_neg h] at u
  refine fc (H.sX j) λK L D l=>?_
  have t:=AI C z h (aE B (by decide))
  refine dG (Af u D hb l t.1 (C.ok f j) (Iy t.2 (C.ms f j))) λao E G p I=>?_
  have d:=H.keep (ab:=ao) (λi c n=>p.old i n) p.le
  have o:(MB.val (.eq (.var "folder") (.str "/"))) ρ σ=some (false,σ):=s.trans (by exact aa (List.isEmpty_eq_false_iff.mpr e ..) rfl)
  refine⟨ao,σ.next,bt (Em o (d8 (F:=gX) (aS (av w) (aS (vY J v r j) bA)) E)),⟨d.kd,H.k0,d.k1,.inl ?_,d.ow,d.old,d.nx,H.n0⟩,λi n=>p.old i (a9 n (aE (dD _) H.nx))⟩
  rw [show p6 (dw++ [f])=dw++ [f] from if_neg (by simp),ey,xy,GN λq=>h (List.map_eq_nil_iff.mp q)]
  exact I.wide H.nx (bN G.symm)
end
end
section
noncomputable def kh (tl dn bK:List (List Nat)):List Nat->Int:=λf=>if f∈dn then -2 else if f∈ck tl dn then 0 else if f∈bK then -1 else 1
noncomputable def g0 (r:List (List Nat)):D:=.tup [.str "True",.tup (r.map aB)]
noncomputable def Gq:MS:=.expr (.dB eh fK (.var "answers") (.tup [(.ax jR (.dC 273 "is_active" nP (.var "sorter") (aG []))),(.dC 273 "get_ready" nO (.var "sorter") (aG []))]))
noncomputable def Gr:MS:=.cons Gq (.cons (.assign (.name "ready") (.add (.var "ready") (.aI (.ax qk (.idx (.idx (.var "answers") (.neg (.int 1))) (.int 1)))))) (.cons (.ite (.val (.eq (.var "ready") (.list []))) .brk .nil) (.cons (.assign (.name "folder") (.idx (.var "ready") (.mod (.idx (.var "numbers") (.mod (.var "step") (.ax bW (.var "numbers")))) (.ax bW (.var "ready"))))) (.cons (.assign (.name "ready") (.aI (.comp (.of (.var "ready")) (.name "one") [(.val (.ne (.var "one") (.var "folder")))] (.elt (.var "one")) [".0","one"] (.list [])))) (.cons (.expr (.dB eh fK (.var "order") (.var "folder"))) (.cons (.assign (.sub (.var "kept") (.var "folder")) (.ite (.val (.eq (.var "folder") (.str "/"))) (.idx (.var "own") (.var "folder")) (.a8 gX (aG [(.idx (.var "kept") (.a8 fm (aG [(.var "folder")]))),(.idx (.var "own") (.var "folder"))])))) (.cons (.assign (.name "whole") (.ite (.val (.eq (.var "folder") (.str "/"))) (.var "whole") (.a8 gX (aG [(.var "whole"),(.idx (.var "own") (.var "folder"))])))) (.expr (.dC 273 "done" pF (.var "sorter") (aG [(.var "folder")]))))))))))
structure Wk(tl:List (List Nat))(pl:List Nat->Pl)(oi:List Nat->Nat)(lc:Nat->Nat)(N0 B R A:Nat)(aW:MH)(rest:List (List Nat))(ci:List Nat->Nat)(nums:List Int)(dn bK:List (List Nat))(ki:List Nat->Nat)(wi:Nat)(ρ:aC)(σ:MH):Prop where
 O:Ord tl dn bK
 vo:ρ "own" =some (.dict (dk (bV oi) ([]::tl)))
 vn:ρ "numbers" =some (.list (nums.map .int))
 vs:ρ "sorter" =some (.ref B)
 va:ρ "answers" =some (.ref A)
 vd:ρ "order" =some (.ref (A+1))
 vk:ρ "kept" =some (.ref (A+2))
 vr:ρ "ready" =some (.list (bK.map aB))
 vw:ρ "whole" =some (.ref wi)
 S:fv σ B R ([]::rest) ci (kh tl dn bK) (eG tl) (ck tl dn) ((dn.length:Int)+bK.length) dn.length
 an:σ.cell A=some (.list ((g5 tl dn).map g0))
 od:σ.cell (A+1)=some (.list (dn.map aB))
 W:WR tl pl oi lc N0 A aW dn dn ki wi σ
structure yb(tl:List (List Nat))(N0 B R A:Nat)(rest:List (List Nat))(nums:List Int):Prop where
 rs:∀f,f∈rest↔f∈tl
 nb:N0<=B
 ra:R<A
 nn:nums≠ []
 nz:nums.length<=1000
section
variable {tl:List (List Nat)} {pl:List Nat->Pl} {oi:List Nat->Nat} {lc:Nat->Nat} {N0 B R A:Nat} {aW:MH} {rest:List (List Nat)} {ci:List Nat->Nat} {nums:List Int} {dn bK:List (List Nat)} {ki:List Nat->Nat} {wi:Nat} {ρ:aC} {σ:MH} {k:Nat}
theorem Ord.len(T:nR tl)(O:Ord tl dn bK):dn.length<=19/\(bK++ck tl dn).length<=19:=by
 have a:=rx O.nd (l₂:=[]::tl) O.sub
 have b:=rx O.rn (l₂:=[]::tl) λf c=>((O.rd f).mp c).1
 rw [gM] at a b
 have:=T.z
 exact⟨by lia,by lia⟩
theorem fv.same{np ql:List Nat->Int}{sc ns i p q e g}(H:fv σ B R ns ci np sc i p q)(h:∀f∈ns,ql f=np f)(j:e=p)(k:g=q):fv σ B R ns ci ql sc i e g:=⟨H.S.same h λa a=>rfl,j▸k▸H.c,H.d,H.r,H.b,H.z⟩
theorem Df(C:lG tl pl N0)(L:yb tl N0 B R A rest nums)(H:Wk tl pl oi lc N0 B R A aW rest ci nums dn bK ki wi ρ σ):
 ∃ab,Gq ρ σ=some (.next,ρ,ab)/\fv ab B R ([]::rest) ci (λg=>if g∈ck tl dn then -1 else kh tl dn bK g) (eG tl) [] ((dn.length:Int)+bK.length+(ck tl dn).length) dn.length/\
  ab.cell A=some (.list ((g5 tl dn).map g0++ [.tup [.str (if bK++ck tl dn= [] then "False" else "True"),.tup ((ck tl dn).map aB)]]))/\ab.next=σ.next/\∀i,(i<B∨R<i)->i≠A->ab.cell i=σ.cell i:=by
 have u:=H.O.len C.T
 have m:∀f∈ck tl dn,f∈([]:List Nat)::rest:=λf t=>(List.mem_cons.mp (H.O.nx f t).1).elim (λe=>e▸a0) λh=>bT _ ((L.rs f).mpr h)
 refine lg (Pk H.S m) λao q b w v p=>?_
 have o:=LY H.S
 have hb:(decide ((dn.length:Int)<(dn.length:Int)+bK.length)|| !(ck tl dn).isEmpty)= !decide (bK++ck tl dn= []):=by
  induction z:bK with
  | nil=>refine aa (xD ..) ?_;induction ck tl dn<;>simp
  | cons x xs=>simp;exact .inl (by lia)
 rw [hb] at o
 have d:nk (.bool (!decide (bK++ck tl dn= []))) σ=some (.str (if bK++ck tl dn= [] then "False" else "True")):=by
  by_cases h:bK++ck tl dn= []
  .exact aa (decide_eq_true h ..)<|aa (if_pos h ..) rfl
  .exact aa (decide_eq_false h ..)<|aa (if_neg h ..) rfl
 have y:=dc L.ra
 have j:ao.cell A=some (.list ((g5 tl dn).map g0)):=(p A L.ra).trans H.an
 have n:((g5 tl dn).map g0).length<aP:=by unfold g5;exact aa (aZ ..)<|aa (aZ ..)<|aa (hX ..)<|Nat.lt_of_le_of_lt u.1 (by decide)
 have r:=jC (C:=273) (name:="is_active") (F:=nP) (mo:=.var "sorter") (g:=aG []) (ρ:=ρ) (σ:=σ) (i:=B) (av H.vs) H.S.c rfl bA o
 have s:=jC (C:=273) (name:="get_ready") (F:=nO) (mo:=.var "sorter") (g:=aG []) (ρ:=ρ) (σ:=σ) (i:=B) (av H.vs) H.S.c rfl bA q
 refine⟨_,il (j_ (av H.va) (mW H.an) (iK (aS (eD r d) (aS s bA)) (dO rfl)) (pY j n)),b.keep λi a k=>aH (bj (ee k L.ra)),cb,v,λi k l=>(aH l).trans (k.elim (λh=>w.old i h) (p i))⟩
theorem Ws(C:lG tl pl N0)(L:yb tl N0 B R A rest nums)(H:Wk tl pl oi lc N0 B R A aW rest ci nums dn bK ki wi ρ σ)(hk:dn.length<tl.length+1):
 ∃f X P ae ab,turn (.name "step") Gr (iD k) ρ σ=some (.next,ae,ab)/\Wk tl pl oi lc N0 B R A aW rest ci nums (dn++ [f]) ((bK++ck tl dn).filter λg=> !(g==f)) X P ae ab:=by
 have hI:dZ ([]::tl):=λg E=>(List.mem_cons.mp E).elim (λe=>e▸by decide) (C.T.cG g)
 have hz:=H.O.len C.T
 have u:=H.O.more C.T hk
 let r:=bK++ck tl dn
 have S:∀g∈r,g∈ []::tl:=λg E=>((H.O.rd g).mp E).1
 let b:=ρ.set "step" (iD k)
 have H0:Wk tl pl oi lc N0 B R A aW rest ci nums dn bK ki wi b σ:={H with vo:=H.vo,vn:=H.vn,vs:=H.vs,va:=H.va,vd:=H.vd,vk:=H.vk,vr:=H.vr,vw:=H.vw}
 refine lg (Df C L H0) λao e1 Y t n₁ U=>?_
 rw [if_neg u] at t
 have w:=L.ra
 have e2:(ME.add (.var "ready") (.aI (.ax qk (.idx (.idx (.var "answers") (.neg (.int 1))) (.int 1))))) b ao=some (.list (r.map aB),ao):=by
  have l1:(ME.idx (.var "answers") (.neg (.int 1))) b ao=some (.tup [.str "True",.tup ((ck tl dn).map aB)],ao):=aJ (e:=.int (-1)) (av H.va) rfl ((Fz t).trans su)
  refine(aJ (d:=.list (bK.map aB)) (e:=.list ((ck tl dn).map aB)) (ρ:=b) (av (show b "ready" =some (.list (bK.map aB)) from H.vr)) (mP (m:=.ax qk (.idx (.idx (.var "answers") (.neg (.int 1))) (.int 1))) (ρ:=b) (c:=.list ((ck tl dn).map aB)) (bs (aJ (e:=.int 1) l1 rfl rfl) rfl) rfl) (jh (cf ?_))).trans (by exact aa (.symm (ey ..)) rfl)
  have:=hz.2
  rw [bF] at this
  refine aa (aZ ..)<|aa (aZ ..) ?_;lia
 let l:=b.set "ready" (.list (r.map aB))
 have e3:(MB.val (.eq (.var "ready") (.list []))) l ao=some (false,ao):=by
  refine cz ((aJ (d:=.list (r.map aB)) (e:=.list []) rfl rfl (ji (hH rfl (hG (p:=λg=>xW (aR g)) λa a=>rfl)) rfl)).trans ?_)
  exact aa (EE ..)<|aa (show(r.map λg=>xW (aR g)).isEmpty=false from List.isEmpty_eq_false_iff.mpr λq=>u (List.map_eq_nil_iff.mp q)) rfl
 have Fs:0<nums.length:=List.length_pos_iff.mpr L.nn
 have Ft:0<r.length:=List.length_pos_iff.mpr u
 have PZ:k % nums.length<nums.length:=Nat.mod_lt _ Fs
 obtain⟨x,hx⟩:∃x,nums[k % nums.length]?=some x:=⟨_,gL PZ⟩
 refine aw (lL x r.length (rj (Int.ofNat_lt.mpr Ft))) λj hj V=>?_
 have V:j<r.length:=Int.ofNat_lt.mp V
 obtain⟨f,hf⟩:∃f,r[j]?=some f:=⟨_,gL V⟩
 have y:f∈r:=lA hf
 have PH:=hI f (S f y)
 have e4:(ME.idx (.var "ready") (.mod (.idx (.var "numbers") (.mod (.var "step") (.ax bW (.var "numbers")))) (.ax bW (.var "ready")))) l ao=some (aB f,ao):=by
  have l1:(ME.ax bW (.var "numbers")) l ao=some (iD nums.length,ao):=len_list (av H.vn) (aZ _)
  have l2:(ME.mod (.var "step") (.ax bW (.var "numbers"))) l ao=some (iD (k % nums.length),ao):=aJ (d:=iD k) rfl l1 ((AB (Int.ofNat_lt.mpr Fs)).trans (congrArg (λi=>some (D.int i)) (Int.natCast_emod k nums.length).symm))
  have l3:(ME.idx (.var "numbers") (.mod (.var "step") (.ax bW (.var "numbers")))) l ao=some (.int x,ao):=aJ (d:=.list (nums.map .int)) (av H.vn) l2 (show ef (nums.map .int) ((k % nums.length:Nat):Int)=_ by exact aa (oS ..)<|aa (gg ..)<|aa (hx ..) rfl)
  have l4:(ME.ax bW (.var "ready")) l ao=some (iD r.length,ao):=len_list (xs:=r.map aB) rfl (aZ _)
  exact aJ (d:=.list (r.map aB)) (e:=iD j) rfl (aJ l3 l4 ((AB (Int.ofNat_lt.mpr Ft)).trans (congrArg (λi=>some (D.int i)) hj))) (show ef (r.map aB) (j:Int)=_ by exact aa (oS ..)<|aa (gg ..)<|aa (hf ..) rfl)
 let K:=l.set "folder" (aB f)
 let s:=r.filter λg=> !(g==f)
 have e5:ME.aI (.comp (.of (.var "ready")) (.name "one") [(.val (.ne (.var "one") (.var "folder")))] (.elt (.var "one")) [".0","one"] (.list [])) K ao=some (.list (s.map aB),ao):=
  mO r aB _ aB (cU rfl) (λj=>rfl) (by decide) (λg E ae hA hy=>⟨cz ((aJ (av hy) (av (d:=aB f) ((hA "folder" (by decide)).trans rfl)) (o9 (p:=.str (aR g)) (q:=.str (aR f)) rfl rfl)).trans (by exact aa (wz ..)<|aa (AK (hI g (S g E)) PH ..) rfl)),λa=>av hy⟩) (cf (aE hz.2 (by decide)))
 let n:=K.set "ready" (.list (s.map aB))
 have Fd:R<A+1:=fG w
 have I:ao.cell (A+1)=some (.list (dn.map aB)):=(U _ (.inr Fd) (pT A)).trans H.od
 let aX:=ao.put (A+1) (.list ((dn++ [f]).map aB))
 have e6:(ME.dB eh fK (.var "order") (.var "folder")) n ao=some (.none,aX):=
  (j_ (ρ:=n) (av (show n "order" =some (.ref (A+1)) from H.vd)) (mW I) (av (d:=aB f) rfl) (pY I (by exact aa (aZ ..)<|Nat.lt_of_le_of_lt hz.1 (by decide)))).trans (by exact aa (show dn.map aB++ [aB f]=(dn++ [f]).map aB from(ey (f:=aB) (l₂:=[f])).symm) rfl)
 have LU:WR tl pl oi lc N0 A aW dn dn ki wi aX:=H.W.keep (λi G a=>(aH (G.elim (λh=>bj (fG (a9 h H.W.n0))) λh=>dc h)).trans (U i (G.imp (λh=>a9 h L.nb) λh=>a9 w (aE (cy A 2) h)) (G.elim (λh=>bj (a9 h H.W.n0)) λh=>dc (a9 (ff (by decide)) h)))) (bN n₁.symm)
 refine bP ((H.O.rd f).mp y) λf1 f2 f3=>?_
 refine eQ (Q1 C (ρ:=n) LU hI H.O.sub (aE hz.1 (by decide)) f1 f2 f3 H.vo H.vk rfl) λYq X e7 LV T1=>?_
 obtain⟨v,P,e8,LW,T2⟩:=WB C (ρ:=n) LV hI H.O.sub (aE hz.1 (by decide)) f1 (λe=>w_ λq=>by
  have:=H.O.hd q
  rw [e] at f3
  exact f3 (List.mem_of_head? this)) (λe q=>by rw [q] at f2;exact f2.elim e bQ) H.vo H.vw rfl
 let M:=n.set "whole" (.ref P)
 have o:∀i,i<A+2->v.cell i=aX.cell i:=λi G=>(T2 i G).trans (T1 i G)
 have Q:fv v B R ([]::rest) ci (λg=>if g∈ck tl dn then -1 else kh tl dn bK g) (eG tl) [] ((dn.length:Int)+bK.length+(ck tl dn).length) dn.length:=Y.keep λi a G=>(o i (gO 2 (ee G w))).trans (aH (bj (fG (ee G w))))
 have O':=H.O.step C.T y
 have qa:∀g∈eG tl f,g∈([]:List Nat)::rest/\g≠f/\g∉dn/\g∉r:=λg E=>by
  have k1:=O'.nx g (by exact aa (o8 ..)<|E)
  have k2:=vL.mp E
  have k3:g∉dn:=λq=>k1.2.2 (jY _ q)
  refine⟨bT _ ((L.rs g).mpr k2.1),λq=>k1.2.2 (d0 _ (List.mem_singleton.mpr q)),k3,λq=>?_⟩
  have:=((H.O.rd g).mp q).2.1.resolve_left (C.T.ne g k2.1)
  rw [k2.2] at this
  exact f3 this
 have P5:(λg=>if g∈ck tl dn then (-1:Int) else kh tl dn bK g) f= -1:=by
  show(if f∈ck tl dn then (-1:Int) else kh tl dn bK f)= -1
  by_cases q:f∈ck tl dn
  .exact aa (if_pos q ..) rfl
  .refine aa (if_neg q ..) ?_
   unfold kh
   exact aa (if_neg f3 ..)<|aa (if_neg q ..)<|aa (if_pos ((List.mem_append.mp y).resolve_right q) ..) rfl
 obtain⟨N,e9,Z,W9,Tf,J⟩:=Oh Q (f:=f) ((List.mem_cons.mp f1).elim (λe=>e▸a0) λh=>bT _ ((L.rs f).mpr h)) P5 (λg E=>by
  refine eP (qa g E) λk1 k2 k3 k4=>?_
  refine⟨k1,k2,?_⟩
  have k5:g∉ck tl dn:=λq=>k4 (d0 _ q)
  show(if g∈ck tl dn then (-1:Int) else kh tl dn bK g)=1
  unfold kh
  exact aa (if_neg k5 ..)<|aa (if_neg k3 ..)<|aa (if_neg k5 ..)<|aa (if_neg λq=>k4 (jY _ q) ..) rfl) (C.T.nd.filter _) (by
  have:=C.T.z
  have:(eG tl f).length<=tl.length:=iX ..
  show 0+_<=1000
  lia)
 have Ol:=jC (C:=273) (name:="done") (F:=pF) (mo:=.var "sorter") (g:=aG [.var "folder"]) (ρ:=M) (σ:=v) (i:=B) (av H.vs) Q.c rfl (aS (d:=aB f) rfl bA) e9
 have LX:=LW.keep (ab:=N) (λi G a=>G.elim (λh=>W9.old i (a9 h L.nb)) λh=>J i (a9 w (aE (cy A 2) h))) (bN Tf.symm)
 have P7:=OO H.O.rn y
 refine⟨f,X,P,M,N,bs rfl (aK e1 (aK (bt e2) (aK (d_ e3 rfl) (aK (bt e4) (aK (bt e5) (aK (il e6) (aK e7 (aK e8 (il Ol))))))))),⟨O',H.vo,H.vn,H.vs,H.va,H.vd,H.vk,rfl,rfl,?_,?_,?_,LX⟩⟩
 .refine aa (o8 ..) ?_
  have hlen:(((dn++ [f]).length:Nat):Int)+(s.length:Nat)=(dn.length:Int)+bK.length+(ck tl dn).length:=by
   rw [bF (as:=bK)] at P7
   refine aa (bF ..)<|aa (xv ..) ?_
   show((dn.length+1:Nat):Int)+(((bK++ck tl dn).filter λg=> !(g==f)).length:Nat)=_
   lia
  refine Z.same (ql:=kh tl (dn++ [f]) s) (λg E=>?_) hlen (by exact aa (bF ..) rfl)
  .unfold kh
   refine aa (o8 ..) ?_
   by_cases q1:g=f
   .exact aa (if_pos (d0 _ (List.mem_singleton.mpr q1)) ..)<|aa (if_pos q1 ..) rfl
   .refine aa (if_neg q1 ..) ?_
    have md:g∈dn++ [f]↔g∈dn:=⟨λh=>(List.mem_append.mp h).resolve_right λq=>q1 (List.mem_singleton.mp q),jY _⟩
    have mr:g∈s↔g∈r:=by
     show g∈r.filter (λg=> !(g==f))↔_
     rw [xA,pn,beq_eq_false_iff_ne]
     exact⟨And.left,λh=>⟨h,q1⟩⟩
    by_cases q2:g∈eG tl f
    .refine eP (qa g q2) λa a k3 a=>?_
     exact aa (if_neg λh=>k3 (md.mp h) ..)<|aa (if_pos q2 ..)<|aa (if_pos q2 ..) rfl
    .refine aa (if_neg q2 ..)<|aa (if_neg q2 ..) ?_
     by_cases q3:g∈dn
     .exact aa (if_pos (md.mpr q3) ..)<|aa (if_neg λq=>(H.O.nx g q).2.2 q3 ..)<|aa (if_pos q3 ..) rfl
     .refine aa (if_neg λh=>q3 (md.mp h) ..)<|aa (if_neg q3 ..) ?_
      by_cases q4:g∈ck tl dn
      .exact aa (if_pos (mr.mpr (d0 _ q4)) ..)<|aa (if_pos q4 ..) rfl
      .exact aa (if_neg q4 ..)<|aa (if_neg q4 ..)<|ite_congr (propext ⟨λh=>(List.mem_append.mp (mr.mp h)).resolve_right q4,λh=>mr.mpr (jY _ h)⟩) (λa=>rfl) λa=>rfl
 .exact aa (De ..)<|aa (ey ..)<|(J A w).trans ((o A (ff (by decide))).trans ((aH (bj (cw A))).trans t))
 .exact(J _ Fd).trans ((o _ (cw _)).trans cb)
end
end
theorem Wr{tl:List (List Nat)}{pl:List Nat->Pl}{oi:List Nat->Nat}{lc:Nat->Nat}{N0:Nat}{nums:List Int}{aW:MH}(C:lG tl pl N0)(hn:nums≠ [])(hz:nums.length<=1000)(U:N0<=aW.next)(ho:∀f∈ []::tl,Rec aW lc 0 N0 (oi f) (pl f)):
 ∃ab A dn ki wi,q6 [.list (([]::tl).map aB),.dict (dk (bV oi) ([]::tl)),.list (nums.map .int)] aW=some (.tup [.ref A,.ref (A+1),.ref (A+2),.ref wi],ab)/\dn.Nodup/\(∀f,f∈dn↔f∈ []::tl)/\dn.head?=some []/\
  ab.cell A=some (.list ((g5 tl dn).map g0++ [.tup [.str "False",.tup []]]))/\ab.cell (A+1)=some (.list (dn.map aB))/\WR tl pl oi lc N0 A aW dn dn ki wi ab:=by
 let E:=c_ [("folders",.list (([]::tl).map aB)),("own",.dict (dk (bV oi) ([]::tl))),("numbers",.list (nums.map .int))]
 obtain⟨bw,ao,R,ci,rest,k1,V,Z,H,hr,x1,hR⟩:=Vk (σ:=aW) (ρ:=E) C.T rfl
 let B:=aW.next
 let A:=ao.next
 let aX:=ao.new (.list [])
 let l:=aX.new (.list [])
 let b:=l.new (.dict [])
 have hI:dZ ([]::tl):=λg hg=>(List.mem_cons.mp hg).elim (λe=>e▸by decide) (C.T.cG g)
 have p:bw "own" =some (.dict (dk (bV oi) ([]::tl))):=V "own" (by decide)
 have y:bw "numbers" =some (.list (nums.map .int)):=V "numbers" (by decide)
 have x:bw "folders" =some (.list (([]::tl).map aB)):=V "folders" (by decide)
 let m:=((((bw.set "answers" (.ref A)).set "ready" (.list [])).set "order" (.ref (A+1))).set "kept" (.ref (A+2))).set "whole" (.ref (oi []))
 have e2:(MS.assign (.tup [(.name "answers"),(.name "ready"),(.name "order"),(.name "kept"),(.name "whole")]) (.tup [(.d9 (.list [])),(.list []),(.d9 (.list [])),(.d9 .mM),(.idx (.var "own") (.str "/"))])) bw ao=some (.next,m,b):=
  eo (d:=.tup [.ref A,.list [],.ref (A+1),.ref (A+2),.ref (oi [])]) (iK (aS (h8 (c:=.list []) (ab:=ao) rfl) (aS (d:=.list []) (ao:=aX) rfl (aS (h8 (c:=.list []) (ab:=aX) rfl) (aS (h8 (c:=.dict []) (ab:=l) rfl) (aS (aJ (e:=aB []) (av p) (congrArg (λs=>some (D.str s,b)) (show au "/" =aR [] by decide)) (h7 hI a0)) bA))))) (dO rfl)) rfl
 have S:∀i,i<A->b.cell i=ao.cell i:=λi o=>(g9 (σ:=l) (i:=i) (gO 2 o)).trans ((g9 (σ:=aX) (i:=i) (fG o)).trans (g9 o))
 have r:R<A:=hR
 have v:N0<=A:=aE U x1.le
 have L:yb tl N0 B R A rest nums:=⟨hr,U,r,hn,hz⟩
 have J:∀i,i<N0->b.cell i=aW.cell i:=λi o=>(S i (a9 o v)).trans (x1.old i (a9 o U))
 have I:Wk tl pl oi lc N0 B R A aW rest ci nums [] [] (λa=>0) (oi []) m b:=
  ⟨Ord.init,p,y,Z,rfl,rfl,rfl,rfl,rfl,(H.keep λi a o=>S i (ee o r)).same (λf M=>by
    unfold kh
    refine aa (if_neg bQ ..) ?_
    rcases List.mem_cons.mp M with rfl| M
    .exact aa (if_pos (show([]:List Nat)∈ck tl [] from a0))<|aa (if_neg λh=>C.T.ne [] h rfl ..) rfl
    .have ht:=(hr f).mp M
     exact aa (if_neg (c:=f∈ck tl []) (λq=>C.T.ne f ht (List.mem_singleton.mp q)) ..)<|aa (if_neg bQ ..)<|aa (if_pos ht ..) rfl) rfl rfl,
    (g9 (σ:=l) (i:=A) (ff (k:=2) (by decide))).trans ((g9 (σ:=aX) (i:=A) (cw _)).trans gq),(g9 (σ:=l) (i:=A+1) (cw _)).trans (gq (σ:=aX)),
    ⟨gq (σ:=l),λh=>absurd h bQ,λf h=>absurd h bQ,.inr ⟨rfl,rfl⟩,λf M=>(ho f M).keep λj a hj=>J j hj,J,bb _,v⟩⟩
 have N:(ME.ax bW (.var "folders")) m b=some (iD (tl.length+1),b):=len_list (xs:=([]::tl).map aB) (av x) (aZ _)
 have Yf:=C.T.z
 refine jO (dv (tl.length+1)) iD (mi:=.gT (.ax bW (.var "folders"))) (t:=.name "step") (body:=Gr) (ρ:=m) (σ:=b) (at_:=ie (gU 0 1 (tl.length+1))) (ao:=b)
  (λL ae ab=>∃dn bK ki wi,Wk tl pl oi lc N0 B R A aW rest ci nums dn bK ki wi ae ab/\dn.length=L.length) (λfl ae ab=>fl=.next/\∃dn bK ki wi,Wk tl pl oi lc N0 B R A aW rest ci nums dn bK ki wi ae ab/\dn.length=tl.length+1)
  (by exact aa (aZ ..)<|aa (hX ..)<|sk N (cf (by lia))) (λa a a a a=>by exact aa (we ..) rfl) ⟨[],[],λa=>0,oi [],I,rfl⟩
  (λLs k T ae ab Z km=>qT km λdn bK ki wi W w=>by
    have hk:dn.length<tl.length+1:=by
     have:=congrArg pN Z
     rw [hX,bF,gM] at this
     lia
    obtain⟨f,Q3,WC,Xc,Yo,e,W'⟩:=Ws C L W hk (k:=k)
    exact⟨_,e,_,_,Q3,WC,W',by exact aa (bF ..)<|aa (bF ..)<|aa (w ..) rfl⟩) (λae ab ko=>qT ko λdn bK ki wi W w=>⟨rfl,dn,bK,ki,wi,W,by exact aa (w ..)<|aa (hX ..) rfl⟩) λfl F Yr hq hQ=>?_
 refine aA hQ λe0 q=>?_
 refine qT q λdn bK ki wi W w=>?_
 subst e0
 refine bP (W.O.all w) λY P K=>?_
 refine lg (Df C L W) λG e6 X7 n Q u=>?_
 rw [if_pos (by exact aa (Y ..)<|aa (P ..) rfl),P] at n
 have X:dn≠ []:=λq=>by rw [q] at w;exact nomatch w
 refine⟨G,A,dn,ki,wi,fx (ae:=F) rfl (k1 _ _ (aK e2 (aK hq (aK e6 (fC (iK (aS (av W.va) (aS (av W.vd) (aS (av W.vk) (aS (av W.vw) bA)))) (dO rfl))))))),W.O.nd,λf=>⟨W.O.sub f,K f⟩,W.O.hd X,n,(u _ (.inr (fG r)) (pT A)).trans W.od,W.W.keep (λi o a=>u i (o.imp (λh=>a9 h U) λh=>a9 r (aE (cy A 2) h)) (o.elim (λh=>bj (a9 h v)) λh=>dc (a9 (ff (by decide)) h))) (bN Q.symm)⟩
noncomputable def RQ:ME:=.aI (.comp (.gT (.int 6)) (.name "place") [] (.elt (.add (.ax sumF (.nh (.slice (.var "script") .none (some (.int 60))) (some (.var "place")) .none (some (.int 6)))) (.idx (.list [(.int 18394),(.int 15468),(.int 1446),(.int 1279),(.int 18254),(.int 8898)]) (.var "place")))) [".0","place"] (.list []))
theorem ints_of:∀{xs:List D},(∀d∈xs,oX d)->∃is,intsOf xs=some is
 | [],_=>⟨[],rfl⟩
 | d::r,h=>by
  refine aL (h d a0) λi b=>?_;obtain rfl:=b
  refine aL (ints_of λx c=>h x (bT _ c)) λis e=>?_
  exact⟨i::is,bs (a:=i) rfl (bs e rfl)⟩
theorem Vs{xs:List D}{lo hi st}(h:∀d∈xs,oX d):∀d∈lZ xs lo hi st,oX d:=λd c=>by
 refine aw (List.mem_filterMap.mp c) λi a b=>?_
 exact h d (lA b)
theorem Vt{xs:List D}{p:Nat}:(lZ xs (some (p:Int)) none (some 6)).length<=xs.length:=by
 unfold lZ
 refine aE (List.length_filterMap_le ..) ?_
 show(HX (max 0 (min (if (p:Int)<0 then (p:Int)+xs.length else p) xs.length)) xs.length 6).length<=_
 have a:(0:Int)<=max 0 (min (if (p:Int)<0 then (p:Int)+xs.length else p) xs.length):=Int.le_max_left ..
 generalize max (0:Int) (min (if (p:Int)<0 then (p:Int)+xs.length else p) xs.length)=s at a ⊢
 unfold HX
 refine aa (aZ ..)<|aa (hX ..)<|aa (if_pos (by decide)) ?_
 split<;>lia
theorem Te{t:List Int}(B:t.length<=63){ρ:aC}{σ:MH}(w:ρ "script" =some (.list (t.map .int))):∃nums:List Int,nums.length=6/\RQ ρ σ=some (.list (nums.map .int),σ):=by
 have r:∀p:Nat,∃i:Int,p<6->∀ae,Agree [".0","place"] ρ ae->ae "place" =some (iD p)->(ME.add (.ax sumF (.nh (.slice (.var "script") .none (some (.int 60))) (some (.var "place")) .none (some (.int 6)))) (.idx (.list [(.int 18394),(.int 15468),(.int 1446),(.int 1279),(.int 18254),(.int 8898)]) (.var "place"))) ae σ=some (.int i,σ):=by
  intro p
  let e:=jQ (t.map D.int) none (some 60)
  have A:∀d∈e,oX d:=λd x=>by
   refine aw (List.mem_map.mp (xC (Cu x))) λz b s=>?_;obtain rfl:=s
   exact⟨z,rfl⟩
  have hl:e.length<=63:=aE (KO ..) (aE (by exact aa (t9 ..)<|Nat.sub_le _ _) (by exact aa (aZ ..)<|B))
  refine aL (ints_of (Vs (lo:=some (p:Int)) (hi:=none) (st:=some 6) A)) λis n=>?_
  have l:∃c:Int,p<6->ef [.int 18394,.int 15468,.int 1446,.int 1279,.int 18254,.int 8898] (p:Int)=some (.int c):=by
   by_cases h:p<6
   .exact(c6 (P:=λp=>∃c:Int,ef [.int 18394,.int 15468,.int 1446,.int 1279,.int 18254,.int 8898] (p:Int)=some (.int c)) h ⟨_,rfl⟩ ⟨_,rfl⟩ ⟨_,rfl⟩ ⟨_,rfl⟩ ⟨_,rfl⟩ ⟨_,rfl⟩).imp λb h b=>h
   .exact⟨0,λq=>absurd q h⟩
  refine aL l λc l=>?_
  refine⟨is.sum+c,λo ae k f=>?_⟩
  have u:(ME.slice (.var "script") .none (some (.int 60))) ae σ=some (.list e,σ):=kc (av ((k _ (by decide)).trans w)) rfl rfl rfl rfl
  have v:(ME.nh (.slice (.var "script") .none (some (.int 60))) (some (.var "place")) .none (some (.int 6))) ae σ=some (.list (lZ e (some (p:Int)) none (some 6)),σ):=
   bs u (bs (mJ (av f)) (bs (a:=(none,σ)) rfl (bs (a:=(some 6,σ)) rfl (bs (a:=e) rfl (bs (show Ib e (some (p:Int)) none (some 6)=some (.list (lZ e (some (p:Int)) none (some 6))) from if_pos ⟨by decide,cf (aE Vt (aE hl (by decide)))⟩) rfl)))))
  exact aJ (eD v (bs (a:=lZ e (some (p:Int)) none (some 6)) rfl (bs n rfl))) (aJ (d:=.list [.int 18394,.int 15468,.int 1446,.int 1279,.int 18254,.int 8898]) rfl (av f) (l o)) rfl
 refine aL (Classical.skolem.mp r) λg y=>?_
 refine⟨(dv 6).map g,by exact aa (aZ ..)<|aa (hX ..) rfl,?_⟩
 refine aa (fe ..) ?_
 refine eV (dv 6) iD (λp=>D.int (g p)) (at_:=ie (gU 0 1 6)) (ao:=σ) ?_ (λj=>by exact aa (we ..) rfl) (by decide) (λp o ae k f=>y p (List.mem_range.mp o) ae k f) (by decide)
 exact sk (m:=.int 6) rfl (by decide)
theorem Sk{fs:List (List Nat)}{g x}:x∈addW fs g↔x∈fs∨x=g:=by
 unfold addW
 split
 .next h=>exact⟨.inl,λq=>q.elim id λe=>e▸h⟩
 .rw [n4,pO]
theorem Sl{a:List (List Nat)}{x}:∀{fs:List (List Nat)},x∈a.foldl addW fs↔x∈fs∨x∈a:=by
 induction a with
 | nil=>exact λ{fs}=>⟨.inl,λq=>q.elim id λh=>absurd h bQ⟩
 | cons g a b=>intro fs;rw [rC,b,Sk,n5,or_assoc]
def n8(fs:List (List Nat)):Prop:=fs.Nodup/\fs.head?=some []
theorem VU{fs:List (List Nat)}{g}(h:n8 fs):n8 (addW fs g):=by
 unfold addW
 split
 .exact h
 .next q=>
  refine⟨List.nodup_append.mpr ⟨h.1,List.nodup_cons.mpr ⟨bQ,rG⟩,λa c b hb e=>q (by rw [List.mem_singleton.mp hb] at e;exact e▸c)⟩,?_⟩
  exact aa (List.head?_append ..)<|aa (h.2 ..) rfl
theorem VV{a:List (List Nat)}:∀{fs:List (List Nat)},n8 fs->n8 (a.foldl addW fs):=by
 induction a with
 | nil=>exact λh=>h
 | cons g a b=>exact λh=>b (VU h)
theorem Ae{f x:List Nat}:x∈ups f↔ ∃k,k<f.length/\x=f.take (k+1):=by
 unfold ups
 refine aa (propext xB) ⟨λq=>aw q λi c e=>?_,λq=>aw q λk b e=>?_⟩
 .have:=List.mem_range.mp c
  have a:f.length - i - 1+1=f.length - i:=xK (Nat.sub_pos_of_lt this)
  exact⟨f.length - i - 1,Nat.lt_of_succ_le (aE (bN a) (rL ..)),a▸e.symm⟩
 .exact⟨f.length - (k+1),List.mem_range.mpr (CE (ee (fW k) b) (CG k)),aa (Nat.sub_sub_self b) e.symm⟩
theorem Sm{b:List Ln}{x}:∀{fs:List (List Nat)},x∈b.foldl iB fs↔x∈fs∨∃l∈b,x∈ups l.f:=by
 induction b with
 | nil=>exact λ{fs}=>⟨.inl,λq=>q.elim id λd=>aw d λl h a=>absurd h bQ⟩
 | cons l b j=>
  intro fs
  rw [rC,j,show x∈iB fs l↔_ from Sl,or_assoc]
  exact or_congr_right ⟨λq=>q.elim (λh=>⟨l,a0,h⟩) λg=>aw g λc h k=>⟨c,bT _ h,k⟩,λi=>aw i λc h k=>(List.mem_cons.mp h).elim (λe=>.inl (e▸k)) λh=>.inr ⟨c,h,k⟩⟩
theorem VW{a:List Ln}:∀{fs:List (List Nat)},n8 fs->n8 (a.foldl iB fs):=by
 induction a with
 | nil=>exact λh=>h
 | cons l a b=>exact λh=>b (VV h)
theorem O0{b:List Ln}(h:∀l∈b,l.Ok)(w:b.length<=6):∃tl,oN b= []::tl/\nR tl/\∀l∈b,l.f∈ []::tl:=by
 obtain⟨p,n⟩:n8 (oN b):=VW ⟨List.nodup_cons.mpr ⟨bQ,rG⟩,rfl⟩
 have c:=EZ h (fs:=[[]])
 have i:=OZ h GX
 have d:∀{x},x∈oN b↔x∈ [[]]∨∃l∈b,x∈ups l.f:=Sm
 induction e:oN b with
 | nil=>rw [e] at n;exact nomatch n
 | cons a tl=>
  rw [e] at p n
  obtain rfl:a= []:=aM n
  have j:∀f∈tl,f≠ []:=λf m q=>(List.nodup_cons.mp p).1 (q▸m)
  rw [show b.foldl iB [[]]= []::tl from e] at c i
  refine⟨tl,rfl,⟨λg t=>i g (bT _ t),(List.nodup_cons.mp p).2,j,λf m=>?_,?_⟩,λl hl=>?_⟩
  .have:=d.mp (e▸bT _ m)
   refine aw (this.resolve_left λq=>j f m (List.mem_singleton.mp q)) λl hl v=>?_
   refine aw (Ae.mp v) λk r o=>?_;obtain rfl:=o
   have s:(l.f.take (k+1)).dropLast=l.f.take k:=by
    exact aa (xr ..)<|aa (Cm ..)<|aa (Cz ..)<|aa (ud r ..)<|congrArg l.f.take (ud (dD k))
   refine aa (s ..) ?_
   induction k with
   | zero=>exact .inl rfl
   | succ k=>
    have h':l.f.take (k+1)∈oN b:=d.mpr (.inr ⟨l,hl,Ae.mpr ⟨k,lD r,rfl⟩⟩)
    rw [e] at h'
    exact(List.mem_cons.mp h').imp id id
  .have:([[]]:List (List Nat)).length=1:=rfl
   rw [gM] at c
   lia
  .refine aa (.symm (e ..)) ?_
   refine d.mpr ?_
   by_cases q:l.f= []
   .exact .inl (List.mem_singleton.mpr q)
   .have u:=List.length_pos_iff.mpr q
    exact .inr ⟨l,hl,Ae.mpr ⟨l.f.length - 1,by lia,by exact aa (xK u ..)<|aa (Cy ..) rfl⟩⟩
theorem y_{v v':List Nat->D}{fs:List (List Nat)}(h:∀g∈fs,v g=v' g):dk v fs=dk v' fs:=kD λg a=>by exact aa (h g a ..) rfl
theorem Eo{own:List String}{x:String}{ρ:aC}{σ:MH}{fs:List (List Nat)}{mi:MI}{m:ME}(K:List (List Nat)->MH->(List Nat->D)->Prop)(E:dZ fs)(F:fs.Nodup)(W:fs.length<=100)(P:mi ρ σ=some (fj (.list (fs.map aB)),(fs.map aB).length+1,σ))(V:x∈own)(J:∀v,K [] σ v)
 (h:∀l f r ab v,fs=l++f::r->f∉l->K l ab v->∀ae,Agree own ρ ae->ae x=some (aB f)->∃d i,m ae ab=some (d,i)/\∀k:List Nat->D,k f=d->(∀g∈l,k g=v g)->K (l++ [f]) i k):∃v ab,ME.aI (.comp mi (.name x) [] (.kv (.var x) m) own (.dict [])) ρ σ=some (.dict (dk v fs),ab)/\K fs ab v:=by
 refine y1 (fs.map aB) (at_:=fj (.list (fs.map aB))) (t:=.name x) (ifs:=[]) (b:=.kv (.var x) m) (λL ae ab c=>Agree own ρ ae/\∃l r v,fs=l++r/\l.length=L.length/\c=.dict (dk v l)/\K l ab v) (λe e e e e e=>rfl)
  (λL y R ae ab c U B=>aA B λM C=>tK C λl r v hl s u p=>by
    subst u
    have j:(fs.map aB)[L.length]?=some y:=by exact aa (U ..)<|lM
    rw [gg,hl,← s] at j
    induction r with
    | nil=>rw [hW,mn (bb _)] at j;exact nomatch j
    | cons f r=>
     rw [lM] at j
     obtain rfl:=aM j
     have O:f∈fs:=hl▸d0 _ a0
     have o:=M.set (d:=aB f) V
     have n:f∉l:=λq=>by rw [hl] at F;exact(List.nodup_append.mp F).2.2 f q f a0 rfl
     have z:(dk v l).length<aP:=by
      refine aa (oC ..) ?_
      have:=congrArg pN hl
      rw [bF] at this
      exact ee (show l.length<=100 by lia) (by decide)
     refine fc (h l f r ab v hl n p _ o (if_pos rfl)) λd i S Q=>?_
     let k:List Nat->D:=λg=>if g=f then d else v g
     have H:∀g∈l,k g=v g:=λg w=>if_neg (c:=g=f) λq=>n (q▸w)
     refine⟨(ae.set x (aB f),i,.dict (dk k (l++ [f]))),bs (a:=(ae.set x (aB f),ab)) rfl (bs (a:=(true,ab)) rfl (bs (av (if_pos rfl)) (bs (a:=aR f) rfl (bs S (bs (a:=dk v l) rfl ((if_pos z).trans ?_)))))),o,l++ [f],r,k,by exact aa (iW ..)<|hl,by exact aa (bF ..)<|aa (bF ..)<|aa (s ..) rfl,rfl,Q k (if_pos rfl) H⟩
     exact aa (.symm (uK (λg w=>E g (hl▸jY _ w)) (E f O) n ..))<|aa (y_ H ..)<|aa (show k f=d from if_pos rfl) rfl) (ρ.drop own) σ (.dict []) ⟨Agree.drop,[],fs,λe=>.none,rfl,rfl,rfl,J _⟩ λI i c G N=>?_
 refine aA N λe u=>?_
 refine tK u λl r v hl s A p=>?_;obtain rfl:=A
 have T:r= []:=by
  have:=congrArg pN hl
  rw [bF,s,aZ] at this
  exact t7 (by lia)
 rw [T,hW] at hl
 rw [← hl] at G p
 exact⟨v,i,mP (c:=.dict (dk v fs)) (bs P (bs G rfl)) rfl,p⟩
theorem En{own:List String}{x:String}{ρ:aC}{σ:MH}{fs:List (List Nat)}{v:List Nat->D}{i:MI}{m:ME}(p:dZ fs)(u:fs.Nodup)(z:fs.length<=100)(t:i ρ σ=some (fj (.list (fs.map aB)),(fs.map aB).length+1,σ))(y:x∈own)
 (h:∀f∈fs,∀ae,Agree own ρ ae->ae x=some (aB f)->m ae σ=some (v f,σ)):ME.aI (.comp i (.name x) [] (.kv (.var x) m) own (.dict [])) ρ σ=some (.dict (dk v fs),σ):=by
 obtain⟨d,ab,e,rfl,b⟩:=Eo (ρ:=ρ) (σ:=σ) (m:=m) (λl ab d=>ab=σ/\∀g∈l,d g=v g) p u z t y (λa=>⟨rfl,λa h=>absurd h bQ⟩) λl f r ab j hl a c ae o w=>aA c λe b=>by
  subst e
  exact⟨_,_,h f (hl▸d0 _ a0) ae o w,λd k n=>⟨rfl,λg s=>(List.mem_append.mp s).elim (λq=>(n g q).trans (b g q)) λq=>by exact aa (List.mem_singleton.mp q ..)<|aa (k ..) rfl⟩⟩
 exact aa (.symm (y_ b ..))<|e
theorem RecAt.lc{σ lc c a b i p u r}(h:RecAt σ lc a b i p u r)(k:∀m∈p.ms,c m=lc m):RecAt σ c a b i p u r:={h with cr:=h.cr.trans (congrArg (λl=>some (Cell.list l)) (kD λm d=>by exact aa (k m d ..) rfl))}
theorem Rec.lc{σ lc d a b i p}(h:Rec σ lc a b i p)(k:∀m∈p.ms,d m=lc m):Rec σ d a b i p:=h.imp λc=>dX λc h=>h.lc k
theorem Sy{a:List Ln}{f:List Nat}:(dF a f).Nodup:=by
 unfold dF
 have h:((a.zipIdx.filter λp=>p.1.f==f).map (·.2)).Sublist (dv a.length):=by
  exact aa (show dv a.length=a.zipIdx.map (·.2) by rw [K0,List.range_eq_range'])<|List.Sublist.map _ List.filter_sublist
 exact h.nodup List.nodup_range
noncomputable def RR:ME:=.aI (.comp (.of (.var "folders")) (.name "folder") [] (.kv (.var "folder") (.a8 pE (aG [(.var "lines"),(.idx (.var "plain") (.var "folder"))]))) [".0","folder"] (.dict []))
structure CO(ls:List Ln)(pl:List Nat->Pl)(fs:List (List Nat))(oi:List Nat->Nat)(lc:Nat->Nat)(σ:MH):Prop where
 rc:∀f∈fs,Rec σ lc 0 σ.next (oi f) (pl f)
 ln:∀f∈fs,∀m∈dF ls f,∀l,ls[m]?=some l->nW σ (lc m) m l
 lt:∀f∈fs,∀m∈dF ls f,lc m<σ.next
theorem TX{s:List Ln}{pl:List Nat->Pl}{fs:List (List Nat)}{ρ:aC}{σ:MH}(N:dZ fs)(hn:fs.Nodup)(hz:fs.length<=100)(hl:∀l∈s,l.Ok)(F:s.length<=20)(T:∀f∈fs,(pl f).Ok/\(pl f).ms=dF s f)
 (h1:ρ "folders" =some (.list (fs.map aB))) (h2:ρ "lines" =some (.list (s.map cW))) (h3:ρ "plain" =some (.dict (dk (λf=>b_ (pl f)) fs))):
 ∃oi lc ab,RR ρ σ=some (.dict (dk (bV oi) fs),ab)/\CO s pl fs oi lc ab:=by
 obtain⟨v,ab,e,oi,lc,H,O⟩:=Eo (ρ:=ρ) (σ:=σ) (own:=[".0","folder"]) (x:="folder") (mi:=.of (.var "folders")) (m:=.a8 pE (aG [(.var "lines"),(.idx (.var "plain") (.var "folder"))]))
  (λl ab v=>∃oi lc,(∀g∈l,v g=.ref (oi g))/\CO s pl l oi lc ab) N hn hz (cU (av h1)) (by decide) (λv=>⟨λa=>0,λa=>0,λa h=>absurd h bQ,λa h=>absurd h bQ,λa h=>absurd h bQ,λa h=>absurd h bQ⟩)
  λl f r ab v U y K ae M hx=>fc K λoi lc H O=>by
   have Q:f∈fs:=U▸d0 _ a0
   have C:∀g∈l,g∈fs:=λg b=>U▸jY _ b
   refine aA (T f Q) λG n=>?_
   obtain⟨V,Z,A,R,hL,E,B⟩:=UH (σ:=ab) hl G (λm i=>by
    rw [n] at i
    refine aw (jM.mp i) λl h a=>?_
    exact(List.getElem?_eq_some_iff.mp h).1) (n▸Sy) (n▸aE sM F)
   refine⟨_,_,d8 (aS (av ((M _ (by decide)).trans h2)) (aS (d:=b_ (pl f)) (aJ (d:=.dict (dk (λf=>b_ (pl f)) fs)) (av ((M _ (by decide)).trans h3)) (av hx) (h7 N Q)) bA)) Z,λv' I J=>?_⟩
   let u:Nat->Nat:=λm=>if m∈(pl f).ms then kU (ab.next+3) (pl f).ms m else lc m
   let w:List Nat->Nat:=λg=>if g=f then ab.next else oi g
   have o:∀g∈l,∀m∈dF s g,u m=lc m:=λg b m i=>if_neg (c:=m∈(pl f).ms) λq=>by
    rw [n] at q
    refine aw (jM.mp i) λl1 W X=>?_
    refine aw (jM.mp q) λl2 L Y=>?_
    rw [W] at L
    obtain rfl:=aM L
    exact y (Y▸X▸b)
   have S:∀g∈l,w g=oi g:=λg b=>if_neg (c:=g=f) λq=>y (q▸b)
   have p:∀m∈dF s f,u m=kU (ab.next+3) (pl f).ms m:=λm i=>if_pos (n▸i)
   have z:∀{P:List Nat->Prop},(∀g∈l,P g)->P f->∀g∈l++ [f],P g:=λh k g b=>(List.mem_append.mp b).elim (h g) λq=>(List.mem_singleton.mp q)▸k
   refine⟨w,u,z (λg b=>by exact aa (J g b ..)<|aa (S g b ..)<|H g b) (I.trans (congrArg D.ref (if_pos rfl).symm)),z (λg b=>?_) ?_,z (λg b m i l t=>?_) λm i l t=>?_,z (λg b m i=>?_) λm i=>?_⟩
   .exact aa (S g b ..)<|(((O.rc g b).keep λj a hj=>A.old j hj).wide (bb _) A.le).lc λm i=>o g b m ((T g (C g b)).2▸i)
   .exact aa (show w f=ab.next from if_pos rfl)<|(R.wide (fW _) B).lc λm i=>if_pos i
   .exact aa (o g b m i ..)<|(A.old _ (O.lt g b m i)).trans (O.ln g b m i l t)
   .exact aa (p m i ..)<|hL m (n▸i) l t
   .exact aa (o g b m i ..)<|Nat.lt_of_lt_of_le (O.lt g b m i) A.le
   .exact aa (p m i ..)<|E m (n▸i)
 exact⟨oi,lc,ab,by exact aa (.symm (y_ (v:=v) (v':=bV oi) H ..))<|e,O⟩
section
theorem AM{f:D->Option fX}(a:∀d p,f d=some p->fg p p=true):∀{xs ps},hB f xs=some ps->Lo ps ps=true
 | [],_,h=>by obtain rfl:=aM h;rfl
 | x::xs,_,h=>by
  refine aw (be h) λp b h=>?_
  refine aw (be h) λe c h=>?_
  obtain rfl:=aM h
  rw [Lo,a x p b,AM a c];rfl
theorem AN{σ:MH}:∀{k d p},cX σ k d=some p->fg p p=true
 | 0,_,_,h=>nomatch h
 | k+1,d,p,h=>by
  have g:∀d p,cX σ k d=some p->fg p p=true:=λa a h=>AN h
  have h:(match bU σ d with| some xs=>(hB (cX σ k) xs).bind λps=>some (Lp ps)| none=>_)=some p:=h
  induction f:bU σ d with
  | some xs=>
   rw [f] at h
   refine aw (be h) λps c e=>?_
   obtain rfl:=aM e
   rw [fg];exact AM g c
  | none=>
   rw [f] at h
   cases d with
   | tup xs=>
    refine aw (be h) λps c e=>?_
    obtain rfl:=aM e
    rw [fg];exact AM g c
   | none=>obtain rfl:=aM h;rfl
   | bool b=>obtain rfl:=aM h;simp [fg]
   | int i=>obtain rfl:=aM h;simp [fg]
   | str s=>obtain rfl:=aM h;simp [fg]
   | _=>exact nomatch h
theorem vW{σ:MH}{a b:D}{p:fX}(h:cX σ 6 a=some p)(k:cX σ 6 b=some p):sO a b σ=some (.bool false):=(o9 h k).trans (by exact aa (AN h ..) rfl)
theorem s_same{x y:ME}{ρ:aC}{σ ao aX:MH}{a b:D}{p:fX}(h:x ρ σ=some (a,ao))(k:y ρ ao=some (b,aX))(c:cX aX 6 a=some p)(hb:cX aX 6 b=some p):MS.ite (.val (.ne x y)) (.ret (.bool false)) .nil ρ σ=some (.next,ρ,aX):=
 d_ (cz (aJ h k (vW c hb))) rfl
theorem Hw{σ:MH}{fs:List (List Nat)}{k:Nat}:cX σ (k+2) (.list (fs.map aB))=some (.list (fs.map λf=>.str (aR f))):=hH rfl (hG λa a=>rfl)
theorem Qu{xs:List D}{x y:D}:ef (xs++ [x,y]) (-2)=some x:=by
 show sq (xs++ [x,y]) (-2)=_
 unfold sq
 exact aa (bF ..)<|aa (if_pos (by show -((xs.length:Int)+2)<= -2;lia))<|aa (show((-2:Int)+((xs.length+ [x,y].length:Nat):Int)).toNat=xs.length by show((-2:Int)+((xs.length:Int)+2)).toNat=_;lia)<|lM
theorem Qr{m:ME}{ρ:aC}{σ ao:MH}{d:D}{xs:List D}(h:m ρ σ=some (d,ao))(k:d.i9=none)(a:gP ao d=some xs):MI.of m ρ σ=some (fj d,xs.length+1,ao):=bs h (by exact aa (k ..)<|bs a rfl)
theorem My{σ:MH}{d:D}{xs:List D}{j:Nat}(h:gP σ d=some xs):fj d σ j=some xs[j]?:=bs h rfl
structure LawC where
 ls:List Ln
 tl:List (List Nat)
 pl:List Nat->Pl
 oi:List Nat->Nat
 lc:Nat->Nat
 N0:Nat
 A:Nat
 aW:MH
 dn:List (List Nat)
 ki:List Nat->Nat
 wi:Nat
 n6:ls.length=6
 ok:∀l∈ls,l.Ok
 lf:∀l∈ls,l.f∈ []::tl
 C:lG tl pl N0
 ms:∀f∈ []::tl,(pl f).ms=dF ls f
 nd:dn.Nodup
 dm:∀f,f∈dn↔f∈ []::tl
 dh:dn.head?=some []
 hL:rq aW lc ls
 lt:∀m,m<ls.length->lc m<N0
noncomputable def zR:List String:=["lines","ways","folders","plain","own","answers","order","kept","whole"]
structure LawC.St(L:LawC)(ρ:aC)(σ:MH):Prop where
 vl:ρ "lines" =some (.list (L.ls.map cW))
 vy:ρ "ways" =some (.dict (dk fQ ([]::L.tl)))
 vf:ρ "folders" =some (.list (([]::L.tl).map aB))
 vp:ρ "plain" =some (.dict (dk (λf=>b_ (L.pl f)) ([]::L.tl)))
 vo:ρ "own" =some (.dict (dk (bV L.oi) ([]::L.tl)))
 va:ρ "answers" =some (.ref L.A)
 vd:ρ "order" =some (.ref (L.A+1))
 vk:ρ "kept" =some (.ref (L.A+2))
 vw:ρ "whole" =some (.ref L.wi)
 an:σ.cell L.A=some (.list ((g5 L.tl L.dn).map g0++ [.tup [.str "False",.tup []]]))
 od:σ.cell (L.A+1)=some (.list (L.dn.map aB))
 W:WR L.tl L.pl L.oi L.lc L.N0 L.A L.aW L.dn L.dn L.ki L.wi σ
section
variable {L:LawC} {ρ ae:aC} {σ ab:MH} {f:List Nat}
theorem LawC.St.ag(H:L.St ρ σ)(k:∀z∈zR,ae z=ρ z):L.St ae σ:=
 ⟨(k _ (by decide)).trans H.vl,(k _ (by decide)).trans H.vy,(k _ (by decide)).trans H.vf,(k _ (by decide)).trans H.vp,(k _ (by decide)).trans H.vo,(k _ (by decide)).trans H.va,(k _ (by decide)).trans H.vd,(k _ (by decide)).trans H.vk,(k _ (by decide)).trans H.vw,H.an,H.od,H.W⟩
theorem LawC.St.agree{own:List String}(H:L.St ρ σ)(h:Agree own ρ ae)(a:∀z∈zR,z∉own):L.St ae σ:=H.ag λz b=>h z (a z b)
theorem LawC.St.set{x:String}{d:D}(H:L.St ρ σ)(a:x∉zR):L.St (ρ.set x d) σ:=H.ag λz b=>if_neg (c:=z=x) λq=>a (q▸b)
theorem LawC.St.ext(H:L.St ρ σ)(h:Ext σ.next σ ab):L.St ρ ab:=
 have lt:∀{i},i<L.A+3->i<σ.next:=λh=>a9 h H.W.nx
 {H with an:=(h.old _ (lt (ff (by decide)))).trans H.an,od:=(h.old _ (lt (xM (ff (by decide))))).trans H.od,W:=H.W.keep (λi a b=>h.old i b) h.le}
theorem LawC.cG(L:LawC):dZ ([]::L.tl):=λg a=>(List.mem_cons.mp a).elim (λe=>e▸by decide) (L.C.T.cG g)
theorem LawC.lines(H:L.St ρ σ):rq σ L.lc L.ls:=λm l h=>(H.W.old _ (L.lt m (List.getElem?_eq_some_iff.mp h).1)).trans (L.hL m l h)
theorem LawC.qU(L:LawC):([]::L.tl).length<=19:=jZ L.C.T.z
theorem LawC.Bk(H:L.St ρ σ):(ME.slice (.var "folders") (some (.int 1)) .none) ρ σ=some (.list (L.tl.map aB),σ):=
 (kc (l:=some (1:Nat)) (u:=none) (av H.vf) rfl rfl rfl rfl).trans (by exact aa (A5 (ub 1 _) ..) rfl)
theorem Es{m:ME}(H:L.St ρ σ)(a:f∈L.tl)(h:m ρ σ=some (aB f,σ)):(ME.idx (.idx (.var "ways") m) (.neg (.int 2))) ρ σ=some (aB f.dropLast,σ):=by
 refine aJ (e:=.int (-2)) (aJ (d:=.dict (dk fQ ([]::L.tl))) (e:=aB f) (av H.vy) h (h7 L.cG (bT _ a))) rfl (show ef ((cP f).map aB) (-2)=_ from ?_)
 exact aa (Bu (L.C.T.ne f a) ..)<|aa (Bs ..)<|aa (ey ..)<|aa (ey ..)<|aa (iW ..)<|Qu
theorem Og(H:L.St ρ σ):MS.ite (.val (.ne (.aI (.comp (.of (.var "folders")) (.name "folder") [] (.elt (.a8 fm (aG [(.var "folder")]))) [".0","folder"] (.list []))) (.add (.list [(.str "/")]) (.aI (.comp (.of (.slice (.var "folders") (some (.int 1)) .none)) (.name "folder") [] (.elt (.idx (.idx (.var "ways") (.var "folder")) (.neg (.int 2)))) [".0","folder"] (.list [])))))) (.ret (.bool false)) .nil ρ σ=some (.next,ρ,σ):=by
 have i:=L.qU
 have e:ME.aI (.comp (.of (.var "folders")) (.name "folder") [] (.elt (.a8 fm (aG [(.var "folder")]))) [".0","folder"] (.list [])) ρ σ=some (.list ((([]::L.tl).map Cc).map aB),σ):=by
  exact aa (fe ..)<|eV ([]::L.tl) aB _ (cU (av H.vf)) (λj=>fh) (by decide) (λf a ae c b=>d8 (aS (av b) bA) ((gm (L.cG f a)).dir σ)) (cf (by lia))
 have g:ME.aI (.comp (.of (.slice (.var "folders") (some (.int 1)) .none)) (.name "folder") [] (.elt (.idx (.idx (.var "ways") (.var "folder")) (.neg (.int 2)))) [".0","folder"] (.list [])) ρ σ=some (.list ((L.tl.map Cc).map aB),σ):=by
  exact aa (fe ..)<|eV L.tl aB _ (cU (LawC.Bk H)) (λj=>fh) (by decide) (λf a ae c b=>Es (H.agree c (by decide)) a (av b)) (cf (by have:=L.C.T.z;lia))
 have h:(ME.add (.list [(.str "/")]) (.aI (.comp (.of (.slice (.var "folders") (some (.int 1)) .none)) (.name "folder") [] (.elt (.idx (.idx (.var "ways") (.var "folder")) (.neg (.int 2)))) [".0","folder"] (.list [])))) ρ σ=some (.list ((([]::L.tl).map Cc).map aB),σ):=
  (aJ (d:=.list [aB []]) (congrArg (λs=>some (D.list [D.str s],σ)) (show au "/" =aR [] by decide)) g (jh (cf (by refine aa (aZ ..)<|aa (aZ ..) ?_;show 1+L.tl.length<=1000;have:=L.C.T.z;lia)))).trans rfl
 exact s_same e h Hw Hw
end
end
section
section
variable {L:LawC} {ρ ae:aC} {σ ab:MH} {f:List Nat}
theorem LawC.tz(L:LawC){n:Nat}(h:n<=L.tl.length):n<=aP:=cf (by have:=L.C.T.z;lia)
noncomputable def u0 (tl:List (List Nat)) (f:List Nat):D:=.tup ((eG tl f).map aB)
noncomputable def Gw:ME:=.aI (.comp (.of (.var "folders")) (.name "folder") [] (.kv (.var "folder") (.ax wD (.aI (.comp (.of (.slice (.var "folders") (some (.int 1)) .none)) (.name "one") [(.val (.eq (.idx (.idx (.var "ways") (.var "one")) (.neg (.int 2))) (.var "folder")))] (.elt (.var "one")) [".0","one"] (.list []))))) [".0","folder"] (.dict []))
theorem QF(H:L.St ρ σ):Gw ρ σ=some (.dict (dk (u0 L.tl) ([]::L.tl)),σ):=by
 have o:=L.qU
 refine En L.cG (List.nodup_cons.mpr ⟨λh=>L.C.T.ne _ h rfl,L.C.T.nd⟩) (by lia) (cU (av H.vf)) (by decide) λf m ae l n=>?_
 have e:=H.agree l (by decide)
 refine eD (d:=.list ((eG L.tl f).map aB)) (mO L.tl aB (λg=>g.dropLast==f) aB (cU (LawC.Bk e)) (λj=>fh) (by decide) (λg i k b c=>⟨?_,λa=>av c⟩) (L.tz (bb _))) rfl
 refine cz ((aJ (Es (e.agree b (by decide)) i (av c)) (av ((b _ (by decide)).trans n)) (ji (p:=.str (aR g.dropLast)) (q:=.str (aR f)) rfl rfl)).trans ?_)
 exact aa (wz ..)<|aa (AK (Hk (L.C.T.cG g i)) (L.cG f m) ..) rfl
theorem Mh{tl:List (List Nat)}{dn:List (List Nat)}(h:dn≠ []):g5 tl dn= [[]]::dn.dropLast.map (eG tl):=by
 have a:∀(n:Nat) (dn:List (List Nat)),dn.length=n->dn≠ []->g5 tl dn= [[]]::dn.dropLast.map (eG tl):=by
  intro n
  induction n with
  | zero=>intro dn hl h;exact absurd (t7 hl) h
  | succ n b=>
   intro dn hl h
   refine aa (.symm (xq h ..))<|aa (De ..)<|aa (Cd ..) ?_
   by_cases e:dn.dropLast= []
   .exact aa (e ..) rfl
   .refine aa (b dn.dropLast (by rw [lz,hl];rfl) e) ?_
    conv=>rhs;rw [← xq e]
    conv=>lhs;rw [← xq e]
    exact aa (o8 ..)<|aa (ey ..)<|aa (Cd ..) rfl
 exact a _ dn rfl h
noncomputable def yi (r:List (List Nat)):fX:=.tuple [.str "True",.tuple (r.map λf=>.str (aR f))]
theorem Mg(H:L.St ρ σ)(y:ρ "inside" =some (.dict (dk (u0 L.tl) ([]::L.tl)))):MS.ite (.val (.ne (.var "answers") (.add (.add (.list [(.tup [(.str "True"),(.tup [(.str "/")])])]) (.aI (.comp (.of (.slice (.var "order") .none (some (.neg (.int 1))))) (.name "folder") [] (.elt (.tup [(.str "True"),(.idx (.var "inside") (.var "folder"))])) [".0","folder"] (.list [])))) (.list [(.tup [(.str "False"),(.tup [])])])))) (.ret (.bool false)) .nil ρ σ=some (.next,ρ,σ):=by
 have g:L.dn≠ []:=λq=>by have:=L.dh;rw [q] at this;exact nomatch this
 have c:L.dn.length<=19:=aE (rx L.nd λf h=>(L.dm f).mp h) L.qU
 have i:L.dn.dropLast.length<=19:=aE (by exact aa (lz ..)<|Nat.sub_le _ _) c
 have n:(ME.slice (.var "order") .none (some (.neg (.int 1)))) ρ σ=some (.list (L.dn.dropLast.map aB),σ):=
  (kc (l:=none) (u:=some (-1)) (av H.vd) rfl rfl rfl (iC H.od)).trans (by exact aa (HY ..)<|aa (.symm (Cq ..)) rfl)
 have o:ME.aI (.comp (.of (.slice (.var "order") .none (some (.neg (.int 1))))) (.name "folder") [] (.elt (.tup [(.str "True"),(.idx (.var "inside") (.var "folder"))])) [".0","folder"] (.list [])) ρ σ=some (.list (L.dn.dropLast.map λf=>g0 (eG L.tl f)),σ):=
  eV L.dn.dropLast aB _ (cU n) (λj=>fh) (by decide) (λf w ae v z=>iK (aS (d:=.str "True") rfl (aS (aJ (d:=.dict (dk (u0 L.tl) ([]::L.tl))) (av ((v _ (by decide)).trans y)) (av z) (h7 L.cG ((L.dm f).mp (List.dropLast_subset _ w)))) bA)) (dO rfl)) (cf (by lia))
 have t:(g5 L.tl L.dn).map g0=g0 [[]]::L.dn.dropLast.map λf=>g0 (eG L.tl f):=by exact aa (Mh g ..)<|aa (eK ..)<|aa (fe ..) rfl
 have r:(ME.add (.add (.list [(.tup [(.str "True"),(.tup [(.str "/")])])]) (.aI (.comp (.of (.slice (.var "order") .none (some (.neg (.int 1))))) (.name "folder") [] (.elt (.tup [(.str "True"),(.idx (.var "inside") (.var "folder"))])) [".0","folder"] (.list [])))) (.list [(.tup [(.str "False"),(.tup [])])])) ρ σ=some (.list ((g5 L.tl L.dn).map g0++ [.tup [.str "False",.tup []]]),σ):=by
  refine aa (t ..) ?_
  refine aJ (d:=.list (g0 [[]]::L.dn.dropLast.map λf=>g0 (eG L.tl f))) (e:=.list [.tup [.str "False",.tup []]]) (aJ (d:=.list [g0 [[]]]) (congrArg (λs=>some (D.list [.tup [.str "True",.tup [.str s]]],σ)) (show au "/" =aR [] by decide)) o (jh (cf ?_))) rfl (jh (cf ?_))
  .refine aa (aZ ..) ?_;show 1+_<=1000;lia
  .refine aa (gM ..)<|aa (aZ ..) ?_;show _+1<=1000;lia
 have m:hB (cX σ 5) ((g5 L.tl L.dn).map g0++ [.tup [.str "False",.tup []]])=some ((g5 L.tl L.dn).map yi++ [.tuple [.str "False",.tuple []]]):=by
  have:∀(xs:List (List (List Nat))),hB (cX σ 5) (xs.map g0++ [.tup [.str "False",.tup []]])=some (xs.map yi++ [.tuple [.str "False",.tuple []]]):=λxs=>by
   induction xs with
   | nil=>rfl
   | cons x xs A=>
    refine bs (a:=yi x) (wc (bs (a:=.str "True") rfl (bs (bs (wc (k:=3) (hG (p:=λf=>xW (aR f)) λb b=>rfl)) (bs (a:=[]) rfl rfl)) rfl))) (bs A rfl)
  exact this _
 exact s_same (av H.va) r (hH (iC H.an) m) (hH rfl m)
end
end
section
section
variable {L:LawC} {ρ ae:aC} {σ ab:MH} {f:List Nat}
theorem LawC.dz(L:LawC):L.dn.length<=19:=aE (rx L.nd λf h=>(L.dm f).mp h) L.qU
theorem LawC.uL(L:LawC):L.dn≠ []:=λq=>by have:=L.dh;rw [q] at this;exact nomatch this
noncomputable def LawC.mg (L:LawC) (fs:List (List Nat)):Pl:=eL (fs.map L.pl)
theorem LawC.sL(L:LawC){fs:List (List Nat)}(h:∀g∈fs,g∈ []::L.tl)(a:fs≠ [])(b:fs.length<=100):(L.mg fs).Ok/\(L.mg fs).ms.length<=2000:=AI L.C h a b
theorem LawC.mg_lt(L:LawC){fs:List (List Nat)}(h:∀g∈fs,g∈ []::L.tl):∀m∈(L.mg fs).ms,m<L.ls.length:=λm b=>by
 refine aw (List.mem_flatMap.mp (show m∈(fs.map L.pl).flatMap Pl.ms from b)) λp e b=>?_
 refine aw (List.mem_map.mp e) λg d c=>?_;obtain rfl:=c
 rw [L.ms g (h g d)] at b
 refine aw (jM.mp b) λl h a=>?_
 exact(List.getElem?_eq_some_iff.mp h).1
theorem qD{n:Nat}(h:n<=2000):n<=aP:=aE h (by decide)
theorem zc(H:L.St ρ σ){m:ME}{d:D}{fs:List (List Nat)}(h:∀g∈fs,g∈ []::L.tl)(b:fs≠ [])(s:fs.length<=100)(n:m ρ σ=some (d,σ))(i:d.i9=none)(c:gP σ d=some (fs.map aB)):
 (ME.a8 mm (aG [(.aI (.comp (.of m) (.name "one") [] (.elt (.idx (.var "plain") (.var "one"))) [".0","one"] (.list [])))])) ρ σ=some (b_ (L.mg fs),σ):=by
 refine d8 (aS (d:=.list ((fs.map L.pl).map b_)) ?_ bA) (Sp (λq=>b (List.map_eq_nil_iff.mp q)) (by refine aa (aZ ..) ?_;lia) (qD (L.sL h b s).2) (λp o=>by refine aw (List.mem_map.mp o) λg l a=>?_;obtain rfl:=a;exact L.C.ok g (h g l)) σ)
 exact aa (fe ..)<|eV fs aB (λf=>b_ (L.pl f)) (Qr n i c) (λj=>My c) (by decide) (λf k ae e r=>aJ (d:=.dict (dk (λf=>b_ (L.pl f)) ([]::L.tl))) (av ((e _ (by decide)).trans H.vp)) (av r) (h7 L.cG (h f k))) (cf (by lia))
theorem LawC.St.whole(H:L.St ρ σ):∃a b,Rec σ L.lc a b L.wi (L.mg L.dn)/\b<=σ.next:=by
 have:=H.W.IM
 rw [show p6 L.dn=L.dn from if_neg L.uL] at this
 exact this
theorem Th{xs a:List D}{d:D}(h:bU σ d=some a)(b:xs.length+a.length<=aP):pX (.list xs) d σ=some (.list (xs++a)):=show(bU σ d).bind (λa=>yc xs a)=_ from bs h (if_pos b)
noncomputable def z7:ME:=.list [(.a8 fT (aG [(.var "whole")])),(.a8 fT (aG [(.a8 gX (aG [(.idx (.var "own") (.str "/")),(.var "whole")]))]))]
noncomputable def z6:ME:=.aI (.comp (.of (.list [(.var "order"),(.add (.list [(.str "/")]) (.var "order"))])) (.name "row") [] (.elt (.a8 mm (aG [(.aI (.comp (.of (.var "row")) (.name "one") [] (.elt (.idx (.var "plain") (.var "one"))) [".0","one"] (.list [])))]))) [".0","row"] (.list []))
theorem HF:(au "/")=aR []:=by decide
theorem V0(H:L.St ρ σ):∃ab,MS.ite (.val (.ne z7 z6)) (.ret (.bool false)) .nil ρ σ=some (.next,ρ,ab)/\L.St ρ ab:=by
 have i:∀g∈L.dn,g∈ []::L.tl:=λg q=>(L.dm g).mp q
 have R:=L.dz
 have k:L.dn.length<=100:=by lia
 refine fc H.whole λa b w hb=>?_;refine ew w λu r m=>?_
 refine aA (L.sL i L.uL (by lia)) λS E=>?_
 refine fc (H.W.sX (f:=[]) a0) λU V h' n=>?_
 refine dG (Af h' ⟨u,r,m⟩ n hb (L.C.ok [] a0) S (by have:=L.C.ms [] a0;exact aE (K6 this E) (by decide))) λao T X F y=>?_;refine ew y λG Y v=>?_
 have c:=H.ext F
 have I:(ME.idx (.var "own") (.str "/")) ρ σ=some (.ref (L.oi []),σ):=aJ (d:=.dict (dk (bV L.oi) ([]::L.tl))) (e:=aB []) (av H.vo) (congrArg (λs=>some (D.str s,σ)) HF) (h7 L.cG a0)
 have o:L.dn= []::L.dn.tail:=by
  have:=L.dh
  induction e:L.dn with
  | nil=>rw [e] at this;exact nomatch this
  | cons x xs=>rw [e] at this;obtain rfl:=aM this;rfl
 have P:o5 (L.pl []) (L.mg L.dn)=L.mg ([]::L.dn):=by
  unfold LawC.mg
  exact aa (o ..)<|(Sq (L.pl []) (L.dn.tail.map L.pl)).symm
 have h:∀g∈ []::L.dn,g∈ []::L.tl:=λg q=>(List.mem_cons.mp q).elim (λe=>e▸a0) (i g)
 have l:([]::L.dn).length<=100:=by refine aa (gM ..) ?_;lia
 rw [P] at v
 have J:(ME.a8 fT (aG [(.var "whole")])) ρ σ=some (l5 u (L.mg L.dn),σ):=d8 (aS (av H.vw) bA) (wB m (LawC.lines H) (L.mg_lt i) (qD E))
 have K:(ME.a8 fT (aG [(.a8 gX (aG [(.idx (.var "own") (.str "/")),(.var "whole")]))])) ρ σ=some (l5 G (L.mg ([]::L.dn)),ao):=
  d8 (aS (d8 (aS I (aS (av H.vw) bA)) T) bA) (wB v (LawC.lines c) (L.mg_lt h) (qD (L.sL h (jX _ _) l).2))
 have M:z7 ρ σ=some (.list [l5 u (L.mg L.dn),l5 G (L.mg ([]::L.dn))],ao):=j9 (aS J (aS K bA)) (dO rfl)
 have O:(ME.add (.list [(.str "/")]) (.var "order")) ρ ao=some (.list (([]::L.dn).map aB),ao):=
  aJ (d:=.list [aB []]) (congrArg (λs=>some (D.list [D.str s],ao)) HF) (av H.vd) (Th (iC c.od) (cf (by refine aa (aZ ..) ?_;show 1+_<=1000;lia)))
 have N:z6 ρ ao=some (.list [b_ (L.mg L.dn),b_ (L.mg ([]::L.dn))],ao):=
  eV [(D.ref (L.A+1),L.dn),(.list (([]::L.dn).map aB),[]::L.dn)] (·.1) (λx=>b_ (L.mg x.2)) (cU (j9 (aS (av H.vd) (aS O bA)) (dO rfl))) (λj=>fh) (by decide) (λx t ae Q B=>by
   have z:=c.agree Q (by decide)
   rcases List.mem_cons.mp t with rfl| t
   .exact zc z i L.uL k (av B) rfl (uo c.od)
   .obtain rfl:=List.mem_singleton.mp t
    exact zc z h (jX _ _) l (av B) rfl rfl) (dO rfl)
 refine⟨ao,s_same M N (p:=.list [qp (L.mg L.dn),qp (L.mg ([]::L.dn))]) ?_ ?_,c⟩
 .exact hH rfl (bs (wb ((F.old _ (a9 m.u2 hb)).trans m.cu)) (bs (bs (wb v.cu) (bs (a:=[]) rfl rfl)) rfl))
 .exact hH rfl (bs s9 (bs (bs s9 (bs (a:=[]) rfl rfl)) rfl))
end
end
section
section
variable {L:LawC} {ρ ae:aC} {σ ab:MH} {f:List Nat}
theorem Ik{d:D}{p:fX}(h:d.bool?=none)(k:cX σ 6 d=some p)(q:strOf p=true):nk d σ=some (.str p.shown):=by
 unfold nk;exact aa (h ..)<|bs k (if_pos q)
theorem Vv(a b c:Bool)(σ:MH):∃s,nk (.list [.bool a,.bool b,.bool c]) σ=some (.str s):=
 ⟨_,Ik (p:=.list [.bool a,.bool b,.bool c]) rfl rfl (by induction a<;>induction b<;>induction c<;>kernel_rfl)⟩
theorem Vu(a b:Bool)(σ:MH):∃s,nk (.list [.bool a,.bool b]) σ=some (.str s):=⟨_,Ik (p:=.list [.bool a,.bool b]) rfl rfl (by induction a<;>induction b<;>kernel_rfl)⟩
theorem uM{m:ME}(H:L.St ρ σ)(a:f∈ []::L.tl)(h:m ρ σ=some (aB f,σ)):(ME.idx (.var "kept") m) ρ σ=some (.ref (L.ki f),σ):=
 aJ (d:=.ref (L.A+2)) (e:=aB f) (av H.vk) h ((sr H.W.kd rfl rfl).trans (h7 (λg b=>L.cG g ((L.dm g).mp b)) ((L.dm f).mpr a)))
theorem LawC.way(L:LawC)(a:f∈ []::L.tl):(L.mg (cP f)).Ok/\(L.mg (cP f)).ms.length<=2000:=L.sL (nE L.C a) wH (by refine aa (wG ..) ?_;have:=(gm (L.cG f a)).mZ;lia)
theorem LawC.St.kept(H:L.St ρ σ)(e:f∈ []::L.tl):∃a b u r,RecAt σ L.lc a b (L.ki f) (L.mg (cP f)) u r:=by
 refine fc (H.W.FU ((L.dm f).mpr e)) λa b d c=>?_;refine ew d λu r h=>?_
 exact⟨a,b,u,r,h⟩
theorem ze{m:ME}(H:L.St ρ σ)(c:f∈ []::L.tl)(h:m ρ σ=some (aB f,σ)):∃u,(ME.a8 fT (aG [(.idx (.var "kept") m)])) ρ σ=some (l5 u (L.mg (cP f)),σ)/\σ.cell u=some (.list ((L.mg (cP f)).ag.map .str)):=by
 refine BE (H.kept c) λa b u r R=>?_
 exact⟨u,d8 (aS (uM H c h) bA) (wB R (LawC.lines H) (L.mg_lt (nE L.C c)) (qD (L.way c).2)),R.cu⟩
noncomputable def Gu:ME:=.aI (.comp (.of (.list [(.str "Big*Figs/plum"),(.str "xpLumy"),.none_])) (.name "name") [] (.elt (.dC 59 "applies_to" pA (.idx (.var "kept") (.var "folder")) (aG [(.var "name")]))) [".0","name"] (.list []))
noncomputable def Gv:ME:=.aI (.comp (.of (.list [(.str "fig"),(.str "Plum"),(.str "*")])) (.name "agent") [] (.elt (.jH (.var "agent") (.idx (.var "due") (.int 0)))) [".0","agent"] (.list []))
noncomputable def vD:MS:=.cons (.assign (.name "due") (.a8 mm (aG [(.aI (.comp (.of (.idx (.var "ways") (.var "folder"))) (.name "one") [] (.elt (.idx (.var "plain") (.var "one"))) [".0","one"] (.list [])))]))) (.cons (.assign (.name "heard") Gu) (.ite (.or (.val (.ne (.a8 fT (aG [(.idx (.var "kept") (.var "folder"))])) (.var "due"))) (.val (.ne (.ax jR (.var "heard")) (.ax jR Gv)))) (.ret (.bool false)) .nil))
theorem Oj(H:L.St ρ σ)(q:f∈ []::L.tl)(A:ρ "folder" =some (aB f)):∃ae,vD ρ σ=some (.next,ae,σ)/\L.St ae σ:=by
 have J:=(gm (L.cG f q)).mZ
 let p:=L.mg (cP f)
 have B:=zc (m:=.idx (.var "ways") (.var "folder")) (d:=fQ f) H (nE L.C q) wH (by refine aa (wG ..) ?_;lia) (aJ (d:=.dict (dk fQ ([]::L.tl))) (e:=aB f) (av H.vy) (av A) (h7 L.cG q)) rfl rfl
 let bw:=ρ.set "due" (b_ p)
 have l:L.St bw σ:=H.set (by decide)
 have k:bw "folder" =some (aB f):=(if_neg (by decide)).trans A
 refine BE (H.kept q) λa b u r R=>?_
 have v:=(L.way q).1
 let h:aj->D:=λx=>.bool (p.ag.contains x)
 have E:Gu bw σ=some (.list [h "fig",h "Plum",h "*"],σ):=
  eV [(D.str "Big*Figs/plum",h "fig"),(D.str "xpLumy",h "Plum"),(D.none,h "*")] (·.1) (·.2) (cU rfl) (λj=>fh) (by decide) (λx t ae w y=>by
   refine jC (i:=L.ki f) (uM (l.agree w (by decide)) q (av ((w _ (by decide)).trans k))) R.ci rfl (aS (av y) bA) ?_
   rcases List.mem_cons.mp t with rfl| t
   .exact Fm R v PD
   .rcases List.mem_cons.mp t with rfl| t
    .exact Fm R v PE
    .obtain rfl:=List.mem_singleton.mp t
     exact Vr R) (dO rfl)
 let g:=bw.set "heard" (.list [h "fig",h "Plum",h "*"])
 have n:L.St g σ:=l.set (by decide)
 have F:Gv g σ=some (.list [h "fig",h "Plum",h "*"],σ):=
  eV [("fig" :aj),"Plum","*"] D.str h (cU rfl) (λj=>fh) (by decide) (λx t ae w y=>by
   have I:ae "due" =some (b_ p):=(w "due" (by decide)).trans rfl
   exact aJ (av y) (aJ (d:=b_ p) (e:=.int 0) (r:=gh p.ag) (av I) rfl rfl) (vV ((Az (p:=.str x) rfl (hG λc c=>rfl)).trans (congrArg some yj)))) (dO rfl)
 refine aw (ze (m:=.var "folder") n q (av ((if_neg (by decide)).trans k))) λM G K=>?_
 have o:g "due" =some (b_ p):=rfl
 refine aL (Vv (p.ag.contains "fig") (p.ag.contains "Plum") (p.ag.contains "*") σ) λs z=>?_
 refine⟨g,aK (bt B) (aK (bt E) (d_ (MK (cz (aJ G (av o) (vW (wb K) s9))) (cz (aJ (eD (av rfl) z) (eD F z) (vW (p:=.str s) rfl rfl)))) rfl)),n⟩
theorem Oi(H:L.St ρ σ):∃ae,MS.cD (.of (.var "folders")) (.name "folder") vD ρ σ=some (.next,ae,σ)/\L.St ae σ:=by
 refine jO ([]::L.tl) aB (mi:=.of (.var "folders")) (t:=.name "folder") (body:=vD) (ρ:=ρ) (σ:=σ) (λa ae ab=>ab=σ/\L.St ae ab) (λg ae ab=>g=.next/\ab=σ/\L.St ae ab) (cU (av H.vf)) (λa a a a a=>fh) ⟨rfl,H⟩
  (λl f r ae ab o d=>aA d λe b=>by
    subst e
    refine aw (Oj (ρ:=ae.set "folder" (aB f)) (b.set (by decide)) (o▸d0 _ a0) (if_pos rfl)) λi e c=>?_
    exact⟨_,bs rfl e,rfl,c⟩) (λae ab h=>⟨rfl,h⟩) λg ae ab n m=>?_
 refine bP m λj k b=>?_
 subst j k
 exact⟨ae,n,b⟩
end
end
section
section
variable {L:LawC} {ρ ae:aC} {σ ab:MH} {f:List Nat}
noncomputable def pe (f:List Nat):List aj:=f.map λx=>("/" :aj)++nm x
noncomputable def D0 (f:List Nat) (e:Nat):Bool:=t5 "" (pe f) && (fB (iZ "" (pe f)) && ((f.all λx=>decide ((au "/").length+(nm x).length<=aP)) && (decide ((iZ "" (pe f)).length+(au "/").length<=aP) && (decide ((iZ "" (pe f)++ "/").length+(en e).length<=aP) && (iZ "" (pe f)++ "/" ++en e==bS f e)))))
theorem NG:(b7.all λf=>r4 λe=>D0 f e)=true:=by kernel_rfl
noncomputable def gV (l:Ln):D:=.tup [.str (bS l.f l.e),.bool l.al]
noncomputable def Gy:ME:=.aI (.comp (.of (.var "lines")) (.name "line") [] (.elt (.tup [(.add (.add (.bh jd (.str "") (.aI (.comp (.of (.idx (.var "line") (.int 1))) (.name "name") [] (.elt (.add (.str "/") (.var "name"))) [".0","name"] (.list [])))) (.str "/")) (.idx (.var "line") (.int 2))),(.idx (.var "line") (.int 3))])) [".0","line"] (.list []))
theorem UO(H:L.St ρ σ):Gy ρ σ=some (.list (L.ls.map gV),σ):=
 eV L.ls cW gV (cU (av H.vl)) (λj=>fh) (by decide) (λl hl ae t a=>by
  have k:=L.ok l hl
  have h:=ta (List.all_eq_true.mp NG l.f k.f) k.e
  unfold D0 at h
  simp only [jo,decide_eq_true_eq,Cb] at h
  refine wO h λi m n o p q=>?_
  have c:ME.aI (.comp (.of (.idx (.var "line") (.int 1))) (.name "name") [] (.elt (.add (.str "/") (.var "name"))) [".0","name"] (.list [])) ae σ=some (.list ((pe l.f).map .str),σ):=by
   refine aa (show(pe l.f).map D.str=l.f.map λx=>.str (("/" :aj)++nm x) from fe) ?_
   have g:(ME.idx (.var "line") (.int 1)) ae σ=some (.list (l.f.map λx=>.str (nm x)),σ):=(rZ (av a)).trans (by unfold fD;exact aa (fe ..) rfl)
   exact eV l.f (λx=>D.str (nm x)) (λx=>.str (("/" :aj)++nm x)) (cU g) (λj=>fh) (by decide) (λx r b hb s=>aJ (d:=.str "/") rfl (av s) (sV (n x r))) (cf (by have:=(gm k.f).mZ;lia))
  refine iK (aS (d:=.str (bS l.f l.e)) ?_ (aS (aJ (e:=.int 3) (av a) rfl rfl) bA)) (dO rfl)
  exact aa (.symm (eq_of_beq q ..))<|aJ (aJ (aJ (d:=.str "") rfl c (AA rfl i m)) (e:=.str "/") rfl (sV o)) (aJ (e:=.int 2) (av a) rfl rfl) (sV p)) (cf (by have:=L.n6;lia))
noncomputable def LawC.path (L:LawC) (m:Nat):aj:=(L.ls[m]?.map λl=>bS l.f l.e).getD ""
theorem T8(H:L.St ρ σ)(B:ρ "rules" =some (.list (L.ls.map gV))):MS.ite (.val (.ne (.aI (.comp (.of (.ax (aV 59 "rulelines") (.var "whole"))) (.name "line") [] (.elt (.ax (aV cj "path") (.var "line"))) [".0","line"] (.list []))) (.aI (.comp (.of (.ax (aV 59 "rulelines") (.var "whole"))) (.name "line") [] (.elt (.idx (.idx (.var "rules") (.ax (aV cj "mark") (.var "line"))) (.int 0))) [".0","line"] (.list []))))) (.ret (.bool false)) .nil ρ σ=some (.next,ρ,σ):=by
 have k:∀g∈L.dn,g∈ []::L.tl:=λg A=>(L.dm g).mp A
 refine fc H.whole λa b v hb=>?_;refine ew v λu r R=>?_
 have C:=qD (L.sL k L.uL (by have:=L.dz;lia)).2
 have z:∀m∈(L.mg L.dn).ms,∃l,L.ls[m]?=some l/\nW σ (L.lc m) m l/\L.path m=bS l.f l.e:=λm s=>by
  have h:=gL (L.mg_lt k m s)
  exact⟨_,h,LawC.lines H m _ h,by unfold LawC.path;exact aa (h ..) rfl⟩
 have y:∀m:ME,(∀i∈(L.mg L.dn).ms,∀ae,Agree [".0","line"] ρ ae->ae "line" =some (.ref (L.lc i))->m ae σ=some (.str (L.path i),σ))->
  ME.aI (.comp (.of (.ax (aV 59 "rulelines") (.var "whole"))) (.name "line") [] (.elt m) [".0","line"] (.list [])) ρ σ=some (.list ((L.mg L.dn).ms.map λi=>.str (L.path i)),σ):=λm s=>
  eV (L.mg L.dn).ms (λi=>.ref (L.lc i)) _ (sm (cO (av H.vw) R.ci rfl) R.cr) (λj=>rQ R.cr) (by decide) s C
 refine s_same (y _ λi q ae x t=>?_) (y _ λi q ae x t=>?_) (hH rfl (hG λc c=>rfl)) (hH rfl (hG (p:=λi=>.str (L.path i)) λc c=>rfl))
 .refine bI (z i q) λl w n o=>?_
  exact aa (o ..)<|cO (av t) n rfl
 .refine bI (z i q) λl w n o=>?_
  exact aa (o ..)<|aJ (d:=gV l) (e:=.int 0) (aJ (d:=.list (L.ls.map gV)) (e:=iD i) (av ((x _ (by decide)).trans B)) (cO (av t) n rfl) (show ef (L.ls.map gV) (i:Int)=_ by exact aa (oS ..)<|aa (gg ..)<|aa (w ..) rfl)) rfl rfl
end
end
section
noncomputable def nB (x y:Int×Bool):Bool:=if x.1=y.1 then x.2 && !y.2 else decide (x.1>y.1)
theorem IA{x y:Int×Bool}(h:x.1=y.1):nB x y=(x.2 && !y.2):=if_pos h
theorem VS{x y:Int×Bool}(h:x.1≠y.1):nB x y=decide (x.1>y.1):=if_neg h
theorem Bj{x y:Int×Bool}:nB x y=true↔x.1>y.1∨(x.1=y.1/\x.2=true/\y.2=false):=by
 by_cases h:x.1=y.1
 .exact aa (IA h ..)<|aa (jo ..)<|aa (pn ..)<|⟨λk=>.inr ⟨h,k⟩,λk=>k.elim (λq=>absurd h (rj q)) (·.2)⟩
 .rw [VS h,decide_eq_true_iff]
  exact⟨.inl,λk=>k.elim id λq=>absurd q.1 h⟩
theorem VT:jz nB where
 qc a:=by refine aa (IA rfl ..) ?_;induction a.2<;>rfl
 tr h k:=by
  rw [Bj] at*
  rcases h with h| ⟨h1,h2,h3⟩<;>rcases k with k| ⟨k1,k2,k3⟩
  .exact .inl (B5 k h)
  .exact .inl (k1▸h)
  .exact .inl (h1▸k)
  .rw [h3] at k2;exact nomatch k2
 qE {a b} h k:=by
  rw [← wX,Bj] at h k
  obtain⟨i,p⟩:=a
  obtain⟨j,q⟩:=b
  obtain rfl:i=j:=Int.le_antisymm (Int.not_lt.mp λq=>h (.inl q)) (Int.not_lt.mp λq=>k (.inl q))
  induction p<;>induction q
  .rfl
  .exact absurd (.inr ⟨rfl,rfl,rfl⟩) k
  .exact absurd (.inr ⟨rfl,rfl,rfl⟩) h
  .rfl
noncomputable def lS (x:Int×Bool):D:=.tup [.int x.1,.bool x.2]
theorem NP(σ:MH)(x y:Int×Bool):i8 σ true (lS x) (lS y)=some (nB x y):=by
 obtain⟨i,b⟩:=x
 obtain⟨j,c⟩:=y
 refine(show i8 σ true (lS (i,b)) (lS (j,c))=some (o4 true [.int i,.bool b] [.int j,.bool c]) from rfl).trans (congrArg some ?_)
 show(if (i==j)=true then (if (b==c)=true then false else (b && !c)) else decide (i>j))=nB (i,b) (j,c)
 unfold nB
 by_cases h:i=j
 .refine aa (if_pos h ..)<|aa (if_pos (beq_iff_eq.mpr h) ..) ?_;induction b<;>induction c<;>rfl
 .exact aa (if_neg h ..)<|aa (if_neg λq=>h (beq_iff_eq.mp q) ..) rfl
theorem UM{H:List (Nat×Bool)}{m:Int×Bool}(a:m∈(-1,true)::H.map λx=>((x.1:Int),x.2))(i:∀x∈(-1,true)::H.map λx=>((x.1:Int),x.2),nB x m=false):tQ H m.2:=by
 have d:∀x∈H,¬((x.1:Int)>m.1∨((x.1:Int)=m.1/\x.2=true/\m.2=false)):=λx h q=>by
  have:=i ((x.1:Int),x.2) (bT _ (List.mem_map.mpr ⟨x,h,rfl⟩))
  rw [← wX,Bj] at this
  exact this q
 rcases List.mem_cons.mp a with rfl| a
 .induction H with
  | nil=>exact⟨.inl ⟨rfl,rfl⟩⟩
  | cons x H=>exact absurd (.inl (show(-1:Int)<(x.1:Int) by lia)) (d x a0)
 .refine aw (List.mem_map.mp a) λy e b=>?_;obtain rfl:=b
  refine⟨.inr ⟨y.1,λx h=>Nat.not_lt.mp λq=>d x h (.inl (Int.ofNat_lt.mpr q)),⟨y,e,rfl⟩,λq=>⟨y,e,rfl,q⟩,λc=>bI c λx h f g=>?_⟩⟩
  induction hb:y.2 with
  | true=>rfl
  | false=>exact absurd (.inr ⟨congrArg Nat.cast f,g,hb⟩) (d x h)
theorem L9{own:List String}{x b:String}{m:ME}{y y' d:D}{ρ:aC}{σ:MH}(j:x∈own)(e:b∈own)(c:x≠b)(h:∀ae,Agree own ρ ae->ae x=some y->ae b=some y'->m ae σ=some (d,σ)):
 ma own (.tup [.name x,.name b]) [] (.elt m) (.tup [y,y']) ρ σ [d]:=λae i f k=>
 have g:Agree own ρ ((ae.set x y).set b y'):=(f.set j).set e
 ⟨_,bs (a:=((ae.set x y).set b y',σ)) rfl (bs (a:=(true,σ)) rfl (wR (h _ g ((if_neg c).trans (if_pos rfl)) (if_pos rfl)) k)),g⟩
section
variable {L:LawC} {ρ ae:aC} {σ ab:MH} {f:List Nat}
noncomputable def hD (x:Nat×Bool):D:=lS ((x.1:Int),x.2)
noncomputable def z3:ME:=.aI (.comp (.of (.var "rules")) (.tup [(.name "path"),(.name "allowed")]) [(.val (.eq (.slice (.var "name") .none (some (.ax bW (.var "path")))) (.var "path")))] (.elt (.tup [(.ax bW (.var "path")),(.var "allowed")])) [".0","path","allowed"] (.list []))
theorem PW{name:aj}(m:ρ "rules" =some (.list (L.ls.map gV)))(k:ρ "name" =some (.str name)):z3 ρ σ=some (.list ((L.ls.flatMap (hits name)).map hD),σ):=by
 have e:(L.ls.flatMap λl=>if hit name (bS l.f l.e) then [hD ((bS l.f l.e).length,l.al)] else [])=(L.ls.flatMap (hits name)).map hD:=by
  refine aa (Ct ..) ?_
  refine congrArg (λg=>Ks g L.ls) (funext λl=>?_)
  unfold hits
  induction hit name (bS l.f l.e)<;>rfl
 have n:∀l:Ln,(if hit name (bS l.f l.e) then [hD ((bS l.f l.e).length,l.al)] else []).length<=1:=λl=>by split<;>exact dO rfl
 refine aa (.symm (e ..)) ?_
 refine oE L.ls gV _ (cU (av m)) (λj=>fh) (λl hl=>C8 (by decide) (by decide) (by decide) λae i d h=>?_) ?_
 .have c:(ME.ax bW (.var "path")) ae σ=some (iD (bS l.f l.e).length,σ):=eD (av d) rfl
  refine⟨cz ((aJ (Eu (av ((i _ (by decide)).trans k)) rfl (mJ c)) (av d) (ji rfl rfl)).trans ?_),iK (aS c (aS (av h) bA)) (dO rfl)⟩
  exact aa (wz ..) rfl
 .have b:∀a:List Ln,(a.flatMap λl=>if hit name (bS l.f l.e) then [hD ((bS l.f l.e).length,l.al)] else []).length<=a.length:=λa=>by
   induction a with
   | nil=>exact bb _
   | cons l a p=>refine aa (nZ ..)<|aa (bF ..)<|aa (gM ..) ?_;have:=n l;lia
  have:=b L.ls
  have o:=L.n6
  exact cf (by lia)
theorem GK{name:aj}{fs:List (List Nat)}(h:∀g∈fs,g∈ []::L.tl){x:Nat×Bool}:x∈((L.mg fs).ms.flatMap λm=>(L.ls[m]?).elim [] (hits name))↔ ∃l∈L.ls,l.f∈fs/\x∈hits name l:=by
 rw [KS]
 constructor
 .rintro ⟨m,a,b⟩
  refine aw (List.mem_flatMap.mp (show m∈(fs.map L.pl).flatMap Pl.ms from a)) λp j a=>?_
  refine aw (List.mem_map.mp j) λg i c=>?_;obtain rfl:=c
  rw [L.ms g (h g i)] at a
  refine aw (jM.mp a) λl hl d=>?_;obtain rfl:=d
  rw [hl] at b
  exact⟨l,lA hl,i,b⟩
 .rintro ⟨l,hl,e,b⟩
  refine aL (Ci hl) λm a=>?_
  exact⟨m,List.mem_flatMap.mpr ⟨L.pl l.f,List.mem_map.mpr ⟨l.f,e,rfl⟩,by exact aa (L.ms _ (h _ e) ..)<|jM.mpr ⟨l,a,rfl⟩⟩,by exact aa (a ..)<|b⟩
end
end
section
section
variable {L:LawC} {ρ ae:aC} {σ ab:MH} {f:List Nat}
noncomputable def vA:MS:=.cons (.assign (.name "right") (.idx (.ax (mE true) (.add (.list [(.tup [(.neg (.int 1)),(.bool true)])]) z3)) (.int 1))) (.ite (.val (.ne (.ax jR (.list [(.dC 59 "allowance" lp (.var "whole") (aG [(.var "name")])),(.dC 59 "allowance" lp (.idx (.var "kept") (.a8 fm (aG [(.var "name")]))) (aG [(.var "name")]))])) (.ax jR (.list [(.var "right"),(.var "right")])))) (.ret (.bool false)) .nil)
noncomputable def vE:ME:=.add (.aI (.comp (.of (.var "rules")) (.tup [(.name "path"),(.name "allowed")]) [] (.elt (.var "path")) [".0","path","allowed"] (.list []))) (.aI (.comp (.of (.var "folders")) (.name "folder") [] (.elt (.a8 iV (aG [(.var "folder"),(.str "b")]))) [".0","folder"] (.list [])))
noncomputable def LawC.sS (L:LawC):List (List Nat×Nat):=L.ls.map (λl=>(l.f,l.e))++([]::L.tl).map λf=>(f,2)
noncomputable def sP (x:List Nat×Nat):D:=.str (bS x.1 x.2)
theorem SJ(H:L.St ρ σ)(i:ρ "rules" =some (.list (L.ls.map gV))):vE ρ σ=some (.list (L.sS.map sP),σ):=by
 have o:=L.qU
 have n:=L.n6
 have a:ME.aI (.comp (.of (.var "rules")) (.tup [(.name "path"),(.name "allowed")]) [] (.elt (.var "path")) [".0","path","allowed"] (.list [])) ρ σ=some (.list (L.ls.map λl=>.str (bS l.f l.e)),σ):=by
  refine aa (show(L.ls.map λl=>D.str (bS l.f l.e))=L.ls.flatMap λl=>[D.str (bS l.f l.e)] from KR) ?_
  refine oE L.ls gV _ (cU (av i)) (λj=>fh) (λl hl=>L9 (y:=.str (bS l.f l.e)) (y':=.bool l.al) (by decide) (by decide) (by decide) λae g c m=>av c) ?_
  exact aa (.symm (KR ..))<|aa (aZ ..)<|cf (by lia)
 have b:ME.aI (.comp (.of (.var "folders")) (.name "folder") [] (.elt (.a8 iV (aG [(.var "folder"),(.str "b")]))) [".0","folder"] (.list [])) ρ σ=some (.list (([]::L.tl).map λf=>.str (bS f 2)),σ):=
  eV ([]::L.tl) aB _ (cU (av H.vf)) (λj=>fh) (by decide) (λf h ae g k=>d8 (aS (av k) (aS (d:=.str (en 2)) rfl bA)) ((z1 (L.cG f h) (by decide)).join σ)) (cf (by lia))
 refine(aJ a b (jh (cf (by refine aa (aZ ..)<|aa (aZ ..) ?_;lia)))).trans ?_
 delta LawC.sS sP
 exact aa (ey ..)<|aa (fe ..)<|aa (fe ..) rfl
theorem S6{x:List Nat×Nat}(h:x∈L.sS):x.1∈ []::L.tl/\x.2<4:=by
 rcases List.mem_append.mp h with h| h
 .refine aw (List.mem_map.mp h) λl hl a=>?_;obtain rfl:=a
  exact⟨L.lf l hl,(L.ok l hl).e⟩
 .refine aw (List.mem_map.mp h) λf c b=>?_;obtain rfl:=b
  exact⟨c,(show 2<4 by decide)⟩
theorem Hq{g f:List Nat}(h:g<+:f):g∈cP f:=by
 delta cP
 rw [xB]
 exact⟨g.length,List.mem_range.mpr (K9 h.length_le),(List.prefix_iff_eq_take.mp h).symm⟩
theorem Md{x:List Nat×Nat}(H:L.St ρ σ)(K:ρ "rules" =some (.list (L.ls.map gV)))(t:x∈L.sS)(J:ρ "name" =some (sP x)):∃ae,vA ρ σ=some (.next,ae,σ)/\L.St ae σ/\ae "rules" =some (.list (L.ls.map gV)):=by
 obtain⟨g,e⟩:=x
 refine aA (S6 t) λn G=>?_
 let name:=bS g e
 have q:∀g∈L.dn,g∈ []::L.tl:=λg n=>(L.dm g).mp n
 let w:=L.ls.flatMap (hits name)
 refine bI (yo VT lS (σ:=σ) (g:=true) (d:=.list (((-1,true)::w.map λx=>((x.1:Int),x.2)).map lS)) (jX _ _) rfl (λx c y c=>NP σ x y)) λm Q z hb=>?_
 have j:=UM Q z
 have N:(ME.add (.list [(.tup [(.neg (.int 1)),(.bool true)])]) z3) ρ σ=some (.list (((-1,true)::w.map λx=>((x.1:Int),x.2)).map lS),σ):=by
  refine(aJ (d:=.list [lS (-1,true)]) rfl (PW (name:=name) K J) (jh (cf ?_))).trans ?_
  .refine aa (aZ ..) ?_
   have A:∀v:List Ln,(v.flatMap (hits name)).length<=v.length:=λv=>by
    induction v with
    | nil=>exact bb _
    | cons l v U=>
     have:(hits name l).length<=1:=by delta hits;induction hit name (bS l.f l.e)<;>exact dO rfl
     refine aa (nZ ..)<|aa (bF ..)<|aa (gM ..) ?_;lia
   have:=A L.ls
   have:=L.n6
   show 1+_<=1000
   lia
  .exact aa (eK ..)<|aa (fe ..) rfl
 let bw:=ρ.set "right" (.bool m.2)
 have h:L.St bw σ:=H.set (by decide)
 have i:bw "name" =some (.str name):=(if_neg (by decide)).trans J
 have o:∀x,x∈w↔ ∃l∈L.ls,x∈hits name l:=λx=>KS
 refine fc h.whole λa b B c=>?_;refine ew B λu r R=>?_
 have F:=Dd (name:=name) R (LawC.lines h) (L.mg_lt q)
 rw [Dz (EX _) j λx=>(GK q).trans ((exists_congr λl=>and_congr_right λhl=>and_iff_right ((L.dm _).mpr (L.lf l hl))).trans (o x).symm)] at F
 refine BE (h.kept n) λS T W V D=>?_
 have E:=Dd (name:=name) D (LawC.lines h) (L.mg_lt (nE L.C n))
 rw [Dz (EX _) j λx=>(GK (nE L.C n)).trans ((exists_congr λl=>and_congr_right λhl=>and_iff_right_of_imp λt=>?_).trans (o x).symm)] at E
 .have O:(ME.dC 59 "allowance" lp (.var "whole") (aG [(.var "name")])) bw σ=some (.bool m.2,σ):=jC (av h.vw) R.ci rfl (aS (av i) bA) F
  have P:(ME.dC 59 "allowance" lp (.idx (.var "kept") (.a8 fm (aG [(.var "name")]))) (aG [(.var "name")])) bw σ=some (.bool m.2,σ):=
   jC (uM h n (d8 (aS (av i) bA) ((z1 (L.cG g n) G).dir σ))) D.ci rfl (aS (av i) bA) E
  have k:bw "right" =some (.bool m.2):=rfl
  refine aL (Vu m.2 m.2 σ) λs M=>?_
  exact⟨bw,aK (bt (aJ (e:=.int 1) (eD N hb) rfl rfl)) (d_ (cz (aJ (eD (j9 (aS O (aS P bA)) (dO rfl)) M) (eD (j9 (aS (av k) (aS (av k) bA)) (dO rfl)) M) (vW (p:=.str s) rfl rfl))) rfl),h,(if_neg (by decide)).trans K⟩
 .unfold hits at t
  induction I:hit name (bS l.f l.e) with
  | false=>rw [I] at t;exact absurd t bQ
  | true=>exact Hq (PU (L.cG g n) G (L.cG _ (L.lf l hl)) (L.ok l hl).e I)
theorem Mb(H:L.St ρ σ)(j:ρ "rules" =some (.list (L.ls.map gV))):∃ae,MS.cD (.of vE) (.name "name") vA ρ σ=some (.next,ae,σ)/\L.St ae σ:=by
 refine jO L.sS sP (mi:=.of vE) (t:=.name "name") (body:=vA) (ρ:=ρ) (σ:=σ) (λa ae ab=>ab=σ/\L.St ae ab/\ae "rules" =some (.list (L.ls.map gV))) (λi ae ab=>i=.next/\ab=σ/\L.St ae ab) (cU (SJ H j)) (λa a a a a=>fh) ⟨rfl,H,j⟩
  (λl x r ae ab q g=>bP g λe c f=>by
    subst e
    refine bI (Md (ρ:=ae.set "name" (sP x)) (c.set (by decide)) ((if_neg (by decide)).trans f) (q▸d0 _ a0) (if_pos rfl)) λk e d b=>?_
    exact⟨_,bs rfl e,rfl,d,b⟩) (λae ab h=>⟨rfl,h.1,h.2.1⟩) λi ae ab p o=>?_
 refine bP o λm n c=>?_
 subst m n
 exact⟨ae,p,c⟩
end
end
section
theorem kP:∀x P:List Nat,∃Q,Q<+:x/\Q<+:P/\(Q=x∨Q=P∨∃a b s t,a≠b/\x=Q++a::s/\P=Q++b::t)
 | [],P=>⟨[],rF,rF,.inl rfl⟩
 | _::_,[]=>⟨[],rF,rF,.inr (.inl rfl)⟩
 | a::s,b::t=>by
  by_cases h:a=b
  .subst h
   refine bI (kP s t) λQ g i j=>?_
   refine⟨a::Q,(KW a).mpr g,(KW a).mpr i,j.imp (congrArg _) (Or.imp (congrArg _) λ⟨c,d,u,v,k,e,f⟩=>⟨c,d,u,v,k,congrArg _ e,congrArg _ f⟩)⟩
  .exact⟨[],rF,rF,.inr (.inr ⟨a,b,s,t,h,rfl,rfl⟩)⟩
theorem E0:∀fs:List (List Nat),fs≠ []->∃P,lu P fs
 | [],h=>absurd rfl h
 | [x],_=>⟨x,λy m=>(List.mem_singleton.mp m)▸List.prefix_rfl,.inl a0⟩
 | x::y::fs,_=>by
  refine aL (E0 (y::fs) (jX _ _)) λP F=>?_
  refine bI (kP x P) λQ g i j=>?_
  refine⟨Q,λz d=>(List.mem_cons.mp d).elim (λe=>e▸g) λd=>i.trans (F.pre z d),?_⟩
  rcases j with rfl| rfl| ⟨a,b,s,t,k,c,rfl⟩
  .exact .inl a0
  .exact F.fin.imp (bT _) λ⟨a,b,s,t,k,c,f⟩=>⟨a,b,s,t,k,bT _ c,bT _ f⟩
  .refine aL (F.pre y a0) λr l=>?_
   refine .inr ⟨a,b,s,t++r,k,c▸a0,bT _ ?_⟩
   exact aa (.symm (rA ..))<|aa (.symm (iW ..))<|aa (l ..)<|List.mem_cons_self
theorem S4:((dv 3).all λa=>(dv 3).all λb=>a==b|| !(nm a==nm b))=true:=by kernel_rfl
theorem RM:(b7.all λf=>f.all λa=>decide (a<3))=true:=by kernel_rfl
theorem S5{a b:Nat}(c:a<3)(hb:b<3)(h:a≠b):nm a≠nm b:=λq=>by
 have:=List.all_eq_true.mp (List.all_eq_true.mp S4 a (List.mem_range.mpr c)) b (List.mem_range.mpr hb)
 rw [nK,beq_iff_eq,pn,beq_eq_false_iff_ne] at this
 exact this.elim h λk=>k q
theorem Gm{P s:List Nat}{a:Nat}(h:P++a::s∈b7):a<3:=of_decide_eq_true (List.all_eq_true.mp (List.all_eq_true.mp RM _ h) a (d0 _ a0))
theorem O5{P:List Nat}{fs:List (List Nat)}(g:dZ fs)(F:lu P fs):lu (P.map nm) (fs.map λf=>f.map nm):=by
 refine⟨λy i=>?_,F.fin.imp (λh=>List.mem_map.mpr ⟨P,h,rfl⟩) λ⟨a,b,s,t,k,d,e⟩=>⟨nm a,nm b,s.map nm,t.map nm,S5 (Gm (g _ d)) (Gm (g _ e)) k,List.mem_map.mpr ⟨_,d,ey⟩,List.mem_map.mpr ⟨_,e,ey⟩⟩⟩
 refine aw (List.mem_map.mp i) λf h c=>?_;obtain rfl:=c
 exact(F.pre f h).map nm
theorem Wt{P s:List Nat}:cP (P++s)=cP P++(dv s.length).map λk=>P++s.take (k+1):=by
 unfold cP
 refine aa (bF ..)<|aa (show P.length+s.length+1=(P.length+1)+s.length by lia)<|aa (List.range_add ..)<|aa (ey ..)<|aa (fe ..) ?_
 refine congr (congrArg _ (kD λk a=>KX (rJ (List.mem_range.mp a)))) (kD λk a=>?_)
 show(P++s).take (P.length+1+k)=_
 exact aa (show P.length+1+k=P.length+(k+1) by lia)<|aa (List.take_length_add_append ..) rfl
section
variable {L:LawC} {P:List Nat} {fs:List (List Nat)}
noncomputable def LawC.rest (L:LawC) (P s:List Nat):List Nat:=(dv s.length).flatMap λk=>dF L.ls (P++s.take (k+1))
theorem wI{f:List Nat}(a:f∈ []::L.tl):(L.mg (cP f)).ms=(cP f).flatMap (dF L.ls):=by
 show(((cP f).map L.pl).flatMap Pl.ms)=_
 exact aa (Kt ..)<|congrArg List.flatten (kD λg b=>L.ms g (nE L.C a g b))
theorem Bt{s:List Nat}(a:P++s∈ []::L.tl):(L.mg (cP (P++s))).ms=(cP P).flatMap (dF L.ls)++L.rest P s:=by
 rw [wI a,Wt,t8,Kt];rfl
theorem Sn{s:List Nat}{m:Nat}(h:m∈L.rest P s):∃k,∃l,L.ls[m]?=some l/\l.f=P++s.take (k+1):=by
 refine aw (List.mem_flatMap.mp h) λk a h=>?_
 refine aw (jM.mp h) λl b c=>?_
 exact⟨k,l,b,c⟩
theorem O4(g:∀f∈fs,∃l∈L.ls,l.f=f)(z:P∈ []::L.tl)(F:lu P fs):lu (L.mg (cP P)).ms (fs.map λf=>(L.mg (cP f)).ms):=by
 have d:∀f∈fs,f∈ []::L.tl:=λf Q=>by refine aw (g f Q) λl hl e=>?_;exact e▸L.lf l hl
 refine⟨λy T=>?_,F.fin.imp (λh=>List.mem_map.mpr ⟨P,h,rfl⟩) λ⟨a,b,s,t,k,w,x⟩=>?_⟩
 .refine aw (List.mem_map.mp T) λf h C=>?_;obtain rfl:=C
  refine aL (F.pre f h) λs D=>?_;obtain rfl:=D
  exact aa (wI z ..)<|aa (Bt (d _ h) ..)<|List.prefix_append _ _
 .have j:∀(c:Nat) (u:List Nat),P++c::u∈fs->∃m R,L.rest P (c::u)=m::R/\∃l,L.ls[m]?=some l/\∃v,l.f=P++c::v:=λc u h=>by
   refine aw (g _ h) λl hl e=>?_
   refine aL (Ci hl) λi S=>?_
   have G:i∈L.rest P (c::u):=List.mem_flatMap.mpr ⟨u.length,List.mem_range.mpr (cw _),by exact aa (show(c::u).take (u.length+1)=c::u from Cy (l:=c::u))<|jM.mpr ⟨l,S,e⟩⟩
   induction H:L.rest P (c::u) with
   | nil=>rw [H] at G;exact absurd G bQ
   | cons m R=>
    refine fc (Sn (H▸a0:m∈L.rest P (c::u))) λk I N O=>?_
    exact⟨m,R,rfl,I,N,u.take k,O⟩
  refine fc (j a s w) λm R V n=>?_;refine aw n λl J o=>?_;refine aL o λv K=>?_
  refine fc (j b t x) λU M E p=>?_;refine aw p λI A r=>?_;refine aL r λW B=>?_
  refine⟨m,U,R,M,λq=>?_,List.mem_map.mpr ⟨_,w,?_⟩,List.mem_map.mpr ⟨_,x,?_⟩⟩
  .rw [q,A] at J
   obtain rfl:=aM J
   rw [B] at K
   exact k (rz (List.append_cancel_left K)).1.symm
  .exact aa (Bt (d _ w) ..)<|aa (wI z ..)<|aa (V ..) rfl
  .exact aa (Bt (d _ x) ..)<|aa (wI z ..)<|aa (E ..) rfl
end
end
section
section
variable {L:LawC} {ρ ae:aC} {σ ab:MH} {f:List Nat}
noncomputable def vF:ME:=.add (.list [(.tup [(.int 0),(.ax bW (.var "lines"))])]) (.aI (.comp (.gT (.sub (.ax bW (.var "lines")) (.int 1))) (.name "place") [] (.elt (.tup [(.var "place"),(.add (.var "place") (.int 2))])) [".0","place"] (.list [])))
noncomputable def vC:MS:=.cons (.assign (.name "ends") (.aI (.comp (.of (.slice (.var "lines") (some (.var "first")) (some (.var "behind")))) (.name "line") [] (.elt (.add (.str "/") (.bh jd (.str "/") (.idx (.var "line") (.int 1))))) [".0","line"] (.list [])))) (.ite (.val (.ne (.a8 pz (aG [(.aI (.comp (.of (.var "ends")) (.name "end") [] (.elt (.idx (.a8 fT (aG [(.idx (.var "kept") (.var "end"))])) (.int 1))) [".0","end"] (.list [])))])) (.idx (.a8 fT (aG [(.idx (.var "kept") (.a8 px (aG [(.var "ends")])))])) (.int 1)))) (.ret (.bool false)) .nil)
noncomputable def AJ:List (Nat×Nat):=(0,6)::(dv 5).map λk=>(k,k+2)
noncomputable def v9 (x:Nat×Nat):D:=.tup [iD x.1,iD x.2]
theorem T4(H:L.St ρ σ):vF ρ σ=some (.list (AJ.map v9),σ):=by
 have a:(ME.ax bW (.var "lines")) ρ σ=some (iD 6,σ):=len_list (av H.vl) ((aZ _).trans L.n6)
 have c:ME.aI (.comp (.gT (.sub (.ax bW (.var "lines")) (.int 1))) (.name "place") [] (.elt (.tup [(.var "place"),(.add (.var "place") (.int 2))])) [".0","place"] (.list [])) ρ σ=some (.list ((dv 5).map λk=>v9 (k,k+2)),σ):=
  eV (dv 5) iD _ (at_:=ie (gU 0 1 5)) (ao:=σ) (sk (aJ (r:=.int (5:Nat)) a (e:=.int 1) rfl rfl) (by decide)) (λj=>by exact aa (we ..) rfl) (by decide) (λk g ae f b=>iK (aS (av b) (aS (d:=iD (k+2)) (aJ (e:=.int 2) (av b) rfl rfl) bA)) (dO rfl)) (by decide)
 exact aJ (d:=.list [v9 (0,6)]) (j9 (aS (iK (aS (d:=iD 0) rfl (aS a bA)) (dO rfl)) bA) (dO rfl)) c (jh (dO rfl))
theorem Vf{xs:List D}{a b:Nat}(h:b<=xs.length)(c:a<=b):jQ xs (some (a:Int)) (some (b:Int))=(xs.drop a).take (b - a):=by
 show(xs.drop (iI xs.length a)).take (iI xs.length b - iI xs.length a)=_
 exact aa (uD h ..)<|aa (uD (aE c h) ..) rfl
theorem N_{a b:Nat}(H:L.St ρ σ)(s:a<b)(hb:b<=6)(O:ρ "first" =some (iD a))(Q:ρ "behind" =some (iD b)):∃ae,vC ρ σ=some (.next,ae,σ)/\L.St ae σ:=by
 let sub:=(L.ls.drop a).take (b - a)
 have z:=L.n6
 have k:∀l∈sub,l∈L.ls:=λl hl=>xC (Cu hl)
 have h:sub.length=b - a:=by refine aa (Cm ..)<|aa (t9 ..)<|aa (z ..) ?_;lia
 have t:sub≠ []:=λq=>by rw [q] at h;simp at h;lia
 let fs:=sub.map Ln.f
 have p:∀f∈fs,∃l∈L.ls,l.f=f:=λf n=>by refine aw (List.mem_map.mp n) λl hl y=>?_;obtain rfl:=y;exact⟨l,k l hl,rfl⟩
 have o:∀f∈fs,f∈ []::L.tl:=λf n=>by refine aw (p f n) λl hl e=>?_;exact e▸L.lf l hl
 have d:fs≠ []:=λq=>t (List.map_eq_nil_iff.mp q)
 refine aL (E0 fs d) λP F=>?_
 have r:P∈ []::L.tl:=by
  refine ew (pM d) λx xs e=>?_
  have E:x∈fs:=e▸a0
  exact nE L.C (o x E) P (Hq (F.pre x E))
 have R:sub.length<=100:=by lia
 have I:(ME.slice (.var "lines") (some (.var "first")) (some (.var "behind"))) ρ σ=some (.list (sub.map cW),σ):=by
  refine(kc (xs:=L.ls.map cW) (l:=some (a:Int)) (u:=some (b:Int)) (av H.vl) rfl (mJ (av O)) (mJ (av Q)) rfl).trans ?_
  exact aa (Vf (by rw [aZ,z];exact hb) (jy s))<|aa (.symm (xx ..))<|aa (.symm (t_ ..)) rfl
 have J:ME.aI (.comp (.of (.slice (.var "lines") (some (.var "first")) (some (.var "behind")))) (.name "line") [] (.elt (.add (.str "/") (.bh jd (.str "/") (.idx (.var "line") (.int 1))))) [".0","line"] (.list [])) ρ σ=some (.list (fs.map aB),σ):=by
  exact aa (show fs.map aB=sub.map λl=>aB l.f from fe)<|eV sub cW _ (cU I) (λj=>fh) (by decide) (λl hl ae B v=>zd (L.ok l (k l hl)).f (rZ (av v))) (cf (by lia))
 let bw:=ρ.set "ends" (.list (fs.map aB))
 have g:L.St bw σ:=H.set (by decide)
 have G:bw "ends" =some (.list (fs.map aB)):=rfl
 have w:fs.length<=100:=by exact aa (aZ ..)<|R
 have K:ME.aI (.comp (.of (.var "ends")) (.name "end") [] (.elt (.idx (.a8 fT (aG [(.idx (.var "kept") (.var "end"))])) (.int 1))) [".0","end"] (.list [])) bw σ=some (.list ((fs.map λf=>(L.mg (cP f)).ms).map cZ),σ):=by
  exact aa (fe ..)<|eV fs aB _ (cU (av G)) (λj=>fh) (by decide) (λf n ae B v=>by
   refine aw (ze (g.agree B (by decide)) (o f n) (av v)) λu e c=>?_
   exact aJ (e:=.int 1) e rfl rfl) (cf (by lia))
 have M:=d8 (F:=pz) (aS K bA) (Uh (λq=>d (List.map_eq_nil_iff.mp q)) (O4 p r F) σ)
 have A:dZ fs:=λf n=>L.cG f (o f n)
 refine aw (ze (m:=.a8 px (aG [(.var "ends")])) g r (d8 (aS (av G) bA) (T9 d A (L.cG P r) w (O5 A F) σ))) λu N c=>?_
 have D:cX σ 6 (cZ (L.mg (cP P)).ms)=some (.list ((L.mg (cP P)).ms.map λ(i:Nat)=>CP (i:Int))):=hH rfl (hG λc c=>rfl)
 exact⟨bw,aK (bt J) (s_same M (aJ (e:=.int 1) N rfl rfl) D D),g⟩
theorem N9(H:L.St ρ σ):∃ae,MS.cD (.of vF) (.tup [(.name "first"),(.name "behind")]) vC ρ σ=some (.next,ae,σ)/\L.St ae σ:=by
 have f:∀x∈AJ,x.1<x.2/\x.2<=6:=by decide
 refine jO AJ v9 (mi:=.of vF) (t:=.tup [(.name "first"),(.name "behind")]) (body:=vC) (ρ:=ρ) (σ:=σ) (λb ae ab=>ab=σ/\L.St ae ab) (λi ae ab=>i=.next/\ab=σ/\L.St ae ab) (cU (T4 H)) (λb b b b b=>fh) ⟨rfl,H⟩
  (λl x r ae ab p g=>aA g λe c=>by
    subst e
    refine aA (f x (p▸d0 _ a0)) λq s=>?_
    refine aw (N_ (ρ:=(ae.set "first" (iD x.1)).set "behind" (iD x.2)) (LawC.St.set (c.set (by decide)) (by decide)) q s ((if_neg (by decide)).trans (if_pos rfl)) (if_pos rfl)) λj e d=>?_
    exact⟨_,bs (a:=((ae.set "first" (iD x.1)).set "behind" (iD x.2),ab)) rfl e,rfl,d⟩) (λae ab h=>⟨rfl,h⟩) λi ae ab o n=>?_
 refine bP n λk m c=>?_
 subst k m
 exact⟨ae,o,c⟩
end
end
section
section
variable {L:LawC} {ρ ae:aC} {σ ab:MH} {f:List Nat}
noncomputable def z4:ME:=.aI (.comp (.of (.slice (.var "folders") (some (.int 1)) .none)) (.name "folder") [] (.inner (.of (.list [(.ax (aV 59 "useragents") (.idx (.var "kept") (.var "folder"))),(.ax (aV 59 "rulelines") (.idx (.var "kept") (.var "folder")))])) (.name "one") [] (.elt (.var "one"))) [".0","folder","one"] (.list []))
theorem T6(H:L.St ρ σ):∃is:List Nat,z4 ρ σ=some (.list (is.map .ref),σ)/\∀i∈is,L.A+3<=i/\∃xs,σ.cell i=some (.list xs):=by
 have n:=L.C.T.z
 have:∀f,∃o:Nat×Nat,f∈L.tl->RecAt σ L.lc (L.A+3) σ.next (L.ki f) (L.mg (cP f)) o.1 o.2:=λf=>by
  by_cases h:f∈L.tl
  .refine ew (H.W.k1 f ((L.dm f).mpr (bT _ h)) (L.C.T.ne f h)) λu r R=>?_
   exact⟨(u,r),λa=>R⟩
  .exact⟨(0,0),λq=>absurd q h⟩
 refine aL (Classical.skolem.mp this) λg d=>?_
 refine⟨L.tl.flatMap λf=>[(g f).1,(g f).2],?_,λi b=>?_⟩
 .have e:(L.tl.flatMap λf=>[(g f).1,(g f).2]).map D.ref=L.tl.flatMap λf=>[(g f).1,(g f).2].flatMap λi=>[D.ref i]:=by exact aa (Ct ..) rfl
  refine aa (e ..) ?_
  refine oE L.tl aB _ (cU (LawC.Bk H)) (λj=>fh) (λf c=>C6 [(g f).1,(g f).2] D.ref (λi=>[D.ref i]) (at_:=fj (.list [D.ref (g f).1,.ref (g f).2])) (by decide) (λae s t=>?_) (λj=>fh) λi b=>rP (by decide) λp hb n=>⟨rfl,av n⟩) ?_
  .have k:=uM (m:=.var "folder") (H.agree s (by decide)) (bT _ c) (av t)
   exact cU (xs:=[D.ref (g f).1,.ref (g f).2]) (j9 (aS (cO k (d f c).ci rfl) (aS (cO k (d f c).ci rfl) bA)) (dO rfl))
  .have l:∀tl:List (List Nat),(tl.flatMap λf=>[(g f).1,(g f).2].flatMap λi=>[D.ref i]).length=2*tl.length:=λtl=>by
    induction tl with
    | nil=>rfl
    | cons x xs v=>rw [nZ,bF,v,gM];show 2+_=_;lia
   exact aa (l ..)<|cf (by lia)
 .refine aw (List.mem_flatMap.mp b) λf c b=>?_
  have R:=d f c
  rcases List.mem_cons.mp b with rfl| b
  .exact⟨R.u1,_,R.cu⟩
  .obtain rfl:=List.mem_singleton.mp b
   exact⟨R.r1,_,R.cr⟩
noncomputable def Gs:MS:=.cD (.of z4) (.name "part") (.expr (.ax oA (.var "part")))
theorem NI(H:L.St ρ σ):∃ae ab,Gs ρ σ=some (.next,ae,ab)/\Agree ["part"] ρ ae/\∀j,j<L.A+3->ab.cell j=σ.cell j:=by
 refine aw (T6 H) λis e m=>?_
 refine jO is D.ref (mi:=.of z4) (t:=.name "part") (body:=.expr (.ax oA (.var "part"))) (ρ:=ρ) (σ:=σ) (λa ae ab=>(Agree ["part"] ρ ae/\∀j,j<L.A+3->ab.cell j=σ.cell j)/\∀i∈is,∃xs,ab.cell i=some (.list xs)) (λg ae ab=>g=.next/\Agree ["part"] ρ ae/\∀j,j<L.A+3->ab.cell j=σ.cell j) (cU e) (λa a a a a=>fh) ⟨⟨λa a=>rfl,λa a=>rfl⟩,λi h=>(m i h).2⟩
  (λl i r ae ab u f=>aA f λd n=>aA d λx y=>by
    have b:i∈is:=u▸d0 _ a0
    refine aL (n i b) λxs v=>?_
    have e:(ME.ax oA (.var "part")) (ae.set "part" (.ref i)) ab=some (.none,ab.put i (.list [])):=uO (av (if_pos rfl)) (bs (oz v) rfl)
    refine⟨_,bs rfl (il e),⟨x.set (by decide),λj c=>(aH (bj (a9 c (m i b).1))).trans (y j c)⟩,λj c=>?_⟩
    by_cases q:j=i
    .exact aa (q ..)<|⟨[],cb⟩
    .refine aL (n j c) λz w=>?_;exact⟨z,(aH q).trans w⟩) (λae ab h=>⟨rfl,h.1⟩) λg ae ab s p=>?_
 refine aA p λo k=>?_
 subst o
 exact⟨ae,ab,s,k⟩
noncomputable def Gx:ME:=.eq (.aI (.comp (.of (.var "folders")) (.name "folder") [] (.elt (.a8 fT (aG [(.idx (.var "own") (.var "folder"))]))) [".0","folder"] (.list []))) (.aI (.comp (.of (.var "folders")) (.name "folder") [] (.elt (.idx (.var "plain") (.var "folder"))) [".0","folder"] (.list [])))
theorem Q8(H:L.St ρ σ)(i:Agree ["part"] ρ ae)(o:∀j,j<L.A+3->ab.cell j=σ.cell j):Gx ae ab=some (.bool true,ab):=by
 have B:=L.qU
 have c:∀{j},j<L.N0->j<L.A+3:=λh=>gO 3 (a9 h H.W.n0)
 have x:rq ab L.lc L.ls:=λm l h=>(o _ (c (L.lt m (List.getElem?_eq_some_iff.mp h).1))).trans (LawC.lines H m l h)
 have:∀f,∃u,f∈ []::L.tl->∃r,RecAt ab L.lc 0 L.N0 (L.oi f) (L.pl f) u r:=λf=>by
  by_cases h:f∈ []::L.tl
  .refine ew (H.W.ow f h) λu r R=>?_
   exact⟨u,λa=>⟨r,R.keep λj a y=>o j (c y)⟩⟩
  .exact⟨0,λq=>absurd q h⟩
 refine aL (Classical.skolem.mp this) λu p=>?_
 have g:∀f∈ []::L.tl,∀m∈(L.pl f).ms,m<L.ls.length:=λf b m g=>by
  rw [L.ms f b] at g
  refine aw (jM.mp g) λl h a=>?_
  exact(List.getElem?_eq_some_iff.mp h).1
 have t:ae "folders" =_:=(i _ (by decide)).trans H.vf
 have v:ME.aI (.comp (.of (.var "folders")) (.name "folder") [] (.elt (.a8 fT (aG [(.idx (.var "own") (.var "folder"))]))) [".0","folder"] (.list [])) ae ab=some (.list (([]::L.tl).map λf=>l5 (u f) (L.pl f)),ab):=
  eV ([]::L.tl) aB _ (cU (av t)) (λj=>fh) (by decide) (λf b e k n=>by
   refine aL (p f b) λr R=>?_
   exact d8 (aS (vY ((k _ (by decide)).trans ((i _ (by decide)).trans H.vo)) n L.cG b) bA) (wB R x (g f b) (qD (aE (L.C.ms f b) (by decide))))) (cf (by lia))
 have w:ME.aI (.comp (.of (.var "folders")) (.name "folder") [] (.elt (.idx (.var "plain") (.var "folder"))) [".0","folder"] (.list [])) ae ab=some (.list (([]::L.tl).map λf=>b_ (L.pl f)),ab):=
  eV ([]::L.tl) aB _ (cU (av t)) (λj=>fh) (by decide) (λf b e k n=>aJ (d:=.dict (dk (λf=>b_ (L.pl f)) ([]::L.tl))) (av ((k _ (by decide)).trans ((i _ (by decide)).trans H.vp))) (av n) (h7 L.cG b)) (cf (by lia))
 have s:cX ab 6 (.list (([]::L.tl).map λf=>l5 (u f) (L.pl f)))=some (.list (([]::L.tl).map λf=>qp (L.pl f))):=hH rfl (hG λf b=>by refine aL (p f b) λr R=>?_;exact wb R.cu)
 have z:cX ab 6 (.list (([]::L.tl).map λf=>b_ (L.pl f)))=some (.list (([]::L.tl).map λf=>qp (L.pl f))):=hH rfl (hG λf b=>s9)
 exact aJ v w ((ji s z).trans (by exact aa (AN s ..) rfl))
end
end
theorem Rc(L:LawC){ρ:aC}{σ:MH}(H:L.St ρ σ):∃ae ab,(MS.cons (.assign (.name "inside") Gw) (.cons (.ite (.val (.ne (.aI (.comp (.of (.var "folders")) (.name "folder") [] (.elt (.a8 fm (aG [(.var "folder")]))) [".0","folder"] (.list []))) (.add (.list [(.str "/")]) (.aI (.comp (.of (.slice (.var "folders") (some (.int 1)) .none)) (.name "folder") [] (.elt (.idx (.idx (.var "ways") (.var "folder")) (.neg (.int 2)))) [".0","folder"] (.list [])))))) (.ret (.bool false)) .nil)
 (.cons (.ite (.val (.ne (.var "answers") (.add (.add (.list [(.tup [(.str "True"),(.tup [(.str "/")])])]) (.aI (.comp (.of (.slice (.var "order") .none (some (.neg (.int 1))))) (.name "folder") [] (.elt (.tup [(.str "True"),(.idx (.var "inside") (.var "folder"))])) [".0","folder"] (.list [])))) (.list [(.tup [(.str "False"),(.tup [])])])))) (.ret (.bool false)) .nil)
 (.cons (.ite (.val (.ne z7 z6)) (.ret (.bool false)) .nil) (.cons (.cD (.of (.var "folders")) (.name "folder") vD) (.cons (.assign (.name "rules") Gy)
 (.cons (.ite (.val (.ne (.aI (.comp (.of (.ax (aV 59 "rulelines") (.var "whole"))) (.name "line") [] (.elt (.ax (aV cj "path") (.var "line"))) [".0","line"] (.list []))) (.aI (.comp (.of (.ax (aV 59 "rulelines") (.var "whole"))) (.name "line") [] (.elt (.idx (.idx (.var "rules") (.ax (aV cj "mark") (.var "line"))) (.int 0))) [".0","line"] (.list []))))) (.ret (.bool false)) .nil)
 (.cons (.cD (.of vE) (.name "name") vA) (.cons (.cD (.of vF) (.tup [(.name "first"),(.name "behind")]) vC) (.cons Gs (.ret Gx))))))))))) ρ σ=some (.ret (.bool true),ae,ab):=by
 have a:L.St (ρ.set "inside" (.dict (dk (u0 L.tl) ([]::L.tl)))) σ:=H.set (by decide)
 refine aw (V0 a) λaX m h=>?_
 refine aw (Oi h) λb n c=>?_
 have d:L.St (b.set "rules" (.list (L.ls.map gV))) aX:=c.set (by decide)
 have l:(b.set "rules" (.list (L.ls.map gV))) "rules" =some (.list (L.ls.map gV)):=if_pos rfl
 refine aw (Mb d l) λj o i=>?_
 refine aw (N9 i) λk p e=>?_
 refine eQ (NI e) λf g q r s=>?_
 exact⟨f,g,aK (bt (QF H)) (aK (Og a) (aK (Mg a (if_pos rfl)) (aK m (aK n (aK (bt (UO c)) (aK (T8 d l) (aK o (aK p (aK q (fC (Q8 e r s)))))))))))⟩
theorem Ub(K:List Int)(hz:K.length<=63):∃ab,tY [.list (K.map .int)] MH.nil=some (.bool true,ab):=by
 let s:=c_ [("script",.list (K.map .int))]
 refine aw (Te hz (ρ:=s) (σ:=MH.nil) rfl) λnums P W=>?_
 refine aL (Classical.skolem.mp UD) λV I=>?_
 let r:=nums.map V
 have F:r.length=6:=(aZ _).trans P
 have o:∀l∈r,l.Ok:=λl hl=>by refine aw (List.mem_map.mp hl) λn b Q=>?_;obtain rfl:=Q;exact(I n).1
 let bw:=s.set "numbers" (.list (nums.map .int))
 have X:ME.aI (.comp (.of (.var "numbers")) (.name "number") [] (.elt (.a8 qZ (aG [(.var "number")]))) [".0","number"] (.list [])) bw MH.nil=some (.list (r.map cW),MH.nil):=by
  exact aa (show r.map cW=nums.map λn=>cW (V n) from fe)<|eV nums D.int _ (cU (av rfl)) (λj=>fh) (by decide) (λn hn ae R N=>d8 (aS (av N) bA) ((I n).2 _)) (cf (by lia))
 let t:=bw.set "lines" (.list (r.map cW))
 refine bI (O0 o (bN F)) λtl M T G=>?_
 have Y:(ME.a8 q7 (aG [(.var "lines")])) t MH.nil=some (.dict (dk fQ ([]::tl)),MH.nil):=d8 (aS (av rfl) bA) (M▸Wx o (by lia) MH.nil)
 let u:=t.set "ways" (.dict (dk fQ ([]::tl)))
 have Z:(ME.aI (.ax sD (.var "ways"))) u MH.nil=some (.list (([]::tl).map aB),MH.nil):=
  mP (c:=.list (([]::tl).map aB)) (bs (a:=(.dict (dk fQ ([]::tl)),MH.nil)) rfl (bs (a:=dk fQ ([]::tl)) rfl (congrArg (λl=>some (Cell.list l,MH.nil)) (show(dk fQ ([]::tl)).map (λp=>D.str p.1)=_ from fe)))) rfl
 let v:=u.set "folders" (.list (([]::tl).map aB))
 have E:dZ ([]::tl):=λg hg=>(List.mem_cons.mp hg).elim (λe=>e▸by decide) (T.cG g)
 have H:([]::tl).Nodup:=List.nodup_cons.mpr ⟨λh=>T.ne _ h rfl,T.nd⟩
 have J:([]::tl).length<=100:=by refine aa (gM ..) ?_;have:=T.z;lia
 have:∀f,∃p:Pl,f∈b7->p.Ok/\p.ms=dF r f/\∀σ,pD [.list (r.map cW),.str (aR f)] σ=some (b_ p,σ):=λf=>by
  by_cases h:f∈b7
  .exact(Uc o (by lia) h).imp λp k b=>k
  .exact⟨⟨[],[],none,none⟩,λq=>absurd q h⟩
 refine aL (Classical.skolem.mp this) λpl i=>?_
 have e5:ME.aI (.comp (.of (.var "folders")) (.name "folder") [] (.kv (.var "folder") (.a8 pD (aG [(.var "lines"),(.var "folder")]))) [".0","folder"] (.dict [])) v MH.nil=some (.dict (dk (λf=>b_ (pl f)) ([]::tl)),MH.nil):=
  En E H J (cU (av rfl)) (by decide) λf B ae R N=>d8 (aS (av (d:=.list (r.map cW)) ((R _ (by decide)).trans rfl)) (aS (av N) bA)) ((i f (E f B)).2.2 _)
 let w:=v.set "plain" (.dict (dk (λf=>b_ (pl f)) ([]::tl)))
 refine pj (TX (ρ:=w) (σ:=MH.nil) (pl:=pl) E H J o (by lia) (λf B=>⟨(i f (E f B)).1,(i f (E f B)).2.1⟩) rfl rfl rfl) λoi lc ao e6 O=>?_
 let x:=w.set "own" (.dict (dk (bV oi) ([]::tl)))
 have C:lG tl pl ao.next:=⟨T,λf B=>(i f (E f B)).1,λf B=>by exact aa ((i f (E f B)).2.1 ..)<|Nat.le_trans sM (by lia)⟩
 obtain⟨aX,A,dn,ki,wi,e7,w1,w2,w3,w4,w5,w6⟩:=Wr (oi:=oi) (lc:=lc) (nums:=nums) C (λq=>by rw [q] at P;exact nomatch P) (by lia) (bb _) O.rc
 have mk:∀m l,r[m]?=some l->l.f∈ []::tl/\m∈dF r l.f:=λm l h=>⟨G l (lA h),jM.mpr ⟨l,h,rfl⟩⟩
 let L:LawC:=⟨r,tl,pl,oi,lc,ao.next,A,ao,dn,ki,wi,F,o,G,C,λf B=>(i f (E f B)).2.1,w1,w2,w3,λm l h=>O.ln _ (mk m l h).1 m (mk m l h).2 l h,λm U=>O.lt _ (mk m _ (gL U)).1 m (mk m _ (gL U)).2⟩
 let y:=(((x.set "answers" (.ref A)).set "order" (.ref (A+1))).set "kept" (.ref (A+2))).set "whole" (.ref wi)
 have S:L.St y aX:=⟨rfl,rfl,rfl,rfl,rfl,rfl,rfl,rfl,rfl,w4,w5,w6⟩
 have e8:(MS.assign (.tup [(.name "answers"),(.name "order"),(.name "kept"),(.name "whole")]) (.a8 q6 (aG [(.var "folders"),(.var "own"),(.var "numbers")]))) x ao=some (.next,y,aX):=
  eo (d8 (aS (av rfl) (aS (av rfl) (aS (av rfl) bA))) e7) rfl
 refine ew (Rc L S) λae ab e9=>?_
 exact⟨ab,fx (yv:=[("script",.list (K.map .int))]) rfl (aK (bt W) (aK (bt X) (aK (bt Y) (aK (bt Z) (aK (bt e5) (aK (bt e6) (aK e8 e9)))))))⟩
theorem Q_(P:∀j:List Int,j.length<=63->∃ab,tY [.list (j.map .int)] MH.nil=some (.bool true,ab)):PySem.Challenge.rw_rt0106_01.Holds:=PA (by
 intro w p ak mg mb G Y K o R I q J N M L x hD f y args vals as P9 P1 P_ Qk P2
 have l:=km_in_of Y
 have i:=km_tabs_of Y
 refine Ground.open G ?_
 intro T B D F H
 have d:x_ [(343,339)] ak.heap:=List.forall_mem_cons.mpr ⟨⟨codeHd_of_K (c:=343) (P:=339) l (by kernel_rfl),i 339 a0⟩,λ_ h=>nomatch h⟩
 have z:dd.1.name= "law" :=by kernel_rfl
 rw [z] at f
 wrow_args P9 P1 P_ Qk P2
 refine enter_call (kn_post d (λ_ _=>rfl) ?_)
 rename_i j _ _ _ _ _ _ _ _ _ _ u _ E _ t _ m _
 cases E with
 | list hl _=>
  obtain⟨Q,n,_,O,A⟩:=u
  rw [hl] at n
  obtain rfl:=aM n
  have C:=congrArg Array.toList (Xp A).1
  subst C
  refine g6 (Ra P d l T.g T.b T.nolimit T.nodigits T.builtins T.bmain y f hl t (by omega)) λr S ⟨e,k,os,g,s⟩=>?_
  exact⟨⟨.inl ⟨_,.bool true,[],e,λ_=>rfl,.bool _,by kernel_rfl,λ_=>⟨rG,λa v=>nomatch v⟩⟩,k,os,g⟩,s⟩)
end Mine
end
theorem PySem.Challenge.cw_rt0106_01_holds : PySem.Challenge.rw_rt0106_01.Holds :=
 Mine.Q_ λa h=>Mine.Ub a h
